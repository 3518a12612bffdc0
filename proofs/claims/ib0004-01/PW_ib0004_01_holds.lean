import PyProof.Rows.All
import Wide.All
import OpenK.AllK
import Wide.FinOn
import PySem.Challenge.RW_ib0004_01
open PySem PySem.W PySem.Calls PyProof.Rows
set_option Elab.async false
set_option maxRecDepth 100000
set_option maxHeartbeats 8000000
namespace Mine

/-- what a call keeps: all but what it may change -/
def KeepsBut (mts : List Addr) (h h' : Heap) : Prop := ∀ b o, b ∉ mts → h.get? b = some o → h'.get? b = some o

/-- a call's contract -/
def Ctr (prog : Program) (K : Params → Frag) (TB : Heap → Prop) (w : World) (f : Addr) (dd uu : Nat) (vs : List Value) (mts : List (Addr × Obj)) (Pre : Heap → Prop) (Post : Heap → Value → Heap → Prop) : Prop :=
  ∀ (p : Program) (loose : List Str) (mean : ExcName → Option Value) (mg mb : Str → Option Value) (dp un : Nat) (gd : Option (List Code)) (cn : Str) (cs : Scope) (a : Addr) (ccd : Value) (cl : List (Str × Addr)) (outer : List Env) (A₀ : Around) (base h₀ : Heap) (L : Addr) (m : Str → Option Value) (s : Shared) (Q E : Value → Shared → Prop),
    Below A₀ base outer h₀ → Fr h₀ L s.heap m → (K w.params).In h₀ → News h₀ L s.heap mts → Top p loose mean mg mb h₀ → cs.kind = .function → TB base → Pre s.heap → dp + dd < recursionLimit → un + uu < cLine →
    (∀ v h' tk', KeepsBut (mts.map (·.1)) s.heap h' → Post s.heap v h' → Q v { s with heap := h', toks := tk' }) →
    wpAny (model prog w) (ktrTop dp un gd cn cs L a ccd cl outer) (call (.ref f) vs) Q E s

def CEnd (g : Heap) (L' : Addr) (s : Shared) (Post : Value → Heap → Prop) (v : Value) (s' : Shared) : Prop :=
  ∃ h' tk' m', s' = { s with heap := h', toks := tk' } ∧ Fr g L' h' m' ∧ Post v h'

section
variable {prog : Program} {K : Params → Frag} {TB : Heap → Prop} {w : World}

theorem ctr_plain {f : Addr} {dd uu : Nat} {vs : List Value} {mts : List (Addr × Obj)} {Pre : Heap → Prop} {Post : Heap → Value → Heap → Prop}
    {name qual : Str} {params : Arguments} {body : List Stmt} {scope : Scope} {dV kV doc pm cdv ct oc : Value} {an od : Option Addr} {osl : Array (Option Value)} {binds : List (Str × Value)}
    (ho : (K w.params).lookup f = some ⟨oc, od, .func (fnOf name qual params body scope dV kV doc pm an cdv ct), osl⟩) (hcd : codeIn (K w.params) cdv qual = true) (hdd : 1 ≤ dd)
    (hbind : ∀ s : Shared, (K w.params).In s.heap → BindsTo s (fnOf name qual params body scope dV kV doc pm an cdv ct) ⟨vs, []⟩ binds) (hloc : ∀ y ∈ binds, scope.names.lookup y.1 = some .local)
    (hco : scope.isCoroutine = false) (hgen : scope.isGenerator = false) (hk : scope.kind = .function) (hcell : ∀ x ∈ scope.names, x.2 ≠ .cell)
    (h : ∀ (p : Program) (loose : List Str) (mean : ExcName → Option Value) (mg mb : Str → Option Value) (dp un : Nat) (gd : Option (List Code)) (outer : List Env) (A₀ : Around) (base g : Heap) (L' : Addr) (h₁ : Heap) (tk : Nat) (s : Shared),
      Below A₀ base outer g → Fr g L' h₁ (fun y => binds.reverse.lookup y) → (K w.params).In g → News g L' h₁ mts → Top p loose mean mg mb g → TB base → Pre s.heap → KeepsBut (mts.map (·.1)) s.heap g → s.heap.objs.size ≤ L' →
      (∀ b o, s.heap.get? b = some o → h₁.get? b = some o) → dp + dd < recursionLimit + 1 → un + uu < cLine + 3 →
      wpAny (model prog w) (ktrTop dp un gd qual scope L' f cdv [] outer) (execs body (envX qual scope L' f cdv []))
        (fun fl s' => CEnd g L' s (Post s.heap) (match fl with | .ret v => v | _ => .none) s') (fun _ _ => False) { s with heap := h₁, toks := tk }) :
    Ctr prog K TB w f dd uu vs mts Pre Post := by
  intro p loose mean mg mb dp un gd cn cs a ccd cl outer A₀ base h₀ L m s Q E B F X N T hkd hTB hpre hdp hun hret
  refine wpAny_call ?_
  obtain ⟨FG, BG, st, _⟩ := groundX (R := fun _ _ => True) B F N (A := ktrTop dp un gd cn cs L a ccd cl outer) rfl rfl hkd
  refine codeAny_call_def (fd := fnX name qual params body scope [] dV kV doc pm an cdv ct) (body := body) (binds := binds) (by show dp < recursionLimit; omega) ((X.keeps F.keep) _ _ ho) rfl (T.nolimit.keeps F.keep) (codeRec_of (X.keeps F.keep) hcd) rfl (hbind s (X.keeps F.keep)) hcell hloc (fun h₁ hns hk₁ => ?_) hco hgen hk
  have key := h p loose mean mg mb (dp + 1) (un + 3) gd (envX cn cs L a ccd cl :: outer) _ base (hideAll s.heap (mts.map (·.1))) s.heap.objs.size h₁ (s.toks + binds.length) s BG
    ⟨hns, fun b o e => hk₁ b o (of_hideAll _ e), Nat.le_of_eq (hideAll_size _ _)⟩ (X.keeps st)
    (fun p hp => ⟨hk₁ _ _ (N p hp).1, Nat.ne_of_lt (Heap.lt_size (N p hp).1), hideAll_none _ (List.mem_map_of_mem hp)⟩) (T.keeps st) hTB hpre
    (fun b o hb e => hideAll_get _ e hb) (Nat.le_refl _) hk₁ (by omega) (by omega)
  refine wpAny_mono key (fun fl s' hl => ?_) (fun _ _ x => x.elim)
  obtain ⟨h', tk', m', rfl, F', hp⟩ := hl
  exact hret _ h' tk' (fun b o hb e => F'.keep b o (hideAll_get _ e hb)) hp
theorem ctr_clos {f : Addr} {dd uu : Nat} {vs : List Value} {mts : List (Addr × Obj)} {Pre : Heap → Prop} {Post : Heap → Value → Heap → Prop}
    {name qual : Str} {params : Arguments} {body : List Stmt} {scope : Scope} {cl : List (Str × Addr)} {doc pm ctv : Value} {c' : Addr} {binds : List (Str × Value)}
    (hfn : ∀ h, Pre h → h.get? f = some (fnMade name qual params body scope cl doc pm c' ctv) ∧ h.CodeRec (.ref c') qual) (hdd : 1 ≤ dd)
    (hbind : ∀ s : Shared, BindsTo s (fnX name qual params body scope cl .none .none doc pm none (.ref c') ctv) ⟨vs, []⟩ binds) (hloc : ∀ y ∈ binds, scope.names.lookup y.1 = some .local)
    (hco : scope.isCoroutine = false) (hgen : scope.isGenerator = false) (hk : scope.kind = .function) (hcell : ∀ x ∈ scope.names, x.2 ≠ .cell)
    (h : ∀ (p : Program) (loose : List Str) (mean : ExcName → Option Value) (mg mb : Str → Option Value) (dp un : Nat) (gd : Option (List Code)) (outer : List Env) (A₀ : Around) (base g : Heap) (L' : Addr) (h₁ : Heap) (tk : Nat) (s : Shared),
      Below A₀ base outer g → Fr g L' h₁ (fun y => binds.reverse.lookup y) → (K w.params).In g → News g L' h₁ mts → Top p loose mean mg mb g → TB base → Pre s.heap → KeepsBut (mts.map (·.1)) s.heap g → s.heap.objs.size ≤ L' →
      (∀ b o, s.heap.get? b = some o → h₁.get? b = some o) → dp + dd < recursionLimit + 1 → un + uu < cLine + 3 →
      wpAny (model prog w) (ktrTop dp un gd qual scope L' f (.ref c') cl outer) (execs body (envX qual scope L' f (.ref c') cl))
        (fun fl s' => CEnd g L' s (Post s.heap) (match fl with | .ret v => v | _ => .none) s') (fun _ _ => False) { s with heap := h₁, toks := tk }) :
    Ctr prog K TB w f dd uu vs mts Pre Post := by
  intro p loose mean mg mb dp un gd cn cs a ccd cl' outer A₀ base h₀ L m s Q E B F X N T hkd hTB hpre hdp hun hret
  refine wpAny_call ?_
  obtain ⟨FG, BG, st, _⟩ := groundX (R := fun _ _ => True) B F N (A := ktrTop dp un gd cn cs L a ccd cl' outer) rfl rfl hkd
  obtain ⟨ho, hcd⟩ := hfn _ hpre
  refine codeAny_call_def (fd := fnX name qual params body scope cl .none .none doc pm none (.ref c') ctv) (body := body) (binds := binds) (by show dp < recursionLimit; omega) ho rfl (T.nolimit.keeps F.keep) hcd rfl (hbind s) hcell hloc (fun h₁ hns hk₁ => ?_) hco hgen hk
  have key := h p loose mean mg mb (dp + 1) (un + 3) gd (envX cn cs L a ccd cl' :: outer) _ base (hideAll s.heap (mts.map (·.1))) s.heap.objs.size h₁ (s.toks + binds.length) s BG
    ⟨hns, fun b o e => hk₁ b o (of_hideAll _ e), Nat.le_of_eq (hideAll_size _ _)⟩ (X.keeps st)
    (fun p hp => ⟨hk₁ _ _ (N p hp).1, Nat.ne_of_lt (Heap.lt_size (N p hp).1), hideAll_none _ (List.mem_map_of_mem hp)⟩) (T.keeps st) hTB hpre
    (fun b o hb e => hideAll_get _ e hb) (Nat.le_refl _) hk₁ (by omega) (by omega)
  refine wpAny_mono key (fun fl s' hl => ?_) (fun _ _ x => x.elim)
  obtain ⟨h', tk', m', rfl, F', hp⟩ := hl
  exact hret _ h' tk' (fun b o hb e => F'.keep b o (hideAll_get _ e hb)) hp

theorem ctr_cells {f : Addr} {dd uu : Nat} {vs : List Value} {mts : List (Addr × Obj)} {Pre : Heap → Prop} {Post : Heap → Value → Heap → Prop}
    {name qual : Str} {params : Arguments} {body : List Stmt} {scope : Scope} {dV kV doc pm cdv ct oc : Value} {an od : Option Addr} {osl : Array (Option Value)} {binds : List (Str × Value)}
    (ho : (K w.params).lookup f = some ⟨oc, od, .func (fnOf name qual params body scope dV kV doc pm an cdv ct), osl⟩) (hcd : codeIn (K w.params) cdv qual = true) (hdd : 1 ≤ dd)
    (hbind : ∀ s : Shared, (K w.params).In s.heap → BindsTo s (fnOf name qual params body scope dV kV doc pm an cdv ct) ⟨vs, []⟩ binds)
    (hkind : (binds.all fun y => scope.names.lookup y.1 == some .local || scope.names.lookup y.1 == some .cell) = true)
    (hnd : ((cellsFrom 0 scope.names []).map (·.1)).Nodup)
    (hco : scope.isCoroutine = false) (hgen : scope.isGenerator = false) (hk : scope.kind = .function)
    (h : ∀ (p : Program) (loose : List Str) (mean : ExcName → Option Value) (mg mb : Str → Option Value) (dp un : Nat) (gd : Option (List Code)) (outer : List Env) (A₀ : Around) (base g : Heap) (L' : Addr) (h₁ : Heap) (tk : Nat) (s : Shared) (cells : List (Addr × Obj)),
      Below A₀ base outer g → Fr g L' h₁ (bindL (envOfC qual scope L' f cdv).kindOf binds fun _ => none) → (K w.params).In g → News g L' h₁ (cells ++ mts) →
      CellsAre (bindC (envOfC qual scope L' f cdv).kindOf binds fun _ => none) (cellsFrom (L' + 1) scope.names []) cells →
      Top p loose mean mg mb g → TB base → Pre s.heap → KeepsBut (mts.map (·.1)) s.heap g → s.heap.objs.size ≤ L' →
      (∀ b o, s.heap.get? b = some o → h₁.get? b = some o) → (∀ p ∈ mts, p.1 < L') → dp + dd < recursionLimit + 1 → un + uu < cLine + 3 →
      wpAny (model prog w) (ktrTop dp un gd qual scope L' f cdv (cellsFrom (L' + 1) scope.names []) outer) (execs body (envX qual scope L' f cdv (cellsFrom (L' + 1) scope.names [])))
        (fun fl s' => CEnd g L' s (Post s.heap) (match fl with | .ret v => v | _ => .none) s') (fun _ _ => False) { s with heap := h₁, toks := tk }) :
    Ctr prog K TB w f dd uu vs mts Pre Post := by
  intro p loose mean mg mb dp un gd cn cs a ccd cl outer A₀ base h₀ L m s Q E B F X N T hkd hTB hpre hdp hun hret
  refine wpAny_call ?_
  obtain ⟨FG, BG, st, _⟩ := groundX (R := fun _ _ => True) B F N (A := ktrTop dp un gd cn cs L a ccd cl outer) rfl rfl hkd
  have hlim : h₀.NoLimit := T.nolimit
  refine codeAny_call_function (by show dp < recursionLimit; omega) ((X.keeps F.keep) _ _ ho) rfl hco hgen rfl (codeRec_of (X.keeps F.keep) hcd) (hbind s (X.keeps F.keep) _ _ _ _ ?_)
  refine wpAny_newFunctionEnv_cells hk (kindsX hkind _) fun env' he s' x => ?_
  subst he
  refine ⟨(hlim.keeps F.keep).keeps x.toInCall.keep, codeAny_func ?_⟩
  obtain ⟨h₁, tk, rfl, _⟩ := x.done
  have hk₁ := x.toInCall.keep
  obtain ⟨cells, NC, Y⟩ := Cl.news (h₀ := s.heap) (Nat.le_refl _) fun n c hm => ⟨x.cell n c (lookup_of_mem_nodup (cellsFrom_names scope.names 0 (s.heap.objs.size + 1) [] [] rfl ▸ hnd) hm), x.above n c hm⟩
  have X' := X.keeps st
  have T' := T.keeps st
  have key := fun hN => h p loose mean mg mb (dp + 1) (un + 3) gd (envX cn cs L a ccd cl :: outer) _ base (hideAll s.heap (mts.map (·.1))) s.heap.objs.size h₁ tk s cells BG
    ⟨x.toInCall.ns, fun b o e => hk₁ b o (of_hideAll _ e), Nat.le_of_eq (hideAll_size _ _)⟩ X' hN Y T' hTB hpre
    (fun b o hb e => hideAll_get _ e hb) (Nat.le_refl _) hk₁ (fun p hp => Heap.lt_size (N p hp).1) (by omega) (by omega)
  refine wpAny_mono (key ?_) (fun fl s' hl => ?_) (fun _ _ x => x.elim)
  rotate_left
  · obtain ⟨h', tk', m', rfl, F', hp⟩ := hl
    exact hret _ h' tk' (fun b o hb e => F'.keep b o (hideAll_get _ e hb)) hp
  · intro p hp
    rcases List.mem_append.mp hp with hp | hp
    · refine ⟨(NC p hp).1, (NC p hp).2.1, ?_⟩
      cases q : (hideAll s.heap (mts.map (·.1))).get? p.1 with
      | none => rfl
      | some o => have := of_hideAll _ q; rw [(NC p hp).2.2] at this; cases this
    · exact ⟨hk₁ _ _ (N p hp).1, Nat.ne_of_lt (Heap.lt_size (N p hp).1), hideAll_none _ (List.mem_map_of_mem hp)⟩

theorem by_size {D : Type} {P : D → Prop} (size : D → Nat) (step : ∀ d, (∀ d', size d' < size d → P d') → P d) : ∀ d, P d := by
  have all : ∀ n, ∀ d, size d < n → P d := by
    intro n
    induction n with
    | zero => intro d h; exact absurd h (Nat.not_lt_zero _)
    | succ n ih => exact fun d h => step d fun d' h' => ih d' (Nat.lt_of_lt_of_le h' (Nat.le_of_lt_succ h))
  exact fun d => all _ d (Nat.lt_succ_self _)
end

section
variable {M : Model} {A : Around} {E : Value → Shared → Prop} {s : Shared} {h₀ : Heap} {L : Addr} {m : Str → Option Value} {news : List (Addr × Obj)}
theorem newTuple_M {vs : List Value} {Q : Value → Shared → Prop} (F : Fr h₀ L s.heap m) (N : News h₀ L s.heap news)
    (h : ∀ D h', Fr h₀ L h' m → News h₀ L h' ((D, { cls := .type "tuple", data := .seq vs.toArray }) :: news) → (∀ p ∈ news, p.1 < D) → L < D → Q (.ref D) { s with heap := h' }) (hsz : vs.length ≤ sizeLine := by size_fits) :
    wpAny M A (newTuple vs) Q E s := newTuple_N F N (fun h' F' N' => h _ h' F' N' (fun p hp => Heap.lt_size (N p hp).1) F.ns.lt) hsz
theorem newList_M {vs : List Value} {Q : Value → Shared → Prop} (F : Fr h₀ L s.heap m) (N : News h₀ L s.heap news)
    (h : ∀ D h', Fr h₀ L h' m → News h₀ L h' ((D, { cls := .type "list", data := .seq vs.toArray }) :: news) → (∀ p ∈ news, p.1 < D) → L < D → Q (.ref D) { s with heap := h' }) (hsz : vs.length ≤ sizeLine := by size_fits) :
    wpAny M A (newList vs) Q E s := newList_N F N (fun h' F' N' => h _ h' F' N' (fun p hp => Heap.lt_size (N p hp).1) F.ns.lt) hsz
end

theorem foldl_rep (v : Value) : ∀ k : Nat, ∀ a : Array Value, List.foldl (fun x1 x2 => x1 ++ x2) a (List.replicate k #[v]) = a ++ (List.replicate k v).toArray
  | 0, a => by simp
  | k + 1, a => by
    rw [List.replicate_succ, List.foldl_cons, foldl_rep v k, List.replicate_succ]
    apply Array.ext'
    simp
theorem ints_rep (c : Int) (t : Tok) : ∀ k, IntsAre (List.replicate k (Value.int c t)) (List.replicate k c)
  | 0 => .nil
  | k + 1 => by rw [List.replicate_succ, List.replicate_succ]; exact .cons c t (ints_rep c t k)
theorem mul1_M {prog : Program} {w : World} {A : Around} {E : Value → Shared → Prop} {s : Shared} {h₀ : Heap} {L : Addr} {m : Str → Option Value} {news : List (Addr × Obj)} {l : Addr} {c : Int} {t : Tok} {k : Nat} {x : Int} {u : Tok} {Q : Value → Shared → Prop}
    (F : Fr h₀ L s.heap m) (N : News h₀ L s.heap news) (hm : (l, listOf #[.int c t] k) ∈ news) (h0 : 0 ≤ x) (hhi : x ≤ 1048576)
    (h : ∀ D vs h', IntsAre vs (List.replicate x.toNat c) → Fr h₀ L h' m → News h₀ L h' ((D, listOf vs.toArray 0) :: news) → (∀ p ∈ news, p.1 < D) → L < D → Q (.ref D) { s with heap := h' }) :
    wpAny (model prog w) A (binaryOp .Mult (.ref l) (.int x u)) Q E s :=
  mul_list F N (N.get hm) (by omega) (by omega) (by show 1 * x.toNat ≤ 2 ^ 24; omega) fun h' F' N' => by
    have e : List.foldl (fun x1 x2 => x1 ++ x2) #[] (List.replicate (if (#[Value.int c t] : Array Value).isEmpty = true then 0 else x.toNat) #[Value.int c t]) = (List.replicate x.toNat (Value.int c t)).toArray := by
      rw [foldl_rep]
      apply Array.ext'
      simp
    rw [e] at N'
    exact h _ _ h' (ints_rep c t _) F' N' (fun p hp => Heap.lt_size (N p hp).1) F.ns.lt

theorem len_M {prog : Program} {w : World} {A : Around} {E : Value → Shared → Prop} {s : Shared} {h₀ : Heap} {L : Addr} {news : List (Addr × Obj)} {l : Addr} {vs : List Value} {ns : List Int} {k : Nat} {Q : Value → Shared → Prop}
    (N : News h₀ L s.heap news) (hm : (l, listOf vs.toArray k) ∈ news) (hi : IntsAre vs ns) (hfit : ns.length < 2 ^ 62)
    (h : Q (.int (ns.length : Nat) (s.toks + 1)) { s with toks := s.toks + 1 + 1 }) : wpAny (model prog w) A (call (.builtin "len") [.ref l]) Q E s :=
  len_ints_fit (PySem.IsL.isList (n := k) (N _ hm).1) hi hfit h

theorem fr_after {h₀ h h' : Heap} {L : Addr} {m : Str → Option Value} {mts : List (Addr × Obj)} (F : Fr h₀ L h m) (N : News h₀ L h mts) (k : KeepsBut (mts.map (·.1)) h h') : Fr h₀ L h' m := by
  obtain ⟨oL, es, ep, hL, hd, hk, hf⟩ := F.ns
  refine ⟨⟨oL, es, ep, k _ _ (fun q => ?_) hL, hd, hk, hf⟩, fun b o e => k b o (fun q => ?_) (F.keep b o e), F.above⟩
  · obtain ⟨p, hp, e⟩ := List.mem_map.mp q
    exact (N p hp).2.1 e
  · obtain ⟨p, hp, rfl⟩ := List.mem_map.mp q
    rw [(N p hp).2.2] at e; cases e
theorem news_after {h₀ h h' : Heap} {L : Addr} {mts news : List (Addr × Obj)} (N : News h₀ L h news) (k : KeepsBut (mts.map (·.1)) h h') (hn : ∀ p ∈ news, p.1 ∉ mts.map (·.1)) : News h₀ L h' news :=
  fun p hp => ⟨k _ _ (hn p hp) (N p hp).1, (N p hp).2⟩
theorem news_cons {h₀ h : Heap} {L : Addr} {p : Addr × Obj} {news : List (Addr × Obj)} (h1 : h.get? p.1 = some p.2) (h2 : p.1 ≠ L) (h3 : h₀.get? p.1 = none) (N : News h₀ L h news) : News h₀ L h (p :: news) :=
  fun q hq => (List.mem_cons.mp hq).elim (fun e => e ▸ ⟨h1, h2, h3⟩) (N q)
theorem none_of_size {h : Heap} {D : Addr} (hd : h.objs.size ≤ D) : h.get? D = none := by
  cases q : h.get? D with
  | none => rfl
  | some o => exact absurd (Heap.lt_size q) (Nat.not_lt.mpr hd)
/-- a new object that a call handed back enters the ledger -/
theorem news_new {h₀ h h' : Heap} {L D : Addr} {m : Str → Option Value} {o : Obj} {news : List (Addr × Obj)} (F : Fr h₀ L h m) (hD : h'.get? D = some o) (hs : h.objs.size ≤ D) (N : News h₀ L h' news) : News h₀ L h' ((D, o) :: news) :=
  news_cons hD (Nat.ne_of_gt (Nat.lt_of_lt_of_le F.ns.lt hs)) (none_of_size (Nat.le_trans (Nat.le_trans F.above (Nat.le_of_lt F.ns.lt)) hs)) N
theorem lt_new {h₀ h : Heap} {L D : Addr} {news : List (Addr × Obj)} (N : News h₀ L h news) (hs : h.objs.size ≤ D) : ∀ p ∈ news, p.1 < D :=
  fun p hp => Nat.lt_of_lt_of_le (Heap.lt_size (N p hp).1) hs

theorem nameX_G {M : Model} {A : Around} {E : Value → Shared → Prop} {s : Shared} {g : Heap} {L a c : Addr} {m : Str → Option Value} {cn : Str} {cs : Scope} {ccd : Value} {cl : List (Str × Addr)} {x : Str} {pos : Pos} {o : Obj} {v : Value} {Q : Value → Shared → Prop}
    (F : Fr g L s.heap m) (hc : cl.lookup x = some c) (hg : g.get? c = some o) (hd : o.data = .cell (some v)) (h : Q v s)
    (hk : cs.kind = .function := by rfl) (hx : (envX cn cs L a ccd cl).kindOf x = some .free := by rfl) (hb : (x == ("__debug__" : Str)) = false := by decide) (hn : (x == ("__classdict__" : Str)) = false := by decide) :
    wpAny M A (eval (.Name x pos) (envX cn cs L a ccd cl)) Q E s := wpAny_Name (wpAny_loadName_free hk hx hc ⟨o, F.keep _ _ hg, hd⟩ h hn) hb

theorem fnAt_G {g h : Heap} {L q : Addr} {m : Str → Option Value} {oc : Value} {od : Option Addr} {fd : FuncData} {sl : Array (Option Value)} (F : Fr g L h m) (hg : g.get? q = some ⟨oc, od, .func fd, sl⟩) : FnAt q h := ⟨_, _, _, _, F.keep _ _ hg⟩

/-- digits to a base, the lowest first -/
def dg (B : Int) : Nat → Int → List Int
  | 0, _ => []
  | k + 1, x => x % B :: dg B k (x / B)
theorem dg_length (B : Int) : ∀ k x, (dg B k x).length = k
  | 0, _ => rfl
  | k + 1, x => by show (dg B k _).length + 1 = _; rw [dg_length B k]
def wr (ns : List Int) (l : Nat) (ds : List Int) : List Int := ns.take l ++ ds ++ ns.drop (l + ds.length)

structure IDat where
  x : Int
  L : Int
  R : Int
  tx : Tok
  tL : Tok
  tR : Tok
  vs : List Value
  ns : List Int
def IDat.sz (d : IDat) : Nat := (d.R - d.L).toNat
structure IDat.Ok (n : Int) (d : IDat) : Prop where
  l0 : 0 ≤ d.L
  lr : d.L < d.R
  rl : d.R ≤ d.ns.length
  few : d.R - d.L ≤ 20
  x0 : 0 ≤ d.x
  xs : d.x < 1048576
  xl : d.x < (2 ^ n.toNat) ^ (d.R - d.L).toNat
  isI : IntsAre d.vs d.ns
  nl : d.ns.length ≤ 1048576

def Stop (P : Prop) : Prop := P
theorem Stop.mk {P : Prop} (h : Stop P) : P := h
theorem Stop.out {P : Prop} (h : P) : Stop P := h

theorem bits_le {a : Int} {k : Nat} (h0 : 0 ≤ a) (h : a < 2 ^ k) : (Builtin.Int.intBits a : Int) ≤ k := by
  unfold Builtin.Int.intBits
  by_cases ha : a = 0
  · subst ha; simp
  · have hb : (a == 0) = false := by simpa using ha
    rw [hb]
    simp only [Bool.false_eq_true, if_false]
    have h2 : a.natAbs < 2 ^ k := by
      have : ((a.natAbs : Nat) : Int) < ((2 ^ k : Nat) : Int) := by
        rw [Int.natAbs_of_nonneg h0]; simpa using h
      exact Int.ofNat_lt.mp this
    have h3 : a.natAbs.log2 < k := (Nat.log2_lt (by omega)).mpr h2
    omega
theorem and_high (x k : Nat) : x &&& (x / 2 ^ k * 2 ^ k) = x / 2 ^ k * 2 ^ k := by
  have e : x / 2 ^ k * 2 ^ k = (x >>> k) <<< k := by rw [Nat.shiftLeft_eq, Nat.shiftRight_eq_div_pow]
  rw [e]
  apply Nat.eq_of_testBit_eq
  intro i
  rw [Nat.testBit_and, Nat.testBit_shiftLeft, Nat.testBit_shiftRight]
  by_cases h : k ≤ i
  · have : k + (i - k) = i := by omega
    rw [this]
    simp [h]
  · simp [h]
theorem xor_low {x : Int} {k : Nat} (hx : 0 ≤ x) : Builtin.bitXor x (x / 2 ^ k * 2 ^ k) = x % 2 ^ k := by
  obtain ⟨n, rfl⟩ := Int.eq_ofNat_of_zero_le hx
  have e : ((n : Int) / 2 ^ k * 2 ^ k) = ((n / 2 ^ k * 2 ^ k : Nat) : Int) := by push_cast; rfl
  rw [bitXor_and, e, bitAnd_pp (by omega) (by omega)]
  simp only [Int.toNat_natCast, and_high]
  rw [← e]
  have := Int.emod_def (n : Int) (2 ^ k)
  rw [this, Int.mul_comm]
  omega
section
variable {prog : Program} {w : World} {A : Around} {E : Value → Shared → Prop} {s : Shared} {a b : Int} {t u : Tok} {Q : Value → Shared → Prop}
theorem shr_M (ha : 0 ≤ a) (hb : 0 ≤ b) (h : Q (.int (a / 2 ^ b.toNat) s.toks) { s with toks := s.toks + 1 }) : wpAny (model prog w) A (binaryOp .RShift (.int a t) (.int b u)) Q E s := by
  refine PySem.AutoIntOpsIf.rshift ?_
  rw [if_neg (by omega)]
  by_cases hc : b ≥ ((Builtin.Int.intBits a : Nat) : Int)
  · rw [if_pos hc, if_neg (by omega)]
    have e : a / 2 ^ b.toNat = 0 := by
      obtain ⟨n, rfl⟩ := Int.eq_ofNat_of_zero_le ha
      have h2 : n < 2 ^ b.toNat := by
        by_cases h0 : n = 0
        · subst h0; exact Nat.two_pow_pos _
        · have h3 : ((n : Int) == 0) = false := by simpa using h0
          unfold Builtin.Int.intBits at hc
          rw [h3] at hc
          simp only [Bool.false_eq_true, if_false, Int.natAbs_natCast] at hc
          have h4 : n.log2 < b.toNat := by omega
          exact (Nat.log2_lt h0).mp h4
      rw [show ((2 : Int) ^ b.toNat) = ((2 ^ b.toNat : Nat) : Int) by push_cast; rfl, ← Int.natCast_ediv, Nat.div_eq_of_lt h2]
      rfl
    rw [e] at h
    exact h
  · rw [if_neg hc, Int.fdiv_eq_ediv_of_nonneg _ (Int.le_of_lt (Int.pow_pos (by decide)))]
    exact h
theorem shr1_M (h : Q (.int (a / 2) s.toks) { s with toks := s.toks + 1 }) (ha : 0 ≤ a) : wpAny (model prog w) A (binaryOp .RShift (.int a t) (.int 1 u)) Q E s :=
  shr_M (b := 1) ha (by decide) h
theorem shl_M (ha : 0 ≤ a) (ha2 : a < 18446744073709551616) (hb : 0 ≤ b) (hb2 : b ≤ 1000000) (h : Q (.int (a * 2 ^ b.toNat) s.toks) { s with toks := s.toks + 1 }) : wpAny (model prog w) A (binaryOp .LShift (.int a t) (.int b u)) Q E s :=
  lshift_int_small hb hb2 (by show a.natAbs < 18446744073709551616; omega) h
theorem xor_M {k : Nat} (ha : 0 ≤ a) (h : Q (.int (a % 2 ^ k) s.toks) { s with toks := s.toks + 1 }) : wpAny (model prog w) A (binaryOp .BitXor (.int a t) (.int (a / 2 ^ k * 2 ^ k) u)) Q E s :=
  xor_int (by rw [xor_low ha]; exact h)
end
theorem Ctr.use {prog : Program} {K : Params → Frag} {TB : Heap → Prop} {w : World} {f : Addr} {dd uu : Nat} {vs : List Value} {mts : List (Addr × Obj)} {Pre : Heap → Prop} {Post : Heap → Value → Heap → Prop} (c : Ctr prog K TB w f dd uu vs mts Pre Post)
    {p : Program} {loose : List Str} {mean : ExcName → Option Value} {mg mb : Str → Option Value} {dp un : Nat} {gd : Option (List Code)} {cn : Str} {cs : Scope} {a : Addr} {ccd : Value} {cl : List (Str × Addr)} {outer : List Env} {A₀ : Around} {base h₀ : Heap} {L : Addr} {m : Str → Option Value} {s : Shared} {Q E : Value → Shared → Prop}
    (B : Below A₀ base outer h₀) (F : Fr h₀ L s.heap m) (X : (K w.params).In h₀) (N : News h₀ L s.heap mts) (T : Top p loose mean mg mb h₀) (hk : cs.kind = .function) (hTB : TB base) (hpre : Pre s.heap) (hd : dp + dd < recursionLimit) (hu : un + uu < cLine)
    (k : ∀ v h' tk', KeepsBut (mts.map (·.1)) s.heap h' → Post s.heap v h' → Fr h₀ L h' m → Q v { s with heap := h', toks := tk' }) :
    wpAny (model prog w) (ktrTop dp un gd cn cs L a ccd cl outer) (call (.ref f) vs) Q E s :=
  c _ _ _ _ _ _ _ _ _ _ _ _ _ _ _ _ _ _ _ _ _ _ B F X N T hk hTB hpre hd hu fun v h' tk' G P => k v h' tk' G P (fr_after F N G)

theorem dg_mod {B : Int} (hB : 0 < B) : ∀ (j : Nat) (x : Int), dg B j (x % B ^ j) = dg B j x
  | 0, _ => rfl
  | j + 1, x => by
    show x % B ^ (j + 1) % B :: dg B j (x % B ^ (j + 1) / B) = x % B :: dg B j (x / B)
    have e1 : x % B ^ (j + 1) % B = x % B := Int.emod_emod_of_dvd _ ⟨B ^ j, by rw [Int.pow_succ, Int.mul_comm]⟩
    have e2 : x % B ^ (j + 1) / B = x / B % B ^ j := by
      have h1 := Int.emod_def x (B ^ (j + 1))
      have h2 : x / B ^ (j + 1) = x / B / B ^ j := by
        rw [Int.ediv_ediv_of_nonneg (Int.le_of_lt hB), Int.pow_succ, Int.mul_comm]
      rw [h1, h2, Int.pow_succ, Int.emod_def (x / B)]
      have h3 : x - B ^ j * B * (x / B / B ^ j) = x + B * (-(B ^ j * (x / B / B ^ j))) := by
        rw [Int.mul_neg, Int.mul_comm (B ^ j) B, Int.mul_assoc]; omega
      rw [h3, Int.add_mul_ediv_left _ _ (by omega)]
      omega
    rw [e1, e2, dg_mod hB j]
theorem dg_split {B : Int} (hB : 0 < B) (k : Nat) : ∀ (j : Nat) (x : Int), dg B (j + k) x = dg B j x ++ dg B k (x / B ^ j)
  | 0, x => by simp [dg]
  | j + 1, x => by
    rw [show j + 1 + k = (j + k) + 1 by omega]
    show x % B :: dg B (j + k) (x / B) = x % B :: (dg B j (x / B) ++ _)
    rw [dg_split hB k j, Int.ediv_ediv_of_nonneg (Int.le_of_lt hB), ← Int.pow_succ']
theorem wr_length {ns ds : List Int} {l : Nat} (h : l + ds.length ≤ ns.length) : (wr ns l ds).length = ns.length := by
  unfold wr; simp; omega
theorem wr_wr {ns d1 d2 : List Int} {l : Nat} (h : l + d1.length + d2.length ≤ ns.length) : wr (wr ns l d1) (l + d1.length) d2 = wr ns l (d1 ++ d2) := by
  unfold wr
  have e1 : (ns.take l ++ d1 ++ ns.drop (l + d1.length)).take (l + d1.length) = ns.take l ++ d1 := by
    rw [List.take_append_of_le_length (by simp; omega), List.take_of_length_le (by simp; omega)]
  have e2 : (ns.take l ++ d1 ++ ns.drop (l + d1.length)).drop (l + d1.length + d2.length) = ns.drop (l + d1.length + d2.length) := by
    rw [List.drop_append, List.drop_eq_nil_of_le (by simp; omega), List.nil_append, List.drop_drop]
    congr 1
    simp; omega
  rw [e1, e2]
  simp [Nat.add_assoc]
theorem wr_one {ns : List Int} {l : Nat} {x : Int} (h : l < ns.length) : wr ns l [x] = ns.set l x := by
  unfold wr
  rw [List.set_eq_take_append_cons_drop, if_pos h]
  simp
theorem pow_shift {m n : Int} (hm : 0 ≤ m) (hn : 0 ≤ n) : (2 : Int) ^ (m * n).toNat = (2 ^ n.toNat) ^ m.toNat := by
  obtain ⟨a, rfl⟩ := Int.eq_ofNat_of_zero_le hm
  obtain ⟨b, rfl⟩ := Int.eq_ofNat_of_zero_le hn
  rw [← Int.natCast_mul]
  simp only [Int.toNat_natCast]
  rw [← Int.pow_mul, Nat.mul_comm]
theorem emod_le' {x m : Int} (hx : 0 ≤ x) (hm : 0 < m) : x % m ≤ x := by
  have h1 := Int.emod_add_mul_ediv x m
  have h2 : 0 ≤ m * (x / m) := Int.mul_nonneg (Int.le_of_lt hm) (Int.ediv_nonneg hx (Int.le_of_lt hm))
  omega
/-- how many digits to the base 2 ^ n -/
def ndig (a n : Int) : Nat := ((((Builtin.Int.intBits a : Nat) : Int) + n - 1) / n).toNat
theorem ndig_zero {n : Int} (hn : 0 < n) : ndig 0 n = 0 := by
  unfold ndig
  have e : Builtin.Int.intBits 0 = 0 := rfl
  rw [e, Int.ediv_eq_zero_of_lt (by omega) (by omega)]
  rfl
theorem bits_pos {a : Int} (ha : a ≠ 0) : 1 ≤ Builtin.Int.intBits a := by
  unfold Builtin.Int.intBits
  rw [if_neg (by simpa using ha)]; omega
theorem lt_bits {a : Int} (ha : 0 ≤ a) : a < 2 ^ (Builtin.Int.intBits a) := by
  unfold Builtin.Int.intBits
  by_cases h : a = 0
  · subst h; decide
  · rw [if_neg (by simpa using h)]
    obtain ⟨k, rfl⟩ := Int.eq_ofNat_of_zero_le ha
    have := @Nat.lt_log2_self k
    rw [Int.natAbs_natCast]
    exact_mod_cast this
theorem ndig_le {a n : Int} (ha : a ≠ 0) (hn : 0 < n) : 1 ≤ ndig a n ∧ (ndig a n : Int) ≤ (Builtin.Int.intBits a : Nat) ∧ ((Builtin.Int.intBits a : Nat) : Int) ≤ n * ndig a n := by
  have hb := bits_pos ha
  unfold ndig
  generalize Builtin.Int.intBits a = b at *
  have h1 : 1 ≤ ((b : Int) + n - 1) / n := by
    rw [Int.le_ediv_iff_mul_le hn]; omega
  have h2 : ((b : Int) + n - 1) / n ≤ b := by
    rw [← Int.lt_add_one_iff, Int.ediv_lt_iff_lt_mul hn]
    have : 0 ≤ ((b : Int) - 1) * (n - 1) := Int.mul_nonneg (by omega) (by omega)
    rw [Int.sub_mul, Int.mul_sub] at this
    rw [Int.add_mul]
    omega
  have h3 : (b : Int) ≤ n * (((b : Int) + n - 1) / n) := by
    have := Int.emod_add_mul_ediv ((b : Int) + n - 1) n
    have := Int.emod_lt_of_pos ((b : Int) + n - 1) hn
    omega
  refine ⟨by omega, by omega, ?_⟩
  rw [Int.toNat_of_nonneg (by omega)]
  exact h3
theorem lt_dig {a n : Int} (ha : 0 ≤ a) (h0 : a ≠ 0) (hn : 0 < n) : a < (2 ^ n.toNat) ^ (ndig a n) := by
  obtain ⟨_, _, h3⟩ := ndig_le h0 hn
  rw [← Int.pow_mul]
  refine Int.lt_of_lt_of_le (lt_bits ha) ?_
  have : Builtin.Int.intBits a ≤ n.toNat * ndig a n := by
    obtain ⟨k, rfl⟩ := Int.eq_ofNat_of_zero_le (Int.le_of_lt hn)
    exact_mod_cast h3
  exact_mod_cast Nat.pow_le_pow_right (by decide) this
theorem wr_all {ns ds : List Int} (h : ds.length = ns.length) : wr ns 0 ds = ds := by
  unfold wr
  simp [h]

/-- a code table: cold, or with the one code object -/
inductive TS
  | cold
  | warm (c : Addr) (o : Obj)
def tabs1 (P : Addr) (l k : Int) : TS → List (Addr × Obj)
  | .cold => [(P, tabObj #[])]
  | .warm c o => [(P, tabObj #[rawInt l, rawInt k, .ref c]), (c, o)]
def TsOk (P : Addr) (q : Str) : TS → Prop
  | .cold => True
  | .warm c o => P < c ∧ ∃ vs t, o.data = .fields vs ∧ vs[1]? = some (.str q t)
/-- behind a call the table is warm: as it was, or with a new code object -/
def TNext (P : Addr) (l k : Int) (q : Str) (t : TS) (h h' : Heap) : Prop :=
  ∃ c o, TsOk P q (.warm c o) ∧ (∀ p ∈ tabs1 P l k (.warm c o), h'.get? p.1 = some p.2) ∧ (t = .warm c o ∨ (t = .cold ∧ h.objs.size ≤ c))
def PDig (P : Addr) (l k : Int) (q : Str) (a n : Int) (t : TS) (h : Heap) (v : Value) (h' : Heap) : Prop :=
  (∃ D vs, v = .ref D ∧ h'.get? D = some (listOf vs.toArray 0) ∧ IntsAre vs (dg (2 ^ n.toNat) (ndig a n) a) ∧ h.objs.size ≤ D) ∧ TNext P l k q t h h'
theorem tabs_two {P : Addr} {l k : Int} {c : Addr} {o : Obj} {h : Heap} (h1 : h.get? P = some (tabObj #[rawInt l, rawInt k, .ref c])) (h2 : h.get? c = some o) : ∀ p ∈ tabs1 P l k (.warm c o), h.get? p.1 = some p.2 := by
  intro p hp
  rcases List.mem_cons.mp hp with rfl | hp
  · exact h1
  · rw [List.mem_singleton.mp hp]; exact h2

/-- the number of digits to a base, the lowest first -/
def undg (B : Int) : List Int → Int
  | [] => 0
  | d :: r => d + B * undg B r
theorem undg_append (B : Int) : ∀ a b : List Int, undg B (a ++ b) = undg B a + B ^ a.length * undg B b
  | [], b => by simp [undg]
  | d :: r, b => by
    show d + B * undg B (r ++ b) = d + B * undg B r + B ^ (r.length + 1) * undg B b
    rw [undg_append B r b, Int.mul_add, Int.pow_succ', Int.mul_assoc, Int.add_assoc]
theorem undg_bound {B : Int} (hB : 0 < B) : ∀ {a : List Int}, (∀ d ∈ a, 0 ≤ d ∧ d < B) → 0 ≤ undg B a ∧ undg B a < B ^ a.length
  | [], _ => by simp [undg]
  | d :: r, h => by
    have ih := undg_bound hB (a := r) fun x hx => h x (.tail _ hx)
    have hd := h d (.head _)
    show 0 ≤ d + B * undg B r ∧ d + B * undg B r < B ^ (r.length + 1)
    have h1 : 0 ≤ B * undg B r := Int.mul_nonneg (Int.le_of_lt hB) ih.1
    have h2 : B * (undg B r + 1) ≤ B * B ^ r.length := Int.mul_le_mul_of_nonneg_left (by omega) (Int.le_of_lt hB)
    rw [Int.mul_add, Int.mul_one] at h2
    rw [Int.pow_succ']
    omega
theorem undg_dg {B : Int} (hB : 0 < B) : ∀ (k : Nat) (x : Int), 0 ≤ x → x < B ^ k → undg B (dg B k x) = x
  | 0, x, h0, h1 => by simp at h1; show (0 : Int) = x; omega
  | k + 1, x, h0, h1 => by
    show x % B + B * undg B (dg B k (x / B)) = x
    rw [undg_dg hB k (x / B) (Int.ediv_nonneg h0 (Int.le_of_lt hB)) (Int.ediv_lt_of_lt_mul hB (by rw [← Int.pow_succ]; exact h1))]
    exact Int.emod_add_mul_ediv x B
theorem dg_bound {B : Int} (hB : 0 < B) : ∀ (k : Nat) (x : Int), ∀ d ∈ dg B k x, 0 ≤ d ∧ d < B
  | 0, _, _, h => nomatch h
  | k + 1, x, d, h => by
    rcases List.mem_cons.mp h with rfl | h
    · exact ⟨Int.emod_nonneg _ (by omega), Int.emod_lt_of_pos _ hB⟩
    · exact dg_bound hB k _ d h
structure JDat where
  L : Int
  R : Int
  tL : Tok
  tR : Tok
def JDat.sz (d : JDat) : Nat := (d.R - d.L).toNat
def seg (ns : List Int) (lo hi : Int) : List Int := (ns.drop lo.toNat).take (hi - lo).toNat
theorem seg_split {ns : List Int} {lo mid hi : Int} (h0 : 0 ≤ lo) (h1 : lo ≤ mid) (h2 : mid ≤ hi) : seg ns lo hi = seg ns lo mid ++ seg ns mid hi := by
  unfold seg
  have e1 : (hi - lo).toNat = (mid - lo).toNat + (hi - mid).toNat := by omega
  have e2 : mid.toNat = lo.toNat + (mid - lo).toNat := by omega
  rw [e1, List.take_add, List.drop_drop, e2]
theorem seg_length {ns : List Int} {lo hi : Int} (h0 : 0 ≤ lo) (h1 : lo ≤ hi) (h2 : hi ≤ ns.length) : (seg ns lo hi).length = (hi - lo).toNat := by
  unfold seg; simp; omega
theorem seg_mem {ns : List Int} {lo hi : Int} {d : Int} (h : d ∈ seg ns lo hi) : d ∈ ns := List.mem_of_mem_drop (List.mem_of_mem_take h)
theorem seg_one {ns : List Int} {lo : Int} (h0 : 0 ≤ lo) (h1 : lo < ns.length) : seg ns lo (lo + 1) = [ns.getD lo.toNat 0] := by
  unfold seg
  have e : (lo + 1 - lo).toNat = 1 := by omega
  rw [e]
  have hl : lo.toNat < ns.length := by omega
  rw [List.drop_eq_getElem_cons hl, List.getD_eq_getElem?_getD, List.getElem?_eq_getElem hl]
  rfl
theorem seg_all {ns : List Int} : seg ns 0 ns.length = ns := by
  unfold seg; simp
def PUnd (P : Addr) (l k : Int) (q : Str) (ns : List Int) (n : Int) (t : TS) (h : Heap) (v : Value) (h' : Heap) : Prop :=
  (∃ tk, v = .int (undg (2 ^ n.toNat) ns) tk) ∧ TNext P l k q t h h'

theorem not_tabs {P : Addr} {l k : Int} {q : Str} {t : TS} {h : Heap} {a : Addr} {xs : Array Value} {nk : Nat} (ht : ∀ p ∈ tabs1 P l k t, h.get? p.1 = some p.2) (ok : TsOk P q t) (hl : h.get? a = some (listOf xs nk)) : a ∉ (tabs1 P l k t).map (·.1) := by
  intro hm
  obtain ⟨p, hp, rfl⟩ := List.mem_map.mp hm
  have e := (ht p hp).symm.trans hl
  cases t with
  | cold =>
    rw [List.mem_singleton.mp hp] at e
    cases e
  | warm c o =>
    obtain ⟨_, vs, tk, hd, _⟩ := ok
    rcases List.mem_cons.mp hp with rfl | hp
    · cases e
    · rw [List.mem_singleton.mp hp] at e
      have e' : o = listOf xs nk := Option.some.inj e
      rw [e'] at hd
      cases hd
theorem undg_small {ns : List Int} {n : Int} (hn : 0 < n) (hnl : n * ns.length ≤ 60) (hds : ∀ d ∈ ns, 0 ≤ d ∧ d < (2 : Int) ^ n.toNat) {a b : Int} (h0 : 0 ≤ a) (h1 : a ≤ b) (h2 : b ≤ ns.length) :
    0 ≤ undg (2 ^ n.toNat) (seg ns a b) ∧ undg (2 ^ n.toNat) (seg ns a b) < 18446744073709551616 := by
  have hb := undg_bound (B := 2 ^ n.toNat) (Int.pow_pos (by decide)) (a := seg ns a b) fun d hd => hds d (seg_mem hd)
  refine ⟨hb.1, Int.lt_trans hb.2 ?_⟩
  rw [seg_length h0 h1 h2, ← Int.pow_mul]
  obtain ⟨k, rfl⟩ := Int.eq_ofNat_of_zero_le (Int.le_of_lt hn)
  have h3 : k * (b - a).toNat ≤ k * ns.length := Nat.mul_le_mul_left _ (by omega)
  have h4 : k * ns.length ≤ 60 := by exact_mod_cast hnl
  have h5 : (2 : Nat) ^ (k * (b - a).toNat) ≤ 2 ^ 60 := Nat.pow_le_pow_right (by decide) (by omega)
  simp only [Int.toNat_natCast]
  have h6 : ((2 : Int) ^ (k * (b - a).toNat)) = ((2 ^ (k * (b - a).toNat) : Nat) : Int) := by push_cast; rfl
  rw [h6]
  omega
section
open PySem.Spec
variable {prog : Program} {w : World} {A : Around} {E : Value → Shared → Prop} {s : Shared} {env : Env} {h₀ : Heap} {x : Str} {body : List Stmt} {Q : Flow → Shared → Prop}

/-- the end of a loop's turn -/
def TurnM (h₀ : Heap) (L : Addr) (I : Addr) (o : Obj) (Jn : (Str → Option Value) → List (Addr × Obj) → Prop) (s s' : Shared) : Prop :=
  ∃ h' tk' m' nx, s' = { s with heap := h', toks := tk' } ∧ Fr h₀ L h' m' ∧ News h₀ L h' ((I, o) :: nx) ∧ (∀ p ∈ nx, p.1 ≠ I) ∧ Jn m' nx
def TurnPostM (h₀ : Heap) (L : Addr) (I : Addr) (o : Obj) (Jn : (Str → Option Value) → List (Addr × Obj) → Prop) (s : Shared) (Q : Flow → Shared → Prop) (f : Flow) (s' : Shared) : Prop :=
  match f with
  | .ret v => Q (.ret v) s'
  | .brk => Q .next s'
  | _ => TurnM h₀ L I o Jn s s'

theorem loop_M {I : Addr} {fp : List Addr} {n : Nat} {P : Nat → Value → Prop} {St : Nat → Heap → Prop} {m₀ : Str → Option Value} {news : List (Addr × Obj)}
    (J : Nat → (Str → Option Value) → List (Addr × Obj) → Prop) (fixed : List (Addr × Obj)) (hfix : ∀ i m nx, J i m nx → ∀ p ∈ fixed, p ∈ nx)
    (W : Walks prog w A I fp [I] n P St) (hIf : I ∈ fp) (hLf : env.locals ∉ fp) (hI0 : h₀.get? I = none) (hls : ∀ b ∈ fp, b = I ∨ (∃ o, h₀.get? b = some o) ∨ ∃ o, (b, o) ∈ fixed)
    (hob : ∀ i h, St i h → ∃ o, h.get? I = some o)
    (hnI : ∀ p ∈ news, p.1 ≠ I) (hst : St 0 s.heap) (F : Fr h₀ env.locals s.heap m₀) (N : News h₀ env.locals s.heap news) (hj : J 0 m₀ news)
    (turn : ∀ i v m₁ nx h tk o, i < n → P i v → J i m₁ nx → (∀ p ∈ nx, p.1 ≠ I) → Fr h₀ env.locals h (fun y => if y = x then some v else m₁ y) → News h₀ env.locals h ((I, o) :: nx) →
      wpAny (model prog w) A (execs body env) (TurnPostM h₀ env.locals I o (J (i + 1)) { s with heap := h, toks := tk } Q) E { s with heap := h, toks := tk })
    (done : ∀ m₁ nx h tk, J n m₁ nx → Fr h₀ env.locals h m₁ → News h₀ env.locals h nx → Q .next { s with heap := h, toks := tk }) :
    LoopAtV prog w A h₀ env x body Q E (.ref I) s := by
  refine ⟨I, fp, [I], n, P, St, m₀, news, J, rfl, W, hLf, ?_, ?_, hst, F, N, hj, ?_, ?_⟩
  · intro b hb; rw [List.mem_singleton.mp hb]; exact hI0
  · intro p hp hm; exact hnI p hp (List.mem_singleton.mp hm)
  · rintro i v m₁ nx s₁ own ⟨h, tk, rfl⟩ hi hP hJ hoff hown hget hall hst' F₁ N₁
    obtain ⟨o, ho⟩ := hob _ _ hst'
    have hio : (I, o) ∈ own := hall I hIf hI0 o ho
    have hnx : ∀ p ∈ nx, p.1 ≠ I := fun p hp e => hoff p hp (by rw [e]; exact List.mem_singleton.mpr rfl)
    have N₂ : News h₀ env.locals h ((I, o) :: nx) := fun p hp => by
      rcases List.mem_cons.mp hp with rfl | hp
      · exact N₁ _ (List.mem_append_left _ hio)
      · exact N₁ _ (List.mem_append_right _ hp)
    refine wpAny_mono (turn i v m₁ nx h tk o hi hP hJ hnx F₁ N₂) (fun f s₂ p => ?_) fun _ _ e => e
    have fin : TurnM h₀ env.locals I o (J (i + 1)) { s with heap := h, toks := tk } s₂ → LoopStepU h₀ env.locals [I] own (J (i + 1)) { s with heap := h, toks := tk } .next s₂ := by
      rintro ⟨h', tk', m', nx', e, F', N', hn', hJ'⟩
      refine ⟨rfl, h', tk', m', nx', e, F', fun p hp => ?_, fun p hp hm => hn' p hp (List.mem_singleton.mp hm), hJ'⟩
      rcases List.mem_append.mp hp with hp | hp
      · have h3 := N₁ p (List.mem_append_left _ hp)
        rcases hls p.1 (hown p hp) with e1 | ⟨o0, e1⟩ | ⟨o1, e1⟩
        · have e2 : p.2 = o := by
            have h4 := h3.1
            rw [e1, ho] at h4
            exact (Option.some.inj h4).symm
          rw [show p = (I, o) from Prod.ext e1 e2]
          exact N' _ (.head _)
        · have := h3.2.2
          rw [e1] at this; cases this
        · have h4 := hfix _ _ _ hJ _ e1
          have h5 := (N₂ _ (.tail _ h4)).1
          rw [h3.1] at h5
          have e2 : p = (p.1, o1) := Prod.ext rfl (Option.some.inj h5)
          rw [e2]
          exact N' _ (.tail _ (hfix _ _ _ hJ' _ e1))
      · exact N' _ (.tail _ hp)
    cases f with
    | ret v => exact .ret p
    | brk => exact .brk p
    | next => exact .next (fin p)
    | cont => exact .cont (fin p)
  · rintro h' tk m' news' F' N' _ hJ
    exact done m' news' h' tk hJ F' N'

/-- for over a range by ones -/
theorem range_M {r : Addr} {a₀ b₀ : Int} {t₀ u₀ v₀ : Tok} {n : Nat} {m₀ : Str → Option Value} {news : List (Addr × Obj)} (J : Nat → (Str → Option Value) → List (Addr × Obj) → Prop)
    (hh : A.handled = none) (hr : IsRange s.heap r a₀ b₀ 1 t₀ u₀ v₀) (hsmall : Builtin.Range.small a₀ b₀ 1 = true) (hn : Builtin.Range.rangeSize a₀ b₀ 1 = (n : Int)) (F : Fr h₀ env.locals s.heap m₀) (N : News h₀ env.locals s.heap news) (hj : J 0 m₀ news)
    (turn : ∀ (i : Nat) t I m₁ nx h tk o, i < n → J i m₁ nx → (∀ p ∈ nx, p.1 ≠ I) → (∀ p ∈ news, p.1 < I) → Fr h₀ env.locals h (fun y => if y = x then some (.int (a₀ + i) t) else m₁ y) → News h₀ env.locals h ((I, o) :: nx) →
      wpAny (model prog w) A (execs body env) (TurnPostM h₀ env.locals I o (J (i + 1)) { s with heap := h, toks := tk } Q) E { s with heap := h, toks := tk })
    (done : ∀ m₁ nx h tk, J n m₁ nx → Fr h₀ env.locals h m₁ → News h₀ env.locals h nx → Q .next { s with heap := h, toks := tk }) :
    wpAny (model prog w) A (pyIter (.ref r)) (fun it s₂ => LoopAtV prog w A h₀ env x body Q E it s₂) E s := by
  refine wpAny_pyIter_range hr hsmall ?_
  have W : Walks prog w A s.heap.objs.size [s.heap.objs.size] [s.heap.objs.size] n (fun i v => i < n ∧ ∃ t, v = .int (a₀ + i * 1) t)
      (fun i h => IsRangeIter h s.heap.objs.size (a₀ + (i : Nat) * 1) ((n : Int) - (i : Nat)) 1) := (Walks.range hh _ a₀ 1 n).bound
  refine loop_M J [] (fun _ _ _ _ _ hp => nomatch hp) W (List.mem_singleton.mpr rfl) ?_ (next_is_new F) (fun b hb => .inl (List.mem_singleton.mp hb)) (fun i h hs => ⟨_, hs⟩) ?_ (by show IsRangeIter _ _ _ _ _; rw [hn]; simpa using Heap.get?_push_size _ rfl) (F.push _) (fun p hp => ⟨Heap.get?_push_of_some _ (N p hp).1, (N p hp).2⟩) hj ?_ ?_
  · intro hm
    exact absurd F.ns.lt ((List.mem_singleton.mp hm) ▸ Nat.lt_irrefl _)
  · intro p hp e
    exact absurd (Heap.lt_size (N p hp).1) (by rw [e]; exact Nat.lt_irrefl _)
  · rintro i v m₁ nx h tk o hi ⟨_, t, rfl⟩ hJ hnx F₁ N₁
    rw [Int.mul_one] at F₁
    exact turn i t _ m₁ nx h tk o hi hJ hnx (fun p hp => Heap.lt_size (N p hp).1) F₁ N₁
  · exact done

/-- for over a list of the ledger that no turn changes -/
theorem list_M {l : Addr} {vs : List Value} {k : Nat} {m₀ : Str → Option Value} {news : List (Addr × Obj)} (J : Nat → (Str → Option Value) → List (Addr × Obj) → Prop)
    (hh : A.handled = none) (hl : (l, listOf vs.toArray k) ∈ news) (hfix : ∀ i m nx, J i m nx → (l, listOf vs.toArray k) ∈ nx) (F : Fr h₀ env.locals s.heap m₀) (N : News h₀ env.locals s.heap news) (hj : J 0 m₀ news)
    (turn : ∀ (i : Nat) v I m₁ nx h tk o, vs[i]? = some v → J i m₁ nx → (∀ p ∈ nx, p.1 ≠ I) → (∀ p ∈ news, p.1 < I) → Fr h₀ env.locals h (fun y => if y = x then some v else m₁ y) → News h₀ env.locals h ((I, o) :: nx) →
      wpAny (model prog w) A (execs body env) (TurnPostM h₀ env.locals I o (J (i + 1)) { s with heap := h, toks := tk } Q) E { s with heap := h, toks := tk })
    (done : ∀ m₁ nx h tk, J vs.length m₁ nx → Fr h₀ env.locals h m₁ → News h₀ env.locals h nx → Q .next { s with heap := h, toks := tk }) :
    wpAny (model prog w) A (pyIter (.ref l)) (fun it s₂ => LoopAtV prog w A h₀ env x body Q E it s₂) E s := by
  have hol : s.heap.get? l = some (listOf vs.toArray k) := (N _ hl).1
  have hls : s.heap.IsList l vs.toArray := ⟨_, hol, rfl, k, rfl⟩
  have hne : l ≠ s.heap.objs.size := Nat.ne_of_lt (Heap.lt_size hol)
  refine wpAny_pyIter_list hls ?_
  have W := Walks.list (prog := prog) (w := w) hh s.heap.objs.size l hne vs.toArray
  have hlen : vs.toArray.size = vs.length := by simp
  rw [hlen] at W
  refine loop_M J [(l, listOf vs.toArray k)] (fun i m nx hJ p hp => by rw [List.mem_singleton.mp hp]; exact hfix i m nx hJ) W (.head _) ?_ (next_is_new F) ?_ ?_ ?_ ⟨⟨_, Heap.get?_push_size _ rfl, rfl, rfl⟩, hls.at fun o e => Heap.get?_push_of_some _ e⟩ (F.push _) (fun p hp => ⟨Heap.get?_push_of_some _ (N p hp).1, (N p hp).2⟩) hj ?_ ?_
  · intro hm
    rcases List.mem_cons.mp hm with e | hm
    · exact absurd F.ns.lt (e ▸ Nat.lt_irrefl _)
    · exact (N _ hl).2.1 ((List.mem_singleton.mp hm).symm)
  · intro b hb
    rcases List.mem_cons.mp hb with e | hb
    · exact .inl e
    · exact .inr (.inr ⟨_, by rw [List.mem_singleton.mp hb]; exact List.mem_singleton.mpr rfl⟩)
  · rintro i h ⟨⟨o, ho, _⟩, _⟩
    exact ⟨o, ho⟩
  · intro p hp e
    exact absurd (Heap.lt_size (N p hp).1) (by rw [e]; exact Nat.lt_irrefl _)
  · rintro i v m₁ nx h tk o hi hP hJ hnx F₁ N₁
    exact turn i v _ m₁ nx h tk o (by simpa using hP) hJ hnx (fun p hp => Heap.lt_size (N p hp).1) F₁ N₁
  · exact done

/-- for over reversed(a list of the ledger) -/
theorem rev_M {ax I : Addr} {vs : List Value} {k : Nat} {m₀ : Str → Option Value} {news : List (Addr × Obj)} (J : Nat → (Str → Option Value) → List (Addr × Obj) → Prop)
    (hh : A.handled = none) (F : Fr h₀ env.locals s.heap m₀) (N : News h₀ env.locals s.heap ((I, revObj ax ((vs.length : Int) - 1)) :: news)) (hoff : ∀ p ∈ news, p.1 ≠ I) (hm : (ax, listOf vs.toArray k) ∈ news) (hfix : ∀ i m nx, J i m nx → (ax, listOf vs.toArray k) ∈ nx) (hj : J 0 m₀ news)
    (turn : ∀ (i : Nat) v m₁ nx h tk o, vs.reverse[i]? = some v → J i m₁ nx → (∀ p ∈ nx, p.1 ≠ I) → Fr h₀ env.locals h (fun y => if y = x then some v else m₁ y) → News h₀ env.locals h ((I, o) :: nx) →
      wpAny (model prog w) A (execs body env) (TurnPostM h₀ env.locals I o (J (i + 1)) { s with heap := h, toks := tk } Q) E { s with heap := h, toks := tk })
    (done : ∀ m₁ nx h tk, J vs.length m₁ nx → Fr h₀ env.locals h m₁ → News h₀ env.locals h nx → Q .next { s with heap := h, toks := tk }) :
    wpAny (model prog w) A (pyIter (.ref I)) (fun it s₂ => LoopAtV prog w A h₀ env x body Q E it s₂) E s := by
  have hIx := N _ (List.mem_cons_self ..)
  have hax := N _ (List.mem_cons_of_mem _ hm)
  have hl : s.heap.IsList ax vs.toArray := ⟨_, hax.1, rfl, k, rfl⟩
  have hne : ax ≠ I := hoff _ hm
  have hit : s.heap.IsRevIter I ax ((vs.length : Int) - 1) := ⟨_, hIx.1, rfl, rfl⟩
  refine wpAny_pyIter_revIter hit ?_
  have W := Walks.listRev (prog := prog) (w := w) hh I ax hne vs.toArray
  have hlen : vs.toArray.size = vs.length := by simp
  rw [hlen] at W
  refine loop_M J [(ax, listOf vs.toArray k)] (fun i m nx hJ p hp => by rw [List.mem_singleton.mp hp]; exact hfix i m nx hJ) W (.head _) ?_ hIx.2.2 ?_ ?_ hoff ⟨Nat.zero_le _, ?_, hl⟩ F (fun p hp => N p (List.mem_cons_of_mem _ hp)) hj ?_ ?_
  · intro hmm
    rcases List.mem_cons.mp hmm with e | hmm
    · exact hIx.2.1 e.symm
    · exact hax.2.1 (List.mem_singleton.mp hmm).symm
  · intro b hb
    rcases List.mem_cons.mp hb with e | hb
    · exact .inl e
    · exact .inr (.inr ⟨_, by rw [List.mem_singleton.mp hb]; exact List.mem_singleton.mpr rfl⟩)
  · rintro i h ⟨_, ⟨o, ho, _⟩, _⟩
    exact ⟨o, ho⟩
  · have e : (vs.length : Int) - 1 - ((0 : Nat) : Int) = (vs.length : Int) - 1 := by omega
    rw [e]
    exact hit
  · rintro i v m₁ nx h tk o hi hP hJ hnx F₁ N₁
    refine turn i v m₁ nx h tk o ?_ hJ hnx F₁ N₁
    rw [List.getElem?_reverse hi]
    simpa using hP
  · exact done
end

section
variable {prog : Program} {w : World} {A : Around} {E : Value → Shared → Prop} {s : Shared} {h₀ : Heap} {L D : Addr} {m : Str → Option Value} {news news' : List (Addr × Obj)} {vs : List Value} {k : Nat} {x : Value} {Q : Value → Shared → Prop}
theorem append_M (F : Fr h₀ L s.heap m) (N : News h₀ L s.heap news) (U : Upd D (listOf vs.toArray k) (listOf (vs ++ [x]).toArray (k + 1)) news news') (hsz : vs.length ≤ 1048576)
    (h : ∀ h', Fr h₀ L h' m → News h₀ L h' news' → Q .none { s with heap := h' }) : wpAny (model prog w) A (call (.builtin "list.append") [.ref D, x]) Q E s := by
  have e : (vs ++ [x]).toArray = vs.toArray.push x := by simp
  rw [e] at U
  exact append_K F N U h (by rw [List.size_toArray, sizeLine_eq]; omega)
theorem reverse_M (F : Fr h₀ L s.heap m) (N : News h₀ L s.heap news) (U : Upd D (listOf vs.toArray k) (listOf vs.reverse.toArray k) news news') (hsz : vs.length ≤ 1048576)
    (h : ∀ h', Fr h₀ L h' m → News h₀ L h' news' → Q .none { s with heap := h' }) : wpAny (model prog w) A (call (.builtin "list.reverse") [.ref D]) Q E s :=
  kl_reverse F N rfl U (by show vs.length ≤ sizeLine; rw [sizeLine_eq]; omega) h
end
theorem ints_reverse {vs : List Value} {ns : List Int} (h : IntsAre vs ns) : IntsAre vs.reverse ns.reverse := by
  induction h with
  | nil => exact .nil
  | cons n t h ih => rw [List.reverse_cons, List.reverse_cons]; exact IntsAre.append ih (.cons n t .nil)

/-- a loop's frame: what it knows of the names -/
def JM (x : Str) (stored : List Str) (m₀ : Str → Option Value) (ps : List (Str × Value)) (m : Str → Option Value) : Prop :=
  (∀ p ∈ ps, m p.1 = some p.2) ∧ ∀ z, z ≠ x → (∀ p ∈ ps, z ≠ p.1) → stored.contains z = false → m z = m₀ z
theorem JM.fr {x : Str} {stored : List Str} {m₀ m : Str → Option Value} {ps : List (Str × Value)} {h₀ h : Heap} {L : Addr} {v : Value} (j : JM x stored m₀ ps m) (F : Fr h₀ L h (fun y => if y = x then some v else m y)) :
    Fr h₀ L h (fun y => if y = x then some v else kstB (fun z => if stored.contains z then m z else m₀ z) ps y) := kst_fr j.1 j.2 F
theorem JM.frOut {x : Str} {stored : List Str} {m₀ m : Str → Option Value} {ps : List (Str × Value)} {h₀ h : Heap} {L : Addr} (j : JM x stored m₀ ps m) (F : Fr h₀ L h m) :
    Fr h₀ L h (fun y => if y = x then m y else kstB (fun z => if stored.contains z then m z else m₀ z) ps y) := kst_frOut j.1 j.2 F

/-- the number of digits, the highest first -/
def hv (B : Int) (l : List Int) : Int := l.foldl (fun v d => v * B + d) 0
theorem hv_snoc (B : Int) (l : List Int) (d : Int) : hv B (l ++ [d]) = hv B l * B + d := by
  unfold hv; rw [List.foldl_append]; rfl
theorem hv_rev (B : Int) : ∀ l : List Int, hv B l.reverse = undg B l
  | [] => rfl
  | d :: r => by
    rw [List.reverse_cons, hv_snoc, hv_rev B r, Int.mul_comm, Int.add_comm]; rfl
def PDiv (a b : Int) (h : Heap) (v : Value) (h' : Heap) : Prop :=
  ∃ D t1 t2, v = .ref D ∧ h'.get? D = some { cls := .type "tuple", data := .seq #[.int (a / b) t1, .int (a % b) t2] } ∧ h.objs.size ≤ D
theorem tabs_apart {h₀ h : Heap} {L : Addr} {P1 P2 : Addr} {l1 k1 l2 k2 : Int} {q1 q2 : Str} {t1 t2 : TS} (N1 : News h₀ L h (tabs1 P1 l1 k1 t1)) (N2 : News h₀ L h (tabs1 P2 l2 k2 t2)) (ok1 : TsOk P1 q1 t1) (ok2 : TsOk P2 q2 t2) (hP : P1 ≠ P2) (hq : q1 ≠ q2) :
    ∀ p ∈ tabs1 P1 l1 k1 t1, ∀ q ∈ tabs1 P2 l2 k2 t2, p.1 ≠ q.1 := by
  intro p hp q hq' e
  have e1 := (N1 p hp).1
  have e2 := (N2 q hq').1
  rw [e] at e1
  have eo : p.2 = q.2 := Option.some.inj (e1.symm.trans e2)
  have tab : ∀ {P : Addr} {l k : Int} {t : TS} {p : Addr × Obj}, p ∈ tabs1 P l k t → (p.1 = P ∧ (p.2 = tabObj #[] ∨ ∃ c, p.2 = tabObj #[rawInt l, rawInt k, .ref c])) ∨ (∃ c o, t = .warm c o ∧ p = (c, o)) := by
    intro P l k t p hp
    cases t with
    | cold => rw [List.mem_singleton.mp hp]; exact .inl ⟨rfl, .inl rfl⟩
    | warm c o =>
      rcases List.mem_cons.mp hp with rfl | hp
      · exact .inl ⟨rfl, .inr ⟨c, rfl⟩⟩
      · exact .inr ⟨c, o, rfl, List.mem_singleton.mp hp⟩
  have no : ∀ {l k : Int} {c : Addr} {o : Obj} {q : Str} {ps : Array Value}, (∃ vs t, o.data = .fields vs ∧ vs[1]? = some (.str q t)) → (ps = #[] ∨ ps = #[rawInt l, rawInt k, .ref c]) → o = tabObj ps → False := by
    rintro l k c o q ps ⟨vs, t, hd, hv⟩ hps rfl
    cases hd
    rcases hps with rfl | rfl
    · cases hv
    · cases hv
  rcases tab hp with ⟨ep, hp1⟩ | ⟨c, o, rfl, rfl⟩
  · rcases tab hq' with ⟨eq, _⟩ | ⟨c', o', rfl, rfl⟩
    · exact hP (ep.symm.trans (e.trans eq))
    · rcases hp1 with h1 | ⟨c, h1⟩
      · exact no (l := 0) (k := 0) (c := 0) ok2.2 (.inl rfl) (eo.symm.trans h1)
      · exact no ok2.2 (.inr rfl) (eo.symm.trans h1)
  · rcases tab hq' with ⟨eq, hq1⟩ | ⟨c', o', rfl, rfl⟩
    · rcases hq1 with h1 | ⟨c, h1⟩
      · exact no (l := 0) (k := 0) (c := 0) ok1.2 (.inl rfl) (eo.trans h1)
      · exact no ok1.2 (.inr rfl) (eo.trans h1)
    · obtain ⟨_, vs, t, hd, hv⟩ := ok1
      obtain ⟨_, vs', t', hd', hv'⟩ := ok2
      dsimp only at eo
      subst eo
      rw [hd] at hd'
      cases hd'
      rw [hv] at hv'
      cases hv'
      exact hq rfl
theorem tabs_news {h₀ h h' : Heap} {L : Addr} {m : Str → Option Value} {P : Addr} {l k : Int} {t : TS} {c : Addr} {o : Obj} (F : Fr h₀ L h m) (N : News h₀ L h (tabs1 P l k t)) (hc : ∀ p ∈ tabs1 P l k (.warm c o), h'.get? p.1 = some p.2) (hcase : t = .warm c o ∨ (t = .cold ∧ h.objs.size ≤ c)) :
    News h₀ L h' (tabs1 P l k (.warm c o)) := by
  intro p hp
  refine ⟨hc p hp, ?_⟩
  rcases hcase with rfl | ⟨rfl, hs⟩
  · exact (N p hp).2
  · rcases List.mem_cons.mp hp with rfl | hp
    · exact (N (P, tabObj #[]) (.head _)).2
    · rw [List.mem_singleton.mp hp]
      exact ⟨Nat.ne_of_gt (Nat.lt_of_lt_of_le F.ns.lt hs), none_of_size (Nat.le_trans (Nat.le_trans F.above (Nat.le_of_lt F.ns.lt)) hs)⟩
theorem TNext.of {P : Addr} {l k : Int} {q : Str} {t : TS} {c : Addr} {o : Obj} {h h' : Heap} (ok : TsOk P q (.warm c o)) (hc : ∀ p ∈ tabs1 P l k (.warm c o), h'.get? p.1 = some p.2) (hcase : t = .warm c o ∨ (t = .cold ∧ h.objs.size ≤ c)) : TNext P l k q t h h' := ⟨c, o, ok, hc, hcase⟩
theorem case_mono {t : TS} {c : Addr} {o : Obj} {h s : Heap} (hs : s.objs.size ≤ h.objs.size) (hcase : t = .warm c o ∨ (t = .cold ∧ h.objs.size ≤ c)) : t = .warm c o ∨ (t = .cold ∧ s.objs.size ≤ c) :=
  hcase.imp id fun x => ⟨x.1, Nat.le_trans hs x.2⟩
/-- what is not the table's stays -/
theorem off_of_apart {a b : List (Addr × Obj)} (h : ∀ p ∈ a, ∀ q ∈ b, p.1 ≠ q.1) : ∀ q ∈ b, q.1 ∉ a.map (·.1) := fun q hq hm => by
  obtain ⟨p, hp, e⟩ := List.mem_map.mp hm
  exact h p hp q hq e
theorem news_left {h₀ h : Heap} {L : Addr} {a b : List (Addr × Obj)} (N : News h₀ L h (a ++ b)) : News h₀ L h a := fun p hp => N p (List.mem_append_left _ hp)
theorem news_right {h₀ h : Heap} {L : Addr} {a b : List (Addr × Obj)} (N : News h₀ L h (a ++ b)) : News h₀ L h b := fun p hp => N p (List.mem_append_right _ hp)
theorem news_append {h₀ h : Heap} {L : Addr} {a b : List (Addr × Obj)} (N1 : News h₀ L h a) (N2 : News h₀ L h b) : News h₀ L h (a ++ b) := fun p hp => (List.mem_append.mp hp).elim (N1 p) (N2 p)
theorem q_ne : (Str.ofString "_int2digits.<locals>.inner") ≠ Str.ofString "_digits2int.<locals>.inner" := by decide +kernel
theorem ints_append {a b : List Value} {x y : List Int} (h1 : IntsAre a x) (h2 : IntsAre b y) : IntsAre (a ++ b) (x ++ y) := IntsAre.append h1 h2
theorem ints_get {vs : List Value} {ns : List Int} (h : IntsAre vs ns) {i : Nat} {v : Value} (hv : vs[i]? = some v) : ∃ d t, v = .int d t ∧ ns[i]? = some d := by
  have hi : i < vs.length := (List.getElem?_eq_some_iff.mp hv).1
  have hl := h.length
  have hn : ns[i]? = some ns[i] := List.getElem?_eq_getElem (by omega)
  obtain ⟨t, e⟩ := h.get i _ hn
  rw [e] at hv
  exact ⟨_, t, (Option.some.inj hv).symm, hn⟩
theorem fr_name {h₀ h : Heap} {L : Addr} {m : Str → Option Value} (F : Fr h₀ L h m) : ∃ m0, m0 = m ∧ Fr h₀ L h m0 := ⟨m, rfl, F⟩
theorem shl_facts {r B b d : Int} (r0 : 0 ≤ r) (rb : r < b) (d0 : 0 ≤ d) (dB : d < B) : 0 ≤ r * B + d ∧ r * B + d < b * B := by
  have h1 : 0 ≤ r * B := Int.mul_nonneg r0 (by omega)
  have h2 : (r + 1) * B ≤ b * B := Int.mul_le_mul_of_nonneg_right (by omega) (by omega)
  rw [Int.add_mul, Int.one_mul] at h2
  omega
theorem step_inv {H b B r d : Int} : (H * b + r) * B + d = (H * B + (r * B + d) / b) * b + (r * B + d) % b := by
  have h := Int.emod_add_mul_ediv (r * B + d) b
  have e1 : (H * b + r) * B = H * B * b + r * B := by rw [Int.add_mul, Int.mul_right_comm]
  have e2 : (H * B + (r * B + d) / b) * b = H * B * b + b * ((r * B + d) / b) := by rw [Int.add_mul, Int.mul_comm ((r * B + d) / b) b]
  rw [e1, e2]
  omega
theorem ndig_mul {a n : Int} (ha : 0 ≤ a) (hlt : a < 1048576) (hn : 0 < n) (hn2 : n ≤ 20) : n * ndig a n ≤ 60 := by
  have h1 := bits_le ha (k := 20) (by simpa using hlt)
  unfold ndig
  generalize (((Builtin.Int.intBits a : Nat) : Int)) = b at *
  by_cases hb : 0 ≤ (b + n - 1) / n
  · rw [Int.toNat_of_nonneg hb]
    have := Int.emod_add_mul_ediv (b + n - 1) n
    have := Int.emod_nonneg (b + n - 1) (show n ≠ 0 by omega)
    omega
  · rw [Int.toNat_of_nonpos (by omega)]; simp
theorem a_value {a n : Int} (ha : 0 ≤ a) (hn : 0 < n) : hv (2 ^ n.toNat) (dg (2 ^ n.toNat) (ndig a n) a).reverse = a := by
  rw [hv_rev]
  refine undg_dg (Int.pow_pos (by decide)) _ _ ha ?_
  by_cases h0 : a = 0
  · subst h0; rw [ndig_zero hn, Int.pow_zero]; decide
  · exact lt_dig ha h0 hn
theorem qr_of {a b q r : Int} (h : a = q * b + r) (r0 : 0 ≤ r) (rb : r < b) : q = a / b ∧ r = a % b := by
  have := (Int.ediv_emod_unique (a := a) (b := b) (q := q) (r := r) (by omega)).mpr ⟨by rw [h, Int.mul_comm]; omega, r0, rb⟩
  exact ⟨this.1.symm, this.2.symm⟩
def PDm (P1 : Addr) (l1 k1 : Int) (P2 : Addr) (l2 k2 : Int) (a b : Int) (t1 t2 : TS) (h : Heap) (v : Value) (h' : Heap) : Prop :=
  PDiv a b h v h' ∧ TNext P1 l1 k1 (Str.ofString "_int2digits.<locals>.inner") t1 h h' ∧ TNext P2 l2 k2 (Str.ofString "_digits2int.<locals>.inner") t2 h h'

section
variable {prog : Program} {w : World} {A : Around} {E : Value → Shared → Prop} {s : Shared} {a b : Int} {t u : Tok} {Q : Value → Shared → Prop}
theorem fdiv_M (hb : 0 < b) (hb2 : b < 1073741824) (h : Q (.int (a / b) s.toks) { s with toks := s.toks + 1 }) : wpAny (model prog w) A (binaryOp .FloorDiv (.int a t) (.int b u)) Q E s :=
  floordiv_int (by omega) (by rw [Int.fdiv_eq_ediv_of_nonneg _ (by omega)]; exact h) (.inl (PyProof.noPylong_small (by omega)))
theorem mod_M (hb : 0 < b) (h : Q (.int (a % b) s.toks) { s with toks := s.toks + 1 }) : wpAny (model prog w) A (binaryOp .Mod (.int a t) (.int b u)) Q E s :=
  mod_int' (by omega) (by rw [Int.fmod_eq_emod_of_nonneg _ (by omega)]; exact h)
end
/-- a list of ints in order -/
def Srt (ns : List Int) : Prop := ∀ i j : Nat, i ≤ j → j < ns.length → ns.getD i 0 ≤ ns.getD j 0
/-- where x is to stand, to the left -/
def Bis (ns : List Int) (x r : Int) : Prop := 0 ≤ r ∧ r ≤ ns.length ∧ (∀ i : Nat, (i : Int) < r → ns.getD i 0 < x) ∧ ∀ i : Nat, r ≤ i → i < ns.length → x ≤ ns.getD i 0
def PBis (ns : List Int) (x : Int) (_h : Heap) (v : Value) (_h' : Heap) : Prop := ∃ r t, v = .int r t ∧ Bis ns x r
def BLoop (ns : List Int) (x lo hi : Int) : Prop := 0 ≤ lo ∧ lo ≤ hi ∧ hi ≤ ns.length ∧ (∀ i : Nat, (i : Int) < lo → ns.getD i 0 < x) ∧ ∀ i : Nat, hi ≤ i → i < ns.length → x ≤ ns.getD i 0
theorem BLoop.start {ns : List Int} {x : Int} : BLoop ns x 0 ns.length := ⟨Int.le_refl _, by omega, Int.le_refl _, fun i h => by omega, fun i h1 h2 => by omega⟩
theorem BLoop.right {ns : List Int} {x lo hi : Int} (hs : Srt ns) (b : BLoop ns x lo hi) (h : lo < hi) (hx : ns.getD ((lo + hi) / 2).toNat 0 < x) : BLoop ns x ((lo + hi) / 2 + 1) hi := by
  obtain ⟨h0, h1, h2, h3, h4⟩ := b
  refine ⟨by omega, by omega, h2, fun i hi' => ?_, h4⟩
  exact Int.lt_of_le_of_lt (hs i ((lo + hi) / 2).toNat (by omega) (by omega)) hx
theorem BLoop.left {ns : List Int} {x lo hi : Int} (hs : Srt ns) (b : BLoop ns x lo hi) (h : lo < hi) (hx : ¬ ns.getD ((lo + hi) / 2).toNat 0 < x) : BLoop ns x lo ((lo + hi) / 2) := by
  obtain ⟨h0, h1, h2, h3, h4⟩ := b
  refine ⟨h0, by omega, by omega, h3, fun i hi' hl => ?_⟩
  exact Int.le_trans (Int.not_lt.mp hx) (hs ((lo + hi) / 2).toNat i (by omega) hl)
theorem BLoop.out {ns : List Int} {x lo hi : Int} (b : BLoop ns x lo hi) (h : ¬ lo < hi) : Bis ns x lo := by
  obtain ⟨h0, h1, h2, h3, h4⟩ := b
  exact ⟨h0, by omega, h3, fun i hi' hl => h4 i (by omega) hl⟩

def ins (ns : List Int) (r : Nat) (x : Int) : List Int := ns.take r ++ x :: ns.drop r
def PIns (l : Addr) (ns : List Int) (k : Nat) (x : Int) (_h : Heap) (v : Value) (h' : Heap) : Prop :=
  v = .none ∧ ∃ (r : Int) (vs' : List Value), Bis ns x r ∧ h'.get? l = some (listOf vs'.toArray (k + 1)) ∧ IntsAre vs' (ins ns r.toNat x)
theorem ints_take {vs : List Value} {ns : List Int} (h : IntsAre vs ns) : ∀ r, IntsAre (vs.take r) (ns.take r) := by
  induction h with
  | nil => intro r; simp; exact .nil
  | cons n t h ih =>
    intro r
    cases r with
    | zero => exact .nil
    | succ r => exact .cons n t (ih r)
theorem ints_drop {vs : List Value} {ns : List Int} (h : IntsAre vs ns) : ∀ r, IntsAre (vs.drop r) (ns.drop r) := by
  induction h with
  | nil => intro r; simp; exact .nil
  | cons n t h ih =>
    intro r
    cases r with
    | zero => exact .cons n t h
    | succ r => exact ih r
theorem ints_ins {vs : List Value} {ns : List Int} (h : IntsAre vs ns) (r : Nat) (x : Int) (t : Tok) : IntsAre (vs.take r ++ .int x t :: vs.drop r) (ins ns r x) :=
  IntsAre.append (ints_take h r) (.cons x t (ints_drop h r))
section
variable {prog : Program} {w : World} {A : Around} {E : Value → Shared → Prop} {s : Shared} {h₀ : Heap} {L D : Addr} {m : Str → Option Value} {news news' : List (Addr × Obj)} {vs : List Value} {k : Nat} {r : Int} {u : Tok} {y : Value} {Q : Value → Shared → Prop}
theorem insert_M (F : Fr h₀ L s.heap m) (N : News h₀ L s.heap news) (U : Upd D (listOf vs.toArray k) (listOf (vs.take r.toNat ++ y :: vs.drop r.toNat).toArray (k + 1)) news news') (h0 : 0 ≤ r) (h1 : r ≤ vs.length) (hsz : vs.length ≤ 1000000)
    (h : ∀ h', Fr h₀ L h' m → News h₀ L h' news' → Q .none { s with heap := h' }) : wpAny (model prog w) A (call (.builtin "list.insert") [.ref D, .int r u, y]) Q E s := by
  refine kl_insert F N (fitsIndex_of h0 (by omega)) ?_ U (by show vs.length ≤ sizeLine; rw [sizeLine_eq]; omega) h
  show kl_ins vs r y = _
  unfold kl_ins
  rw [if_neg (by omega), Nat.min_eq_left (by omega)]
end

/-- Montgomery's reduction -/
def oft (number unit other : Int) : Int := number % unit * other % unit
def redc (number count unit other : Int) : Int :=
  if (number + oft number unit other * count) / unit ≥ count then (number + oft number unit other * count) / unit - count else (number + oft number unit other * count) / unit

/-- both code tables, as the ledger holds them -/
def TabsIs (P1 : Addr) (l1 k1 : Int) (P2 : Addr) (l2 k2 : Int) (TL : List (Addr × Obj)) : Prop :=
  ∃ t1 t2, TL = tabs1 P1 l1 k1 t1 ++ tabs1 P2 l2 k2 t2 ∧ TsOk P1 (Str.ofString "_int2digits.<locals>.inner") t1 ∧ TsOk P2 (Str.ofString "_digits2int.<locals>.inner") t2
/-- the tables behind a call -/
def TNx (P1 : Addr) (l1 k1 : Int) (P2 : Addr) (l2 k2 : Int) (TL : List (Addr × Obj)) (h : Heap) (TL' : List (Addr × Obj)) (h' : Heap) : Prop :=
  TabsIs P1 l1 k1 P2 l2 k2 TL' ∧ (∀ p ∈ TL', h'.get? p.1 = some p.2) ∧ ∀ p ∈ TL', p.1 ∈ TL.map (·.1) ∨ h.objs.size ≤ p.1
theorem tab_head {P : Addr} {l k : Int} (t : TS) : ∃ o, (P, o) ∈ tabs1 P l k t := by
  cases t with
  | cold => exact ⟨_, .head _⟩
  | warm c o => exact ⟨_, .head _⟩
theorem head_l {P : Addr} {l k : Int} (t : TS) (b : List (Addr × Obj)) : P ∈ (tabs1 P l k t ++ b).map (·.1) := by
  obtain ⟨o, ho⟩ := tab_head (P := P) (l := l) (k := k) t
  exact List.mem_map.mpr ⟨_, List.mem_append_left _ ho, rfl⟩
theorem head_r {P : Addr} {l k : Int} (t : TS) (b : List (Addr × Obj)) : P ∈ (b ++ tabs1 P l k t).map (·.1) := by
  obtain ⟨o, ho⟩ := tab_head (P := P) (l := l) (k := k) t
  exact List.mem_map.mpr ⟨_, List.mem_append_right _ ho, rfl⟩
section
variable {P1 P2 : Addr} {l1 k1 l2 k2 : Int} {TL TL' : List (Addr × Obj)} {h h' h₀ : Heap} {L : Addr}
theorem TNx.ne {K : Addr} {o : Obj} (x : TNx P1 l1 k1 P2 l2 k2 TL h TL' h') (s : ∀ p ∈ TL, p.1 ≠ K) (hK : h.get? K = some o) : ∀ p ∈ TL', p.1 ≠ K := fun p hp e => by
  rcases x.2.2 p hp with hm | hm
  · obtain ⟨q, hq, e2⟩ := List.mem_map.mp hm
    exact s q hq (e2.trans e)
  · exact absurd (Heap.lt_size hK) (by rw [← e]; exact Nat.not_lt.mpr hm)
theorem TNx.news {m : Str → Option Value} (F : Fr h₀ L h m) (N : News h₀ L h TL) (x : TNx P1 l1 k1 P2 l2 k2 TL h TL' h') : News h₀ L h' TL' := fun p hp => by
  refine ⟨x.2.1 p hp, ?_⟩
  rcases x.2.2 p hp with hm | hm
  · obtain ⟨q, hq, e2⟩ := List.mem_map.mp hm
    rw [← e2]; exact (N q hq).2
  · exact ⟨Nat.ne_of_gt (Nat.lt_of_lt_of_le F.ns.lt hm), none_of_size (Nat.le_trans (Nat.le_trans F.above (Nat.le_of_lt F.ns.lt)) hm)⟩
theorem off_one {K : Addr} (s : ∀ p ∈ TL, p.1 ≠ K) : K ∉ TL.map (·.1) := fun hm => by
  obtain ⟨q, hq, e⟩ := List.mem_map.mp hm
  exact s q hq e
theorem tnx_of {t1 t2 : TS} (n1 : TNext P1 l1 k1 (Str.ofString "_int2digits.<locals>.inner") t1 h h') (n2 : TNext P2 l2 k2 (Str.ofString "_digits2int.<locals>.inner") t2 h h') :
    ∃ TL', TNx P1 l1 k1 P2 l2 k2 (tabs1 P1 l1 k1 t1 ++ tabs1 P2 l2 k2 t2) h TL' h' := by
  obtain ⟨c1, o1, ok1, hc1, ca1⟩ := n1
  obtain ⟨c2, o2, ok2, hc2, ca2⟩ := n2
  refine ⟨tabs1 P1 l1 k1 (.warm c1 o1) ++ tabs1 P2 l2 k2 (.warm c2 o2), ⟨_, _, rfl, ok1, ok2⟩, fun p hp => (List.mem_append.mp hp).elim (hc1 p) (hc2 p), fun p hp => ?_⟩
  rcases List.mem_append.mp hp with hp | hp
  · rcases List.mem_cons.mp hp with rfl | hp
    · left
      exact head_l t1 _
    · rw [List.mem_singleton.mp hp]
      rcases ca1 with rfl | ⟨rfl, hs⟩
      · left; exact List.mem_map_of_mem (f := (·.1)) (a := (c1, o1)) (List.mem_append_left _ (.tail _ (.head _)))
      · exact .inr hs
  · rcases List.mem_cons.mp hp with rfl | hp
    · left
      exact head_r t2 _
    · rw [List.mem_singleton.mp hp]
      rcases ca2 with rfl | ⟨rfl, hs⟩
      · left; exact List.mem_map_of_mem (f := (·.1)) (a := (c2, o2)) (List.mem_append_right _ (.tail _ (.head _)))
      · exact .inr hs
end
theorem Ctr.weak {prog : Program} {K : Params → Frag} {TB : Heap → Prop} {w : World} {f : Addr} {dd uu : Nat} {vs : List Value} {mts mts' : List (Addr × Obj)} {Pre : Heap → Prop} {Post Post' : Heap → Value → Heap → Prop} (c : Ctr prog K TB w f dd uu vs mts Pre Post) (hsub : ∀ p ∈ mts, p ∈ mts')
    (hp : ∀ h₀ L h v h', News h₀ L h mts' → KeepsBut (mts.map (·.1)) h h' → Post h v h' → Post' h v h') : Ctr prog K TB w f dd uu vs mts' Pre Post' := by
  intro p loose mean mg mb dp un gd cn cs a ccd cl outer A₀ base h₀ L m s Q E B F X N T hkd hTB hpre hdp hun hret
  refine c p loose mean mg mb dp un gd cn cs a ccd cl outer A₀ base h₀ L m s Q E B F X (fun q hq => N q (hsub q hq)) T hkd hTB hpre hdp hun fun v h' tk' G P => hret v h' tk' (fun b o hb e => G b o (fun hm => hb ?_) e) (hp _ _ _ _ _ N G P)
  obtain ⟨q, hq, e⟩ := List.mem_map.mp hm
  exact e ▸ List.mem_map_of_mem (hsub q hq)
section
variable {prog : Program} {w : World} {A : Around} {h₀ : Heap} {L : Addr} {m : Str → Option Value} {env : Env} {ct elt : Expr} {x : Str} {scope : Scope} {cl : List (Str × Addr)} {s : Shared} {S : List (Addr × Obj) → Prop} {P : Nat → Value → Prop} {Fin : List Value → List (Addr × Obj) → Prop}
theorem compEnd_mono {s₁ s₂ : Shared} {I C D : Addr} {oI oC oD : Obj} {r r' : Value → List (Addr × Obj) → Prop} {y : Value} (h : LCg.CompEnd h₀ L m s₁ I oI C oC D oD S r y s₂) (k : ∀ n, r y n → r' y n) : LCg.CompEnd h₀ L m s₁ I oI C oC D oD S r' y s₂ := by
  obtain ⟨h', tk, n, e, F, N, off, hS, hr⟩ := h
  exact ⟨h', tk, n, e, F, N, off, hS, k n hr⟩
/-- a comprehension with a test, by what holds of its turns -/
theorem rest_T {n : Nat} {news : List (Addr × Obj)} (J : Nat → List Value → List (Addr × Obj) → Prop) (fin : ∀ ys nw, J n ys nw → Fin ys nw) (start : J 0 [] news)
    (turn : ∀ i ys nw v I oI C oC D m₂ h tk (E' : Value → Shared → Prop), i < n → J i ys nw → P i v → LCg.NsObj oC m₂ → m₂ x = some v → Fr h₀ L h m → News h₀ L h ((I, oI) :: (C, oC) :: (D, LCg.lst ys) :: nw) → LCg.Off3 I C D nw → ((@Ne Nat I C) ∧ (@Ne Nat I D) ∧ (@Ne Nat C D)) →
      wpAny (model prog w) A (isTrue ct (compEnvC scope cl C env) (eval ct (compEnvC scope cl C env))) (fun ok s' => if ok = true then
        wpAny (model prog w) A (eval elt (compEnvC scope cl C env)) (LCg.CompEnd h₀ L m { s with heap := h, toks := tk } I oI C oC D (LCg.lst ys) S (fun y nw' => J (i + 1) (ys ++ [y]) nw')) E' s'
        else LCg.CompEnd h₀ L m { s with heap := h, toks := tk } I oI C oC D (LCg.lst ys) S (fun _ nw' => J (i + 1) ys nw') Value.none s') E' { s with heap := h, toks := tk }) :
    LCt.CompRestT prog w A h₀ L m env ct elt x scope cl s S P Fin n 0 [] news := by
  have key : ∀ (k i : Nat) (ys : List Value) (nw : List (Addr × Obj)), i + k = n → J i ys nw → LCt.CompRestT prog w A h₀ L m env ct elt x scope cl s S P Fin k i ys nw := by
    intro k
    induction k with
    | zero => intro i ys nw e j; exact LCt.CompRestT.zero (fin ys nw (by rw [← e]; exact j))
    | succ k ih =>
      intro i ys nw e j
      refine LCt.CompRestT.succ ?_
      intro v I oI C oC D m₂ h tk E' hv hC hx F N off ne
      refine wpAny_mono (turn i ys nw v I oI C oC D m₂ h tk E' (by omega) j hv hC hx F N off ne) (fun ok s₂ hq => ?_) fun _ _ e => e
      cases ok with
      | true =>
        simp only [if_true] at hq ⊢
        exact wpAny_mono hq (fun y s₃ h₃ => compEnd_mono h₃ fun nw' j' => ih (i + 1) _ nw' (by omega) j') fun _ _ e => e
      | false =>
        simp only [Bool.false_eq_true, if_false] at hq ⊢
        exact compEnd_mono hq fun nw' j' => ih (i + 1) _ nw' (by omega) j'
  exact key n 0 [] news (by omega) start
/-- a comprehension without a test -/
theorem rest_U {n : Nat} {news : List (Addr × Obj)} (J : Nat → List Value → List (Addr × Obj) → Prop) (fin : ∀ ys nw, J n ys nw → Fin ys nw) (start : J 0 [] news)
    (turn : ∀ i ys nw v I oI C oC D m₂ h tk (E' : Value → Shared → Prop), i < n → J i ys nw → P i v → LCg.NsObj oC m₂ → m₂ x = some v → Fr h₀ L h m → News h₀ L h ((I, oI) :: (C, oC) :: (D, LCg.lst ys) :: nw) → LCg.Off3 I C D nw → ((@Ne Nat I C) ∧ (@Ne Nat I D) ∧ (@Ne Nat C D)) →
      wpAny (model prog w) A (eval elt (compEnvC scope cl C env)) (LCg.CompEnd h₀ L m { s with heap := h, toks := tk } I oI C oC D (LCg.lst ys) S (fun y nw' => J (i + 1) (ys ++ [y]) nw')) E' { s with heap := h, toks := tk }) :
    LCg.CompRest prog w A h₀ L m env elt x scope cl s S P Fin n 0 [] news := by
  have key : ∀ (k i : Nat) (ys : List Value) (nw : List (Addr × Obj)), i + k = n → J i ys nw → LCg.CompRest prog w A h₀ L m env elt x scope cl s S P Fin k i ys nw := by
    intro k
    induction k with
    | zero => intro i ys nw e j; exact LCg.CompRest.zero (fin ys nw (by rw [← e]; exact j))
    | succ k ih =>
      intro i ys nw e j
      refine LCg.CompRest.succ ?_
      intro v I oI C oC D m₂ h tk E' hv hC hx F N off ne
      exact wpAny_mono (turn i ys nw v I oI C oC D m₂ h tk E' (by omega) j hv hC hx F N off ne) (fun y s₃ h₃ => compEnd_mono h₃ fun nw' j' => ih (i + 1) _ nw' (by omega) j') fun _ _ e => e
  exact key n 0 [] news (by omega) start
end
section
variable {P1 P2 : Addr} {l1 k1 l2 k2 : Int} {TL TL' : List (Addr × Obj)} {h h' h₀ : Heap} {L : Addr}
/-- the tables behind a call, with none left out -/
def TNy (P1 : Addr) (l1 k1 : Int) (P2 : Addr) (l2 k2 : Int) (TL : List (Addr × Obj)) (h : Heap) (TL' : List (Addr × Obj)) (h' : Heap) : Prop :=
  TNx P1 l1 k1 P2 l2 k2 TL h TL' h' ∧ ∀ p ∈ TL, p.1 ∈ TL'.map (·.1)
theorem TNx.tny (x : TNx P1 l1 k1 P2 l2 k2 TL h TL' h') (y : ∀ p ∈ TL, p.1 ∈ TL'.map (·.1)) : TNy P1 l1 k1 P2 l2 k2 TL h TL' h' := ⟨x, y⟩
/-- what the tables are, seen from an elder size -/
def TFrom (P1 : Addr) (l1 k1 : Int) (P2 : Addr) (l2 k2 : Int) (TL : List (Addr × Obj)) (n : Nat) (TL' : List (Addr × Obj)) : Prop :=
  TabsIs P1 l1 k1 P2 l2 k2 TL' ∧ (∀ p ∈ TL', p.1 ∈ TL.map (·.1) ∨ n ≤ p.1) ∧ ∀ p ∈ TL, p.1 ∈ TL'.map (·.1)
theorem TFrom.next {n : Nat} {TL2 : List (Addr × Obj)} (f : TFrom P1 l1 k1 P2 l2 k2 TL n TL') (y : TNy P1 l1 k1 P2 l2 k2 TL' h TL2 h') (hn : n ≤ h.objs.size) : TFrom P1 l1 k1 P2 l2 k2 TL n TL2 := by
  refine ⟨y.1.1, fun p hp => ?_, fun p hp => ?_⟩
  · rcases y.1.2.2 p hp with hm | hm
    · obtain ⟨q, hq, e⟩ := List.mem_map.mp hm
      exact e ▸ f.2.1 q hq
    · exact .inr (Nat.le_trans hn hm)
  · obtain ⟨q, hq, e⟩ := List.mem_map.mp (f.2.2 p hp)
    exact e ▸ y.2 q hq
theorem TFrom.tny (f : TFrom P1 l1 k1 P2 l2 k2 TL h.objs.size TL') (hg : ∀ p ∈ TL', h'.get? p.1 = some p.2) : TNy P1 l1 k1 P2 l2 k2 TL h TL' h' := ⟨⟨f.1, hg, f.2.1⟩, f.2.2⟩
end
/-- the ledger behind a call that turned the tables alone -/
theorem re_n {P1 P2 : Addr} {l1 k1 l2 k2 : Int} {TL TL' ps : List (Addr × Obj)} {h h' h₀ : Heap} {L : Addr} {m : Str → Option Value} (F : Fr h₀ L h m) (N : News h₀ L h (ps ++ TL)) (G : KeepsBut (TL.map (·.1)) h h') (x : TNx P1 l1 k1 P2 l2 k2 TL h TL' h')
    (sep : ∀ q ∈ ps, ∀ p ∈ TL, p.1 ≠ q.1) : News h₀ L h' (ps ++ TL') ∧ (∀ q ∈ ps, ∀ p ∈ TL', p.1 ≠ q.1) ∧ TabsIs P1 l1 k1 P2 l2 k2 TL' := by
  refine ⟨news_append (fun q hq => ?_) (x.news F (news_right N)), fun q hq => x.ne (sep q hq) (N q (List.mem_append_left _ hq)).1, x.1⟩
  have n := N q (List.mem_append_left _ hq)
  exact ⟨G _ _ (off_one (sep q hq)) n.1, n.2⟩
/-- .. and behind a call that turns nothing -/
theorem re_0 {ps : List (Addr × Obj)} {h h' h₀ : Heap} {L : Addr} (N : News h₀ L h ps) (G : KeepsBut (([] : List (Addr × Obj)).map (·.1)) h h') : News h₀ L h' ps :=
  news_after (mts := []) N G fun _ _ hm => nomatch hm
theorem off1_mem {D : Addr} : ∀ {l : List (Addr × Obj)}, LCg.Off1 D l → ∀ p ∈ l, p.1 ≠ D
  | [], _, _, h => nomatch h
  | _ :: _, x, p, h => (List.mem_cons.mp h).elim (fun e => e ▸ x.1) (off1_mem x.2 p)
/-- some addresses are none of the tables' -/
def Sep (as : List Addr) (TL : List (Addr × Obj)) : Prop := ∀ a ∈ as, ∀ p ∈ TL, p.1 ≠ a
theorem Sep.nil {TL : List (Addr × Obj)} : Sep [] TL := fun _ h => nomatch h
theorem Sep.cons {a : Addr} {as : List Addr} {TL : List (Addr × Obj)} (h : ∀ p ∈ TL, p.1 ≠ a) (s : Sep as TL) : Sep (a :: as) TL := fun b hb => (List.mem_cons.mp hb).elim (fun e => e ▸ h) (s b)
theorem Sep.head {a : Addr} {as : List Addr} {TL : List (Addr × Obj)} (s : Sep (a :: as) TL) : ∀ p ∈ TL, p.1 ≠ a := s a (.head _)
theorem Sep.tail {a : Addr} {as : List Addr} {TL : List (Addr × Obj)} (s : Sep (a :: as) TL) : Sep as TL := fun b hb => s b (.tail _ hb)
theorem re_s {P1 P2 : Addr} {l1 k1 l2 k2 : Int} {TL TL' : List (Addr × Obj)} {as : List Addr} {h h' h₀ : Heap} {L : Addr} {m : Str → Option Value} (ps : List (Addr × Obj)) (F : Fr h₀ L h m) (N : News h₀ L h (ps ++ TL)) (G : KeepsBut (TL.map (·.1)) h h') (x : TNx P1 l1 k1 P2 l2 k2 TL h TL' h')
    (sep : Sep as TL) (has : as = ps.map (·.1)) : News h₀ L h' (ps ++ TL') ∧ Sep as TL' ∧ TabsIs P1 l1 k1 P2 l2 k2 TL' := by
  subst has
  obtain ⟨a, b, c⟩ := re_n (ps := ps) F N G x fun q hq => sep q.1 (List.mem_map_of_mem hq)
  refine ⟨a, fun q hq => ?_, c⟩
  obtain ⟨p, hp, rfl⟩ := List.mem_map.mp hq
  exact b p hp
def kp (c u x : Int) : Int := x * u % c
/-- a number put into an ordered list, to the left -/
def insf (ns : List Int) (x : Int) : List Int := ns.takeWhile (· < x) ++ x :: ns.dropWhile (· < x)
theorem ins_insf : ∀ (ns : List Int) (x r : Int), Bis ns x r → ins ns r.toNat x = insf ns x
  | [], x, r, b => by
    have h1 : r.toNat = 0 := by have := b.1; have := b.2.1; simp at this; omega
    rw [h1]; rfl
  | y :: ns, x, r, b => by
    obtain ⟨b0, b1, b2, b3⟩ := b
    by_cases h : y < x
    · have hr : 0 < r := by
        rcases Int.lt_or_le 0 r with h1 | h1
        · exact h1
        · exact absurd h (Int.not_lt.mpr (b3 0 (by omega) (by simp)))
      have e : r.toNat = (r - 1).toNat + 1 := by omega
      have ih := ins_insf ns x (r - 1) ⟨by omega, by simp at b1; omega, fun i hi => by simpa using b2 (i + 1) (by omega), fun i hi hl => by simpa using b3 (i + 1) (by omega) (by simp; omega)⟩
      unfold ins insf at ih ⊢
      rw [e, List.takeWhile_cons, List.dropWhile_cons]
      simp only [h, decide_true, if_true, List.take_succ_cons, List.drop_succ_cons, List.cons_append]
      rw [ih]
    · have hr : r = 0 := by
        rcases Int.lt_or_le 0 r with h1 | h1
        · exact absurd (b2 0 (by omega)) (by simpa using h)
        · omega
      subst hr
      unfold ins insf
      rw [List.takeWhile_cons, List.dropWhile_cons]
      simp [h]
theorem insf_length (ns : List Int) (x : Int) : (insf ns x).length = ns.length + 1 := by
  unfold insf
  have := congrArg List.length (List.takeWhile_append_dropWhile (p := fun y => decide (y < x)) (l := ns))
  rw [List.length_append] at this
  rw [List.length_append, List.length_cons]
  omega
theorem srt_iff {ns : List Int} : Srt ns ↔ ns.Pairwise (· ≤ ·) := by
  rw [List.pairwise_iff_getElem]
  constructor
  · intro h i j hi hj hij
    have := h i j (by omega) hj
    simpa [List.getD_eq_getElem?_getD, hi, hj] using this
  · intro h i j hij hj
    rcases Nat.lt_or_ge i j with h1 | h1
    · have := h i j (by omega) hj h1
      simpa [List.getD_eq_getElem?_getD, hj, show i < ns.length by omega] using this
    · have : i = j := by omega
      subst this; exact Int.le_refl _
theorem insf_srt {ns : List Int} {x : Int} (h : Srt ns) : Srt (insf ns x) := by
  rw [srt_iff] at h ⊢
  induction ns with
  | nil => simp [insf]
  | cons y ns ih =>
    rw [List.pairwise_cons] at h
    have ih' := ih h.2
    unfold insf at ih' ⊢
    rw [List.takeWhile_cons, List.dropWhile_cons]
    by_cases hy : y < x
    · simp only [hy, decide_true, if_true, List.cons_append]
      rw [List.pairwise_cons]
      refine ⟨fun z hz => ?_, ih'⟩
      rcases List.mem_append.mp hz with hz | hz
      · exact h.1 z (List.takeWhile_prefix _ |>.subset hz)
      · rcases List.mem_cons.mp hz with rfl | hz
        · omega
        · exact h.1 z (List.dropWhile_suffix _ |>.subset hz)
    · simp only [hy, decide_false, List.nil_append]
      simp only [Bool.false_eq_true, if_false, List.nil_append]
      rw [List.pairwise_cons, List.pairwise_cons]
      refine ⟨fun z hz => ?_, h⟩
      rcases List.mem_cons.mp hz with rfl | hz
      · omega
      · have := h.1 z hz; omega
structure Mont (c u o : Int) : Prop where
  c0 : 3 ≤ c
  c1 : c ≤ 61
  lt : c < u
  u0 : 4 ≤ u
  u1 : u ≤ 64
  inv : (c * o + 1) % u = 0
  o0 : 0 ≤ o
  o1 : o ≤ 64
section
variable {c u o : Int} (M : Mont c u o)
include M
theorem Mont.rest (n : Int) : (n + oft n u o * c) % u = 0 := by
  have hu : u ≠ 0 := by have := M.u0; omega
  unfold oft
  have h1 : (n + n % u * o % u * c) % u = (n + n * o * c) % u := by
    rw [Int.add_emod, Int.mul_emod (n % u * o % u), Int.emod_emod_of_dvd _ (Int.dvd_refl u), ← Int.mul_emod, Int.mul_emod (n % u * o), Int.mul_emod (n % u), Int.emod_emod_of_dvd _ (Int.dvd_refl u), ← Int.mul_emod n o, ← Int.mul_emod (n * o), ← Int.add_emod]
  rw [h1]
  have h2 : n + n * o * c = n * (c * o + 1) := by rw [Int.mul_add, Int.mul_one, Int.mul_comm c o, Int.mul_assoc]; omega
  rw [h2, Int.mul_emod, M.inv, Int.mul_zero]
  exact Int.zero_emod u
/-- the unit's inverse by the count -/
theorem Mont.winv : u * ((c * o + 1) / u) = c * o + 1 := by
  have := Int.emod_add_mul_ediv (c * o + 1) u
  rw [M.inv] at this
  omega
theorem Mont.redc {n : Int} (h0 : 0 ≤ n) (h1 : n < c * u) : Mine.redc n c u o = n * ((c * o + 1) / u) % c := by
  have hu : 0 < u := by have := M.u0; omega
  have hc : 0 < c := by have := M.c0; omega
  have hr := M.rest n
  have hw := M.winv
  have e := Int.emod_add_mul_ediv (n + oft n u o * c) u
  rw [hr] at e
  unfold Mine.redc
  have m0 : 0 ≤ oft n u o := Int.emod_nonneg _ (by omega)
  have m1 : oft n u o < u := Int.emod_lt_of_pos _ hu
  generalize oft n u o = m at *
  generalize (n + m * c) / u = t at *
  generalize (c * o + 1) / u = wv at *
  have t0 : 0 ≤ t := by
    have : 0 ≤ m * c := Int.mul_nonneg m0 (by omega)
    have h2 : 0 ≤ u * t := by omega
    rcases Int.lt_or_le t 0 with h3 | h3
    · have := Int.mul_neg_of_pos_of_neg hu h3; omega
    · exact h3
  have t1 : t < 2 * c := by
    have h3 : m * c ≤ u * c := Int.mul_le_mul_of_nonneg_right (by omega) (by omega)
    have h4 : u * t < u * (2 * c) := by
      have h5 : u * (2 * c) = c * u + u * c := by rw [Int.mul_comm c u, Int.two_mul, Int.mul_add]
      omega
    exact Int.lt_of_mul_lt_mul_left h4 (by omega)
  have ht : t % c = n * wv % c := by
    have h6 : n * wv = t + c * (o * t - m * wv) := by
      have h7 : n = u * t - m * c := by omega
      rw [h7, Int.sub_mul, Int.mul_right_comm, hw, Int.mul_sub, Int.add_mul, Int.one_mul, Int.mul_assoc, Int.mul_assoc m c, Int.mul_left_comm m c]
      omega
    rw [h6, Int.add_mul_emod_self_left]
  rw [← ht]
  by_cases hge : t ≥ c
  · rw [if_pos hge]
    have : t % c = (t - c) % c := by rw [Int.sub_emod, Int.emod_self, Int.sub_zero, Int.emod_emod_of_dvd _ (Int.dvd_refl c)]
    rw [this, Int.emod_eq_of_lt (by omega) (by omega)]
  · rw [if_neg hge, Int.emod_eq_of_lt t0 (by omega)]
theorem Mont.kp_bound (x : Int) : 0 ≤ kp c u x ∧ kp c u x < c := ⟨Int.emod_nonneg _ (by have := M.c0; omega), Int.emod_lt_of_pos _ (by have := M.c0; omega)⟩
theorem Mont.uw (x : Int) : x * u * ((c * o + 1) / u) % c = x % c := by
  rw [Int.mul_assoc, M.winv, Int.mul_add, Int.mul_one, Int.mul_left_comm, Int.add_comm, Int.add_mul_emod_self_left]
theorem Mont.small (n : Int) (h : n < c) : n < c * u := by
  have h1 : c * 1 ≤ c * u := Int.mul_le_mul_of_nonneg_left (by have := M.u0; omega) (by have := M.c0; omega)
  omega
/-- taken with one, a kept rest is the rest -/
theorem Mont.out (x : Int) : Mine.redc (kp c u x) c u o = x % c := by
  obtain ⟨h0, h1⟩ := M.kp_bound x
  rw [M.redc h0 (M.small _ h1)]
  show x * u % c * _ % c = _
  rw [Int.mul_emod, Int.emod_emod_of_dvd _ (Int.dvd_refl c), ← Int.mul_emod, M.uw]
end
section
variable {prog : Program} {w : World} {A : Around} {E : Value → Shared → Prop} {s : Shared} {h₀ : Heap} {L : Addr} {news : List (Addr × Obj)} {l : Addr} {vs : List Value} {ns : List Int} {k : Nat} {i x : Int} {u : Tok} {e1 e2 : Expr} {Q : Value → Shared → Prop}
theorem item_M (N : News h₀ L s.heap news) (hm : (l, listOf vs.toArray k) ∈ news) (hI : IntsAre vs ns) (h0 : 0 ≤ i) (hi : i < ns.length) (hs : ns.length < 2 ^ 62) (hx : ns.getD i.toNat 0 = x) (h : ∀ t, Q (.int x t) s) (q1 : subscripted e2 false (.ref l) (.int i u) = operate [.ref l, .int i u] (getItem (.ref l) (.int i u))) (q2 : ∀ r, letTemporaryGo e1 (.ref l) r = pure ()) : wpAny (model prog w) A (subscriptTail e1 e2 (.ref l) (.int i u)) Q E s :=
  item_list_ints (N.isList hm) hI h0 hi (by omega) (fun t => by rw [hx]; exact h t) q1 q2
theorem item_G {g : Heap} {m : Str → Option Value} (F : Fr g L s.heap m) (hl : g.IsList l vs.toArray) (hI : IntsAre vs ns) (h0 : 0 ≤ i) (hi : i < ns.length) (hs : ns.length ≤ 1000) (h : ∀ t, Q (.int (ns.getD i.toNat 0) t) s) (q1 : subscripted e2 false (.ref l) (.int i u) = operate [.ref l, .int i u] (getItem (.ref l) (.int i u))) (q2 : ∀ r, letTemporaryGo e1 (.ref l) r = pure ()) : wpAny (model prog w) A (subscriptTail e1 e2 (.ref l) (.int i u)) Q E s :=
  item_list_ints (Fr.lst F hl) hI h0 hi (by omega) h q1 q2
end
section
open PySem.Spec
variable {prog : Program} {w : World} {A : Around} {E : Value → Shared → Prop} {s : Shared} {env : Env} {h₀ : Heap} {x : Str} {body : List Stmt} {Q : Flow → Shared → Prop}
end
section
variable {c u o : Int} (M : Mont c u o)
include M
end
theorem tabs_grown {P1 P2 : Addr} {l1 k1 l2 k2 : Int} {TL : List (Addr × Obj)} {h : Heap} (T : TabsIs P1 l1 k1 P2 l2 k2 TL) (hg : ∀ p ∈ TL, h.get? p.1 = some p.2) : GrownAt P1 h ∧ GrownAt P2 h := by
  obtain ⟨t1, t2, rfl, -, -⟩ := T
  have tab : ∀ {P : Addr} {l k : Int} (t : TS), (∀ p ∈ tabs1 P l k t, h.get? p.1 = some p.2) → GrownAt P h := by
    intro P l k t hp
    cases t with
    | cold => exact ⟨_, hp _ (.head _)⟩
    | warm c o => exact ⟨_, hp _ (.head _)⟩
  exact ⟨tab t1 fun p hp => hg p (List.mem_append_left _ hp), tab t2 fun p hp => hg p (List.mem_append_right _ hp)⟩
section
open PySem.Spec
variable {prog : Program} {w : World} {A : Around} {E : Value → Shared → Prop} {s : Shared} {env : Env} {h₀ : Heap} {L : Addr} {m : Str → Option Value}
/-- a turn's end in a block whose name is a cell -/
def CellEnd (h₀ : Heap) (L : Addr) (m : Str → Option Value) (s₁ : Shared) (own : List (Addr × Obj)) (rest : Value → List (Addr × Obj) → Prop) (y : Value) (s₂ : Shared) : Prop :=
  ∃ h' tk nw, s₂ = { s₁ with heap := h', toks := tk } ∧ Fr h₀ L h' m ∧ News h₀ L h' (own ++ nw) ∧ Sep (own.map (·.1)) nw ∧ rest y nw
def SrcCell (prog : Program) (w : World) (A : Around) (h₀ : Heap) (L : Addr) (m : Str → Option Value) (env : Env) (ct elt : Expr) (x : Str) (scope : Scope) (cl : List (Str × Addr)) (Q : Value → Shared → Prop) (xv : Value) (s₁ : Shared) : Prop :=
  ∃ (r : Addr) (a b : Int) (t u v : Tok) (n : Nat) (news : List (Addr × Obj)) (J : Nat → List Value → List (Addr × Obj) → Prop), xv = .ref r ∧ A.handled = none ∧ Fr h₀ L s₁.heap m ∧ News h₀ L s₁.heap news ∧ IsRange s₁.heap r a b 1 t u v ∧ Builtin.Range.small a b 1 = true ∧ Builtin.Range.rangeSize a b 1 = ((n : Nat) : Int) ∧ n ≤ sizeLine ∧ J 0 [] news ∧
    (∀ i ys nw I oI C oC c oc D t h tk g (E' : Value → Shared → Prop), i < n → J i ys nw → oc.data = .cell (some (.int (a + (i : Int)) t)) → Fr h₀ L h m → News h₀ L h ((I, oI) :: (C, oC) :: (c, oc) :: (D, LCg.lst ys) :: nw) → Sep [I, C, c, D] nw → I < D → D < C → C < c →
      wpAny (model prog w) A (isTrue ct (compEnvC scope ((x, c) :: cl) C env) (eval ct (compEnvC scope ((x, c) :: cl) C env))) (fun ok s' => if ok = true then
        wpAny (model prog w) A (eval elt (compEnvC scope ((x, c) :: cl) C env)) (CellEnd h₀ L m { s₁ with heap := g } [(I, oI), (C, oC), (c, oc), (D, LCg.lst ys)] (fun y nw' => J (i + 1) (ys ++ [y]) nw')) E' s'
        else CellEnd h₀ L m { s₁ with heap := g } [(I, oI), (C, oC), (c, oc), (D, LCg.lst ys)] (fun _ nw' => J (i + 1) ys nw') Value.none s') E' { s₁ with heap := h, toks := tk }) ∧
    ∀ ys nw, J n ys nw → ∀ g, LCg.FinE h₀ L m { s₁ with heap := g } Q ys nw

theorem lookup_relabel_cell {env : Env} : ∀ {names : List (Str × NameKind)} {x : Str}, names.lookup x = some .cell →
    (names.map fun (n, k) => if (k == NameKind.free && env.scope.kind == .function && env.kindOf n == some .cell) then (n, NameKind.cell) else (n, k)).lookup x = some .cell
  | [], x, h => by simp at h
  | (n, k) :: r, x, h => by
    have ih := @lookup_relabel_cell env r x
    show List.lookup x ((if (k == NameKind.free && env.scope.kind == .function && env.kindOf n == some .cell) = true then (n, NameKind.cell) else (n, k)) :: _) = _
    rw [List.lookup_cons] at h
    cases hx : x == n with
    | true =>
      rw [hx] at h
      cases h
      rw [if_neg (by simp), List.lookup_cons, hx]
    | false =>
      rw [hx] at h
      split <;> (rw [List.lookup_cons, hx]; exact ih h)

theorem comp_cell {ct elt iter : Expr} {x : Str} {px : Pos} {scope : Scope} {cl : List (Str × Addr)} {pos : Pos} {Q : Value → Shared → Prop} (_F₀ : Fr h₀ L s.heap m)
    (hclos : closureFor scope env = pure cl) (hkind : scope.kind = .function)
    (hnames : ∀ y ∈ scope.names, y.2 = .local → scope.names.lookup y.1 = some .local) (hx : scope.names.lookup x = some .cell)
    (hpush : ∀ h, pushCells h scope.names = h.push { cls := .type "cell", data := .cell none }) (hfrom : ∀ n, cellsFrom n scope.names cl = (x, n) :: cl)
    (h : wpAny (model prog w) A (eval iter env) (SrcCell prog w A h₀ L m env ct elt x scope cl Q) E s)
    (hs : ∀ x, foldedSetIterable iter env x = pure x) :
    wpAny (model prog w) A (eval (.ListComp elt [⟨.Name x px, iter, [ct], 0⟩] scope pos) env) Q E s := by
  rw [eval_ListComp]
  refine wpAny_comprehension_free (use := none) rfl hs hclos hkind hnames (wpAny_mono h (fun xv s₁ h₁ => ?_) fun _ _ e => e)
  obtain ⟨r, a, b, t, u, v, n, news, J, rfl, hh, F, N, hr, hsm, hn, hsz, hj, turn, fin⟩ := h₁
  refine wpAny_pyIter_range hr hsm ?_
  generalize hH1 : s₁.heap.push _ = H1
  have hst1 : IsRangeIter H1 s₁.heap.objs.size (a + ((0 : Nat) : Int) * 1) ((n : Int) - ((0 : Nat) : Int)) 1 := by
    subst hH1
    show IsRangeIter _ _ _ _ _
    rw [hn]; simpa using Heap.get?_push_size _ rfl
  have hs1 : H1.objs.size = s₁.heap.objs.size + 1 := by rw [← hH1, Heap.size_push]
  have up1 : ∀ q o, s₁.heap.get? q = some o → H1.get? q = some o := fun q o e => by rw [← hH1]; exact Heap.get?_push_of_some _ e
  generalize hIe : s₁.heap.objs.size = I at *
  refine wpAny_newObj_type ?_
  show wpAny _ _ (newFunctionEnv scope env.globals cl [] env.qual none .none (some env)) _ _ _
  simp only [newFunctionEnv, Option.isSome_some, if_true]
  generalize hH2 : H1.push _ = H2
  have hs2 : H2.objs.size = I + 2 := by rw [← hH2, Heap.size_push, hs1]
  have hD2 : H2.get? H1.objs.size = some (LCg.lst []) := by rw [← hH2]; exact Heap.get?_push_size _ rfl
  have up2 : ∀ q o, H1.get? q = some o → H2.get? q = some o := fun q o e => by rw [← hH2]; exact Heap.get?_push_of_some _ e
  rw [hs1] at hD2 ⊢
  refine wpAny_bind (wpAny_alloc ?_)
  refine wpAny_bind (wpAny_layCells _ (fun name kind cells => by cases hkc : kind == NameKind.cell <;> simp [hkc]) _ _ _ _ ?_)
  dsimp only
  rw [hs2]
  rw [hpush, hfrom, Heap.size_push, hs2]
  generalize hHC : H2.push _ = HC
  have hCs : HC.objs.size = I + 3 := by rw [← hHC, Heap.size_push, hs2]
  have hC3 : HC.Ns (I + 2) (fun _ => none) := by rw [← hHC, ← hs2]; exact Heap.Ns.new H2 (.type "dict")
  have upC : ∀ q o, H2.get? q = some o → HC.get? q = some o := fun q o e => by rw [← hHC]; exact Heap.get?_push_of_some _ e
  generalize hH3 : HC.push _ = H3
  have hs3 : H3.objs.size = I + 4 := by rw [← hH3, Heap.size_push, hCs]
  have hc3 : H3.get? (I + 3) = some { cls := .type "cell", data := .cell none } := by rw [← hH3, ← hCs]; exact Heap.get?_push_size _ rfl
  have up3 : ∀ q o, HC.get? q = some o → H3.get? q = some o := fun q o e => by rw [← hH3]; exact Heap.get?_push_of_some _ e
  have old : ∀ q o, s₁.heap.get? q = some o → H3.get? q = some o := fun q o e => up3 _ _ (upC _ _ (up2 _ _ (up1 _ _ e)))
  have hL : L < I := by rw [← hIe]; exact F.ns.lt
  have fresh₀ : ∀ q, I ≤ q → h₀.get? q = none := fun q hq => by
    cases e : h₀.get? q with
    | none => rfl
    | some o' =>
      have e2 := F.keep q o' e
      have := Heap.lt_size e2
      rw [hIe] at this
      exact absurd this (Nat.not_lt.mpr hq)
  have hII : I ≤ I := Nat.le_refl _
  have hI1 : I ≤ I + 1 := Nat.le_add_right _ _
  have hI2 : I ≤ I + 2 := Nat.le_add_right _ _
  have hI3 : I ≤ I + 3 := Nat.le_add_right _ _
  have nL : ∀ q, I ≤ q → q ≠ L := fun q hq e => absurd hL (Nat.not_lt.mpr (e ▸ hq))
  have W := LCg.range_walks (prog := prog) (w := w) (A := A) (I := I) hh a n
  have n01 : I ≠ I + 1 := Nat.ne_of_lt (Nat.lt_succ_self _)
  have n02 : I ≠ I + 2 := Nat.ne_of_lt (Nat.lt_succ_of_lt (Nat.lt_succ_self _))
  have n03 : I ≠ I + 3 := Nat.ne_of_lt (Nat.lt_succ_of_lt (Nat.lt_succ_of_lt (Nat.lt_succ_self _)))
  have n12 : I + 1 ≠ I + 2 := Nat.ne_of_lt (Nat.lt_succ_self _)
  have n13 : I + 1 ≠ I + 3 := Nat.ne_of_lt (Nat.lt_succ_of_lt (Nat.lt_succ_self _))
  have n23 : I + 2 ≠ I + 3 := Nat.ne_of_lt (Nat.lt_succ_self _)
  have sep0 : Sep [I, I + 2, I + 3, I + 1] news := by
    have lt : ∀ p ∈ news, p.1 < I := fun p hp => by rw [← hIe]; exact Heap.lt_size (N p hp).1
    exact .cons (fun p hp => Nat.ne_of_lt (lt p hp)) (.cons (fun p hp => Nat.ne_of_lt (Nat.lt_of_lt_of_le (lt p hp) hI2)) (.cons (fun p hp => Nat.ne_of_lt (Nat.lt_of_lt_of_le (lt p hp) hI3)) (.cons (fun p hp => Nat.ne_of_lt (Nat.lt_of_lt_of_le (lt p hp) hI1)) .nil)))
  have hst3 : IsRangeIter H3 I (a + ((0 : Nat) : Int) * 1) ((n : Int) - ((0 : Nat) : Int)) 1 := up3 _ _ (upC _ _ (up2 _ _ hst1))
  rw [List.forIn_nil]
  refine wpAny_bind (wpAny_pure (wpAny_pure ?_))
  have loop : ∀ s₃ : Shared, s₃ = { s₁ with heap := H3 } →
      codeAny (model prog w) A (.compLoop (.ListComp elt [⟨.Name x px, iter, [ct], 0⟩] scope pos) 0 (.ref I) (.ref (I + 1)) (compEnvC scope ((x, I + 3) :: cl) (I + 2) env))
        (compPost (model prog w) A E none Q (.ref (I + 1)) (I + 2)) s₃ := by
    rintro s₃ rfl
    refine codeAny_compLoop_tests
      (fun k s' => ∃ h' tk i ys m' oc v₀ nw, s' = { s₁ with heap := h', toks := tk } ∧ i ≤ n ∧ k = n + 1 - i ∧ ys.length ≤ i ∧ IsRangeIter h' I (a + (i : Nat) * 1) ((n : Int) - (i : Nat)) 1 ∧ Fr h₀ L h' m ∧ h'.Ns (I + 2) m' ∧ h'.get? (I + 3) = some oc ∧ oc.data = .cell v₀ ∧
        News h₀ L h' ((I + 1, LCg.lst ys) :: nw) ∧ Sep [I, I + 2, I + 3, I + 1] nw ∧ J i ys nw) ?_ (n + 1)
      ⟨H3, _, 0, [], _, _, none, news, rfl, Nat.zero_le _, rfl, Nat.le_refl _, hst3, F.keeps old, hC3.keeps up3, hc3, rfl, fun p hp => ?_, sep0, hj⟩
    · rintro k s' ⟨h', tk, i, ys, m', oc, v₀, nw, rfl, hi, rfl, hyl, hst', F', hn', hc', hd', N', sp', hJ⟩
      have spI := sp'.head
      have spC := sp'.tail.head
      have spc := sp'.tail.tail.head
      have spD := sp'.tail.tail.tail.head
      by_cases hlt : i < n
      · refine W.item i _ _ _ hlt hst' fun v h₂ tk₂ hPv hst₂ hk₂ => ?_
        obtain ⟨t', rfl⟩ := hPv
        have k₂ : ∀ q o, q ≠ I → h'.get? q = some o → h₂.get? q = some o := fun q o hq e => hk₂ q o (fun hm => hq (List.mem_singleton.mp hm)) e
        refine wpAny_assign_Name (wpAny_storeName_cell hkind (lookup_relabel_cell hx) (c := I + 3) (by show List.lookup x ((x, I + 3) :: cl) = _; rw [List.lookup_cons, beq_self_eq_true]) ⟨oc, k₂ _ _ (Ne.symm n03) hc', hd'⟩ (fun h₃ hcell hs₃ => ?_))
        obtain ⟨oc₃, hc₃, hd₃⟩ := hcell
        refine wpAny_tests_one ?_
        have k₃ : ∀ q o, q ≠ I + 3 → h₂.get? q = some o → h₃.get? q = some o := fun q o hq e => hs₃.extBut q o hq e
        have hst₃ : IsRangeIter h₃ I (a + ((i + 1 : Nat) : Int) * 1) ((n : Int) - ((i + 1 : Nat) : Int)) 1 := k₃ _ _ n03 hst₂
        obtain ⟨oI, heI⟩ : ∃ o, h₃.get? I = some o := ⟨_, hst₃⟩
        have hn₃ : h₃.Ns (I + 2) m' := (hn'.at' fun o e => k₂ _ o (Ne.symm n02) e).at' fun o e => k₃ _ o n23 e
        obtain ⟨oC, heC, hoC⟩ := LCg.ns_obj hn₃
        have F₃ : Fr h₀ L h₃ m := ⟨(F'.ns.at' fun o e => k₂ _ o (Ne.symm (nL _ hII)) e).at' fun o e => k₃ _ o (Ne.symm (nL _ hI3)) e, fun q o e => k₃ _ _ (fun hq => by rw [hq, fresh₀ _ hI3] at e; cases e) (k₂ _ _ (fun hq => by rw [hq, fresh₀ _ hII] at e; cases e) (F'.keep q o e)), F'.above⟩
        have N₃ : News h₀ L h₃ ((I, oI) :: (I + 2, oC) :: (I + 3, oc₃) :: (I + 1, LCg.lst ys) :: nw) := fun p hp => by
          rcases List.mem_cons.mp hp with rfl | hp
          · exact ⟨heI, nL _ hII, fresh₀ _ hII⟩
          · rcases List.mem_cons.mp hp with rfl | hp
            · exact ⟨heC, nL _ hI2, fresh₀ _ hI2⟩
            · rcases List.mem_cons.mp hp with rfl | hp
              · exact ⟨hc₃, nL _ hI3, fresh₀ _ hI3⟩
              · have z := N' p hp
                rcases List.mem_cons.mp hp with rfl | hp
                · exact ⟨k₃ _ _ n13 (k₂ _ _ (Ne.symm n01) z.1), z.2⟩
                · exact ⟨k₃ _ _ (spc p hp) (k₂ _ _ (spI p hp) z.1), z.2⟩
        refine wpAny_mono (turn i ys nw I oI (I + 2) oC (I + 3) oc₃ (I + 1) t' h₃ _ s₁.heap _ hlt hJ hd₃ F₃ N₃ sp' (Nat.lt_succ_self _) (Nat.lt_succ_self _) (Nat.lt_succ_self _)) (fun ok s₄ h₄ => ?_) fun _ _ e => e
        cases ok with
        | true =>
          simp only [if_true] at h₄ ⊢
          refine wpAny_mono h₄ (fun y s₅ h₅ => ?_) fun _ _ e => e
          obtain ⟨h₄, tk₄, nw₄, rfl, F₄, N₄, sp₄, hJ₄⟩ := h₅
          have zI := (N₄ (I, oI) (.head _)).1
          have zC := (N₄ (I + 2, oC) (.tail _ (.head _))).1
          have zc := (N₄ (I + 3, oc₃) (.tail _ (.tail _ (.head _)))).1
          have zD := (N₄ (I + 1, LCg.lst ys) (.tail _ (.tail _ (.tail _ (.head _))))).1
          have st₄ : IsRangeIter h₄ I (a + ((i + 1 : Nat) : Int) * 1) ((n : Int) - ((i + 1 : Nat) : Int)) 1 := by
            have : h₃.get? I = some _ := hst₃
            show h₄.get? I = some _
            rw [zI, ← heI]; exact this
          refine append_at (hsz := by show ys.toArray.size ≤ sizeLine; rw [List.size_toArray]; exact Nat.le_trans (Nat.le_trans hyl hi) hsz) zD fun h₅ hs₅ hD₅ => ?_
          have k₅ : ∀ q o, q ≠ I + 1 → h₄.get? q = some o → h₅.get? q = some o := fun q o hq e => hs₅.extBut q o hq e
          refine ⟨n + 1 - (i + 1), by omega, h₅, tk₄, i + 1, ys ++ [y], _, oc₃, _, nw₄, rfl, hlt, rfl, by rw [List.length_append, List.length_singleton]; exact Nat.succ_le_succ hyl, k₅ _ _ n01 st₄, F₄.change hs₅ (nL _ hI1) (fresh₀ _ hI1),
            (hoC.ns zC).at' fun o e => k₅ _ o (Ne.symm n12) e, k₅ _ _ (Ne.symm n13) zc, hd₃, fun p hp => ?_, sp₄, hJ₄⟩
          rcases List.mem_cons.mp hp with rfl | hp
          · exact ⟨hD₅.trans (congrArg some (LCg.lst_snoc ys y)), nL _ hI1, fresh₀ _ hI1⟩
          · have z := N₄ p (.tail _ (.tail _ (.tail _ (.tail _ hp))))
            exact ⟨k₅ _ _ (sp₄.tail.tail.tail.head p hp) z.1, z.2⟩
        | false =>
          simp only [Bool.false_eq_true, if_false] at h₄ ⊢
          obtain ⟨h₅, tk₄, nw₄, rfl, F₄, N₄, sp₄, hJ₄⟩ := h₄
          have zI := (N₄ (I, oI) (.head _)).1
          have zC := (N₄ (I + 2, oC) (.tail _ (.head _))).1
          have zc := (N₄ (I + 3, oc₃) (.tail _ (.tail _ (.head _)))).1
          have st₄ : IsRangeIter h₅ I (a + ((i + 1 : Nat) : Int) * 1) ((n : Int) - ((i + 1 : Nat) : Int)) 1 := by
            have : h₃.get? I = some _ := hst₃
            show h₅.get? I = some _
            rw [zI, ← heI]; exact this
          exact ⟨n + 1 - (i + 1), by omega, h₅, tk₄, i + 1, ys, _, oc₃, _, nw₄, rfl, hlt, rfl, Nat.le_succ_of_le hyl, st₄, F₄, hoC.ns zC, zc, hd₃, fun p hp => N₄ p (.tail _ (.tail _ (.tail _ hp))), sp₄, hJ₄⟩
      · obtain rfl : i = n := Nat.le_antisymm hi (Nat.not_lt.mp hlt)
        refine W.done _ _ _ hst' fun h₂ tk₂ hk₂ => ?_
        have k₂ : ∀ q o, q ≠ I → h'.get? q = some o → h₂.get? q = some o := fun q o hq e => hk₂ q o (fun hm => hq (List.mem_singleton.mp hm)) e
        have F₂ : Fr h₀ L h₂ m := ⟨F'.ns.at' fun o e => k₂ _ o (Ne.symm (nL _ hII)) e, fun q o e => k₂ _ _ (fun hq => by rw [hq, fresh₀ _ hII] at e; cases e) (F'.keep q o e), F'.above⟩
        refine ⟨m', hn'.at' fun o e => k₂ _ o (Ne.symm n02) e, fun g hg => fin ys nw hJ s₁.heap (I + 1) g tk₂ (F₂.change hg (nL _ hI2) (fresh₀ _ hI2)) (fun p hp => ?_) ?_⟩
        · have z := N' p hp
          rcases List.mem_cons.mp hp with rfl | hp
          · exact ⟨hg.extBut _ _ n12 (k₂ _ _ (Ne.symm n01) z.1), z.2⟩
          · exact ⟨hg.extBut _ _ (spC p hp) (k₂ _ _ (spI p hp) z.1), z.2⟩
        · have : ∀ l : List (Addr × Obj), (∀ p ∈ l, p.1 ≠ I + 1) → LCg.Off1 (I + 1) l := by
            intro l
            induction l with
            | nil => intro _; trivial
            | cons q r ih => intro hq; exact ⟨hq q (.head _), ih fun p hp => hq p (.tail _ hp)⟩
          exact this nw spD
    · rcases List.mem_cons.mp hp with rfl | hp
      · exact ⟨up3 _ _ (upC _ _ hD2), nL _ hI1, fresh₀ _ hI1⟩
      · exact ⟨old _ _ (N p hp).1, (N p hp).2⟩
  exact codeAny_compStart_list (loop _ rfl) (W.self 0 _ _ _ hst3 (loop _ rfl))
end
/-- one step along the ring, and many -/
def stp (ls : List Int) (x : Int) : Int := ls.getD x.toNat 0
def it (ls : List Int) : Nat → Int → Int
  | 0, x => x
  | k + 1, x => stp ls (it ls k x)
theorem it_add (ls : List Int) (a : Nat) : ∀ (b : Nat) (x : Int), it ls (a + b) x = it ls b (it ls a x)
  | 0, _ => rfl
  | b + 1, x => by show stp ls (it ls (a + b) x) = stp ls (it ls b (it ls a x)); rw [it_add ls a b]
/-- the places lead to places -/
structure Lds (ls : List Int) (n : Nat) : Prop where
  len : ls.length = n
  n1 : 1 ≤ n
  n12 : n ≤ 12
  b : ∀ x ∈ ls, 0 ≤ x ∧ x < n
section
variable {ls : List Int} {n : Nat} (H : Lds ls n)
include H
theorem Lds.stp {x : Int} (h0 : 0 ≤ x) (h1 : x < n) : 0 ≤ Mine.stp ls x ∧ Mine.stp ls x < n := by
  have hl : x.toNat < ls.length := by rw [H.len]; omega
  have e : Mine.stp ls x = ls[x.toNat] := by unfold Mine.stp; rw [List.getD_eq_getElem?_getD, List.getElem?_eq_getElem hl]; rfl
  rw [e]
  exact H.b _ (List.getElem_mem hl)
theorem Lds.it {x : Int} (h0 : 0 ≤ x) (h1 : x < n) : ∀ k, 0 ≤ Mine.it ls k x ∧ Mine.it ls k x < n
  | 0 => ⟨h0, h1⟩
  | k + 1 => H.stp (Lds.it h0 h1 k).1 (Lds.it h0 h1 k).2
end
theorem range_small {k : Int} (h0 : 0 ≤ k) (h1 : k ≤ 1000) : Builtin.Range.small 0 k 1 = true := small_one (by omega) (by omega) (by omega) (by omega)
theorem range_size {k : Int} (h0 : 0 ≤ k) : Builtin.Range.rangeSize 0 k 1 = ((k.toNat : Nat) : Int) := by rw [rangeSize_nat]; congr 1; omega
def rowL (ls : List Int) (x : Int) (i : Nat) : List Int := (List.range i).map fun (j : Nat) => it ls j x
def ordW (ls : List Int) (x : Int) : Nat → List Int
  | 0 => []
  | i + 1 => insf (ordW ls x i) (it ls i x)
theorem rowL_length (ls : List Int) (x : Int) (i : Nat) : (rowL ls x i).length = i := by simp [rowL]
theorem rowL_succ (ls : List Int) (x : Int) (i : Nat) : rowL ls x (i + 1) = rowL ls x i ++ [it ls i x] := by simp [rowL, List.range_succ]
theorem rowL_get {ls : List Int} {x : Int} {i j : Nat} (h : j < i) : (rowL ls x i)[j]? = some (it ls j x) := by simp [rowL, List.getElem?_range h]
theorem mem_rowL {ls : List Int} {x y : Int} {i : Nat} : y ∈ rowL ls x i ↔ ∃ j, j < i ∧ it ls j x = y := by
  unfold rowL
  rw [List.mem_map]
  exact ⟨fun ⟨j, hj, e⟩ => ⟨j, List.mem_range.mp hj, e⟩, fun ⟨j, hj, e⟩ => ⟨j, List.mem_range.mpr hj, e⟩⟩
theorem mem_insf {ns : List Int} {x y : Int} : y ∈ insf ns x ↔ y = x ∨ y ∈ ns := by
  unfold insf
  have e := List.takeWhile_append_dropWhile (p := fun z => decide (z < x)) (l := ns)
  rw [List.mem_append, List.mem_cons]
  constructor
  · rintro (h | h | h)
    · right; rw [← e]; exact List.mem_append_left _ h
    · exact .inl h
    · right; rw [← e]; exact List.mem_append_right _ h
  · rintro (h | h)
    · exact .inr (.inl h)
    · rw [← e] at h
      rcases List.mem_append.mp h with h | h
      · exact .inl h
      · exact .inr (.inr h)
theorem mem_ordW {ls : List Int} {x y : Int} : ∀ {i : Nat}, y ∈ ordW ls x i ↔ y ∈ rowL ls x i
  | 0 => by simp [ordW, rowL]
  | i + 1 => by
    rw [ordW, mem_insf, mem_ordW, rowL_succ, List.mem_append, List.mem_singleton]
    exact ⟨fun h => h.elim .inr .inl, fun h => h.elim .inr .inl⟩
theorem ordW_length (ls : List Int) (x : Int) : ∀ i, (ordW ls x i).length = i
  | 0 => rfl
  | i + 1 => by rw [ordW, insf_length, ordW_length ls x i]
theorem ordW_srt (ls : List Int) (x : Int) : ∀ i, Srt (ordW ls x i)
  | 0 => fun i j _ h => by simp [ordW] at h
  | i + 1 => insf_srt (ordW_srt ls x i)
theorem bis_mem {ns : List Int} {x r : Int} (b : Bis ns x r) (h : x ∈ ns) : r < ns.length ∧ ns.getD r.toNat 0 = x ∨ ∃ i : Nat, r < i ∧ i < ns.length ∧ ns.getD i 0 = x := by
  obtain ⟨b0, b1, b2, b3⟩ := b
  obtain ⟨i, hi, e⟩ := List.getElem_of_mem h
  have e' : ns.getD i 0 = x := by rw [List.getD_eq_getElem?_getD, List.getElem?_eq_getElem hi]; exact e
  rcases Int.lt_trichotomy (i : Int) r with h1 | h1 | h1
  · have := b2 i h1; omega
  · left
    refine ⟨by omega, ?_⟩
    have : r.toNat = i := by omega
    rw [this]; exact e'
  · exact .inr ⟨i, h1, hi, e'⟩
theorem bis_found {ns : List Int} {x r : Int} (hs : Srt ns) (b : Bis ns x r) (h : x ∈ ns) : r < ns.length ∧ ns.getD r.toNat 0 = x := by
  rcases bis_mem b h with h1 | ⟨i, h1, h2, e⟩
  · exact h1
  · obtain ⟨b0, b1, b2, b3⟩ := b
    have hr : r.toNat < ns.length := by omega
    have h3 := b3 r.toNat (by omega) hr
    have h4 := hs r.toNat i (by omega) h2
    exact ⟨by omega, by omega⟩
theorem bis_at {ns : List Int} {x r : Int} (b : Bis ns x r) (h1 : r < ns.length) (h2 : ns.getD r.toNat 0 = x) : x ∈ ns := by
  have hr : r.toNat < ns.length := by have := b.1; omega
  rw [List.getD_eq_getElem?_getD, List.getElem?_eq_getElem hr] at h2
  rw [← h2]; exact List.getElem_mem hr
theorem nodup_len : ∀ {l l' : List Int}, l.Nodup → (∀ x ∈ l, x ∈ l') → l.length ≤ l'.length
  | [], _, _, _ => Nat.zero_le _
  | x :: l, l', h, hs => by
    rw [List.nodup_cons] at h
    have hx := hs x (.head _)
    have ih := nodup_len (l' := l'.erase x) h.2 fun y hy => by
      refine (List.mem_erase_of_ne fun e => ?_).mpr (hs y (.tail _ hy))
      exact h.1 (e ▸ hy)
    rw [List.length_erase_of_mem hx] at ih
    have := List.length_pos_of_mem hx
    show l.length + 1 ≤ l'.length
    omega
theorem pigeon {l : List Int} {n : Nat} (h : l.Nodup) (hb : ∀ x ∈ l, 0 ≤ x ∧ x < n) : l.length ≤ n := by
  have := nodup_len (l' := rangeKs 0 n) h fun x hx => by
    obtain ⟨h0, h1⟩ := hb x hx
    unfold rangeKs
    exact List.mem_map.mpr ⟨x.toNat, List.mem_range.mpr (by omega), by omega⟩
  rwa [rangeKs_length] at this
theorem nodup_snoc {l : List Int} {x : Int} (h : l.Nodup) (hx : x ∉ l) : (l ++ [x]).Nodup := by
  rw [List.nodup_append]
  refine ⟨h, by simp, fun a ha b hb => ?_⟩
  rw [List.mem_singleton.mp hb]
  exact fun e => hx (e ▸ ha)
/-- a way of st steps into a ring of rg -/
structure WayIs (ls : List Int) (x : Int) (st rg : Nat) : Prop where
  r1 : 1 ≤ rg
  eq : it ls (st + rg) x = it ls st x
  nd : (rowL ls x (st + rg)).Nodup
section
variable {prog : Program} {w : World} {A : Around} {E : Value → Shared → Prop} {s : Shared} {h₀ : Heap} {L : Addr} {news : List (Addr × Obj)}
theorem index_M {l : Addr} {vs : List Value} {ns : List Int} {k : Nat} {y : Int} {t : Tok} {Q : Value → Shared → Prop} (N : News h₀ L s.heap news) (hm : (l, listOf vs.toArray k) ∈ news) (hi : IntsAre vs ns)
    (hb : ns.length ≤ 1000) (hk : y ∈ ns) (h : Q (.int (ns.idxOf y : Nat) s.toks) { s with toks := s.toks + 1 }) :
    wpAny (model prog w) A (call (.builtin "list.index") [.ref l, .int y t]) Q E s := by
  have ho := N.get hm
  have hlen := hi.length
  have hj : ns.idxOf y < ns.length := List.idxOf_lt_length_iff.mpr hk
  refine call_meets PySem.F.slot_list_index ⟨_, ho, rfl⟩ PySem.F.entry_list_index (PySem.F.args_list_index_2 _ _)
    (PySem.SeqAt.list_indexAt l vs.toArray k none #[] (.int y t) (isInt y) (ns.idxOf y) (by simpa [hlen] using hj) (by omega) ?_ ?_) ⟨ho, fun z hz => (eq_isInt y t hi z (by simpa using hz)).at _ _, h⟩
  · show isInt y vs[ns.idxOf y] = true
    rw [isInt_at y hi _ (by omega) hj]
    simpa using List.getElem_idxOf hj
  · intro j hjs hlt
    show isInt y vs[j] = false
    rw [isInt_at y hi j (by simpa using hjs) (by omega)]
    exact ne_of_lt_idxOf hlt _
end
theorem way_found {ls : List Int} {x : Int} {i : Nat} (h : it ls i x ∈ rowL ls x i) (hn : (rowL ls x i).Nodup) : ∃ st rg : Nat, (rowL ls x i).idxOf (it ls i x) = st ∧ st + rg = i ∧ WayIs ls x st rg := by
  have hj : (rowL ls x i).idxOf (it ls i x) < i := by
    have := List.idxOf_lt_length_iff.mpr h
    rwa [rowL_length] at this
  refine ⟨_, i - (rowL ls x i).idxOf (it ls i x), rfl, by omega, ?_⟩
  have e : (rowL ls x i)[(rowL ls x i).idxOf (it ls i x)]? = some (it ls i x) := by
    rw [List.getElem?_eq_getElem (by rw [rowL_length]; exact hj), List.getElem_idxOf]
  rw [rowL_get hj] at e
  have es : (rowL ls x i).idxOf (it ls i x) + (i - (rowL ls x i).idxOf (it ls i x)) = i := by omega
  exact ⟨by omega, by rw [es]; exact (Option.some.inj e).symm, by rw [es]; exact hn⟩
/-- a mark that bids the walk stop at the next if -/
def MarkIf : Prop := True
/-- behind an if that goes on -/
def IfEnd (g : Heap) (L : Addr) (m : Str → Option Value) (news : List (Addr × Obj)) (s : Shared) (f : Flow) (s' : Shared) : Prop :=
  f = .next ∧ ∃ h tk, s' = { s with heap := h, toks := tk } ∧ Fr g L h m ∧ News g L h news
theorem if_join {M : Model} {A : Around} {E : Value → Shared → Prop} {s : Shared} {t : Sem Flow} {Q : Flow → Shared → Prop} {g : Heap} {L : Addr} {m : Str → Option Value} {news : List (Addr × Obj)}
    (h1 : wpAny M A t (IfEnd g L m news s) E s) (h2 : ∀ h tk, Fr g L h m → News g L h news → Q .next { s with heap := h, toks := tk }) : wpAny M A t Q E s :=
  wpAny_mono h1 (fun f s' hq => by obtain ⟨rfl, h, tk, rfl, F, N⟩ := hq; exact h2 h tk F N) fun _ _ e => e
theorem re_o {h h' h₀ : Heap} {L D : Addr} {o o' : Obj} {mts ps qs : List (Addr × Obj)} (N : News h₀ L h (ps ++ (D, o) :: qs)) (G : KeepsBut (mts.map (·.1)) h h') (hm : mts = [(D, o)]) (hD : h'.get? D = some o') (a : ∀ p ∈ ps, p.1 ≠ D) (b : ∀ p ∈ qs, p.1 ≠ D) : News h₀ L h' (ps ++ (D, o') :: qs) := by
  subst hm
  have n := N (D, o) (List.mem_append_right _ (.head _))
  have k : ∀ p ∈ ps ++ (D, o) :: qs, p.1 ≠ D → h'.get? p.1 = some p.2 ∧ p.1 ≠ L ∧ h₀.get? p.1 = none := fun p hp hne =>
    ⟨G _ _ (fun hx => hne (List.mem_singleton.mp hx)) (N p hp).1, (N p hp).2⟩
  refine news_append (fun p hp => k p (List.mem_append_left _ hp) (a p hp)) (fun p hp => ?_)
  rcases List.mem_cons.mp hp with rfl | hp
  · exact ⟨hD, n.2⟩
  · exact k p (List.mem_append_right _ (.tail _ hp)) (b p hp)
theorem many_facts {k : Nat} {many : Int} (h : (if (if (k : Int) < 12 then (k : Int) else 12) > 1 then (if (k : Int) < 12 then (k : Int) else 12) else 1) = many) : 1 ≤ many ∧ many ≤ 12 ∧ many ≤ k + 1 := by
  subst h
  split <;> split at * <;> omega
theorem lds_of {script : List Int} {many : Int} (h : 1 ≤ many ∧ many ≤ 12 ∧ many ≤ script.length + 1) : Lds (((script ++ [0]).take many.toNat).map fun x => x % many) many.toNat := by
  refine ⟨by simp; omega, by omega, by omega, fun x hx => ?_⟩
  obtain ⟨y, _, rfl⟩ := List.mem_map.mp hx
  have h1 := Int.emod_nonneg y (show many ≠ 0 by omega)
  have h2 := Int.emod_lt_of_pos y (show 0 < many by omega)
  omega
theorem script_name {v : List Value} {ns : List Int} (_ : IntsAre v (ns ++ [0])) : ∃ ns', ns' = ns := ⟨_, rfl⟩
theorem isl_name {g : Heap} {a : Addr} {v : Array Value} (_ : g.IsList a v) : ∃ a', a' = a := ⟨_, rfl⟩
/-- names and what they hold, the rest by m -/
def frL (ps : List (Str × Value)) (m : Str → Option Value) : Str → Option Value := fun n => match ps.lookup n with | some v => some v | none => m n
theorem frs {g h : Heap} {L : Addr} {m : Str → Option Value} (ps : List (Str × Value)) (F : Fr g L h m) (hp : ∀ p ∈ ps, m p.1 = some p.2) : ∃ m' : Str → Option Value, Fr g L h (frL ps m') := by
  refine ⟨m, ?_⟩
  have e : frL ps m = m := by
    funext n
    unfold frL
    cases q : ps.lookup n with
    | none => rfl
    | some v =>
      have := hp (n, v) (by
        clear hp F
        induction ps with
        | nil => simp at q
        | cons a r ih =>
          rw [List.lookup_cons] at q
          cases hb : n == a.1 with
          | true => rw [hb] at q; rw [show a = (n, v) from Prod.ext (beq_iff_eq.mp hb).symm (Option.some.inj q)]; exact .head _
          | false => rw [hb] at q; exact .tail _ (ih q))
      exact this.symm
  rw [e]; exact F
/-- a mark that bids the walk take the rule for a block whose name is a cell -/
def MarkCell : Prop := True
theorem news3_name {g h : Heap} {L a b c : Addr} {x y z : Obj} (_ : News g L h [(a, x), (b, y), (c, z)]) : ∃ a' b' c', a' = a ∧ b' = b ∧ c' = c := ⟨_, _, _, rfl, rfl, rfl⟩
theorem news_name {g h : Heap} {L a : Addr} {x : Obj} {r : List (Addr × Obj)} (_ : News g L h ((a, x) :: r)) : ∃ a', a' = a := ⟨_, rfl⟩
section
variable {ls : List Int} {x : Int} {st rg : Nat} (W : WayIs ls x st rg)
include W
theorem WayIs.per (d : Nat) : it ls (st + d + rg) x = it ls (st + d) x := by
  have e : st + d + rg = st + rg + d := by omega
  rw [e, it_add, W.eq, ← it_add]
theorem WayIs.perq (r : Nat) : ∀ q, it ls (st + (r + rg * q)) x = it ls (st + r) x
  | 0 => by rw [Nat.mul_zero, Nat.add_zero]
  | q + 1 => by
    have e : st + (r + rg * (q + 1)) = st + (r + rg * q) + rg := by rw [Nat.mul_succ]; omega
    rw [e, W.per, WayIs.perq r q]
theorem WayIs.mod (d : Nat) : it ls (st + d) x = it ls (st + d % rg) x := by
  have e : d = d % rg + rg * (d / rg) := (Nat.mod_add_div d rg).symm
  exact (congrArg (fun z => it ls (st + z) x) e).trans (W.perq _ _)
theorem WayIs.inj {i j : Nat} (hi : i < st + rg) (hj : j < st + rg) (e : it ls i x = it ls j x) : i = j := by
  have h := W.nd
  rw [List.nodup_iff_pairwise_ne] at h
  rw [List.pairwise_iff_getElem] at h
  rcases Nat.lt_trichotomy i j with hl | hl | hl
  · have := h i j (by rw [rowL_length]; exact hi) (by rw [rowL_length]; exact hj) hl
    simp [rowL] at this
    exact absurd e this
  · exact hl
  · have := h j i (by rw [rowL_length]; exact hj) (by rw [rowL_length]; exact hi) hl
    simp [rowL] at this
    exact absurd e.symm this
theorem WayIs.eq_of {a b : Nat} (hab : a < b) (e : it ls a x = it ls b x) : st ≤ a ∧ (b - a) % rg = 0 := by
  have r1 := W.r1
  have nf : ∀ k, st ≤ k → it ls k x = it ls (st + (k - st) % rg) x := fun k hk => by
    have := W.mod (k - st)
    rwa [show st + (k - st) = k by omega] at this
  have lt : ∀ k, st + (k - st) % rg < st + rg := fun k => by have := Nat.mod_lt (k - st) (show rg > 0 by omega); omega
  rcases Nat.lt_or_ge a st with ha | ha
  · rcases Nat.lt_or_ge b st with hb | hb
    · have := W.inj (by omega) (by omega) e; omega
    · rw [nf b hb] at e
      have := W.inj (by omega) (lt b) e; omega
  · refine ⟨ha, ?_⟩
    rw [nf a ha, nf b (by omega)] at e
    have h1 := W.inj (lt a) (lt b) e
    have h2 : (a - st) % rg = (b - st) % rg := by omega
    have h3 : b - a = (b - st) - (a - st) := by omega
    rw [h3]
    exact Nat.sub_mod_eq_zero_of_mod_eq h2.symm
theorem WayIs.eq_to {a b : Nat} (ha : st ≤ a) (hab : a ≤ b) (h : (b - a) % rg = 0) : it ls a x = it ls b x := by
  have e : b = st + ((a - st) + rg * ((b - a) / rg)) := by
    have := Nat.mod_add_div (b - a) rg
    omega
  have e2 : a = st + (a - st) := by omega
  rw [e, W.perq]
  exact congrArg (fun z => it ls z x) e2
/-- the first meeting is soon -/
theorem WayIs.soon : ∃ t, 1 ≤ t ∧ t ≤ st + rg ∧ it ls t x = it ls (2 * t) x := by
  have r1 := W.r1
  obtain ⟨u, hu⟩ : ∃ u, (st = 0 ∧ u = 1) ∨ (1 ≤ st ∧ u = st) := by
    rcases Nat.eq_zero_or_pos st with h | h
    · exact ⟨1, .inl ⟨h, rfl⟩⟩
    · exact ⟨st, .inr ⟨h, rfl⟩⟩
  have hm := Nat.mod_add_div (u + rg - 1) rg
  have hlt := Nat.mod_lt (u + rg - 1) (show rg > 0 by omega)
  have hmul := Nat.mul_mod_right rg ((u + rg - 1) / rg)
  generalize rg * ((u + rg - 1) / rg) = t at *
  refine ⟨t, by omega, by omega, W.eq_to (by omega) (by omega) ?_⟩
  rw [show 2 * t - t = t by omega]
  exact hmul
/-- .. and it is where Floyd says -/
theorem WayIs.meet {t : Nat} (h1 : 1 ≤ t) (he : it ls t x = it ls (2 * t) x) : st ≤ t ∧ t % rg = 0 := by
  obtain ⟨a, b⟩ := W.eq_of (a := t) (b := 2 * t) (by omega) he
  rw [show 2 * t - t = t by omega] at b
  exact ⟨a, b⟩
theorem WayIs.begin {t c : Nat} (h1 : 1 ≤ t) (hr : t % rg = 0) (he : it ls c x = it ls (t + c) x) : st ≤ c :=
  (W.eq_of (a := c) (b := t + c) (by omega) he).1
theorem WayIs.atst {t : Nat} (hr : t % rg = 0) : it ls st x = it ls (t + st) x := W.eq_to (Nat.le_refl _) (by omega) (by rw [show t + st - st = t by omega]; exact hr)
end
section
variable {prog : Program} {w : World} {A : Around} {E : Value → Shared → Prop} {s : Shared} {h₀ : Heap} {L : Addr} {m : Str → Option Value} {news : List (Addr × Obj)}
theorem sorted_M {l : Addr} {vs : List Value} {ns : List Int} {k : Nat} {Q : Value → Shared → Prop} (F : Fr h₀ L s.heap m) (N : News h₀ L s.heap news) (hm : (l, listOf vs.toArray k) ∈ news) (hI : IntsAre vs ns) (hb : ns.length < 64)
    (h : ∀ D vs' ns' e h', Fr h₀ L h' m → News h₀ L h' ((D, listOf vs'.toArray e) :: news) → (∀ p ∈ news, p.1 < D) → IntsAre vs' ns' → ns'.Perm ns → ns'.Pairwise (· ≤ ·) → Q (.ref D) { s with heap := h' }) :
    wpAny (model prog w) A (call (.builtin "sorted") [.ref l]) Q E s :=
  sorted_N F N (N.isList hm) hI (by rw [hI.length]; exact hb) fun h' vs' ns' e F' N' i p o => h _ vs' ns' e h' F' N' (fun q hq => Nat.lt_succ_of_lt (Heap.lt_size (N q hq).1)) i p o
end
theorem sorted_eq : ∀ {a b : List Int}, a.Perm b → a.Pairwise (· ≤ ·) → b.Pairwise (· ≤ ·) → a = b
  | [], b, h, _, _ => (List.Perm.nil_eq h)
  | x :: a, [], h, _, _ => absurd h.length_eq (by simp)
  | x :: a, y :: b, h, ha, hb => by
    rw [List.pairwise_cons] at ha hb
    have h1 : x ≤ y := by
      have : y ∈ x :: a := h.symm.subset (.head _)
      rcases List.mem_cons.mp this with e | hy
      · omega
      · exact ha.1 y hy
    have h2 : y ≤ x := by
      have : x ∈ y :: b := h.subset (.head _)
      rcases List.mem_cons.mp this with e | hx
      · omega
      · exact hb.1 x hx
    have e : x = y := by omega
    subst e
    rw [sorted_eq (List.Perm.cons_inv h) ha.2 hb.2]
theorem perm_of : ∀ {l l' : List Int}, l.Nodup → (∀ x ∈ l, x ∈ l') → l'.length ≤ l.length → l.Perm l'
  | [], l', _, _, hl => by rw [List.eq_nil_of_length_eq_zero (Nat.le_zero.mp hl)]
  | x :: l, l', h, hs, hl => by
    rw [List.nodup_cons] at h
    have hx := hs x (.head _)
    have hp := List.perm_cons_erase hx
    have ih := perm_of (l' := l'.erase x) h.2 (fun y hy => by
      refine (List.mem_erase_of_ne fun e => ?_).mpr (hs y (.tail _ hy))
      exact h.1 (e ▸ hy)) (by rw [List.length_erase_of_mem hx]; have : (x :: l).length = l.length + 1 := rfl; omega)
    exact (List.Perm.cons x ih).trans hp.symm
/-- the places that come to themselves again -/
def back (ls : List Int) (n : Nat) (p : Int) : List Int := (rangeKs 1 n).map fun k => it ls k.toNat p
def ringsL (ls : List Int) (n : Nat) : List Int := (rangeKs 0 n).filter fun p => (back ls n p).any (· == p)
theorem back_iff {ls : List Int} {n : Nat} {p : Int} : (back ls n p).any (· == p) = true ↔ ∃ k : Nat, 1 ≤ k ∧ k ≤ n ∧ it ls k p = p := by
  unfold back rangeKs
  rw [List.any_eq_true]
  constructor
  · rintro ⟨y, hy, e⟩
    obtain ⟨k, hk, rfl⟩ := List.mem_map.mp hy
    obtain ⟨i, hi, rfl⟩ := List.mem_map.mp hk
    have := List.mem_range.mp hi
    exact ⟨(1 + (i : Int)).toNat, by omega, by omega, by simpa using e⟩
  · rintro ⟨k, k1, kn, e⟩
    refine ⟨it ls k p, List.mem_map.mpr ⟨(k : Int), List.mem_map.mpr ⟨k - 1, List.mem_range.mpr (by omega), by omega⟩, by simp⟩, by simpa using e⟩
theorem mem_rangeK {n : Nat} {p : Int} : p ∈ rangeKs 0 n ↔ 0 ≤ p ∧ p < n := by
  unfold rangeKs
  rw [List.mem_map]
  constructor
  · rintro ⟨i, hi, rfl⟩
    have := List.mem_range.mp hi
    omega
  · rintro ⟨h0, h1⟩
    exact ⟨p.toNat, List.mem_range.mpr (by omega), by omega⟩
theorem mem_rings {ls : List Int} {n : Nat} {p : Int} : p ∈ ringsL ls n ↔ (0 ≤ p ∧ p < n) ∧ ∃ k : Nat, 1 ≤ k ∧ k ≤ n ∧ it ls k p = p := by
  unfold ringsL
  rw [List.mem_filter, mem_rangeK, back_iff]
theorem rangeKs_pair (a : Int) (n : Nat) : (rangeKs a n).Pairwise (· < ·) := by
  unfold rangeKs
  rw [List.pairwise_map]
  exact (List.pairwise_lt_range (n := n)).imp fun h => by omega
theorem rings_pair (ls : List Int) (n : Nat) : (ringsL ls n).Pairwise (· < ·) := List.Pairwise.filter _ (rangeKs_pair 0 n)
theorem it_mul {ls : List Int} {p : Int} {a : Nat} (h : it ls a p = p) : ∀ c : Nat, it ls (a * c) p = p
  | 0 => rfl
  | c + 1 => by rw [Nat.mul_succ, it_add, it_mul h c, h]
section
variable {ls : List Int} {n : Nat} (H : Lds ls n)
include H
theorem Lds.rings_stp {p : Int} (h : p ∈ ringsL ls n) : Mine.stp ls p ∈ ringsL ls n := by
  rw [mem_rings] at h ⊢
  obtain ⟨⟨h0, h1⟩, k, k1, kn, e⟩ := h
  refine ⟨H.stp h0 h1, k, k1, kn, ?_⟩
  have e1 : Mine.it ls k (Mine.it ls 1 p) = Mine.it ls 1 (Mine.it ls k p) := by rw [← it_add, ← it_add, Nat.add_comm]
  have e2 : Mine.it ls k (Mine.stp ls p) = Mine.stp ls (Mine.it ls k p) := e1
  rw [e2, e]
omit H in
theorem rings_inj {p q : Int} (hp : p ∈ ringsL ls n) (hq : q ∈ ringsL ls n) (e : Mine.stp ls p = Mine.stp ls q) : p = q := by
  rw [mem_rings] at hp hq
  obtain ⟨_, a, a1, _, ea⟩ := hp
  obtain ⟨_, b, b1, _, eb⟩ := hq
  have h1 := it_mul ea b
  have h2 := it_mul eb a
  rw [Nat.mul_comm] at h2
  have hab : 1 ≤ a * b := Nat.mul_pos a1 b1
  obtain ⟨m, hm⟩ : ∃ m, a * b = 1 + m := ⟨a * b - 1, by omega⟩
  rw [hm, it_add] at h1 h2
  have e' : it ls 1 p = it ls 1 q := e
  rw [← h1, ← h2, e']
theorem Lds.rings_perm : ((ringsL ls n).map (Mine.stp ls)).Perm (ringsL ls n) := by
  refine perm_of ?_ (fun x hx => ?_) (by rw [List.length_map]; exact Nat.le_refl _)
  · rw [List.nodup_iff_pairwise_ne, List.pairwise_map]
    have hp := rings_pair ls n
    refine List.Pairwise.imp_of_mem (fun {a b} ha hb hab e => ?_) hp
    have := rings_inj ha hb e
    omega
  · obtain ⟨p, hp, rfl⟩ := List.mem_map.mp hx
    exact H.rings_stp hp
theorem Lds.rings_sorted {ns : List Int} (hp : ns.Perm ((ringsL ls n).map (Mine.stp ls))) (hs : ns.Pairwise (· ≤ ·)) : ns = ringsL ls n :=
  sorted_eq (hp.trans H.rings_perm) hs ((rings_pair ls n).imp fun h => Int.le_of_lt h)
/-- each way comes to a ring -/
theorem Lds.comes {p : Int} (h0 : 0 ≤ p) (h1 : p < n) : Mine.it ls n p ∈ ringsL ls n := by
  have hex : ∃ i j : Nat, i < j ∧ j ≤ n ∧ Mine.it ls i p = Mine.it ls j p := by
    refine Classical.byContradiction fun hno => ?_
    have nd : (rowL ls p (n + 1)).Nodup := by
      unfold rowL
      rw [List.nodup_iff_pairwise_ne, List.pairwise_map]
      refine List.Pairwise.imp_of_mem (fun {a b} ha hb hab e => ?_) (List.pairwise_lt_range (n := n + 1))
      exact hno ⟨a, b, hab, by have := List.mem_range.mp hb; omega, e⟩
    have := pigeon nd (n := n) (fun y hy => by
      obtain ⟨j, _, e⟩ := mem_rowL.mp hy
      rw [← e]; exact H.it h0 h1 j)
    rw [rowL_length] at this
    omega
  obtain ⟨i, j, hij, hjn, e⟩ := hex
  rw [mem_rings]
  refine ⟨H.it h0 h1 n, j - i, by omega, by omega, ?_⟩
  rw [← it_add]
  have e1 : n + (j - i) = j + (n - i) := by omega
  have e2 : n = i + (n - i) := by omega
  rw [e1, it_add, ← e, ← it_add, ← e2]
end
section
variable {ls : List Int} {x : Int} {st rg : Nat} (W : WayIs ls x st rg)
def insideL (ls : List Int) (x : Int) (st rg : Nat) : List Int := (List.range rg).map fun (i : Nat) => it ls (st + i) x
theorem inside_drop (ls : List Int) (x : Int) (st rg : Nat) : (rowL ls x (st + rg)).drop st = insideL ls x st rg := by
  unfold rowL insideL
  rw [List.range_add, List.map_append, List.drop_left' (by simp), List.map_map]
  rfl
include W
theorem WayIs.inside_perm : ((insideL ls x st rg).map (stp ls)).Perm (insideL ls x st rg) := by
  obtain ⟨r, hr⟩ : ∃ r, rg = r + 1 := ⟨rg - 1, by have := W.r1; omega⟩
  have he := W.eq
  subst hr
  unfold insideL
  rw [List.map_map, List.range_succ, List.map_append]
  have e1 : ((List.range (r + 1)).map fun (i : Nat) => it ls (st + i) x) = it ls st x :: (List.range r).map fun (i : Nat) => it ls (st + (i + 1)) x := by
    rw [List.range_succ_eq_map, List.map_cons, List.map_map]
    rfl
  rw [← List.range_succ] 
  rw [e1]
  have e2 : (stp ls ∘ fun (i : Nat) => it ls (st + i) x) = fun (i : Nat) => it ls (st + (i + 1)) x := rfl
  rw [e2, List.map_cons, List.map_nil]
  have e3 : it ls (st + (r + 1)) x = it ls st x := he
  rw [e3]
  exact List.perm_append_singleton _ _
theorem WayIs.inside_rings {n : Nat} (H : Lds ls n) (h0 : 0 ≤ x) (h1 : x < n) (hwn : st + rg ≤ n) : ∀ y ∈ insideL ls x st rg, y ∈ ringsL ls n := by
  intro y hy
  obtain ⟨i, _, rfl⟩ := List.mem_map.mp hy
  rw [mem_rings]
  refine ⟨H.it h0 h1 _, rg, W.r1, by omega, ?_⟩
  rw [← it_add, W.per]
end
theorem rowL_getD {ls : List Int} {x : Int} {n i : Nat} (h : i < n) : (rowL ls x n).getD i 0 = it ls i x := by
  rw [List.getD_eq_getElem?_getD, rowL_get h]; rfl
theorem four_item {i : Nat} {v : Value} {a : Int} {t1 t2 t3 t4 : Tok} (ha : 0 ≤ a) (ha2 : a ≤ 12) (h : [Value.int a t1, .int (a + 1) t2, .int (a + 17) t3, .int 40 t4][i]? = some v) : ∃ (N : Int) (t : Tok), v = .int N t ∧ a ≤ N ∧ N ≤ 40 := by
  match i, h with
  | 0, h => cases h; exact ⟨_, _, rfl, by omega, by omega⟩
  | 1, h => cases h; exact ⟨_, _, rfl, by omega, by omega⟩
  | 2, h => cases h; exact ⟨_, _, rfl, by omega, by omega⟩
  | 3, h => cases h; exact ⟨_, _, rfl, by omega, by omega⟩
  | i + 4, h => simp at h
theorem WayIs.at {ls : List Int} {x : Int} {st rg : Nat} (W : WayIs ls x st rg) {N : Int} (h : (st : Int) ≤ N) :
    (rowL ls x (st + rg)).getD ((st : Int) + (N - st) % rg).toNat 0 = it ls N.toNat x := by
  have r1 := W.r1
  obtain ⟨d, rfl⟩ : ∃ d : Nat, N = (st : Int) + d := ⟨(N - st).toNat, by omega⟩
  have e1 : ((st : Int) + (d : Int) - (st : Int)) % (rg : Int) = ((d % rg : Nat) : Int) := by push_cast; congr 1; omega
  rw [e1]
  have hlt := Nat.mod_lt d (show rg > 0 by omega)
  have e2 : ((st : Int) + ((d % rg : Nat) : Int)).toNat = st + d % rg := by omega
  have e3 : ((st : Int) + (d : Int)).toNat = st + d := by omega
  rw [e2, e3, rowL_getD (by omega), ← W.mod]
section
variable {prog : Program} {w : World} {A : Around} {E : Value → Shared → Prop} {s : Shared} {h₀ : Heap} {L : Addr} {m : Str → Option Value} {news : List (Addr × Obj)}
theorem slicefrom_M {l : Addr} {vs : List Value} {ns : List Int} {k : Nat} {x : Int} {t : Tok} {value slice : Expr} {Q : Value → Shared → Prop} (F : Fr h₀ L s.heap m) (N : News h₀ L s.heap news) (hm : (l, listOf vs.toArray k) ∈ news) (hI : IntsAre vs ns) (h0 : 0 ≤ x) (hb : ns.length ≤ 1000)
    (h : ∀ D ws h', Fr h₀ L h' m → News h₀ L h' ((D, listOf (List.toArray ws) 0) :: news) → (∀ p ∈ news, p.1 < D) → IntsAre ws (ns.drop x.toNat) → Q (.ref D) { s with heap := h' })
    (hs : subscripted slice false (.ref l) (.ref s.heap.objs.size) = operate [.ref s.heap.objs.size, .ref l] (getItem (.ref l) (.ref s.heap.objs.size))) (ht : ∀ r, letTemporaryGo value (.ref l) r = pure ()) :
    wpAny (model prog w) A (subscriptTail value slice (.ref l) (.ref s.heap.objs.size)) Q E { s with heap := s.heap.push { cls := .type "slice", data := .fields #[.int x t, .none, .none] } } :=
  kmk_slice_ints F N (N.isList hm) (IsPart.int _ _) IsPart.none hI (kmk_from hI h0) rfl (fun D ws h' F' N' l1 i _ _ => h D ws h' F' N' l1 i) hs ht (by rw [List.size_toArray, hI.length, sizeLine_eq]; omega)
end
theorem rangeKs_succ (a : Int) (n : Nat) : rangeKs a (n + 1) = rangeKs a n ++ [a + (n : Int)] := by
  unfold rangeKs
  rw [List.range_succ, List.map_append]
  rfl
theorem filt_succ (a : Int) (p : Int → Bool) (i : Nat) : (rangeKs a (i + 1)).filter p = (rangeKs a i).filter p ++ (if p (a + (i : Int)) = true then [a + (i : Int)] else []) := by
  rw [rangeKs_succ, List.filter_append]
  congr 1
  simp only [List.filter_cons, List.filter_nil]
theorem any_of_mem {ns : List Int} {x : Int} (h : x ∈ ns) : (ns.any fun z => z == x) = true := by
  rw [List.any_eq_true]
  exact ⟨x, h, by simp⟩
theorem rings_len (ls : List Int) (n : Nat) : (ringsL ls n).length ≤ n := by
  unfold ringsL
  refine Nat.le_trans (List.length_filter_le _ _) ?_
  rw [rangeKs_length]; exact Nat.le_refl _
open_top hd for PySem.Challenge.rw_ib0004_01
abbrev prog : Program := PySem.Challenge.rw_ib0004_01.row.prog
abbrev TB (h : Heap) : Prop := CodeHd h 52 48 ∧ CodeHd h 59 55
local macro_rules | `(tactic| walk_at "newTuple") => `(tactic| (k_here; k_dflt (refine' newTuple_M ?k1 ?k2 ?_; (case k1 => k_asm); (case k2 => k_asm); k_whole); intro l' h' F' N' l1 l2; (try k_lt l1); (try k_lt2 l2); (try k_sweep)))
local macro_rules | `(tactic| walk_at "newList") => `(tactic| (k_here; k_dflt (refine' newList_M ?k1 ?k2 ?_; (case k1 => k_asm); (case k2 => k_asm); k_whole); intro l' h' F' N' l1 l2; (try k_lt l1); (try k_lt2 l2); (try k_sweep)))
local macro_rules | `(tactic| walk_at "binaryOp Mult ref int") => `(tactic| (k_here; (with_reducible show wpAny _ _ (binaryOp Operator.Mult (Value.ref _) (Value.int _ _)) _ _ _); k_dflt (refine' mul1_M ?k1 ?k2 ?k3 ?k4 ?k5 ?_; (case k1 => k_asm); (case k2 => k_asm); (case k3 => k_mem); (case k4 => omega); (case k5 => omega); k_whole); intro l' vs' h' i1 F' N' l1 l2; (try k_lt l1); (try k_lt2 l2); (try k_sweep)))
local macro_rules | `(tactic| walk_at "call ref") => `(tactic| (k_here; (with_reducible show wpAny _ _ (call (Value.ref _) _) _ _ _); refine Stop.mk ?_))
local macro_rules | `(tactic| walk_at "call builtin:len") => `(tactic| (k_here; k_dflt (show wpAny _ _ (call (Value.builtin _) [Value.ref _]) _ _ _); k_dflt (refine' len_M ?k1 ?k2 ?k3 ?k4 ?_; (case k1 => k_asm); (case k2 => k_mem); (case k3 => with_reducible assumption); (case k4 => (try simp only [List.length_replicate]); omega); k_whole); (try simp only [List.length_replicate])))
local macro_rules | `(tactic| walk_at "eval Name") => `(tactic| (k_here; kc_free; k_dflt (refine' nameX_G ?F ?c ?g ?d ?_ ?a ?b; (case a => rfl); (case b => rfl); (case F => k_asm); (case c => rfl); (case g => assumption); (case d => assumption); k_whole)))
local macro_rules | `(tactic| walk_at "binaryOp RShift int int") => `(tactic| (k_here; (with_reducible refine' shr_M ?k1 ?k2 ?_); (case k1 => omega); (case k2 => omega)))
local macro_rules | `(tactic| walk_at "binaryOp RShift int int") => `(tactic| (k_here; (with_reducible refine' shr1_M ?_ ?k1); (case k1 => omega)))
local macro_rules | `(tactic| walk_at "binaryOp LShift int int") => `(tactic| (k_here; (with_reducible refine' shl_M ?k1 ?k2 ?k3 ?k4 ?_); (case k1 => omega); (case k2 => omega); (case k3 => omega); (case k4 => omega)))
local macro_rules | `(tactic| walk_at "binaryOp BitXor int int") => `(tactic| (k_here; (with_reducible refine' xor_M ?k1 ?_); (case k1 => omega)))
local macro_rules | `(tactic| walk_at "callWith ref") => `(tactic| (k_here; kn_here; k_dflt (refine' callWith_F ?k1 ?_; (case k1 => exact fnAt_G (by k_asm) (by assumption)); k_whole)))
local macro_rules | `(tactic| walk_at "FnAt") => `(tactic| (k_dflt (exact fnAt_G (by k_asm) (by assumption))))
local macro_rules | `(tactic| walk_at "call builtin:list.append") => `(tactic| (k_here; k_dflt (show wpAny _ _ (call (Value.builtin _) [Value.ref _, _]) _ _ _); k_dflt (refine' append_M ?k1 ?k2 ?k3 ?k4 ?_; (case k1 => k_asm); (case k2 => k_asm); (case k3 => k_upd); (case k4 => first | omega | (simp; omega)); k_whole); intro h' F' N'; (try k_sweep)))
local macro_rules | `(tactic| walk_at "call builtin:list.reverse") => `(tactic| (k_here; k_dflt (show wpAny _ _ (call (Value.builtin _) [Value.ref _]) _ _ _); k_dflt (refine' reverse_M ?k1 ?k2 ?k3 ?k4 ?_; (case k1 => k_asm); (case k2 => k_asm); (case k3 => k_upd); (case k4 => first | omega | (simp; omega)); k_whole); intro h' F' N'; (try k_sweep)))
local macro_rules | `(tactic| walk_at "pyIter ref") => `(tactic| ((with_reducible show wpAny _ _ (pyIter (Value.ref _)) (fun it s₂ => LoopAtV _ _ _ _ _ _ _ _ _ it s₂) _ _); refine Stop.mk ?_))
local macro_rules | `(tactic| walk_at "exec For") => `(tactic| (k_here; (with_reducible show wpAny _ _ (exec (Stmt.For (Expr.Name _ _) _ _ [] _) _) _ _ _); (rename Fr _ _ _ _ => lF'); (with_unfolding_all refine' For_invVF lF' ?k1 ?k2 ?_; (case k1 => exact rfl); (case k2 => exact rfl); k_whole)))
local macro_rules | `(tactic| k_all) => `(tactic| assumption)
theorem c_int2digits_cold (w : World) (a n : Int) (ta tn : Tok) (ha : 0 ≤ a) (hlt : a < 1048576) (hn : 0 < n) (hn2 : n ≤ 20) :
   Ctr prog hd.heap_39 TB w 53 40 1000 [.int a ta, .int n tn] (tabs1 48 59 4 .cold) (fun _ => True) (PDig 48 59 4 (Str.ofString "_int2digits.<locals>.inner") a n .cold) := by
  have fill : PySem.Challenge.rw_ib0004_01 = PySem.Challenge.rw_ib0004_01 → hd.heap_39 = hd.heap_39 → True := by k_fill; intros; trivial
  have hq : 0 ≤ ((Builtin.Int.intBits a : Nat) : Int) := Int.natCast_nonneg _
  have hd1 : 0 ≤ (((Builtin.Int.intBits a : Nat) : Int) + n - 1).fdiv n := by
    rw [Int.fdiv_eq_ediv_of_nonneg _ (by omega)]; exact Int.ediv_nonneg (by omega) (by omega)
  have hd2 : (((Builtin.Int.intBits a : Nat) : Int) + n - 1).fdiv n ≤ 1048576 := by
    rw [Int.fdiv_eq_ediv_of_nonneg _ (by omega)]; refine Int.le_trans (Int.ediv_le_self _ (by omega)) ?_; have := bits_le ha (k := 20) (by simpa using hlt); omega
  have hbits : (Builtin.Int.intBits a : Int) ≤ 20 := bits_le ha (by simpa using hlt)
  unfold tabs1
  k_dflt (refine' ctr_cells (binds := [(Str.ofString "a", .int a ta), (Str.ofString "n", .int n tn)]) ?k6 ?k7 ?kd ?k9 ?kB ?kD ?c2 ?c3 ?c4 ?_; (case k6 => k_is); (case k7 => k_is); (case kd => decide); (case k9 => intro s' X'; exact BindsTo.of_eq rfl); (case kB => exact rfl); (case kD => decide +kernel); (case c2 => exact rfl); (case c3 => exact rfl); (case c4 => exact rfl))
  intro p loose mean mg mb dp un gd outer A₀ base g L' h₁ tk s cells B F X N Y T hTB hpre hG hL hk1 lm hdp hun
  obtain ⟨C1, C2⟩ := hTB
  k_lt lm
  k_cells Y
  (try simp only [List.cons_append, List.nil_append] at N)
  (try dsimp only)
  (try k_unmd)
  k_fold
  k_steps
  rotate_left
  · rename_i o1 o2 o3 d1 d2 d3 lt h1 lt1 lt2 l vs h2 i1 l1 l2 h3 oA dA f c oc vc tc ctv dcv h4 tk4 dc1 dc2 lc1 lc2 h5 oI F5 N5 dI hane
    subst hane
    have dc2' : vc[1]? = some (.str (Str.ofString "_int2digits.<locals>.inner") tc) := by rw [dc2]; rfl
    (try dsimp only)
    (try k_unfold)
    refine ⟨h5, _, _, rfl, F5, ⟨l, vs, rfl, N5.get (by k_mem), ?_, by omega⟩, c, oc, ⟨ltN (by omega), vc, tc, dc1, dc2'⟩, tabs_two (N5.get (by k_mem)) (N5.get (by k_mem)), .inr ⟨rfl, by omega⟩⟩
    rw [ndig_zero hn]
    have e0 : Builtin.Int.intBits 0 = 0 := rfl
    rw [e0, Int.fdiv_eq_ediv_of_nonneg _ (by omega), Int.ediv_eq_zero_of_lt (by omega) (by omega)] at i1
    exact i1
  rename_i o1 o2 o3 d1 d2 d3 lt h1 lt1 lt2 l vs h2 i1 l1 l2 h3 oA dA f c oc vc tc ctv dcv h4 tk4 dc1 dc2 lc1 lc2 h5 oI F5 N5 dI hane
  have dc2' : vc[1]? = some (.str (Str.ofString "_int2digits.<locals>.inner") tc) := by rw [dc2]; rfl
  have d3' : o3.data = .cell (some (.int n tn)) := d3
  have gf := N5.get (a := f) (.head _)
  have gc := N5.get (a := c) (o := oc) (by k_mem)
  have gI := N5.get (a := L' + 1 + 1 + 1) (o := oI) (by k_mem)
  have gA := N5.get (a := L' + 1 + 1) (o := oA) (by k_mem)
  have gN := N5.get (a := L' + 1) (o := o3) (by k_mem)
  have key : ∀ d : IDat, Ctr prog hd.heap_39 TB w f (d.sz + 1) (40 * d.sz + 60) [.int d.x d.tx, .int d.L d.tL, .int d.R d.tR] [(l, listOf d.vs.toArray 0)]
      (fun h => d.Ok n ∧ h.get? f = h5.get? f ∧ h.get? c = some oc ∧ h.get? (L' + 1 + 1 + 1) = some oI ∧ h.get? (L' + 1 + 1) = some oA ∧ h.get? (L' + 1) = some o3)
      (fun _ v h' => ∃ vs', IntsAre vs' (wr d.ns d.L.toNat (dg (2 ^ n.toNat) d.sz d.x)) ∧ h'.get? l = some (listOf vs'.toArray 0)) := by
    refine by_size IDat.sz fun d IH => ?_
    obtain ⟨x, lo, hi, tx, tL, tR, vs0, ns0⟩ := d
    dsimp only [IDat.sz] at IH ⊢
    k_dflt (refine' ctr_clos (binds := [(Str.ofString "x", .int x tx), (Str.ofString "L", .int lo tL), (Str.ofString "R", .int hi tR)]) ?k6 ?kd ?k9 ?kB ?c2 ?c3 ?c4 ?c5 ?_; (case k6 => (intro h0 hp; exact ⟨hp.2.1.trans gf, _, _, _, _, rfl, hp.2.2.1, dc1, dc2⟩)); (case kd => omega); (case k9 => intro s'; exact BindsTo.of_eq rfl); (case kB => exact locs rfl); (case c2 => exact rfl); (case c3 => exact rfl); (case c4 => exact rfl); (case c5 => decide))
    clear B X T C1 C2 hpre hG hk1 F5 N5
    intro p' loose' mean' mg' mb' dp' un' gd' outer' A₀' base' g' Lx h₁' tk' s' B F X N T hTB hpre hG hL' hk1 hdp' hun'
    obtain ⟨C1, C2⟩ := hTB
    obtain ⟨ok, q1, q2, q3, q4, q5⟩ := hpre
    obtain ⟨l0, lr, rl, few, x0, xs, xl, isI, nl⟩ := ok
    dsimp only at l0 lr rl few x0 xs xl isI nl
    have ne : ∀ b, b ≠ l → b ∉ List.map (fun x => x.fst) [(l, listOf vs0.toArray 0)] := fun b hb hm => hb (List.mem_singleton.mp hm)
    have g1 := hG _ _ (ne _ (by k_ne)) (q1.trans gf)
    have g2 := hG _ _ (ne _ (by k_ne)) q2
    have g3 := hG _ _ (ne _ (by k_ne)) q3
    have g4 := hG _ _ (ne _ (by k_ne)) q4
    have g5 := hG _ _ (ne _ (by k_ne)) q5
    have hs1 : 0 ≤ ((lo + hi) / 2 - lo) * n := Int.mul_nonneg (by omega) (by omega)
    have hs2 : ((lo + hi) / 2 - lo) * n ≤ 20 * 20 := Int.mul_le_mul (by omega) hn2 (by omega) (by omega)
    have hu1 : 0 ≤ x / 2 ^ (((lo + hi) / 2 - lo) * n).toNat := Int.ediv_nonneg x0 (Int.le_of_lt (Int.pow_pos (by decide)))
    have hu2 : x / 2 ^ (((lo + hi) / 2 - lo) * n).toNat < 1048576 := Int.lt_of_le_of_lt (Int.ediv_le_self _ x0) xs
    clear q1 q2 q3 q4 q5 hk1
    (try clear hd1)
    (try clear hd2)
    (try clear hq)
    (try clear hbits)
    (try clear hdp)
    (try clear hun)
    (try clear lt1)
    (try clear lt2)
    (try clear l1)
    (try clear l2)
    (try clear lc1)
    (try clear lc2)
    (try clear lm)
    (try clear hL)
    (try clear hlt)
    (try clear ha)
    (try k_unmd)
    k_fold
    k_steps
    · dsimp only
      k_unfold
      rename_i hone h' F' N' hi' hl' hs'
      refine ⟨h', _, _, rfl, F', _, ?_, N'.get (.head _)⟩
      have e1 : (hi - lo).toNat = 1 := by omega
      have e2 : dg (2 ^ n.toNat) (hi - lo).toNat x = [x] := by
        rw [e1] at xl ⊢
        show [x % 2 ^ n.toNat] = [x]
        rw [Int.emod_eq_of_lt x0 (by rw [Int.pow_succ, Int.pow_zero, Int.one_mul] at xl; exact xl)]
      rw [e2, wr_one (by omega)]
      exact hi'
    · rename_i hone h1' h2' h3' h4' F' N'
      generalize hmid : (lo + hi) / 2 = mid at *
      have hml : lo < mid := by omega
      have hmh : mid < hi := by omega
      have eB : (2 : Int) ^ ((mid - lo) * n).toNat = (2 ^ n.toNat) ^ (mid - lo).toNat := pow_shift (by omega) (by omega)
      have hB : (0 : Int) < 2 ^ n.toNat := Int.pow_pos (by decide)
      have hBm : (0 : Int) < (2 ^ n.toNat) ^ (mid - lo).toNat := Int.pow_pos hB
      have esz : (hi - lo).toNat = (mid - lo).toNat + (hi - mid).toNat := by omega
      refine Stop.out (Ctr.use (IH ⟨x % 2 ^ ((mid - lo) * n).toNat, lo, mid, _, _, _, vs0, ns0⟩ (by dsimp only; omega)) (by assumption) (by assumption) (by assumption) (by assumption) (by assumption) rfl ⟨C1, C2⟩ ⟨⟨l0, hml, by dsimp only; omega, by dsimp only; omega, Int.emod_nonneg _ (by rw [eB]; omega), Int.lt_of_le_of_lt (emod_le' x0 (by rw [eB]; exact hBm)) xs, by dsimp only; rw [eB]; exact Int.emod_lt_of_pos _ hBm, isI, nl⟩, (F'.keep _ _ g1).trans gf.symm, F'.keep _ _ g2, F'.keep _ _ g3, F'.keep _ _ g4, F'.keep _ _ g5⟩ (by dsimp only; omega) (by dsimp only; omega) ?_)
      rintro v5 h5' tk5 G5 ⟨vs1, i1', hl1⟩ F6
      dsimp only at i1' hl1
      have N6 : News g' Lx h5' [(l, listOf vs1.toArray 0)] := news_cons hl1 (N' _ (.head _)).2.1 (N' _ (.head _)).2.2 News.nil
      clear F' N'
      dsimp only
      k_steps
      have len1 : (wr ns0 lo.toNat (dg (2 ^ n.toNat) (mid - lo).toNat (x % 2 ^ ((mid - lo) * n).toNat))).length = ns0.length := wr_length (by rw [dg_length]; omega)
      generalize hns : wr ns0 lo.toNat (dg (2 ^ n.toNat) (mid - lo).toNat (x % 2 ^ ((mid - lo) * n).toNat)) = ns1 at *
      have xup : x / (2 ^ n.toNat) ^ (mid - lo).toNat < (2 ^ n.toNat) ^ (hi - mid).toNat := by
        refine Int.ediv_lt_of_lt_mul hBm ?_
        rw [Int.mul_comm, ← Int.pow_add, ← esz]
        exact xl
      refine Stop.out (Ctr.use (IH ⟨x / 2 ^ ((mid - lo) * n).toNat, mid, hi, _, _, _, vs1, ns1⟩ (by dsimp only; omega)) (by assumption) (by assumption) (by assumption) (by assumption) (by assumption) rfl ⟨C1, C2⟩ ⟨⟨by dsimp only; omega, hmh, by dsimp only; omega, by dsimp only; omega, hu1, hu2, by dsimp only; rw [eB]; exact xup, i1', by dsimp only; omega⟩, (F6.keep _ _ g1).trans gf.symm, F6.keep _ _ g2, F6.keep _ _ g3, F6.keep _ _ g4, F6.keep _ _ g5⟩ (by dsimp only; omega) (by dsimp only; omega) ?_)
      rintro v7 h7' tk7 G7 ⟨vs2, i2', hl2⟩ F7
      dsimp only at i2' hl2
      clear F6
      dsimp only
      k_steps
      try dsimp only
      try k_unfold
      refine ⟨h7', _, _, rfl, F7, vs2, ?_, hl2⟩
      have e1 : (lo.toNat + (dg (2 ^ n.toNat) (mid - lo).toNat (x % 2 ^ ((mid - lo) * n).toNat)).length) = mid.toNat := by rw [dg_length]; omega
      rw [← hns, ← e1, wr_wr (by simp only [dg_length]; omega), eB, dg_mod hB, ← dg_split hB, ← esz] at i2'
      exact i2'
  have ek : ((((Builtin.Int.intBits a : Nat) : Int) + n - 1).fdiv n).toNat = ndig a n := by rw [Int.fdiv_eq_ediv_of_nonneg _ (by omega)]; rfl
  rw [ek] at i1 ⊢
  obtain ⟨n1, n2, n3⟩ := ndig_le hane hn
  have lth := lt_dig ha hane hn
  refine Stop.out (Ctr.use (key ⟨a, 0, ndig a n, _, _, _, vs, List.replicate (ndig a n) 0⟩) (by assumption) F5 (by assumption) (kst_newsOf N5 (by intro p hp; rw [List.mem_singleton.mp hp]; k_mem)) (by assumption) rfl ⟨C1, C2⟩
    ⟨⟨Int.le_refl _, by dsimp only; omega, by dsimp only; rw [List.length_replicate]; omega, by dsimp only; omega, ha, hlt, by dsimp only; rw [show ((ndig a n : Int) - 0).toNat = ndig a n by omega]; exact lth, i1, by dsimp only; rw [List.length_replicate]; omega⟩, rfl, gc, gI, gA, gN⟩ (by dsimp only [IDat.sz]; omega) (by dsimp only [IDat.sz]; omega) ?_)
  rintro v7 h7 tk7 G7 ⟨vs2, i2', hl2⟩ F7
  dsimp only [IDat.sz] at i2' hl2
  rw [show ((ndig a n : Int) - 0).toNat = ndig a n by omega] at i2'
  rw [show (0 : Int).toNat = 0 from rfl, wr_all (by rw [dg_length, List.length_replicate])] at i2'
  have ne : ∀ b, b ≠ l → b ∉ List.map (fun x => x.fst) [(l, listOf vs.toArray 0)] := fun b hb hm => hb (List.mem_singleton.mp hm)
  have k30 := G7 48 _ (ne _ (by k_ne)) (N5.get (a := 48) (by k_mem))
  have kc := G7 c _ (ne _ (by k_ne)) gc
  have N7 : News g L' h7 [(L' + 1 + 1, oA)] := news_cons (G7 _ _ (ne _ (by k_ne)) gA) (by k_ne) (N5 (L' + 1 + 1, oA) (by k_mem)).2.2 News.nil
  clear N5 F5
  try dsimp only
  k_steps
  (try dsimp only)
  (try k_unfold)
  exact ⟨h7, _, _, rfl, F7, ⟨l, vs2, rfl, hl2, i2', by omega⟩, c, oc, ⟨ltN (by omega), vc, tc, dc1, dc2'⟩, tabs_two k30 kc, .inr ⟨rfl, by omega⟩⟩
theorem c_int2digits_warm (w : World) (a n : Int) (ta tn : Tok) (ha : 0 ≤ a) (hlt : a < 1048576) (hn : 0 < n) (hn2 : n ≤ 20) (c : Addr) (oc : Obj) (hok : TsOk 48 (Str.ofString "_int2digits.<locals>.inner") (.warm c oc)) :
   Ctr prog hd.heap_39 TB w 53 40 1000 [.int a ta, .int n tn] (tabs1 48 59 4 (.warm c oc)) (fun _ => True) (PDig 48 59 4 (Str.ofString "_int2digits.<locals>.inner") a n (.warm c oc)) := by
  obtain ⟨hlt0, vc, tc, dc1, dc2'⟩ := hok
  have fill : PySem.Challenge.rw_ib0004_01 = PySem.Challenge.rw_ib0004_01 → hd.heap_39 = hd.heap_39 → True := by k_fill; intros; trivial
  have hq : 0 ≤ ((Builtin.Int.intBits a : Nat) : Int) := Int.natCast_nonneg _
  have hd1 : 0 ≤ (((Builtin.Int.intBits a : Nat) : Int) + n - 1).fdiv n := by
    rw [Int.fdiv_eq_ediv_of_nonneg _ (by omega)]; exact Int.ediv_nonneg (by omega) (by omega)
  have hd2 : (((Builtin.Int.intBits a : Nat) : Int) + n - 1).fdiv n ≤ 1048576 := by
    rw [Int.fdiv_eq_ediv_of_nonneg _ (by omega)]; refine Int.le_trans (Int.ediv_le_self _ (by omega)) ?_; have := bits_le ha (k := 20) (by simpa using hlt); omega
  have hbits : (Builtin.Int.intBits a : Int) ≤ 20 := bits_le ha (by simpa using hlt)
  unfold tabs1
  k_dflt (refine' ctr_cells (binds := [(Str.ofString "a", .int a ta), (Str.ofString "n", .int n tn)]) ?k6 ?k7 ?kd ?k9 ?kB ?kD ?c2 ?c3 ?c4 ?_; (case k6 => k_is); (case k7 => k_is); (case kd => decide); (case k9 => intro s' X'; exact BindsTo.of_eq rfl); (case kB => exact rfl); (case kD => decide +kernel); (case c2 => exact rfl); (case c3 => exact rfl); (case c4 => exact rfl))
  intro p loose mean mg mb dp un gd outer A₀ base g L' h₁ tk s cells B F X N Y T hTB hpre hG hL hk1 lm hdp hun
  obtain ⟨C1, C2⟩ := hTB
  k_lt lm
  k_cells Y
  (try simp only [List.cons_append, List.nil_append] at N)
  (try dsimp only)
  (try k_unmd)
  k_fold
  k_steps
  rotate_left
  · rename_i o1 o2 o3 d1 d2 d3 lt h1 lt1 lt2 l vs h2 i1 l1 l2 h3 oA dA f ctv dcv h4 tk4 lc1 h5 oI F5 N5 dI hane
    subst hane
    (try dsimp only)
    (try k_unfold)
    refine ⟨h5, _, _, rfl, F5, ⟨l, vs, rfl, N5.get (by k_mem), ?_, by omega⟩, c, oc, ⟨ltN (by omega), vc, tc, dc1, dc2'⟩, tabs_two (N5.get (by k_mem)) (N5.get (by k_mem)), .inl rfl⟩
    rw [ndig_zero hn]
    have e0 : Builtin.Int.intBits 0 = 0 := rfl
    rw [e0, Int.fdiv_eq_ediv_of_nonneg _ (by omega), Int.ediv_eq_zero_of_lt (by omega) (by omega)] at i1
    exact i1
  rename_i o1 o2 o3 d1 d2 d3 lt h1 lt1 lt2 l vs h2 i1 l1 l2 h3 oA dA f ctv dcv h4 tk4 lc1 h5 oI F5 N5 dI hane
  have d3' : o3.data = .cell (some (.int n tn)) := d3
  have gf := N5.get (a := f) (.head _)
  have gc := N5.get (a := c) (o := oc) (by k_mem)
  have gI := N5.get (a := L' + 1 + 1 + 1) (o := oI) (by k_mem)
  have gA := N5.get (a := L' + 1 + 1) (o := oA) (by k_mem)
  have gN := N5.get (a := L' + 1) (o := o3) (by k_mem)
  have key : ∀ d : IDat, Ctr prog hd.heap_39 TB w f (d.sz + 1) (40 * d.sz + 60) [.int d.x d.tx, .int d.L d.tL, .int d.R d.tR] [(l, listOf d.vs.toArray 0)]
      (fun h => d.Ok n ∧ h.get? f = h5.get? f ∧ h.get? c = some oc ∧ h.get? (L' + 1 + 1 + 1) = some oI ∧ h.get? (L' + 1 + 1) = some oA ∧ h.get? (L' + 1) = some o3)
      (fun _ v h' => ∃ vs', IntsAre vs' (wr d.ns d.L.toNat (dg (2 ^ n.toNat) d.sz d.x)) ∧ h'.get? l = some (listOf vs'.toArray 0)) := by
    refine by_size IDat.sz fun d IH => ?_
    obtain ⟨x, lo, hi, tx, tL, tR, vs0, ns0⟩ := d
    dsimp only [IDat.sz] at IH ⊢
    k_dflt (refine' ctr_clos (binds := [(Str.ofString "x", .int x tx), (Str.ofString "L", .int lo tL), (Str.ofString "R", .int hi tR)]) ?k6 ?kd ?k9 ?kB ?c2 ?c3 ?c4 ?c5 ?_; (case k6 => (intro h0 hp; exact ⟨hp.2.1.trans gf, _, _, _, _, rfl, hp.2.2.1, dc1, dc2'⟩)); (case kd => omega); (case k9 => intro s'; exact BindsTo.of_eq rfl); (case kB => exact locs rfl); (case c2 => exact rfl); (case c3 => exact rfl); (case c4 => exact rfl); (case c5 => decide))
    clear B X T C1 C2 hpre hG hk1 F5 N5
    intro p' loose' mean' mg' mb' dp' un' gd' outer' A₀' base' g' Lx h₁' tk' s' B F X N T hTB hpre hG hL' hk1 hdp' hun'
    obtain ⟨C1, C2⟩ := hTB
    obtain ⟨ok, q1, q2, q3, q4, q5⟩ := hpre
    obtain ⟨l0, lr, rl, few, x0, xs, xl, isI, nl⟩ := ok
    dsimp only at l0 lr rl few x0 xs xl isI nl
    have ne : ∀ b, b ≠ l → b ∉ List.map (fun x => x.fst) [(l, listOf vs0.toArray 0)] := fun b hb hm => hb (List.mem_singleton.mp hm)
    have g1 := hG _ _ (ne _ (by k_ne)) (q1.trans gf)
    have g2 := hG _ _ (ne _ (by k_ne)) q2
    have g3 := hG _ _ (ne _ (by k_ne)) q3
    have g4 := hG _ _ (ne _ (by k_ne)) q4
    have g5 := hG _ _ (ne _ (by k_ne)) q5
    have hs1 : 0 ≤ ((lo + hi) / 2 - lo) * n := Int.mul_nonneg (by omega) (by omega)
    have hs2 : ((lo + hi) / 2 - lo) * n ≤ 20 * 20 := Int.mul_le_mul (by omega) hn2 (by omega) (by omega)
    have hu1 : 0 ≤ x / 2 ^ (((lo + hi) / 2 - lo) * n).toNat := Int.ediv_nonneg x0 (Int.le_of_lt (Int.pow_pos (by decide)))
    have hu2 : x / 2 ^ (((lo + hi) / 2 - lo) * n).toNat < 1048576 := Int.lt_of_le_of_lt (Int.ediv_le_self _ x0) xs
    clear q1 q2 q3 q4 q5 hk1
    (try clear hd1)
    (try clear hd2)
    (try clear hq)
    (try clear hbits)
    (try clear hdp)
    (try clear hun)
    (try clear lt1)
    (try clear lt2)
    (try clear l1)
    (try clear l2)
    (try clear lc1)
    (try clear lc2)
    (try clear lm)
    (try clear hL)
    (try clear hlt)
    (try clear ha)
    (try k_unmd)
    k_fold
    k_steps
    · dsimp only
      k_unfold
      rename_i hone h' F' N' hi' hl' hs'
      refine ⟨h', _, _, rfl, F', _, ?_, N'.get (.head _)⟩
      have e1 : (hi - lo).toNat = 1 := by omega
      have e2 : dg (2 ^ n.toNat) (hi - lo).toNat x = [x] := by
        rw [e1] at xl ⊢
        show [x % 2 ^ n.toNat] = [x]
        rw [Int.emod_eq_of_lt x0 (by rw [Int.pow_succ, Int.pow_zero, Int.one_mul] at xl; exact xl)]
      rw [e2, wr_one (by omega)]
      exact hi'
    · rename_i hone h1' h2' h3' h4' F' N'
      generalize hmid : (lo + hi) / 2 = mid at *
      have hml : lo < mid := by omega
      have hmh : mid < hi := by omega
      have eB : (2 : Int) ^ ((mid - lo) * n).toNat = (2 ^ n.toNat) ^ (mid - lo).toNat := pow_shift (by omega) (by omega)
      have hB : (0 : Int) < 2 ^ n.toNat := Int.pow_pos (by decide)
      have hBm : (0 : Int) < (2 ^ n.toNat) ^ (mid - lo).toNat := Int.pow_pos hB
      have esz : (hi - lo).toNat = (mid - lo).toNat + (hi - mid).toNat := by omega
      refine Stop.out (Ctr.use (IH ⟨x % 2 ^ ((mid - lo) * n).toNat, lo, mid, _, _, _, vs0, ns0⟩ (by dsimp only; omega)) (by assumption) (by assumption) (by assumption) (by assumption) (by assumption) rfl ⟨C1, C2⟩ ⟨⟨l0, hml, by dsimp only; omega, by dsimp only; omega, Int.emod_nonneg _ (by rw [eB]; omega), Int.lt_of_le_of_lt (emod_le' x0 (by rw [eB]; exact hBm)) xs, by dsimp only; rw [eB]; exact Int.emod_lt_of_pos _ hBm, isI, nl⟩, (F'.keep _ _ g1).trans gf.symm, F'.keep _ _ g2, F'.keep _ _ g3, F'.keep _ _ g4, F'.keep _ _ g5⟩ (by dsimp only; omega) (by dsimp only; omega) ?_)
      rintro v5 h5' tk5 G5 ⟨vs1, i1', hl1⟩ F6
      dsimp only at i1' hl1
      have N6 : News g' Lx h5' [(l, listOf vs1.toArray 0)] := news_cons hl1 (N' _ (.head _)).2.1 (N' _ (.head _)).2.2 News.nil
      clear F' N'
      dsimp only
      k_steps
      have len1 : (wr ns0 lo.toNat (dg (2 ^ n.toNat) (mid - lo).toNat (x % 2 ^ ((mid - lo) * n).toNat))).length = ns0.length := wr_length (by rw [dg_length]; omega)
      generalize hns : wr ns0 lo.toNat (dg (2 ^ n.toNat) (mid - lo).toNat (x % 2 ^ ((mid - lo) * n).toNat)) = ns1 at *
      have xup : x / (2 ^ n.toNat) ^ (mid - lo).toNat < (2 ^ n.toNat) ^ (hi - mid).toNat := by
        refine Int.ediv_lt_of_lt_mul hBm ?_
        rw [Int.mul_comm, ← Int.pow_add, ← esz]
        exact xl
      refine Stop.out (Ctr.use (IH ⟨x / 2 ^ ((mid - lo) * n).toNat, mid, hi, _, _, _, vs1, ns1⟩ (by dsimp only; omega)) (by assumption) (by assumption) (by assumption) (by assumption) (by assumption) rfl ⟨C1, C2⟩ ⟨⟨by dsimp only; omega, hmh, by dsimp only; omega, by dsimp only; omega, hu1, hu2, by dsimp only; rw [eB]; exact xup, i1', by dsimp only; omega⟩, (F6.keep _ _ g1).trans gf.symm, F6.keep _ _ g2, F6.keep _ _ g3, F6.keep _ _ g4, F6.keep _ _ g5⟩ (by dsimp only; omega) (by dsimp only; omega) ?_)
      rintro v7 h7' tk7 G7 ⟨vs2, i2', hl2⟩ F7
      dsimp only at i2' hl2
      clear F6
      dsimp only
      k_steps
      try dsimp only
      try k_unfold
      refine ⟨h7', _, _, rfl, F7, vs2, ?_, hl2⟩
      have e1 : (lo.toNat + (dg (2 ^ n.toNat) (mid - lo).toNat (x % 2 ^ ((mid - lo) * n).toNat)).length) = mid.toNat := by rw [dg_length]; omega
      rw [← hns, ← e1, wr_wr (by simp only [dg_length]; omega), eB, dg_mod hB, ← dg_split hB, ← esz] at i2'
      exact i2'
  have ek : ((((Builtin.Int.intBits a : Nat) : Int) + n - 1).fdiv n).toNat = ndig a n := by rw [Int.fdiv_eq_ediv_of_nonneg _ (by omega)]; rfl
  rw [ek] at i1 ⊢
  obtain ⟨n1, n2, n3⟩ := ndig_le hane hn
  have lth := lt_dig ha hane hn
  refine Stop.out (Ctr.use (key ⟨a, 0, ndig a n, _, _, _, vs, List.replicate (ndig a n) 0⟩) (by assumption) F5 (by assumption) (kst_newsOf N5 (by intro p hp; rw [List.mem_singleton.mp hp]; k_mem)) (by assumption) rfl ⟨C1, C2⟩
    ⟨⟨Int.le_refl _, by dsimp only; omega, by dsimp only; rw [List.length_replicate]; omega, by dsimp only; omega, ha, hlt, by dsimp only; rw [show ((ndig a n : Int) - 0).toNat = ndig a n by omega]; exact lth, i1, by dsimp only; rw [List.length_replicate]; omega⟩, rfl, gc, gI, gA, gN⟩ (by dsimp only [IDat.sz]; omega) (by dsimp only [IDat.sz]; omega) ?_)
  rintro v7 h7 tk7 G7 ⟨vs2, i2', hl2⟩ F7
  dsimp only [IDat.sz] at i2' hl2
  rw [show ((ndig a n : Int) - 0).toNat = ndig a n by omega] at i2'
  rw [show (0 : Int).toNat = 0 from rfl, wr_all (by rw [dg_length, List.length_replicate])] at i2'
  have ne : ∀ b, b ≠ l → b ∉ List.map (fun x => x.fst) [(l, listOf vs.toArray 0)] := fun b hb hm => hb (List.mem_singleton.mp hm)
  have k30 := G7 48 _ (ne _ (by k_ne)) (N5.get (a := 48) (by k_mem))
  have kc := G7 c _ (ne _ (by k_ne)) gc
  have N7 : News g L' h7 [(L' + 1 + 1, oA)] := news_cons (G7 _ _ (ne _ (by k_ne)) gA) (by k_ne) (N5 (L' + 1 + 1, oA) (by k_mem)).2.2 News.nil
  clear N5 F5
  try dsimp only
  k_steps
  (try dsimp only)
  (try k_unfold)
  exact ⟨h7, _, _, rfl, F7, ⟨l, vs2, rfl, hl2, i2', by omega⟩, c, oc, ⟨ltN (by omega), vc, tc, dc1, dc2'⟩, tabs_two k30 kc, .inl rfl⟩
theorem c_int2digits (w : World) (a n : Int) (ta tn : Tok) (ha : 0 ≤ a) (hlt : a < 1048576) (hn : 0 < n) (hn2 : n ≤ 20) (t : TS) (hok : TsOk 48 (Str.ofString "_int2digits.<locals>.inner") t) :
   Ctr prog hd.heap_39 TB w 53 40 1000 [.int a ta, .int n tn] (tabs1 48 59 4 t) (fun _ => True) (PDig 48 59 4 (Str.ofString "_int2digits.<locals>.inner") a n t) := by
  cases t with
  | cold => exact c_int2digits_cold w a n ta tn ha hlt hn hn2
  | warm c o => exact c_int2digits_warm w a n ta tn ha hlt hn hn2 c o hok
theorem c_digits2int_cold (w : World) (l : Addr) (vs : List Value) (ns : List Int) (nk : Nat) (n : Int) (tn : Tok) (hi0 : IntsAre vs ns) (hlen : ns.length ≤ 20) (hn : 0 < n) (hn2 : n ≤ 20) (hnl : n * ns.length ≤ 60) (hds : ∀ d ∈ ns, 0 ≤ d ∧ d < 2 ^ n.toNat) :
   Ctr prog hd.heap_39 TB w 60 40 1000 [.ref l, .int n tn] (tabs1 55 74 4 .cold) (fun h => h.get? l = some (listOf vs.toArray nk)) (PUnd 55 74 4 (Str.ofString "_digits2int.<locals>.inner") ns n .cold) := by
  have fill : PySem.Challenge.rw_ib0004_01 = PySem.Challenge.rw_ib0004_01 → hd.heap_39 = hd.heap_39 → True := by k_fill; intros; trivial
  unfold tabs1
  k_dflt (refine' ctr_cells (binds := [(Str.ofString "digits", .ref l), (Str.ofString "n", .int n tn)]) ?k6 ?k7 ?kd ?k9 ?kB ?kD ?c2 ?c3 ?c4 ?_; (case k6 => k_is); (case k7 => k_is); (case kd => decide); (case k9 => intro s' X'; exact BindsTo.of_eq rfl); (case kB => exact rfl); (case kD => decide +kernel); (case c2 => exact rfl); (case c3 => exact rfl); (case c4 => exact rfl))
  intro p loose mean mg mb dp un gd outer A₀ base g L' h₁ tk s cells B F X N Y T hTB hpre hG hL hk1 lm hdp hun
  obtain ⟨C1, C2⟩ := hTB
  k_lt lm
  k_cells Y
  (try simp only [List.cons_append, List.nil_append] at N)
  have gl := hG _ _ (not_tabs (P := 55) (l := 74) (k := 4) (t := .cold) (q := (Str.ofString "_digits2int.<locals>.inner")) (fun p hp => N.get (List.mem_append_right [_, _, _] hp)) trivial (hk1 _ _ hpre)) hpre
  have gIL : g.IsList l vs.toArray := ⟨_, gl, rfl, _, rfl⟩
  have hl62 : ns.length < 2 ^ 62 := by omega
  (try dsimp only)
  (try k_unmd)
  k_fold
  k_steps
  rotate_left
  · rename_i o1 o2 o3 d1 d2 d3 f c oc vc tc ctv dcv h4 tk4 dc1 dc2 lc1 lc2 h5 oI F5 N5 dI hane
    have dc2' : vc[1]? = some (.str (Str.ofString "_digits2int.<locals>.inner") tc) := by rw [dc2]; rfl
    have e0 : ns = [] := List.eq_nil_of_length_eq_zero (by omega)
    (try dsimp only)
    (try k_unfold)
    refine ⟨h5, _, _, rfl, F5, ⟨_, by rw [e0]; rfl⟩, c, oc, ⟨ltN (by omega), vc, tc, dc1, dc2'⟩, tabs_two (N5.get (by k_mem)) (N5.get (by k_mem)), .inr ⟨rfl, by omega⟩⟩
  rename_i o1 o2 o3 d1 d2 d3 f c oc vc tc ctv dcv h4 tk4 dc1 dc2 lc1 lc2 h5 oI F5 N5 dI hane
  have dc2' : vc[1]? = some (.str (Str.ofString "_digits2int.<locals>.inner") tc) := by rw [dc2]; rfl
  have d2' : o2.data = .cell (some (.int n tn)) := d2
  have d3' : o3.data = .cell (some (.ref l)) := d3
  have gf := N5.get (a := f) (.head _)
  have gc := N5.get (a := c) (o := oc) (by k_mem)
  have gI := N5.get (a := L' + 1 + 1 + 1) (o := oI) (by k_mem)
  have gN := N5.get (a := L' + 1 + 1) (o := o2) (by k_mem)
  have gD := N5.get (a := L' + 1) (o := o3) (by k_mem)
  have g5l := F5.keep _ _ gl
  have key : ∀ d : JDat, Ctr prog hd.heap_39 TB w f (d.sz + 1) (40 * d.sz + 60) [.int d.L d.tL, .int d.R d.tR] []
      (fun h => (0 ≤ d.L ∧ d.L < d.R ∧ d.R ≤ ns.length) ∧ h.get? f = h5.get? f ∧ h.get? c = some oc ∧ h.get? (L' + 1 + 1 + 1) = some oI ∧ h.get? (L' + 1 + 1) = some o2 ∧ h.get? (L' + 1) = some o3 ∧ h.get? l = some (listOf vs.toArray nk))
      (fun _ v _ => ∃ tk, v = .int (undg (2 ^ n.toNat) (seg ns d.L d.R)) tk) := by
    refine by_size JDat.sz fun d IH => ?_
    obtain ⟨lo, hi, tL, tR⟩ := d
    dsimp only [JDat.sz] at IH ⊢
    k_dflt (refine' ctr_clos (binds := [(Str.ofString "L", .int lo tL), (Str.ofString "R", .int hi tR)]) ?k6 ?kd ?k9 ?kB ?c2 ?c3 ?c4 ?c5 ?_; (case k6 => (intro h0 hp; exact ⟨hp.2.1.trans gf, _, _, _, _, rfl, hp.2.2.1, dc1, dc2⟩)); (case kd => omega); (case k9 => intro s'; exact BindsTo.of_eq rfl); (case kB => exact locs rfl); (case c2 => exact rfl); (case c3 => exact rfl); (case c4 => exact rfl); (case c5 => decide))
    clear B X T C1 C2 hpre hG hk1 F5 N5 gIL
    intro p' loose' mean' mg' mb' dp' un' gd' outer' A₀' base' g' Lx h₁' tk' s' B F X N T hTB hpre hG hL' hk1 hdp' hun'
    obtain ⟨C1, C2⟩ := hTB
    obtain ⟨⟨l0, lr, rl⟩, q1, q2, q3, q4, q5, q6⟩ := hpre
    try dsimp only at l0 lr rl
    have ne : ∀ b, b ∉ List.map (fun x => x.fst) ([] : List (Addr × Obj)) := fun b hm => nomatch hm
    have g1 := hG _ _ (ne _) (q1.trans gf)
    have g2 := hG _ _ (ne _) q2
    have g3 := hG _ _ (ne _) q3
    have g4 := hG _ _ (ne _) q4
    have g5 := hG _ _ (ne _) q5
    have g6 := hG _ _ (ne _) q6
    have gIL : g'.IsList l vs.toArray := ⟨_, g6, rfl, _, rfl⟩
    have hs1 : 0 ≤ ((lo + hi) / 2 - lo) * n := Int.mul_nonneg (by omega) (by omega)
    have hs2 : ((lo + hi) / 2 - lo) * n ≤ 20 * 20 := Int.mul_le_mul (by omega) hn2 (by omega) (by omega)
    clear q1 q2 q3 q4 q5 q6 hk1
    (try clear hdp)
    (try clear hun)
    (try clear lc1)
    (try clear lc2)
    (try clear lm)
    (try clear hL)
    (try clear hl62')
    (try k_unmd)
    k_fold
    k_steps
    · rename_i hone tk1
      (try dsimp only)
      (try k_unfold)
      refine' ⟨_, _, _, rfl, F, tk1, ?_⟩
      rw [← hone, seg_one l0 (by omega)]
      show _ = Value.int (ns.getD lo.toNat 0 + 2 ^ n.toNat * 0) _
      rw [Int.mul_zero, Int.add_zero]
    · rename_i hone h1' h2' F' N'
      generalize hmid : (lo + hi) / 2 = mid at *
      have hml : lo < mid := by omega
      have hmh : mid < hi := by omega
      have eB : (2 : Int) ^ ((mid - lo) * n).toNat = (2 ^ n.toNat) ^ (mid - lo).toNat := pow_shift (by omega) (by omega)
      refine Stop.out (Ctr.use (IH ⟨mid, hi, _, _⟩ (by dsimp only; omega)) (by assumption) (by assumption) (by assumption) (by assumption) (by assumption) rfl ⟨C1, C2⟩ ⟨⟨by dsimp only; omega, hmh, rl⟩, (F'.keep _ _ g1).trans gf.symm, F'.keep _ _ g2, F'.keep _ _ g3, F'.keep _ _ g4, F'.keep _ _ g5, F'.keep _ _ g6⟩ (by dsimp only; omega) (by dsimp only; omega) ?_)
      rintro v5 h5' tk5 G5 ⟨tk6, rfl⟩ F6
      dsimp only
      have hb1 := undg_small hn hnl hds (a := mid) (b := hi) (by omega) (by omega) rl
      obtain ⟨hb1a, hb1b⟩ := hb1
      generalize hu1 : undg (2 ^ n.toNat) (seg ns mid hi) = u1 at *
      have N6 : News g' Lx h5' [] := News.nil
      clear F' N'
      k_steps
      refine Stop.out (Ctr.use (IH ⟨lo, mid, _, _⟩ (by dsimp only; omega)) (by assumption) (by assumption) (by assumption) (by assumption) (by assumption) rfl ⟨C1, C2⟩ ⟨⟨l0, hml, by dsimp only; omega⟩, (F6.keep _ _ g1).trans gf.symm, F6.keep _ _ g2, F6.keep _ _ g3, F6.keep _ _ g4, F6.keep _ _ g5, F6.keep _ _ g6⟩ (by dsimp only; omega) (by dsimp only; omega) ?_)
      rintro v7 h7' tk7 G7 ⟨tk8, rfl⟩ F7
      have N8 : News g' Lx h7' [] := News.nil
      clear F6 N6
      dsimp only
      k_steps
      (try dsimp only)
      (try k_unfold)
      refine' ⟨h7', _, _, rfl, F7, _, ?_⟩
      rotate_left
      rw [seg_split (lo := lo) (hi := hi) (mid := mid) l0 (by omega) (by omega), undg_append, seg_length l0 (by omega) (by omega), hu1, ← eB, Int.mul_comm u1, Int.add_comm]
  refine Stop.out (Ctr.use (key ⟨0, ns.length, _, _⟩) (by assumption) F5 (by assumption) (fun _ hp => nomatch hp) (by assumption) rfl ⟨C1, C2⟩
    ⟨⟨Int.le_refl _, by dsimp only; omega, Int.le_refl _⟩, rfl, gc, gI, gN, gD, g5l⟩ (by dsimp only [JDat.sz]; omega) (by dsimp only [JDat.sz]; omega) ?_)
  rintro v7 h7 tk7 G7 ⟨tk8, rfl⟩ F7
  dsimp only
  rw [seg_all]
  have k37 := G7 55 _ (fun hm => nomatch hm) (N5.get (a := 55) (by k_mem))
  have kc := G7 c _ (fun hm => nomatch hm) gc
  (try k_unfold)
  (try dsimp only)
  (try k_unfold)
  exact ⟨h7, _, _, rfl, F7, ⟨_, rfl⟩, c, oc, ⟨ltN (by omega), vc, tc, dc1, dc2'⟩, tabs_two k37 kc, .inr ⟨rfl, by omega⟩⟩
theorem c_digits2int_warm (w : World) (l : Addr) (vs : List Value) (ns : List Int) (nk : Nat) (n : Int) (tn : Tok) (hi0 : IntsAre vs ns) (hlen : ns.length ≤ 20) (hn : 0 < n) (hn2 : n ≤ 20) (hnl : n * ns.length ≤ 60) (hds : ∀ d ∈ ns, 0 ≤ d ∧ d < 2 ^ n.toNat) (c : Addr) (oc : Obj) (hok : TsOk 55 (Str.ofString "_digits2int.<locals>.inner") (.warm c oc)) :
   Ctr prog hd.heap_39 TB w 60 40 1000 [.ref l, .int n tn] (tabs1 55 74 4 (.warm c oc)) (fun h => h.get? l = some (listOf vs.toArray nk)) (PUnd 55 74 4 (Str.ofString "_digits2int.<locals>.inner") ns n (.warm c oc)) := by
  have hok' := hok
  obtain ⟨hlt0, vc, tc, dc1, dc2'⟩ := hok
  have fill : PySem.Challenge.rw_ib0004_01 = PySem.Challenge.rw_ib0004_01 → hd.heap_39 = hd.heap_39 → True := by k_fill; intros; trivial
  unfold tabs1
  k_dflt (refine' ctr_cells (binds := [(Str.ofString "digits", .ref l), (Str.ofString "n", .int n tn)]) ?k6 ?k7 ?kd ?k9 ?kB ?kD ?c2 ?c3 ?c4 ?_; (case k6 => k_is); (case k7 => k_is); (case kd => decide); (case k9 => intro s' X'; exact BindsTo.of_eq rfl); (case kB => exact rfl); (case kD => decide +kernel); (case c2 => exact rfl); (case c3 => exact rfl); (case c4 => exact rfl))
  intro p loose mean mg mb dp un gd outer A₀ base g L' h₁ tk s cells B F X N Y T hTB hpre hG hL hk1 lm hdp hun
  obtain ⟨C1, C2⟩ := hTB
  k_lt lm
  k_cells Y
  (try simp only [List.cons_append, List.nil_append] at N)
  have gl := hG _ _ (not_tabs (P := 55) (l := 74) (k := 4) (t := (.warm c oc)) (q := (Str.ofString "_digits2int.<locals>.inner")) (fun p hp => N.get (List.mem_append_right [_, _, _] hp)) hok' (hk1 _ _ hpre)) hpre
  have gIL : g.IsList l vs.toArray := ⟨_, gl, rfl, _, rfl⟩
  have hl62 : ns.length < 2 ^ 62 := by omega
  (try dsimp only)
  (try k_unmd)
  k_fold
  k_steps
  rotate_left
  · rename_i o1 o2 o3 d1 d2 d3 f ctv dcv h4 tk4 lc1 h5 oI F5 N5 dI hane
    have e0 : ns = [] := List.eq_nil_of_length_eq_zero (by omega)
    (try dsimp only)
    (try k_unfold)
    refine ⟨h5, _, _, rfl, F5, ⟨_, by rw [e0]; rfl⟩, c, oc, ⟨ltN (by omega), vc, tc, dc1, dc2'⟩, tabs_two (N5.get (by k_mem)) (N5.get (by k_mem)), .inl rfl⟩
  rename_i o1 o2 o3 d1 d2 d3 f ctv dcv h4 tk4 lc1 h5 oI F5 N5 dI hane
  have d2' : o2.data = .cell (some (.int n tn)) := d2
  have d3' : o3.data = .cell (some (.ref l)) := d3
  have gf := N5.get (a := f) (.head _)
  have gc := N5.get (a := c) (o := oc) (by k_mem)
  have gI := N5.get (a := L' + 1 + 1 + 1) (o := oI) (by k_mem)
  have gN := N5.get (a := L' + 1 + 1) (o := o2) (by k_mem)
  have gD := N5.get (a := L' + 1) (o := o3) (by k_mem)
  have g5l := F5.keep _ _ gl
  have key : ∀ d : JDat, Ctr prog hd.heap_39 TB w f (d.sz + 1) (40 * d.sz + 60) [.int d.L d.tL, .int d.R d.tR] []
      (fun h => (0 ≤ d.L ∧ d.L < d.R ∧ d.R ≤ ns.length) ∧ h.get? f = h5.get? f ∧ h.get? c = some oc ∧ h.get? (L' + 1 + 1 + 1) = some oI ∧ h.get? (L' + 1 + 1) = some o2 ∧ h.get? (L' + 1) = some o3 ∧ h.get? l = some (listOf vs.toArray nk))
      (fun _ v _ => ∃ tk, v = .int (undg (2 ^ n.toNat) (seg ns d.L d.R)) tk) := by
    refine by_size JDat.sz fun d IH => ?_
    obtain ⟨lo, hi, tL, tR⟩ := d
    dsimp only [JDat.sz] at IH ⊢
    k_dflt (refine' ctr_clos (binds := [(Str.ofString "L", .int lo tL), (Str.ofString "R", .int hi tR)]) ?k6 ?kd ?k9 ?kB ?c2 ?c3 ?c4 ?c5 ?_; (case k6 => (intro h0 hp; exact ⟨hp.2.1.trans gf, _, _, _, _, rfl, hp.2.2.1, dc1, dc2'⟩)); (case kd => omega); (case k9 => intro s'; exact BindsTo.of_eq rfl); (case kB => exact locs rfl); (case c2 => exact rfl); (case c3 => exact rfl); (case c4 => exact rfl); (case c5 => decide))
    clear B X T C1 C2 hpre hG hk1 F5 N5 gIL
    intro p' loose' mean' mg' mb' dp' un' gd' outer' A₀' base' g' Lx h₁' tk' s' B F X N T hTB hpre hG hL' hk1 hdp' hun'
    obtain ⟨C1, C2⟩ := hTB
    obtain ⟨⟨l0, lr, rl⟩, q1, q2, q3, q4, q5, q6⟩ := hpre
    try dsimp only at l0 lr rl
    have ne : ∀ b, b ∉ List.map (fun x => x.fst) ([] : List (Addr × Obj)) := fun b hm => nomatch hm
    have g1 := hG _ _ (ne _) (q1.trans gf)
    have g2 := hG _ _ (ne _) q2
    have g3 := hG _ _ (ne _) q3
    have g4 := hG _ _ (ne _) q4
    have g5 := hG _ _ (ne _) q5
    have g6 := hG _ _ (ne _) q6
    have gIL : g'.IsList l vs.toArray := ⟨_, g6, rfl, _, rfl⟩
    have hs1 : 0 ≤ ((lo + hi) / 2 - lo) * n := Int.mul_nonneg (by omega) (by omega)
    have hs2 : ((lo + hi) / 2 - lo) * n ≤ 20 * 20 := Int.mul_le_mul (by omega) hn2 (by omega) (by omega)
    clear q1 q2 q3 q4 q5 q6 hk1
    (try clear hdp)
    (try clear hun)
    (try clear lc1)
    (try clear lc2)
    (try clear lm)
    (try clear hL)
    (try clear hl62')
    (try k_unmd)
    k_fold
    k_steps
    · rename_i hone tk1
      (try dsimp only)
      (try k_unfold)
      refine' ⟨_, _, _, rfl, F, tk1, ?_⟩
      rw [← hone, seg_one l0 (by omega)]
      show _ = Value.int (ns.getD lo.toNat 0 + 2 ^ n.toNat * 0) _
      rw [Int.mul_zero, Int.add_zero]
    · rename_i hone h1' h2' F' N'
      generalize hmid : (lo + hi) / 2 = mid at *
      have hml : lo < mid := by omega
      have hmh : mid < hi := by omega
      have eB : (2 : Int) ^ ((mid - lo) * n).toNat = (2 ^ n.toNat) ^ (mid - lo).toNat := pow_shift (by omega) (by omega)
      refine Stop.out (Ctr.use (IH ⟨mid, hi, _, _⟩ (by dsimp only; omega)) (by assumption) (by assumption) (by assumption) (by assumption) (by assumption) rfl ⟨C1, C2⟩ ⟨⟨by dsimp only; omega, hmh, rl⟩, (F'.keep _ _ g1).trans gf.symm, F'.keep _ _ g2, F'.keep _ _ g3, F'.keep _ _ g4, F'.keep _ _ g5, F'.keep _ _ g6⟩ (by dsimp only; omega) (by dsimp only; omega) ?_)
      rintro v5 h5' tk5 G5 ⟨tk6, rfl⟩ F6
      dsimp only
      have hb1 := undg_small hn hnl hds (a := mid) (b := hi) (by omega) (by omega) rl
      obtain ⟨hb1a, hb1b⟩ := hb1
      generalize hu1 : undg (2 ^ n.toNat) (seg ns mid hi) = u1 at *
      have N6 : News g' Lx h5' [] := News.nil
      clear F' N'
      k_steps
      refine Stop.out (Ctr.use (IH ⟨lo, mid, _, _⟩ (by dsimp only; omega)) (by assumption) (by assumption) (by assumption) (by assumption) (by assumption) rfl ⟨C1, C2⟩ ⟨⟨l0, hml, by dsimp only; omega⟩, (F6.keep _ _ g1).trans gf.symm, F6.keep _ _ g2, F6.keep _ _ g3, F6.keep _ _ g4, F6.keep _ _ g5, F6.keep _ _ g6⟩ (by dsimp only; omega) (by dsimp only; omega) ?_)
      rintro v7 h7' tk7 G7 ⟨tk8, rfl⟩ F7
      have N8 : News g' Lx h7' [] := News.nil
      clear F6 N6
      dsimp only
      k_steps
      (try dsimp only)
      (try k_unfold)
      refine' ⟨h7', _, _, rfl, F7, _, ?_⟩
      rotate_left
      rw [seg_split (lo := lo) (hi := hi) (mid := mid) l0 (by omega) (by omega), undg_append, seg_length l0 (by omega) (by omega), hu1, ← eB, Int.mul_comm u1, Int.add_comm]
  refine Stop.out (Ctr.use (key ⟨0, ns.length, _, _⟩) (by assumption) F5 (by assumption) (fun _ hp => nomatch hp) (by assumption) rfl ⟨C1, C2⟩
    ⟨⟨Int.le_refl _, by dsimp only; omega, Int.le_refl _⟩, rfl, gc, gI, gN, gD, g5l⟩ (by dsimp only [JDat.sz]; omega) (by dsimp only [JDat.sz]; omega) ?_)
  rintro v7 h7 tk7 G7 ⟨tk8, rfl⟩ F7
  dsimp only
  rw [seg_all]
  have k37 := G7 55 _ (fun hm => nomatch hm) (N5.get (a := 55) (by k_mem))
  have kc := G7 c _ (fun hm => nomatch hm) gc
  (try k_unfold)
  (try dsimp only)
  (try k_unfold)
  exact ⟨h7, _, _, rfl, F7, ⟨_, rfl⟩, c, oc, ⟨ltN (by omega), vc, tc, dc1, dc2'⟩, tabs_two k37 kc, .inl rfl⟩
theorem c_digits2int (w : World) (l : Addr) (vs : List Value) (ns : List Int) (nk : Nat) (n : Int) (tn : Tok) (hi0 : IntsAre vs ns) (hlen : ns.length ≤ 20) (hn : 0 < n) (hn2 : n ≤ 20) (hnl : n * ns.length ≤ 60) (hds : ∀ d ∈ ns, 0 ≤ d ∧ d < 2 ^ n.toNat) (t : TS) (hok : TsOk 55 (Str.ofString "_digits2int.<locals>.inner") t) :
   Ctr prog hd.heap_39 TB w 60 40 1000 [.ref l, .int n tn] (tabs1 55 74 4 t) (fun h => h.get? l = some (listOf vs.toArray nk)) (PUnd 55 74 4 (Str.ofString "_digits2int.<locals>.inner") ns n t) := by
  cases t with
  | cold => exact c_digits2int_cold w l vs ns nk n tn hi0 hlen hn hn2 hnl hds
  | warm c o => exact c_digits2int_warm w l vs ns nk n tn hi0 hlen hn hn2 hnl hds c o hok
theorem c_div2n1n (w : World) (a b n : Int) (ta tb tn : Tok) 
  (ha : 0 ≤ a) (hb : 0 < b) (hlt : a < 1152921504606846976) (hbt : b < 1048576) (hn : 0 ≤ n) : Ctr prog hd.heap_39 TB w 39 1 8 [.int a ta, .int b tb, .int n tn] [] (fun _ => True) (PDiv a b) := by
  have fill : PySem.Challenge.rw_ib0004_01 = PySem.Challenge.rw_ib0004_01 → hd.heap_39 = hd.heap_39 → True := by k_fill; intros; trivial
  have hbits : (Builtin.Int.intBits a : Int) ≤ 60 := bits_le ha (by simpa using hlt)
  k_dflt (refine' ctr_plain (binds := [(Str.ofString "a", .int a ta), (Str.ofString "b", .int b tb), (Str.ofString "n", .int n tn)]) ?k6 ?k7 ?kd ?k9 ?kB ?c2 ?c3 ?c4 ?c5 ?_; (case k6 => k_is); (case k7 => k_is); (case kd => decide); (case k9 => intro s' X'; exact BindsTo.of_eq rfl); (case kB => exact locs rfl); (case c2 => exact rfl); (case c3 => exact rfl); (case c4 => exact rfl); (case c5 => decide))
  intro p loose mean mg mb dp un gd outer A₀ base g L' h₁ tk s B F X N T hTB hpre hG hL hk1 hdp hun
  obtain ⟨C1, C2⟩ := hTB
  try dsimp only
  (try k_unmd)
  k_fold
  k_steps
  rename_i h' F' N'
  have hD := N'.get (.head _)
  rw [Int.fdiv_eq_ediv_of_nonneg _ (by omega), Int.fmod_eq_emod_of_nonneg _ (by omega)] at hD
  exact ⟨h', _, _, rfl, F', _, _, _, rfl, hD, Nat.le_trans hL (Nat.le_of_lt F.ns.lt)⟩

theorem c_divmod_pos (w : World) (a b : Int) (ta tb : Tok) (ha : 0 ≤ a) (hb : 0 < b) (hlt : a < 1048576) (hbt : b < 1048576) (t1 t2 : TS) (ok1 : TsOk 48 (Str.ofString "_int2digits.<locals>.inner") t1) (ok2 : TsOk 55 (Str.ofString "_digits2int.<locals>.inner") t2) :
   Ctr prog hd.heap_39 TB w 67 50 1200 [.int a ta, .int b tb] (tabs1 48 59 4 t1 ++ tabs1 55 74 4 t2) (fun _ => True) (PDm 48 59 4 55 74 4 a b t1 t2) := by
  have fill : PySem.Challenge.rw_ib0004_01 = PySem.Challenge.rw_ib0004_01 → hd.heap_39 = hd.heap_39 → True := by k_fill; intros; trivial
  k_dflt (refine' ctr_plain (binds := [(Str.ofString "a", .int a ta), (Str.ofString "b", .int b tb)]) ?k6 ?k7 ?kd ?k9 ?kB ?c2 ?c3 ?c4 ?c5 ?_; (case k6 => k_is); (case k7 => k_is); (case kd => decide); (case k9 => intro s' X'; exact BindsTo.of_eq rfl); (case kB => exact locs rfl); (case c2 => exact rfl); (case c3 => exact rfl); (case c4 => exact rfl); (case c5 => decide))
  intro p loose mean mg mb dp un gd outer A₀ base g L' h₁ tk s B F X N T hTB hpre hG hL hk1 hdp hun
  obtain ⟨C1, C2⟩ := hTB
  try dsimp only
  (try k_unmd)
  k_fold
  k_steps
  rename_i h2 F2 N2
  have hB0 : 0 < ((Builtin.Int.intBits b : Nat) : Int) := by have := bits_pos (show b ≠ 0 by omega); omega
  have hB20 : ((Builtin.Int.intBits b : Nat) : Int) ≤ 20 := bits_le (by omega) (by simpa using hbt)
  have hbB : b < 2 ^ (Builtin.Int.intBits b) := lt_bits (by omega)
  generalize hn : ((Builtin.Int.intBits b : Nat) : Int) = n at *
  have hnb : n.toNat = Builtin.Int.intBits b := by omega
  rw [← hnb] at hbB
  have hap := tabs_apart (news_left N2) (news_right N2) ok1 ok2 (by decide) q_ne
  refine Stop.out (Ctr.use (c_int2digits w a n ta tk ha hlt hB0 hB20 t1 ok1) (by assumption) F2 (by assumption) (news_left N2) (by assumption) rfl ⟨C1, C2⟩ trivial (by omega) (by omega) ?_)
  rintro v3 h3 tk3 G3 ⟨⟨D, vs, rfl, hD, hI, hDs⟩, c1, o1, okc1, hc1, hcase1⟩ F3
  have NT := news_append (tabs_news F2 (news_left N2) hc1 hcase1) (news_after (news_right N2) G3 (off_of_apart hap))
  have hs2 : s.heap.objs.size ≤ h2.objs.size := Nat.le_trans hL (Nat.le_of_lt F2.ns.lt)
  have hcase1' := case_mono hs2 hcase1
  have hltT : ∀ p ∈ (tabs1 48 59 4 (.warm c1 o1) ++ tabs1 55 74 4 t2), p.1 ≠ D := fun p hp e => by
    rcases List.mem_append.mp hp with hp | hp
    · exact not_tabs (fun p hp => (news_left NT p hp).1) okc1 hD (List.mem_map.mpr ⟨p, hp, e⟩)
    · exact not_tabs (fun p hp => (news_right NT p hp).1) ok2 hD (List.mem_map.mpr ⟨p, hp, e⟩)
  have N3 := news_new F2 hD hDs NT
  obtain ⟨TL, hTL⟩ : ∃ z, z = (tabs1 48 59 4 (.warm c1 o1) ++ tabs1 55 74 4 t2) := ⟨_, rfl⟩
  rw [← hTL] at N3 hltT
  clear N2 F2 hD
  (try dsimp only)
  k_steps
  rename_i hA hB lq hC l1 l2 hDh I hE F5 N5 lI
  have hT2 : ∀ p ∈ TL, p.1 ≠ lq := fun p hp => Nat.ne_of_lt (ktn_ltOf l1.2 p hp)
  have hT3 : ∀ p ∈ TL, p.1 ≠ I := fun p hp => Nat.ne_of_lt (ktn_ltOf lI.2.2 p hp)
  have hBp : (0 : Int) < 2 ^ n.toNat := Int.pow_pos (by decide)
  have hBs : (2 : Int) ^ n.toNat ≤ 1048576 := by
    have h1 : (2 : Nat) ^ n.toNat ≤ 2 ^ 20 := Nat.pow_le_pow_right (by decide) (by omega)
    have h2 : (2 : Int) ^ n.toNat = ((2 ^ n.toNat : Nat) : Int) := by push_cast; rfl
    rw [h2]; omega
  have hIr := ints_reverse hI
  generalize hhs : (dg (2 ^ n.toNat) (ndig a n) a).reverse = hs at *
  have hsB : ∀ d ∈ hs, 0 ≤ d ∧ d < 2 ^ n.toNat := fun d hd => dg_bound hBp (ndig a n) a d (by rw [← hhs] at hd; exact List.mem_reverse.mp hd)
  have hslen : hs.length = vs.length := by rw [← hIr.length, List.length_reverse]
  have hvslen : vs.length ≤ 20 := by
    rw [hI.length, dg_length]
    by_cases h0 : a = 0
    · subst h0; rw [ndig_zero hB0]; omega
    · have h1 := (ndig_le h0 hB0).2.1
      have h2 := bits_le ha (k := 20) (by simpa using hlt)
      omega
  obtain ⟨m0, hm0, F5'⟩ := fr_name F5
  refine Stop.out (rev_M (k := 0) (vs := vs) (ax := D) (fun i m nx => ∃ r tr vq qs kq, JM (Str.ofString "a_digit") [Str.ofString "q_digit"] m0 [(Str.ofString "r", Value.int r tr)] m ∧ nx = (lq, listOf vq.toArray kq) :: (D, listOf vs.toArray 0) :: TL ∧ IntsAre vq qs ∧ qs.length = i ∧ (∀ q ∈ qs, 0 ≤ q ∧ q < 2 ^ n.toNat) ∧ 0 ≤ r ∧ r < b ∧ hv (2 ^ n.toNat) (hs.take i) = hv (2 ^ n.toNat) qs * b + r)
    rfl F5' N5 ?_ (.tail _ (.head _)) ?_ ?_ ?_ ?_)
  · intro p hp
    rcases List.mem_cons.mp hp with rfl | hp
    · k_ne
    · rcases List.mem_cons.mp hp with rfl | hp
      · k_ne
      · exact hT3 p hp
  · rintro i m nx ⟨_, _, _, _, _, _, rfl, _⟩
    exact .tail _ (.head _)
  · subst hm0
    refine' ⟨0, _, [], [], 0, ⟨fun p hp => ?hp, fun _ _ _ _ => rfl⟩, rfl, .nil, rfl, (fun _ h => nomatch h), Int.le_refl _, by omega, by simp [hv]⟩
    (case hp => rw [List.mem_singleton.mp hp]; rfl)
  · subst hm0
    clear F5 F5' N5
    rintro i v m₁ nx h tk o hvi ⟨r, tr, vq, qs, kq, jm, rfl, hq, hlen, hqs, r0, rb, inv⟩ hnI F6 N6
    obtain ⟨d, td, rfl, hd⟩ := ints_get hIr hvi
    have hdB := hsB d (List.mem_of_getElem? hd)
    have F7 := jm.fr F6
    clear F6
    have hi20 : vq.length ≤ 1048576 := by have := hq.length; have := (List.getElem?_eq_some_iff.mp hd).1; omega
    obtain ⟨hx0, hx1⟩ := shl_facts r0 rb hdB.1 hdB.2
    (try k_unmd)
    k_fold
    k_steps
    have hx2 : b * 2 ^ n.toNat ≤ 1048576 * 1048576 := Int.mul_le_mul (by omega) hBs (by omega) (by omega)
    refine Stop.out (Ctr.use (c_div2n1n w (r * 2 ^ n.toNat + d) b n _ _ _ hx0 hb (by omega) hbt (by omega)) (by assumption) F7 (by assumption) (fun _ h => nomatch h) (by assumption) rfl ⟨C1, C2⟩ trivial (by omega) (by omega) ?_)
    rintro v8 h8 tk8 G8 ⟨D8, ta8, tb8, rfl, hD8, hs8⟩ F8
    have N8 := news_new F7 hD8 hs8 (news_after (mts := []) N6 G8 (fun _ _ hm => nomatch hm))
    have l8 := lt_new N6 hs8
    k_lt l8
    clear F7 N6
    (try dsimp only)
    k_steps
    rename_i hX1 hX2 hX3 hX4 hX5 F9 N9
    have eq1 : ∀ {z : Str}, List.contains [Str.ofString "q_digit"] z = false → z ≠ Str.ofString "q_digit" := fun h e => by rw [e] at h; exact absurd h (by decide)
    refine' ⟨_, _, _, _, rfl, F9, (fun p hp => N9 p (.tail _ hp)), ?hI, _, tb8, _, qs ++ [(r * 2 ^ n.toNat + d) / b], kq + 1, ⟨?j1, ?j2⟩, rfl, ints_append hq (.cons _ _ .nil), by simp [hlen], ?hqs, Int.emod_nonneg _ (by omega), Int.emod_lt_of_pos _ hb, ?inv⟩
    · intro p hp
      rcases List.mem_cons.mp hp with rfl | hp
      · k_ne
      · rcases List.mem_cons.mp hp with rfl | hp
        · k_ne
        · exact hT3 p hp
    · intro p hp
      rw [List.mem_singleton.mp hp]; rfl
    · intro z z1 z2 z3
      have a1 := z2 _ (.head _)
      have a2 := eq1 z3
      simp only [kstB, if_neg a1, if_neg a2, if_neg z1, z3, Bool.false_eq_true, if_false]
    · intro q hq
      rcases List.mem_append.mp hq with hq | hq
      · exact hqs q hq
      · rw [List.mem_singleton.mp hq]
        exact ⟨Int.ediv_nonneg hx0 (by omega), Int.ediv_lt_of_lt_mul hb (by rw [Int.mul_comm (2 ^ n.toNat) b]; exact hx1)⟩
    · rw [List.take_add_one, hd, Option.toList_some, hv_snoc, inv, hv_snoc]
      exact step_inv
  · subst hm0
    clear F5 F5' N5
    rintro m₁ nx h tk ⟨r, tr, vq, qs, kq, jm, rfl, hq, hlen, hqs, r0, rb, inv⟩ F6 N6
    have F7 := jm.frOut F6
    clear F6
    have hi20 : vq.length ≤ 1048576 := by have := hq.length; omega
    (try dsimp only)
    k_steps
    rename_i hX1 hX2 F9 N9
    have hmul := ndig_mul ha hlt hB0 hB20
    have hvl : vs.length = ndig a n := by rw [hI.length, dg_length]
    have hql : qs.reverse.length = ndig a n := by rw [List.length_reverse]; omega
    have NT9 : News g L' hX2 TL := fun p hp => N9 p (.tail _ (.tail _ hp))
    rw [hTL] at NT9
    have hap9 := tabs_apart (news_right NT9) (news_left NT9) ok2 okc1 (by decide) (Ne.symm q_ne)
    refine Stop.out (Ctr.use (c_digits2int w lq vq.reverse qs.reverse kq n _ (ints_reverse hq) (by omega) hB0 hB20 (by rw [hql]; exact hmul) (fun d hd => hqs d (List.mem_reverse.mp hd)) t2 ok2) (by assumption) F9 (by assumption) (news_right NT9) (by assumption) rfl ⟨C1, C2⟩ (N9 _ (.head _)).1 (by omega) (by omega) ?_)
    rintro v10 h10 tk10 G10 ⟨⟨tq, rfl⟩, c2, o2, okc2, hc2, hcase2⟩ F10
    have NT10 := news_append (news_after (news_left NT9) G10 (off_of_apart hap9)) (tabs_news F9 (news_right NT9) hc2 hcase2)
    have hs9 : s.heap.objs.size ≤ hX2.objs.size := Nat.le_trans hL (Nat.le_of_lt F9.ns.lt)
    have hcase2' := case_mono hs9 hcase2
    obtain ⟨TL2, hTL2⟩ : ∃ z, z = (tabs1 48 59 4 (.warm c1 o1) ++ tabs1 55 74 4 (.warm c2 o2)) := ⟨_, rfl⟩
    rw [← hTL2] at NT10
    clear F9 N9 NT9
    (try dsimp only)
    k_steps
    rename_i lD hY3 F11 N11 lY1 lY2
    (try dsimp only)
    (try k_unfold)
    have hQ : undg (2 ^ n.toNat) qs.reverse = hv (2 ^ n.toNat) qs := by rw [← hv_rev, List.reverse_reverse]
    have hva : hv (2 ^ n.toNat) hs = a := by rw [← hhs]; exact a_value ha hB0
    rw [List.take_of_length_le (by omega), hva] at inv
    obtain ⟨e1, e2⟩ := qr_of inv r0 rb
    have hD11 := N11.get (.head _)
    rw [hQ, e1, e2] at hD11
    have hsub : ∀ p ∈ TL2, hY3.get? p.1 = some p.2 := fun p hp => (N11 p (.tail _ hp)).1
    rw [hTL2] at hsub
    exact ⟨_, _, _, rfl, F11, ⟨_, _, _, rfl, hD11, by first | exact Nat.le_trans hL (Nat.le_of_lt lY2) | exact Nat.le_trans hL (Nat.le_of_lt lY1)⟩, ⟨c1, o1, okc1, fun p hp => hsub p (List.mem_append_left _ hp), hcase1'⟩, ⟨c2, o2, okc2, fun p hp => hsub p (List.mem_append_right _ hp), hcase2'⟩⟩

theorem c_int_divmod (w : World) (a b : Int) (ta tb : Tok) (ha : 0 ≤ a) (hb : 0 < b) (hlt : a < 1048576) (hbt : b < 1048576) (t1 t2 : TS) (ok1 : TsOk 48 (Str.ofString "_int2digits.<locals>.inner") t1) (ok2 : TsOk 55 (Str.ofString "_digits2int.<locals>.inner") t2) :
   Ctr prog hd.heap_39 TB w 74 60 1300 [.int a ta, .int b tb] (tabs1 48 59 4 t1 ++ tabs1 55 74 4 t2) (fun _ => True) (PDm 48 59 4 55 74 4 a b t1 t2) := by
  have fill : PySem.Challenge.rw_ib0004_01 = PySem.Challenge.rw_ib0004_01 → hd.heap_39 = hd.heap_39 → True := by k_fill; intros; trivial
  k_dflt (refine' ctr_plain (binds := [(Str.ofString "a", .int a ta), (Str.ofString "b", .int b tb)]) ?k6 ?k7 ?kd ?k9 ?kB ?c2 ?c3 ?c4 ?c5 ?_; (case k6 => k_is); (case k7 => k_is); (case kd => decide); (case k9 => intro s' X'; exact BindsTo.of_eq rfl); (case kB => exact locs rfl); (case c2 => exact rfl); (case c3 => exact rfl); (case c4 => exact rfl); (case c5 => decide))
  intro p loose mean mg mb dp un gd outer A₀ base g L' h₁ tk s B F X N T hTB hpre hG hL hk1 hdp hun
  obtain ⟨C1, C2⟩ := hTB
  have hb1 : ¬ b = 0 := by omega
  have hb2 : (b == 0) = false := by simpa using hb1
  have hb3 : decide (b = 0) = false := by simpa using hb1
  try dsimp only
  (try k_unmd)
  k_fold
  k_steps
  refine Stop.out (Ctr.use (c_divmod_pos w a b ta tb ha hb hlt hbt t1 t2 ok1 ok2) (by assumption) F (by assumption) N (by assumption) rfl ⟨C1, C2⟩ trivial (by omega) (by omega) ?_)
  rintro v3 h3 tk3 G3 ⟨⟨D, td1, td2, rfl, hD, hDs⟩, ⟨c1, o1, okc1, hc1, hcase1⟩, ⟨c2, o2, okc2, hc2, hcase2⟩⟩ F3
  have hs2 : s.heap.objs.size ≤ h₁.objs.size := Nat.le_trans hL (Nat.le_of_lt F.ns.lt)
  (try dsimp only)
  (try k_unfold)
  (try dsimp only)
  (try k_unfold)
  exact ⟨_, _, _, rfl, F3, ⟨_, _, _, rfl, hD, Nat.le_trans hs2 hDs⟩, ⟨c1, o1, okc1, hc1, case_mono hs2 hcase1⟩, ⟨c2, o2, okc2, hc2, case_mono hs2 hcase2⟩⟩
local macro_rules | `(tactic| walk_at "exec While") => `(tactic| (k_here; refine Stop.mk ?_))
local macro_rules | `(tactic| walk_at "binaryOp FloorDiv int int") => `(tactic| (k_here; (with_reducible refine' fdiv_M ?k1 ?k2 ?_); (case k1 => omega); (case k2 => omega)))
local macro_rules | `(tactic| walk_at "binaryOp Mod int int") => `(tactic| (k_here; (with_reducible refine' mod_M ?k1 ?_); (case k1 => omega)))
local macro_rules | `(tactic| walk_at "call builtin:list.insert") => `(tactic| (k_here; k_dflt (show wpAny _ _ (call (Value.builtin _) [Value.ref _, Value.int _ _, _]) _ _ _); k_dflt (refine' insert_M ?k1 ?k2 ?k3 ?k4 ?k5 ?k6 ?_; (case k1 => k_asm); (case k2 => k_asm); (case k3 => k_upd); (case k4 => omega); (case k5 => omega); (case k6 => omega); k_whole); intro h' F' N'; (try k_sweep)))

theorem binds_at {K : Frag} {f : Addr} {args : List Value} {binds : List (Str × Value)} {name qual params body scope dV kV doc pm an cdv ct oc od osl} (h : K.lookup f = some ⟨oc, od, .func (fnOf name qual params body scope dV kV doc pm an cdv ct), osl⟩)
   (hb : ∀ s : Shared, K.In s.heap → BindsTo s (fnOf name qual params body scope dV kV doc pm an cdv ct) ⟨args, []⟩ binds) :
   ∀ name qual params body scope dV kV doc pm an cdv ct oc od osl, K.lookup f = some ⟨oc, od, .func (fnOf name qual params body scope dV kV doc pm an cdv ct), osl⟩ → ∀ s : Shared, K.In s.heap → BindsTo s (fnOf name qual params body scope dV kV doc pm an cdv ct) ⟨args, []⟩ binds := by
  intro _ _ _ _ _ _ _ _ _ _ _ _ _ _ _ e
  rw [h] at e
  injection e with e1
  injection e1 with _ _ e2 _
  injection e2 with e3
  rw [← e3]
  exact hb
theorem c_bisectG (w : World) (l : Addr) (vs : List Value) (ns : List Int) (k : Nat) (x : Int) (tx t0 : Tok) (hI : IntsAre vs ns) (hlen : ns.length ≤ 1048576) (hsrt : Srt ns) (args : List Value)
   (hb : ∀ name qual params body scope dV kV doc pm an cdv ct oc od osl, (hd.heap_39 w.params).lookup 32 = some ⟨oc, od, .func (fnOf name qual params body scope dV kV doc pm an cdv ct), osl⟩ → ∀ s : Shared, (hd.heap_39 w.params).In s.heap → BindsTo s (fnOf name qual params body scope dV kV doc pm an cdv ct) ⟨args, []⟩ [(Str.ofString "a", .ref l), (Str.ofString "x", .int x tx), (Str.ofString "lo", .int 0 t0), (Str.ofString "hi", .none), (Str.ofString "key", .none)]) :
   Ctr prog hd.heap_39 TB w 32 1 200 args [] (fun h => h.get? l = some (listOf vs.toArray k)) (PBis ns x) := by
  have fill : PySem.Challenge.rw_ib0004_01 = PySem.Challenge.rw_ib0004_01 → hd.heap_39 = hd.heap_39 → True := by k_fill; intros; trivial
  k_dflt (refine' ctr_plain ?k6 ?k7 ?kd ?k9 ?kB ?c2 ?c3 ?c4 ?c5 ?_; (case k6 => k_is); (case k7 => k_is); (case kd => decide); (case k9 => exact hb _ _ _ _ _ _ _ _ _ _ _ _ _ _ _ (by k_is)); (case kB => exact locs rfl); (case c2 => exact rfl); (case c3 => exact rfl); (case c4 => exact rfl); (case c5 => decide))
  intro p loose mean mg mb dp un gd outer A₀ base g L' h₁ tk s B F X N T hTB hpre hG hL hk1 hdp hun
  obtain ⟨C1, C2⟩ := hTB
  have gl := hG _ _ (fun hm => nomatch hm) hpre
  have gIL : g.IsList l vs.toArray := ⟨_, gl, rfl, _, rfl⟩
  have hl62 : ns.length < 2 ^ 62 := by omega
  (try dsimp only)
  (try k_unmd)
  k_fold
  k_steps
  rename_i h5 F5 N5
  obtain ⟨m0, hm0, F5'⟩ := fr_name F5
  refine Stop.out (While_inv (n₀ := ns.length) (fun n m nx => ∃ lo hi tlo thi, n = (hi - lo).toNat ∧ JM (Str.ofString "mid") [] m0 [(Str.ofString "lo", Value.int lo tlo), (Str.ofString "hi", Value.int hi thi)] m ∧ nx = [] ∧ BLoop ns x lo hi) F5' N5 ?_ ?_)
  · subst hm0
    refine' ⟨0, ns.length, _, _, by omega, ⟨fun p hp => ?j1, fun _ _ _ _ => rfl⟩, rfl, BLoop.start⟩
    (case j1 =>
      rcases List.mem_cons.mp hp with rfl | hp
      · rfl
      · rw [List.mem_singleton.mp hp]; rfl)
  · subst hm0
    clear F5 F5' N5
    rintro n m₁ nx h tk F6 N6 ⟨lo, hi, tlo, thi, rfl, jm, rfl, bl⟩
    have F7 := jm.frOut F6
    clear F6
    obtain ⟨b0, b1, b2, b3, b4⟩ := id bl
    (try k_unmd)
    k_fold
    k_steps
    · rename_i hlt hh1 tt hx hh2 F8 N8
      refine' WhileStep.intro (n' := (hi - ((lo + hi) / 2 + 1)).toNat) F8 N8 (by omega) ⟨(lo + hi) / 2 + 1, hi, _, thi, rfl, ⟨fun p hp => ?j1, ?j2⟩, rfl, BLoop.right hsrt bl hlt hx⟩
      (case j1 =>
        rcases List.mem_cons.mp hp with rfl | hp
        · rfl
        · rw [List.mem_singleton.mp hp]; rfl)
      (case j2 =>
        intro z z1 z2 z3
        have a1 : z ≠ Str.ofString "lo" := z2 _ (.head _)
        have a2 : z ≠ Str.ofString "hi" := z2 _ (.tail _ (.head _))
        simp only [kstB, if_neg a1, if_neg a2, if_neg z1, List.contains_nil, Bool.false_eq_true, if_false])
    · rename_i hlt hh1 tt hx hh2 F8 N8
      refine' WhileStep.intro (n' := ((lo + hi) / 2 - lo).toNat) F8 N8 (by omega) ⟨lo, (lo + hi) / 2, tlo, _, rfl, ⟨fun p hp => ?j1, ?j2⟩, rfl, BLoop.left hsrt bl hlt hx⟩
      (case j1 =>
        rcases List.mem_cons.mp hp with rfl | hp
        · rfl
        · rw [List.mem_singleton.mp hp]; rfl)
      (case j2 =>
        intro z z1 z2 z3
        have a1 : z ≠ Str.ofString "lo" := z2 _ (.head _)
        have a2 : z ≠ Str.ofString "hi" := z2 _ (.tail _ (.head _))
        simp only [kstB, if_neg a1, if_neg a2, if_neg z1, List.contains_nil, Bool.false_eq_true, if_false])
    · rename_i hlt
      (try dsimp only)
      (try k_unfold)
      (try dsimp only)
      (try k_unfold)
      exact ⟨_, _, _, rfl, F7, lo, _, rfl, bl.out hlt⟩

theorem c_bisect2 (w : World) (l : Addr) (vs : List Value) (ns : List Int) (k : Nat) (x : Int) (tx : Tok) (hI : IntsAre vs ns) (hlen : ns.length ≤ 1048576) (hsrt : Srt ns) : 
   Ctr prog hd.heap_39 TB w 32 1 200 [.ref l, .int x tx] [] (fun h => h.get? l = some (listOf vs.toArray k)) (PBis ns x) := by
  exact c_bisectG w l vs ns k x tx _ hI hlen hsrt _ (by
    k_dflt (refine' binds_at ?k6 ?k9; (case k6 => k_is); (case k9 => intro s' X'; (refine' kp_binds ?kx ?ke; (case kx => exact X'); (case ke => exact fun _ => rfl)))))

theorem c_bisect4 (w : World) (l : Addr) (vs : List Value) (ns : List Int) (k : Nat) (x : Int) (tx t0 : Tok) (hI : IntsAre vs ns) (hlen : ns.length ≤ 1048576) (hsrt : Srt ns) : 
   Ctr prog hd.heap_39 TB w 32 1 200 [.ref l, .int x tx, .int 0 t0, .none] [] (fun h => h.get? l = some (listOf vs.toArray k)) (PBis ns x) := by
  exact c_bisectG w l vs ns k x tx _ hI hlen hsrt _ (by
    k_dflt (refine' binds_at ?k6 ?k9; (case k6 => k_is); (case k9 => intro s' X'; (refine' kp_binds ?kx ?ke; (case kx => exact X'); (case ke => exact fun _ => rfl)))))

theorem c_insort (w : World) (l : Addr) (vs : List Value) (ns : List Int) (k : Nat) (x : Int) (tx : Tok) (hI : IntsAre vs ns) (hlen : ns.length ≤ 1000000) (hsrt : Srt ns) : 
   Ctr prog hd.heap_39 TB w 23 2 300 [.ref l, .int x tx] [(l, listOf vs.toArray k)] (fun _ => True) (PIns l ns k x) := by
  have fill : PySem.Challenge.rw_ib0004_01 = PySem.Challenge.rw_ib0004_01 → hd.heap_39 = hd.heap_39 → True := by k_fill; intros; trivial
  k_dflt (refine' ctr_plain ?k6 ?k7 ?kd ?k9 ?kB ?c2 ?c3 ?c4 ?c5 ?_; (case k6 => k_is); (case k7 => k_is); (case kd => decide); (case k9 => intro s' X'; (refine' kp_binds ?kx ?ke; (case kx => exact X'); (case ke => exact fun _ => rfl))); (case kB => exact locs rfl); (case c2 => exact rfl); (case c3 => exact rfl); (case c4 => exact rfl); (case c5 => decide))
  intro p loose mean mg mb dp un gd outer A₀ base g L' h₁ tk s B F X N T hTB hpre hG hL hk1 hdp hun
  obtain ⟨C1, C2⟩ := hTB
  (try dsimp only)
  (try k_unmd)
  k_fold
  k_steps
  refine Stop.out (Ctr.use (c_bisect4 w l vs ns k x _ _ hI (by omega) hsrt) (by assumption) F (by assumption) (fun _ h => nomatch h) (by assumption) rfl ⟨C1, C2⟩ (N.get (.head _)) (by omega) (by omega) ?_)
  rintro v3 h3 tk3 G3 ⟨r, tr, rfl, hb⟩ F3
  have N3 := news_after (mts := []) N G3 (fun _ _ hm => nomatch hm)
  have hr0 := hb.1
  have hr1 := hb.2.1
  have hvl : vs.length ≤ 1000000 := by rw [hI.length]; exact hlen
  have hr2 : r ≤ vs.length := by rw [hI.length]; exact hr1
  clear F N
  (try dsimp only)
  k_steps
  rename_i hh F5 N5
  (try dsimp only)
  (try k_unfold)
  (try dsimp only)
  (try k_unfold)
  exact ⟨_, _, _, rfl, F5, rfl, r, _, hb, N5.get (.head _), ints_ins hI r.toNat x _⟩
abbrev TabsL (TL : List (Addr × Obj)) : Prop := TabsIs 48 59 4 55 74 4 TL
abbrev TNxL (TL : List (Addr × Obj)) (h : Heap) (TL' : List (Addr × Obj)) (h' : Heap) : Prop := TNx 48 59 4 55 74 4 TL h TL' h'
theorem e_int_divmod (w : World) (a b : Int) (ta tb : Tok) (ha : 0 ≤ a) (hb : 0 < b) (hlt : a < 1048576) (hbt : b < 1048576) (TL : List (Addr × Obj)) (hT : TabsL TL) :
   Ctr prog hd.heap_39 TB w 74 60 1300 [.int a ta, .int b tb] TL (fun _ => True) (fun h v h' => PDiv a b h v h' ∧ ∃ TL', TNxL TL h TL' h') := by
  obtain ⟨t1, t2, rfl, ok1, ok2⟩ := hT
  exact (c_int_divmod w a b ta tb ha hb hlt hbt t1 t2 ok1 ok2).weak (fun _ h => h) fun _ _ _ _ _ _ _ P => ⟨P.1, tnx_of P.2.1 P.2.2⟩
local macro_rules | `(tactic| walk_at "eval ListComp") => `(tactic| (k_here; k_dflt (refine LCg.ListComp_U (F₀ := by k_asm) (by with_unfolding_all rfl) (by decide) (by rfl) (by decide) (by rfl) ?_)))
local macro_rules | `(tactic| walk_at "eval ListComp") => `(tactic| (k_here; lct_look; k_dflt (refine LCt.ListComp_T (F₀ := by k_asm) (by with_unfolding_all rfl) (by decide) (by rfl) (by decide) (by rfl) ?_)))
local macro_rules | `(tactic| walk_at "CompSrcT") => `(tactic| (refine Stop.mk ?_))
local macro_rules | `(tactic| walk_at "CompRestT") => `(tactic| (refine Stop.mk ?_))
local macro_rules | `(tactic| walk_at "CompSrc") => `(tactic| (refine Stop.mk ?_))
local macro_rules | `(tactic| walk_at "CompRest") => `(tactic| (refine Stop.mk ?_))
local macro_rules | `(tactic| walk_at "mine item") => `(tactic| (k_here; (with_reducible show wpAny _ _ (subscriptTail _ _ (Value.ref _) (Value.int _ _)) _ _ _); k_dflt (refine' item_M ?k1 ?k2 ?k3 ?k4 ?k5 ?k6 rfl ?_ ?q1 ?q2; (case k1 => k_asm); (case k2 => k_mem); (case k3 => with_reducible assumption); (case k4 => omega); (case k5 => omega); (case k6 => omega); (case q1 => with_unfolding_all rfl); (case q2 => intro _; with_unfolding_all rfl); k_whole); intro _))
local macro_rules | `(tactic| walk_at "mine item") => `(tactic| (k_here; (with_reducible show wpAny _ _ (subscriptTail _ _ (Value.ref _) (Value.int _ _)) _ _ _); k_dflt (refine' item_G ?k1 ?k2 ?k3 ?k4 ?k5 ?k6 ?_ ?q1 ?q2; (case k1 => k_asm); (case k2 => with_reducible assumption); (case k3 => with_reducible assumption); (case k4 => omega); (case k5 => omega); (case k6 => omega); (case q1 => with_unfolding_all rfl); (case q2 => intro _; with_unfolding_all rfl); k_whole); intro _))
local macro_rules | `(tactic| walk_at "subscriptTail") => `(tactic| walk_at "mine item")
local macro_rules | `(tactic| walk_at "subscriptTail Name Constant ref int") => `(tactic| walk_at "mine item")
local macro_rules | `(tactic| walk_at "subscriptTail Name Name ref int") => `(tactic| walk_at "mine item")
local macro_rules | `(tactic| walk_at "subscriptTail Name Subscript ref int") => `(tactic| walk_at "mine item")
local macro_rules | `(tactic| walk_at "subscriptTail Name BinOp ref int") => `(tactic| walk_at "mine item")
local macro_rules | `(tactic| walk_at "call builtin:list.index") => `(tactic| (k_here; k_dflt (show wpAny _ _ (call (Value.builtin _) [Value.ref _, Value.int _ _]) _ _ _); k_dflt (refine' index_M ?k1 ?k2 ?k3 ?k4 ?k5 ?_; (case k1 => k_asm); (case k2 => k_mem); (case k3 => with_reducible assumption); (case k4 => omega); (case k5 => assumption); k_whole)))
local macro_rules | `(tactic| walk_at "GrownAll") => `(tactic| (refine Stop.mk ?_))
local macro_rules | `(tactic| walk_at "exec If") => `(tactic| (k_here; (with_reducible rename MarkIf => mkIf); clear mkIf; refine Stop.mk ?_))
local macro_rules | `(tactic| walk_at "exec If BoolOp") => `(tactic| (k_here; (with_reducible rename MarkIf => mkIf); clear mkIf; refine Stop.mk ?_))
local macro_rules | `(tactic| walk_at "subscriptTail BinOp") => `(tactic| (k_here; k_dflt (refine kba_turn (value' := PySem.Expr.Name (PySem.Str.ofString "_") ⟨0, 0, 0, 0⟩) (fun _ => rfl) ?_)))
local macro_rules | `(tactic| walk_at "subscriptTail Name Slice ref ref") => `(tactic| (k_here; (with_reducible show wpAny _ _ (subscriptTail _ (PySem.Expr.Slice (some _) none none _) (Value.ref _) (Value.ref _)) _ _ _); k_dflt (refine' slicefrom_M ?F ?N ?m ?i ?z ?b ?_ ?s ?t; (case F => k_asm); (case N => k_asm); (case m => k_mem); (case i => with_reducible assumption); (case z => omega); (case b => omega); (case s => with_unfolding_all rfl); (case t => intro _; with_unfolding_all rfl)); intro D' ws' h' F' N' l1 hI'; (try k_lt l1); (try k_sweep)))
local macro_rules | `(tactic| walk_at "compareOp Eq ref ref") => `(tactic| (k_here; refine Stop.mk ?_))
local macro_rules | `(tactic| walk_at "compareOp NotEq ref ref") => `(tactic| (k_here; refine Stop.mk ?_))
local macro_rules | `(tactic| walk_at "compareOp In int ref") => `(tactic| (k_here; k_dflt (refine in_list_ints (News.isList (by k_asm) (by k_mem)) (by with_reducible assumption) ?_)))
local macro_rules | `(tactic| walk_at "compareOp NotIn int ref") => `(tactic| (k_here; k_dflt (refine notin_list_ints (News.isList (by k_asm) (by k_mem)) (by with_reducible assumption) ?_)))
local macro_rules | `(tactic| walk_at "call builtin:sorted") => `(tactic| (k_here; k_dflt (show wpAny _ _ (call (Value.builtin "sorted") [Value.ref _]) _ _ _); k_dflt (refine' sorted_M ?F ?N ?m ?i ?b ?_; (case F => k_asm); (case N => k_asm); (case m => k_mem); (case i => with_reducible assumption); (case b => omega)); intro D' v' n' e' h' F' N' l1 i' p' o'; (try k_lt l1); (try k_sweep)))
local macro_rules | `(tactic| walk_at "eval ListComp") => `(tactic| (k_here; lct_look; (with_reducible rename MarkCell => mkCell); clear mkCell; k_dflt (refine comp_cell (by k_asm) (by with_unfolding_all rfl) (by rfl) (by decide) (by rfl) (by intro _; rfl) (by intro _; rfl) ?_ (by intro _; rfl))))
theorem c_after (w : World) (l : Addr) (vs : List Value) (ls : List Int) (lk : Nat) (n : Nat) (x steps : Int) (t1 t2 : Tok) (H : Lds ls n) (hI : IntsAre vs ls) (h0 : 0 ≤ x) (h1 : x < n) (s0 : 0 ≤ steps) (s1 : steps ≤ 100) :
   Ctr prog hd.heap_39 TB w 88 1 200 [.ref l, .int x t1, .int steps t2] [] (fun h => h.get? l = some (listOf vs.toArray lk)) (fun _ v _ => ∃ t, v = .int (it ls steps.toNat x) t) := by
  have fill : PySem.Challenge.rw_ib0004_01 = PySem.Challenge.rw_ib0004_01 → hd.heap_39 = hd.heap_39 → True := by k_fill; intros; trivial
  k_dflt (refine' ctr_plain (binds := [(Str.ofString "leads", .ref l), (Str.ofString "first", .int x t1), (Str.ofString "steps", .int steps t2)]) ?k6 ?k7 ?kd ?k9 ?kB ?c2 ?c3 ?c4 ?c5 ?_; (case k6 => k_is); (case k7 => k_is); (case kd => decide); (case k9 => intro s' X'; exact BindsTo.of_eq rfl); (case kB => exact locs rfl); (case c2 => exact rfl); (case c3 => exact rfl); (case c4 => exact rfl); (case c5 => decide))
  intro p loose mean mg mb dp un gd outer A₀ base g L' h₁ tk s B F X N T hTB hpre hG hL hk1 hdp hun
  obtain ⟨C1, C2⟩ := hTB
  have gl := hG _ _ (fun hm => nomatch hm) hpre
  have gIL : g.IsList l vs.toArray := ⟨_, gl, rfl, _, rfl⟩
  have hlen := H.len
  have hn12 := H.n12
  (try dsimp only)
  (try k_unmd)
  k_fold
  k_steps
  (rename IsRange _ _ _ _ _ _ _ _ => hr)
  (rename Fr _ _ _ _ => F5)
  (rename News _ _ _ _ => N5)
  obtain ⟨m0, hm0, F5'⟩ := fr_name F5
  refine Stop.out (range_M (n := steps.toNat) (fun i m nx => ∃ t, JM (Str.ofString "turn") [] m0 [(Str.ofString "first", Value.int (it ls i x) t)] m ∧ nx = []) rfl hr (range_small s0 (by omega)) (range_size s0) F5' N5 ?_ ?_ ?_)
  · subst hm0
    refine' ⟨_, ⟨fun p hp => ?j1, fun _ _ _ _ => rfl⟩, rfl⟩
    (case j1 => rw [List.mem_singleton.mp hp]; rfl)
  · subst hm0
    clear F5 F5' N5 hr
    rintro i t I m₁ nx h tk o hi ⟨tf, jm, rfl⟩ hnI hlI F6 N6
    have F7 := jm.fr F6
    clear F6
    obtain ⟨b1, b2⟩ := H.it h0 h1 i
    (try k_unmd)
    k_fold
    k_steps
    (rename Fr _ _ _ _ => F9)
    (rename News _ _ _ _ => N9)
    refine' ⟨_, _, _, _, rfl, F9, N9, (fun _ h => nomatch h), _, ⟨fun p hp => ?j1, ?j2⟩, rfl⟩
    (case j1 => rw [List.mem_singleton.mp hp]; rfl)
    (case j2 =>
      intro z z1 z2 z3
      have a1 : z ≠ Str.ofString "first" := z2 _ (.head _)
      simp only [kstB, if_neg a1, if_neg z1, List.contains_nil, Bool.false_eq_true, if_false])
  · subst hm0
    clear F5 F5' N5 hr
    rintro m₁ nx h tk ⟨tf, jm, rfl⟩ F6 N6
    have F7 := jm.frOut F6
    clear F6
    (try dsimp only)
    k_steps
    (try dsimp only)
    (try k_unfold)
    (try dsimp only)
    (try k_unfold)
    exact ⟨_, _, _, rfl, F7, _, rfl⟩

def PWay (ls : List Int) (x : Int) (n : Nat) (h : Heap) (v : Value) (h' : Heap) : Prop :=
  ∃ (D R : Addr) (rvs : List Value) (st rg : Nat) (t1 t2 : Tok), v = .ref D ∧ h'.get? D = some { cls := .type "tuple", data := .seq #[.int (st : Int) t1, .int (rg : Int) t2, .ref R] } ∧ h'.get? R = some (listOf rvs.toArray (st + rg)) ∧ IntsAre rvs (rowL ls x (st + rg)) ∧ WayIs ls x st rg ∧ st + rg ≤ n ∧ h.objs.size ≤ R ∧ R < D
theorem c_way (w : World) (l : Addr) (vs : List Value) (ls : List Int) (lk : Nat) (n : Nat) (x : Int) (t1 : Tok) (H : Lds ls n) (hI : IntsAre vs ls) (h0 : 0 ≤ x) (h1 : x < n) :
   Ctr prog hd.heap_39 TB w 81 4 500 [.ref l, .int x t1] [] (fun h => h.get? l = some (listOf vs.toArray lk)) (PWay ls x n) := by
  have fill : PySem.Challenge.rw_ib0004_01 = PySem.Challenge.rw_ib0004_01 → hd.heap_39 = hd.heap_39 → True := by k_fill; intros; trivial
  k_dflt (refine' ctr_plain (binds := [(Str.ofString "leads", .ref l), (Str.ofString "first", .int x t1)]) ?k6 ?k7 ?kd ?k9 ?kB ?c2 ?c3 ?c4 ?c5 ?_; (case k6 => k_is); (case k7 => k_is); (case kd => decide); (case k9 => intro s' X'; exact BindsTo.of_eq rfl); (case kB => exact locs rfl); (case c2 => exact rfl); (case c3 => exact rfl); (case c4 => exact rfl); (case c5 => decide))
  intro p loose mean mg mb dp un gd outer A₀ base g L' h₁ tk s B F X N T hTB hpre hG hL hk1 hdp hun
  obtain ⟨C1, C2⟩ := hTB
  have gl := hG _ _ (fun hm => nomatch hm) hpre
  have gIL : g.IsList l vs.toArray := ⟨_, gl, rfl, _, rfl⟩
  have hlen := H.len
  have hn12 := H.n12
  have hl62 : ls.length < 2 ^ 62 := by omega
  (try dsimp only)
  (try k_unmd)
  k_fold
  k_steps
  (rename IsRange _ _ _ _ _ _ _ _ => hr)
  (rename Fr _ _ _ _ => F5)
  (rename News _ _ _ _ => N5)
  obtain ⟨tup1, row1, ord1, ea1, ea2, ea3⟩ := news3_name N5
  subst ea1
  subst ea2
  subst ea3
  (rename ord1 < row1 => lB1)
  (rename L' < row1 => lB2)
  have lOR := ltN (a := ord1) (b := row1) lB1
  have hLs : s.heap.objs.size ≤ L' := hL
  obtain ⟨m0, hm0, F5'⟩ := fr_name F5
  have N6 : News g L' _ [(row1, listOf ([] : List Value).toArray 0), (ord1, listOf ([] : List Value).toArray 0)] := fun p hp => N5 p (.tail _ hp)
  refine Stop.out (range_M (n := ls.length + 1) (fun i m nx => ∃ ovs rvs t, nx = [(row1, listOf rvs.toArray i), (ord1, listOf ovs.toArray i)] ∧ IntsAre rvs (rowL ls x i) ∧ IntsAre ovs (ordW ls x i) ∧ (rowL ls x i).Nodup ∧ JM (Str.ofString "turn") [Str.ofString "place"] m0 [(Str.ofString "here", Value.int (it ls i x) t)] m) rfl hr (range_small (by omega) (by omega)) (by rw [range_size (by omega)]; congr 1) F5' N6 ?_ ?_ ?_)
  · subst hm0
    refine' ⟨[], [], _, rfl, .nil, .nil, List.nodup_nil, ⟨fun p hp => ?j1, fun _ _ _ _ => rfl⟩⟩
    (case j1 => rw [List.mem_singleton.mp hp]; rfl)
  · subst hm0
    clear F5 F5' N5 N6 hr
    rintro i t I m₁ nx h tk o hi ⟨ovs, rvs, tf, rfl, hR, hO, hnd, jm⟩ hnI hlI F6 N6
    have F7 := jm.fr F6
    clear F6
    obtain ⟨b1, b2⟩ := H.it h0 h1 i
    have lI1 := ltN (a := row1) (b := I) (hlI _ (.head _))
    have lI2 := ltN (a := ord1) (b := I) (hlI _ (.tail _ (.head _)))
    have hRl : (rowL ls x i).length = i := rowL_length ls x i
    have hOl : (ordW ls x i).length = i := ordW_length ls x i
    have hrl : rvs.length = i := by rw [hR.length, hRl]
    have hol : ovs.length = i := by rw [hO.length, hOl]
    obtain ⟨hv, hhv⟩ : ∃ z, z = it ls i x := ⟨_, rfl⟩
    rw [← hhv] at F7 b1 b2
    (try k_unmd)
    k_fold
    k_steps
    (rename Fr _ _ _ _ => F8)
    (rename News _ _ _ _ => N8)
    refine Stop.out (Ctr.use (c_bisect2 w ord1 ovs (ordW ls x i) i hv _ hO (by omega) (ordW_srt ls x i)) (by assumption) F8 (by assumption) (fun _ h => nomatch h) (by assumption) rfl ⟨C1, C2⟩ (N8.get (.tail _ (.tail _ (.head _)))) (by omega) (by omega) ?_)
    rintro v9 h9 tk9 G9 ⟨r, tr, rfl, hb⟩ F9
    have N9 := re_0 N8 G9
    have r0 := hb.1
    have r1 := hb.2.1
    clear F8 N8 G9
    (try dsimp only)
    by_cases hf : hv ∈ rowL ls x i
    · obtain ⟨q1, q2⟩ := bis_found (ordW_srt ls x i) hb (mem_ordW.mpr hf)
      k_steps
      · (rename Fr _ _ _ _ => F10)
        (rename News _ _ _ _ => N10)
        obtain ⟨D, eD⟩ := news_name N10
        subst eD
        (rename I < D ∧ row1 < D ∧ ord1 < D => lD1)
        obtain ⟨st, rg, e1, e2, W⟩ := way_found (hhv ▸ hf) hnd
        rw [← hhv] at e1
        have e3 : ((rowL ls x i).length : Int) - (st : Int) = (rg : Int) := by rw [hRl]; omega
        have hDo := N10.get (.head _)
        have hRo := N10.get (.tail _ (.tail _ (.head _)))
        rw [e1, e3] at hDo
        have hwn : st + rg ≤ n := by rw [e2]; have := hi; rw [hlen] at this; omega
        rw [← e2] at hRo hR
        (try dsimp only)
        (try k_unfold)
        (try dsimp only)
        (try k_unfold)
        exact ⟨_, _, _, rfl, F10, _, row1, rvs, st, rg, _, _, rfl, hDo, hRo, hR, W, hwn, Nat.le_trans hLs (Nat.le_of_lt lB2), lD1.2.1⟩
      · exact absurd q2 (by assumption)
    · have hmark : MarkIf := trivial
      k_steps
      (rename Fr _ _ _ _ => F10)
      (rename News _ _ _ _ => N10)
      obtain ⟨m2, hm2, F10'⟩ := fr_name F10
      refine Stop.out (if_join (g := g) (L := L') (m := m2) (news := [(I, o), (row1, listOf rvs.toArray i), (ord1, listOf ovs.toArray i)]) ?_ ?_)
      · clear F10'
        subst hm2
        k_steps
        all_goals first | exact ⟨rfl, _, _, rfl, by assumption, by assumption⟩ | exact absurd (mem_ordW.mp (bis_at hb (by assumption) (by assumption))) hf
      · subst hm2
        clear F10' F10 N10
        intro h11 tk11 F11 N11
        (try dsimp only)
        k_steps
        (rename Fr _ _ _ _ => F12)
        (rename News _ _ _ _ => N12)
        refine Stop.out (Ctr.use (c_insort w ord1 ovs (ordW ls x i) i hv _ hO (by omega) (ordW_srt ls x i)) (by assumption) F12 (by assumption) (fun p hp => by rw [List.mem_singleton.mp hp]; exact N12 _ (.tail _ (.tail _ (.head _)))) (by assumption) rfl ⟨C1, C2⟩ trivial (by omega) (by omega) ?_)
        rintro v14 h14 tk14 G14 ⟨rfl, r2, ovs', hb2, hoo, hoi⟩ F14
        rw [ins_insf _ _ _ hb2, hhv] at hoi
        have N14 := re_o (ps := [(I, o), (row1, listOf rvs.toArray i)]) (qs := []) N12 G14 rfl hoo (fun p hp => by
          rcases List.mem_cons.mp hp with rfl | hp
          · exact Nat.ne_of_gt lI2
          · rw [List.mem_singleton.mp hp]; exact Nat.ne_of_gt lOR) (fun _ hp => nomatch hp)
        clear F12 N12 G14 hoo hb2 hb
        (try simp only [List.cons_append, List.nil_append] at N14)
        (try dsimp only)
        k_steps
        (rename Fr _ _ _ _ => F15)
        (rename News _ _ _ _ => N15)
        rw [hhv] at F15 N15
        refine' ⟨_, _, _, _, rfl, F15, N15, ?sep, ovs', _, _, rfl, ?hr2, hoi, ?hn2, ⟨fun p hp => ?j1, ?j2⟩⟩
        (case sep =>
          exact fun p hp => (List.mem_cons.mp hp).elim (fun e => by rw [e]; exact Nat.ne_of_lt lI1) fun hp => by rw [List.mem_singleton.mp hp]; exact Nat.ne_of_lt lI2)
        (case hr2 => rw [rowL_succ]; exact IntsAre.append hR (.cons _ _ .nil))
        (case hn2 => rw [rowL_succ]; exact nodup_snoc hnd (hhv ▸ hf))
        (case j1 => rw [List.mem_singleton.mp hp]; rfl)
        (case j2 =>
          intro z z1 z2 z3
          have a1 : z ≠ Str.ofString "here" := z2 _ (.head _)
          have a2 : z ≠ Str.ofString "place" := fun e => by rw [e] at z3; exact absurd z3 (by decide)
          simp only [kstB, if_neg a1, if_neg a2, if_neg z1, z3, Bool.false_eq_true, if_false])
  · rintro m₁ nx h tk ⟨ovs, rvs, tf, rfl, hR, hO, hnd, jm⟩ F6 N6
    have := pigeon hnd (n := n) (fun y hy => by
      obtain ⟨j, _, e⟩ := mem_rowL.mp hy
      rw [← e]; exact H.it h0 h1 j)
    rw [rowL_length] at this
    omega
set_option maxHeartbeats 8000000 in
theorem X : PySem.Challenge.rw_ib0004_01.Holds := hd (by
  k_go0
  all_goals (try k_fold)
  k_steps
  (rename Shared => s1)
  generalize hLL : s1.heap.objs.size = L at *
  (rename CellsAre _ _ _ => Y0)
  (rename Heap.CodeRec _ _ _ => z2)
  (rename Ground _ _ _ _ _ _ _ _ _ => z3)
  (rename Flt.MathXP _ _ _ => z4)
  (rename LooseAre _ _ _ => z5)
  (rename Tables _ _ _ _ => z6)
  (rename TopE _ _ _ _ => z7)
  (rename TopW _ _ _ => z8)
  (rename TabsAt _ _ => z9)
  (rename ReadsAllW _ _ _ _ _ _ => z10)
  (rename Well _ _ _ _ => z11)
  (rename Reads _ _ _ _ => z12)
  (rename ReadsAll _ _ _ _ => z13)
  clear Y0 z2 z3 z4 z5 z6 z7 z8 z9 z10 z11 z12 z13
  rename_i h1 tk1 oR oL oM0 X' T' K' C59 hz1 tz1 hz2 tz2 hz3 oM dM0 lst0 hz4 sum1 svs1 hz5 hI1 sl1 slv hz6 hI2 hC2 hL2 dR0 dL0 dX0 l0 lA1 lA2 lB1 F N lC1
  (rename CodeHd _ 52 48 => C1)
  (rename CodeHd _ 59 55 => C2)
  have dR : oR.data = .cell none := dR0
  have dL : oL.data = .cell none := dL0
  obtain ⟨script, es⟩ := script_name hI1
  subst es
  clear dR0 dL0 dX0 hC2 hL2 hI1
  generalize hmv : (if (if (script.length : Int) < 12 then (script.length : Int) else 12) > 1 then (if (script.length : Int) < 12 then (script.length : Int) else 12) else 1) = many at *
  have hmf := many_facts hmv
  obtain ⟨hm1, hm12, hml⟩ := hmf
  have hm63 : script.length ≤ 63 := by omega
  obtain ⟨tkM, dM⟩ : ∃ t, oM.data = .cell (some (.int many t)) := ⟨_, dM0⟩
  clear dM0
  obtain ⟨src, hsrc⟩ : ∃ z, z = (script ++ [0]).take many.toNat := ⟨_, rfl⟩
  rw [← hsrc] at hI2
  have hsl : src.length = many.toNat := by rw [hsrc]; simp; omega
  have H : Lds (src.map fun x => x % many) many.toNat := by rw [hsrc]; exact lds_of ⟨hm1, hm12, hml⟩
  obtain ⟨ls, hls⟩ : ∃ z, z = src.map fun x => x % many := ⟨_, rfl⟩
  rw [← hls] at H
  have hsv : slv.length = many.toNat := by rw [hI2.length, hsl]
  have T0 : ∃ TL, TabsL TL ∧ News (ghostOf s1.heap [(59, 55), (52, 48)]) L hz6 ((sl1, listOf slv.toArray 0) :: (L + 1 + 1 + 1, oR) :: (L + 1 + 1, oL) :: (L + 1, oM) :: TL) ∧ Sep [sl1, L + 1 + 1 + 1, L + 1 + 1, L + 1] TL := by
    refine ⟨tabs1 48 59 4 .cold ++ tabs1 55 74 4 .cold, ⟨.cold, .cold, rfl, trivial, trivial⟩, fun p hp => ?_, ?_⟩
    · rcases List.mem_cons.mp hp with rfl | hp
      · exact N _ (.head _)
      · rcases List.mem_cons.mp hp with rfl | hp
        · exact N _ (.tail _ (.tail _ (.tail _ (.head _))))
        · rcases List.mem_cons.mp hp with rfl | hp
          · exact N _ (.tail _ (.tail _ (.tail _ (.tail _ (.head _)))))
          · rcases List.mem_cons.mp hp with rfl | hp
            · exact N _ (.tail _ (.tail _ (.tail _ (.tail _ (.tail _ (.head _))))))
            · rcases List.mem_cons.mp hp with rfl | hp
              · exact N _ (.tail _ (.tail _ (.tail _ (.tail _ (.tail _ (.tail _ (.tail _ (.head _))))))))
              · rw [List.mem_singleton.mp hp]
                exact N _ (.tail _ (.tail _ (.tail _ (.tail _ (.tail _ (.tail _ (.head _)))))))
    · have h2 : ∀ {a : Addr}, 55 < a → 48 < a → ∀ p ∈ tabs1 48 59 4 .cold ++ tabs1 55 74 4 .cold, p.1 ≠ a := fun h37 h30 p hp => by
        rcases List.mem_cons.mp hp with rfl | hp
        · exact Nat.ne_of_lt h30
        · rw [List.mem_singleton.mp hp]; exact Nat.ne_of_lt h37
      exact .cons (h2 lC1.2.2.2.2.2.1 lC1.2.2.2.2.2.2) (.cons (h2 (Nat.lt_succ_of_lt (Nat.lt_succ_of_lt (Nat.lt_succ_of_lt l0.1))) (Nat.lt_succ_of_lt (Nat.lt_succ_of_lt (Nat.lt_succ_of_lt l0.2)))) (.cons (h2 (Nat.lt_succ_of_lt (Nat.lt_succ_of_lt l0.1)) (Nat.lt_succ_of_lt (Nat.lt_succ_of_lt l0.2))) (.cons (h2 (Nat.lt_succ_of_lt l0.1) (Nat.lt_succ_of_lt l0.2)) .nil)))
  obtain ⟨TL, hT, N0, sp⟩ := T0
  have lS1 := lC1.2.2.1
  have lS2 := lC1.2.2.2.1
  have lS3 := lC1.2.2.2.2.1
  clear N lA1 lA2 lB1 lC1
  obtain ⟨scr, ea⟩ := isl_name lifted
  subst ea
  generalize hmB : bindL _ _ _ = mB at F ⊢
  have hmS : mB (Str.ofString "script") = some (.ref scr) := by rw [← hmB]; rfl
  clear hmB
  refine Stop.out (LCg.CompSrc.ledger (its := slv.toArray) rfl F N0 (.head _) (by rw [sizeLine_eq]; simp; omega) fun g2 => ?_)
  refine rest_U (fun j ys nw => nw = (sl1, listOf slv.toArray 0) :: (L + 1 + 1 + 1, oR) :: (L + 1 + 1, oL) :: (L + 1, oM) :: TL ∧ IntsAre ys ((src.take j).map fun x => x % many)) ?_ ?_ ?_
  rotate_left
  · exact ⟨rfl, .nil⟩
  · rintro j ys nw v I2 oI2 C3 oC3 D m₂ h12 tk12 E' hj ⟨rfl, hIy⟩ hv hC3 hx F13 N13 off ne
    obtain ⟨x, tx, rfl, hxd⟩ := ints_get (i := j) hI2 (by simpa using hv)
    k_steps
    refine LCg.CompEnd.intro F13 N13 _ (fun p hp => hp) off (.inr ⟨_, .head _, rfl, _, rfl⟩) ⟨rfl, ?_⟩
    rw [List.take_add_one, hxd, List.map_append]
    exact IntsAre.append hIy (.cons _ _ .nil)
  · rintro lvs nw ⟨rfl, hIl⟩ lds1 h12 tk12 F13 N13 o11
    rw [List.take_of_length_le (by simp; omega), ← hls] at hIl
    have dI := off1_mem o11
    have dl1 : L + 1 + 1 + 1 ≠ lds1 := dI _ (.tail _ (.head _))
    have dl2 : L + 1 + 1 ≠ lds1 := dI _ (.tail _ (.tail _ (.head _)))
    have dl3 : L + 1 ≠ lds1 := dI _ (.tail _ (.tail _ (.tail _ (.head _))))
    have sl : ∀ p ∈ TL, p.1 ≠ lds1 := fun p hp => dI p (.tail _ (.tail _ (.tail _ (.tail _ hp))))
    have N14 : News (ghostOf s1.heap [(59, 55), (52, 48)]) L h12 ((lds1, listOf lvs.toArray lvs.length) :: (L + 1 + 1 + 1, oR) :: (L + 1 + 1, oL) :: (L + 1, oM) :: TL) := fun p hp => by
      rcases List.mem_cons.mp hp with rfl | hp
      · exact N13 _ (.head _)
      · exact N13 p (.tail _ (.tail _ hp))
    have sp1 : Sep [lds1, L + 1 + 1 + 1, L + 1 + 1, L + 1] TL := .cons sl sp.tail
    obtain ⟨mC, F14⟩ := frs [(Str.ofString "script", .ref scr)] F13 (fun p hp => by rw [List.mem_singleton.mp hp]; exact hmS)
    clear F N0 sp F13 N13 o11 dI hmS
    have sl1' := sp1.head
    have sl2' := sp1.tail.head
    have sl3' := sp1.tail.tail.head
    have sl4' := sp1.tail.tail.tail.head
    (try dsimp only)
    k_steps
    (rename Obj => oE)
    (rename oE.data = _ => dE)
    (rename Fr _ _ _ _ => F15)
    (rename News _ _ _ _ => N15)
    have hcm0 : 0 < many := by omega
    obtain ⟨fst, hfst⟩ : ∃ z, z = script.sum % many := ⟨_, rfl⟩
    have f0 : 0 ≤ fst := by rw [hfst]; exact Int.emod_nonneg _ (Int.ne_of_gt hcm0)
    have f1 : fst < many := by rw [hfst]; exact Int.emod_lt_of_pos _ hcm0
    have f1' : fst < (many.toNat : Int) := by omega
    rw [← hfst] at F15 ⊢
    have hlsl : ls.length = many.toNat := H.len
    refine Stop.out (Ctr.use (c_way _ lds1 lvs ls lvs.length many.toNat fst _ H hIl f0 f1') (by assumption) F15 (by assumption) (fun _ h => nomatch h) (by assumption) rfl ⟨C1, C2⟩ (N15.get (.head _)) (by decide) (by decide) ?_)
    rintro v h16 tk16 G16 ⟨D, row1, rvs, st, rg, tt1, tt2, rfl, hDo, hRo, hR, W, hwn, hsR, hRD⟩ F16
    have N16 := news_new F15 hDo (Nat.le_trans hsR (Nat.le_of_lt hRD)) (news_new F15 hRo hsR (re_0 N15 G16))
    have sl5 : ∀ p ∈ TL, p.1 ≠ row1 := fun p hp => Nat.ne_of_lt (Nat.lt_of_lt_of_le (Heap.lt_size (N15 p (.tail _ (.tail _ (.tail _ (.tail _ hp))))).1) hsR)
    have lr0 := ltN (a := lds1) (b := row1) (Nat.lt_of_lt_of_le (Heap.lt_size (N15 _ (.head _)).1) hsR)
    have lr1 := ltN (a := L + 1 + 1 + 1) (b := row1) (Nat.lt_of_lt_of_le (Heap.lt_size (N15 _ (.tail _ (.head _))).1) hsR)
    have lr2 := ltN (a := L + 1 + 1) (b := row1) (Nat.lt_of_lt_of_le (Heap.lt_size (N15 _ (.tail _ (.tail _ (.head _)))).1) hsR)
    have lr3 := ltN (a := L + 1) (b := row1) (Nat.lt_of_lt_of_le (Heap.lt_size (N15 _ (.tail _ (.tail _ (.tail _ (.head _))))).1) hsR)
    have sp2 : Sep [row1, lds1, L + 1 + 1 + 1, L + 1 + 1, L + 1] TL := .cons sl5 sp1
    clear F15 N15 G16 hDo hRo hsR sp1 sl
    have b1 : 0 ≤ ls.getD fst.toNat 0 ∧ ls.getD fst.toNat 0 < (many.toNat : Int) := H.stp f0 f1'
    obtain ⟨b10, b11⟩ := b1
    have hst : (st : Int) ≤ 12 := by omega
    (try dsimp only)
    k_steps
    (rename Fr _ _ _ _ => F17)
    (rename News _ _ _ _ => N17)
    have N18 : News (ghostOf s1.heap [(59, 55), (52, 48)]) L _ ((row1, listOf rvs.toArray (st + rg)) :: (lds1, listOf lvs.toArray lvs.length) :: (L + 1 + 1 + 1, oR) :: (L + 1 + 1, oE) :: (L + 1, oM) :: TL) := fun p hp => N17 p (.tail _ (.tail _ hp))
    obtain ⟨mD, F18⟩ := frs [(Str.ofString "slow", .int (ls.getD fst.toNat 0) _), (Str.ofString "quick", .int (ls.getD (ls.getD fst.toNat 0).toNat 0) _), (Str.ofString "turns", .int 1 _), (Str.ofString "row", .ref row1), (Str.ofString "ring", .int (rg : Int) tt2), (Str.ofString "steps", .int (st : Int) tt1), (Str.ofString "first", .int fst _)] F17 (List.forall_mem_cons.mpr ⟨rfl, List.forall_mem_cons.mpr ⟨rfl, List.forall_mem_cons.mpr ⟨rfl, List.forall_mem_cons.mpr ⟨rfl, List.forall_mem_cons.mpr ⟨rfl, List.forall_mem_cons.mpr ⟨rfl, List.forall_mem_cons.mpr ⟨rfl, List.forall_mem_nil _⟩⟩⟩⟩⟩⟩⟩)
    obtain ⟨m0, hm0, F18'⟩ := fr_name F18
    clear F17 N17
    refine Stop.out (While_inv (n₀ := 29) (fun n m nx => ∃ (t : Nat) (ts tq tt : Tok), n = 30 - t ∧ 1 ≤ t ∧ t ≤ 30 ∧ (∀ j, 1 ≤ j → j < t → it ls j fst ≠ it ls (2 * j) fst) ∧ JM (Str.ofString "~") [] m0 [(Str.ofString "slow", Value.int (it ls t fst) ts), (Str.ofString "quick", Value.int (it ls (2 * t) fst) tq), (Str.ofString "turns", Value.int (t : Int) tt)] m ∧ nx = (row1, listOf rvs.toArray (st + rg)) :: (lds1, listOf lvs.toArray lvs.length) :: (L + 1 + 1 + 1, oR) :: (L + 1 + 1, oE) :: (L + 1, oM) :: TL) F18' N18 ?_ ?_)
    · subst hm0
      exact ⟨1, _, _, _, rfl, Nat.le_refl _, by decide, fun j h1 h2 => by omega, ⟨List.forall_mem_cons.mpr ⟨rfl, List.forall_mem_cons.mpr ⟨rfl, List.forall_mem_cons.mpr ⟨rfl, List.forall_mem_nil _⟩⟩⟩, fun _ _ _ _ => rfl⟩, rfl⟩
    · subst hm0
      clear F18' F18 N18 b10 b11
      rintro n m₁ nx h tk20 F6 N6 ⟨t, ts, tq, tt, rfl, ht1, ht30, hmin, jm, rfl⟩
      have F7 := jm.frOut F6
      clear F6
      obtain ⟨s0, s2⟩ := H.it f0 f1' t
      obtain ⟨q0, q2⟩ := H.it f0 f1' (2 * t)
      have e1 : it ls (t + 1) fst = ls.getD (it ls t fst).toNat 0 := rfl
      have e2 : it ls (2 * (t + 1)) fst = ls.getD (ls.getD (it ls (2 * t) fst).toNat 0).toNat 0 := rfl
      obtain ⟨u0, u2⟩ : 0 ≤ ls.getD (it ls (2 * t) fst).toNat 0 ∧ ls.getD (it ls (2 * t) fst).toNat 0 < (many.toNat : Int) := H.stp q0 q2
      obtain ⟨sv, hsv2⟩ : ∃ z, z = it ls t fst := ⟨_, rfl⟩
      obtain ⟨qv, hqv2⟩ : ∃ z, z = it ls (2 * t) fst := ⟨_, rfl⟩
      rw [← hsv2] at F7 s0 s2 e1
      rw [← hqv2] at F7 q0 q2 u0 u2 e2
      (try k_unmd)
      k_fold
      k_steps
      · (rename Fr _ _ _ _ => F8)
        (rename News _ _ _ _ => N8)
        (rename sv ≠ qv => hne)
        (rename (t : Int) < 30 => ht29)
        rw [← e1, ← e2] at F8
        refine' WhileStep.intro (n' := 30 - (t + 1)) (news₂ := (row1, listOf rvs.toArray (st + rg)) :: (lds1, listOf lvs.toArray lvs.length) :: (L + 1 + 1 + 1, oR) :: (L + 1 + 1, oE) :: (L + 1, oM) :: TL) F8 (fun p hp => N8 p (.tail _ hp)) (by omega) ⟨t + 1, _, _, _, rfl, by omega, by omega, ?mn, ⟨List.forall_mem_cons.mpr ⟨rfl, List.forall_mem_cons.mpr ⟨rfl, List.forall_mem_cons.mpr ⟨rfl, List.forall_mem_nil _⟩⟩⟩, ?j2⟩, rfl⟩
        (case mn =>
          intro j h1 h2
          rcases Nat.lt_or_ge j t with h3 | h3
          · exact hmin j h1 h3
          · have : j = t := by omega
            subst this
            rw [← hsv2, ← hqv2]; exact hne)
        (case j2 =>
          intro z z1 z2 z3
          have a1 : z ≠ Str.ofString "slow" := z2 _ (.head _)
          have a2 : z ≠ Str.ofString "quick" := z2 _ (.tail _ (.head _))
          have a3 : z ≠ Str.ofString "turns" := z2 _ (.tail _ (.tail _ (.head _)))
          simp only [kstB, if_neg a1, if_neg a2, if_neg a3, if_neg z1, List.contains_nil, Bool.false_eq_true, if_false])
      · exfalso
        (rename ¬ (t : Int) < 30 => ht29)
        obtain ⟨t0, w1, w2, w3⟩ := W.soon
        exact hmin t0 w1 (by omega) w3
      · (rename sv = qv => hse)
        rw [hsv2, hqv2] at hse
        obtain ⟨hts, htr⟩ := W.meet ht1 hse
        have ht13 : t ≤ st + rg := by
          obtain ⟨t0, w1, w2, w3⟩ := W.soon
          rcases Nat.lt_or_ge t0 t with h3 | h3
          · exact absurd w3 (hmin t0 w1 h3)
          · omega
        clear hmin
        have hrg1 := W.r1
        have hrp : (0 : Int) < (rg : Int) := by omega
        have g1 : ((t : Int) % (rg : Int) != 0) = false := by
          have : ((t : Int) % (rg : Int)) = ((t % rg : Nat) : Int) := by push_cast; rfl
          rw [this, htr]; rfl
        rw [hsv2] at F7
        obtain ⟨mE, F8⟩ := frs [(Str.ofString "slow", .int (it ls t fst) ts), (Str.ofString "turns", .int (t : Int) tt), (Str.ofString "row", .ref row1), (Str.ofString "ring", .int (rg : Int) tt2), (Str.ofString "steps", .int (st : Int) tt1), (Str.ofString "first", .int fst _)] F7 (List.forall_mem_cons.mpr ⟨rfl, List.forall_mem_cons.mpr ⟨rfl, List.forall_mem_cons.mpr ⟨rfl, List.forall_mem_cons.mpr ⟨rfl, List.forall_mem_cons.mpr ⟨rfl, List.forall_mem_cons.mpr ⟨rfl, List.forall_mem_nil _⟩⟩⟩⟩⟩⟩)
        clear F7 jm
        refine Stop.out (Ctr.use (e_int_divmod _ (t : Int) (rg : Int) _ _ (by omega) hrp (by omega) (by omega) TL hT) (by assumption) F8 (by assumption) (fun p hp => N6 p (.tail _ (.tail _ (.tail _ (.tail _ (.tail _ hp)))))) (by assumption) rfl ⟨C1, C2⟩ trivial (by decide) (by decide) ?_)
        rintro v h22 tk22 G22 ⟨⟨D2, td1, td2, rfl, hD2, hDs2⟩, TL2, x2⟩ F22
        obtain ⟨N22, sp3, hT2⟩ := re_s [(row1, listOf rvs.toArray (st + rg)), (lds1, listOf lvs.toArray lvs.length), (L + 1 + 1 + 1, oR), (L + 1 + 1, oE), (L + 1, oM)] F8 N6 G22 x2 sp2 rfl
        have N23 := news_new F8 hD2 hDs2 N22
        (try simp only [List.cons_append, List.nil_append] at N23)
        clear F8 N6 N22 G22 x2 hD2 hDs2 hT sp2 sl5 sl1' sl2' sl3' sl4'
        have sr1 := sp3.head
        have sr2 := sp3.tail.head
        have sr3 := sp3.tail.tail.head
        have sr4 := sp3.tail.tail.tail.head
        have sr5 := sp3.tail.tail.tail.tail.head
        (try dsimp only)
        k_steps
        (rename Fr _ _ _ _ => F24)
        (rename News _ _ _ _ => N24)
        have N25 : News (ghostOf s1.heap [(59, 55), (52, 48)]) L _ ((row1, listOf rvs.toArray (st + rg)) :: (lds1, listOf lvs.toArray lvs.length) :: (L + 1 + 1 + 1, oR) :: (L + 1 + 1, oE) :: (L + 1, oM) :: TL2) := fun p hp => N24 p (.tail _ (.tail _ hp))
        obtain ⟨mF, F25⟩ := frs [(Str.ofString "one", .int fst _), (Str.ofString "two", .int (it ls t fst) _), (Str.ofString "count", .int 0 _), (Str.ofString "row", .ref row1), (Str.ofString "ring", .int (rg : Int) tt2), (Str.ofString "steps", .int (st : Int) tt1), (Str.ofString "first", .int fst _)] F24 (List.forall_mem_cons.mpr ⟨rfl, List.forall_mem_cons.mpr ⟨rfl, List.forall_mem_cons.mpr ⟨rfl, List.forall_mem_cons.mpr ⟨rfl, List.forall_mem_cons.mpr ⟨rfl, List.forall_mem_cons.mpr ⟨rfl, List.forall_mem_cons.mpr ⟨rfl, List.forall_mem_nil _⟩⟩⟩⟩⟩⟩⟩)
        obtain ⟨m3, hm3, F25'⟩ := fr_name F25
        clear F24 N24 e1 e2 u0 u2 q0 q2 s0 s2 hse g1
        refine Stop.out (While_inv (n₀ := 30) (fun n m nx => ∃ (c : Nat) (ts tq tt : Tok), n = 30 - c ∧ c ≤ st ∧ JM (Str.ofString "~") [] m3 [(Str.ofString "one", Value.int (it ls c fst) ts), (Str.ofString "two", Value.int (it ls (t + c) fst) tq), (Str.ofString "count", Value.int (c : Int) tt)] m ∧ nx = (row1, listOf rvs.toArray (st + rg)) :: (lds1, listOf lvs.toArray lvs.length) :: (L + 1 + 1 + 1, oR) :: (L + 1 + 1, oE) :: (L + 1, oM) :: TL2) F25' N25 ?_ ?_)
        · subst hm3
          exact ⟨0, _, _, _, rfl, Nat.zero_le _, ⟨List.forall_mem_cons.mpr ⟨rfl, List.forall_mem_cons.mpr ⟨rfl, List.forall_mem_cons.mpr ⟨rfl, List.forall_mem_nil _⟩⟩⟩, fun _ _ _ _ => rfl⟩, rfl⟩
        · subst hm3
          clear F25' F25 N25
          rintro n m₁ nx h tk20 F6 N6 ⟨c, ts, tq, tt, rfl, hc, jm, rfl⟩
          have F7 := jm.frOut F6
          clear F6
          obtain ⟨s0, s2⟩ := H.it f0 f1' c
          obtain ⟨q0, q2⟩ := H.it f0 f1' (t + c)
          have e1 : it ls (c + 1) fst = ls.getD (it ls c fst).toNat 0 := rfl
          have e2 : it ls (t + (c + 1)) fst = ls.getD (it ls (t + c) fst).toNat 0 := rfl
          obtain ⟨s3, hsv3⟩ : ∃ z, z = it ls c fst := ⟨_, rfl⟩
          obtain ⟨q3, hqv3⟩ : ∃ z, z = it ls (t + c) fst := ⟨_, rfl⟩
          rw [← hsv3] at F7 s0 s2 e1
          rw [← hqv3] at F7 q0 q2 e2
          have markIf : MarkIf := trivial
          (try k_unmd)
          k_fold
          k_steps
          · (rename Fr _ _ _ _ => F8)
            (rename News _ _ _ _ => N8)
            (rename s3 ≠ q3 => hne)
            rw [← e1, ← e2] at F8
            have hcs : c ≠ st := fun e => hne (by rw [hsv3, hqv3, e]; exact W.atst htr)
            refine' WhileStep.intro (n' := 30 - (c + 1)) (news₂ := (row1, listOf rvs.toArray (st + rg)) :: (lds1, listOf lvs.toArray lvs.length) :: (L + 1 + 1 + 1, oR) :: (L + 1 + 1, oE) :: (L + 1, oM) :: TL2) F8 (fun p hp => N8 p (.tail _ hp)) (by omega) ⟨c + 1, _, _, _, rfl, by omega, ⟨List.forall_mem_cons.mpr ⟨rfl, List.forall_mem_cons.mpr ⟨rfl, List.forall_mem_cons.mpr ⟨rfl, List.forall_mem_nil _⟩⟩⟩, ?j2⟩, rfl⟩
            (case j2 =>
              intro z z1 z2 z3
              have a1 : z ≠ Str.ofString "one" := z2 _ (.head _)
              have a2 : z ≠ Str.ofString "two" := z2 _ (.tail _ (.head _))
              have a3 : z ≠ Str.ofString "count" := z2 _ (.tail _ (.tail _ (.head _)))
              simp only [kstB, if_neg a1, if_neg a2, if_neg a3, if_neg z1, List.contains_nil, Bool.false_eq_true, if_false])
          · exfalso
            (rename ¬ (c : Int) < 30 => hc30)
            omega
          · (rename s3 = q3 => hse)
            rw [hsv3, hqv3] at hse
            have hcs : st = c := by have := W.begin ht1 htr hse; omega
            subst hcs
            rw [hsv3] at F7
            obtain ⟨mG, F8⟩ := frs [(Str.ofString "one", .int (it ls st fst) ts), (Str.ofString "count", .int (st : Int) tt), (Str.ofString "row", .ref row1), (Str.ofString "ring", .int (rg : Int) tt2), (Str.ofString "steps", .int (st : Int) tt1), (Str.ofString "first", .int fst _)] F7 (List.forall_mem_cons.mpr ⟨rfl, List.forall_mem_cons.mpr ⟨rfl, List.forall_mem_cons.mpr ⟨rfl, List.forall_mem_cons.mpr ⟨rfl, List.forall_mem_cons.mpr ⟨rfl, List.forall_mem_cons.mpr ⟨rfl, List.forall_mem_nil _⟩⟩⟩⟩⟩⟩)
            have hRl : (rowL ls fst (st + rg)).length = st + rg := rowL_length _ _ _
            have g2 : ((st : Int) != (st : Int)) = false := by simp
            have g3 : (it ls st fst != (rowL ls fst (st + rg)).getD ((st : Int)).toNat 0) = false := by
              rw [Int.toNat_natCast, rowL_getD (by omega)]; simp
            clear F7 jm s0 s2 q0 q2 e1 e2 hse hc
            refine Stop.out ?_
            (try dsimp only)
            k_steps
            (rename Fr _ _ _ _ => F9)
            (rename News _ _ _ _ => N9)
            rename_i lst3 h30 lL1 lL2
            have fi : ∀ {w1 w2 w3 w4 : Tok} {i : Nat} {v : Value}, [Value.int (st : Int) w1, .int ((st : Int) + 1) w2, .int ((st : Int) + 17) w3, .int 40 w4][i]? = some v → ∃ (N : Int) (t : Tok), v = .int N t ∧ (st : Int) ≤ N ∧ N ≤ 40 := fun h => four_item (by omega) (by omega) h
            obtain ⟨gvs, hgv⟩ : ∃ z, z = [Value.int (st : Int) tt1, .int ((st : Int) + 1) (tk20 + 1), .int ((st : Int) + 17) (tk20 + 1 + 1 + 1), .int 40 (tk20 + 1 + 1 + 1 + 1)] := ⟨_, rfl⟩
            have hgi : ∀ {i : Nat} {v : Value}, gvs[i]? = some v → ∃ (N : Int) (t : Tok), v = .int N t ∧ (st : Int) ≤ N ∧ N ≤ 40 := fun h => fi (hgv ▸ h)
            have N10 : News (ghostOf s1.heap [(59, 55), (52, 48)]) L h30 ((lst3, listOf gvs.toArray 0) :: (row1, listOf rvs.toArray (st + rg)) :: (lds1, listOf lvs.toArray lvs.length) :: (L + 1 + 1 + 1, oR) :: (L + 1 + 1, oE) :: (L + 1, oM) :: TL2) := by rw [hgv]; exact N9
            have sp4 : Sep [lst3, row1, lds1, L + 1 + 1 + 1, L + 1 + 1, L + 1] TL2 := .cons (fun p hp => Nat.ne_of_lt (ktn_ltOf lL1.2.2.2.2.2 p hp)) sp3
            clear hgv N9 fi g2 g3
            obtain ⟨mH, F10⟩ := frs [(Str.ofString "row", .ref row1), (Str.ofString "ring", .int (rg : Int) tt2), (Str.ofString "steps", .int (st : Int) tt1), (Str.ofString "first", .int fst _)] F9 (List.forall_mem_cons.mpr ⟨rfl, List.forall_mem_cons.mpr ⟨rfl, List.forall_mem_cons.mpr ⟨rfl, List.forall_mem_cons.mpr ⟨rfl, List.forall_mem_nil _⟩⟩⟩⟩)
            obtain ⟨m5, hm5, F10'⟩ := fr_name F10
            clear F9
            refine Stop.out (list_M (fun i m nx => ∃ TL, nx = (lst3, listOf gvs.toArray 0) :: (row1, listOf rvs.toArray (st + rg)) :: (lds1, listOf lvs.toArray lvs.length) :: (L + 1 + 1 + 1, oR) :: (L + 1 + 1, oE) :: (L + 1, oM) :: TL ∧ TabsL TL ∧ Sep [lst3, row1, lds1, L + 1 + 1 + 1, L + 1 + 1, L + 1] TL ∧ JM (Str.ofString "number") [] m5 [] m) rfl (.head _) ?_ F10' N10 ?_ ?_ ?_)
            · rintro i m nx ⟨TL, rfl, _⟩
              exact .head _
            · exact ⟨TL2, rfl, hT2, sp4, (fun _ h => nomatch h), fun _ _ _ _ => rfl⟩
            · subst hm5
              clear F10' F10 N10 sp3 sp4 hT2
              rintro i v I m₃ nx h tk31 o hv ⟨TL3, rfl, hT, sp, jm⟩ hnI hlI F6 N6
              obtain ⟨Nb, tv, rfl, n0, n40⟩ := hgi hv
              have F7 := jm.fr F6
              clear F6
              have sI : ∀ p ∈ TL3, p.1 ≠ I := fun p hp => hnI p (.tail _ (.tail _ (.tail _ (.tail _ (.tail _ (.tail _ hp))))))
              have lI1 := ltN (a := lst3) (b := I) (hlI _ (.head _))
              have lI2 := ltN (a := row1) (b := I) (hlI _ (.tail _ (.head _)))
              have lI3 := ltN (a := lds1) (b := I) (hlI _ (.tail _ (.tail _ (.head _))))
              have lI4 := ltN (a := L + 1 + 1 + 1) (b := I) (hlI _ (.tail _ (.tail _ (.tail _ (.head _)))))
              have lI5 := ltN (a := L + 1 + 1) (b := I) (hlI _ (.tail _ (.tail _ (.tail _ (.tail _ (.head _))))))
              have lI6 := ltN (a := L + 1) (b := I) (hlI _ (.tail _ (.tail _ (.tail _ (.tail _ (.tail _ (.head _)))))))
              have g4 : (it ls Nb.toNat fst != (rowL ls fst (st + rg)).getD ((st : Int) + (Nb - st) % rg).toNat 0) = false := by rw [W.at n0]; simp
              have r0 := Int.emod_nonneg (Nb - st) (Int.ne_of_gt hrp)
              have r1 := Int.emod_lt_of_pos (Nb - st) hrp
              (try k_unmd)
              k_fold
              k_steps
              (rename Fr _ _ _ _ => F8)
              (rename News _ _ _ _ => N8)
              refine Stop.out (Ctr.use (c_after _ lds1 lvs ls lvs.length many.toNat fst Nb _ _ H hIl f0 f1' (by omega) (by omega)) (by assumption) F8 (by assumption) (fun _ h => nomatch h) (by assumption) rfl ⟨C1, C2⟩ (N8.get (.tail _ (.tail _ (.tail _ (.head _))))) (by decide) (by decide) ?_)
              rintro v h9 tk9 G9 ⟨ta, rfl⟩ F9
              have N9 := re_0 N8 G9
              clear F8 N8 G9
              have spI : Sep [I, lst3, row1, lds1, L + 1 + 1 + 1, L + 1 + 1, L + 1] TL3 := .cons sI sp
              (try dsimp only)
              k_steps
              (rename Fr _ _ _ _ => F10)
              (rename News _ _ _ _ => N10)
              refine Stop.out (Ctr.use (e_int_divmod _ (Nb - (st : Int)) (rg : Int) _ _ (by omega) hrp (by omega) (by omega) TL3 hT) (by assumption) F10 (by assumption) (fun p hp => N10 p (.tail _ (.tail _ (.tail _ (.tail _ (.tail _ (.tail _ (.tail _ hp)))))))) (by assumption) rfl ⟨C1, C2⟩ trivial (by decide) (by decide) ?_)
              rintro v h11 tk11 G11 ⟨⟨D3, td1, td2, rfl, hD3, hDs3⟩, TL4, x4⟩ F11
              obtain ⟨N11, sp5, hT4⟩ := re_s [(I, o), (lst3, listOf gvs.toArray 0), (row1, listOf rvs.toArray (st + rg)), (lds1, listOf lvs.toArray lvs.length), (L + 1 + 1 + 1, oR), (L + 1 + 1, oE), (L + 1, oM)] F10 N10 G11 x4 spI rfl
              have N12 := news_new F10 hD3 hDs3 N11
              (try simp only [List.cons_append, List.nil_append] at N12)
              clear F10 N10 N11 G11 x4 hD3 hDs3 hT spI sp sI
              (try dsimp only)
              k_steps
              (rename Fr _ _ _ _ => F13)
              (rename News _ _ _ _ => N13)
              refine' ⟨_, _, _, _, rfl, F13, (fun p hp => N13 p (.tail _ hp)), ?sep, TL4, rfl, hT4, sp5.tail, ⟨fun _ h => (nomatch h), ?j2⟩⟩
              (case sep =>
                exact fun p hp => (List.mem_cons.mp hp).elim (fun e => by rw [e]; exact Nat.ne_of_lt lI1) fun hp => (List.mem_cons.mp hp).elim (fun e => by rw [e]; exact Nat.ne_of_lt lI2) fun hp => (List.mem_cons.mp hp).elim (fun e => by rw [e]; exact Nat.ne_of_lt lI3) fun hp => (List.mem_cons.mp hp).elim (fun e => by rw [e]; exact Nat.ne_of_lt lI4) fun hp => (List.mem_cons.mp hp).elim (fun e => by rw [e]; exact Nat.ne_of_lt lI5) fun hp => (List.mem_cons.mp hp).elim (fun e => by rw [e]; exact Nat.ne_of_lt lI6) (sp5.head p))
              (case j2 =>
                intro z z1 z2 z3
                simp only [kstB, if_neg z1, z3, Bool.false_eq_true, if_false])
            · subst hm5
              clear F10' F10 N10 sp3 sp4 hT2 lL1 lL2 hgi
              rintro m₃ nx h tk31 ⟨TL3, rfl, hT, sp, jm⟩ F6 N6
              obtain ⟨mI, F7⟩ := frs [(Str.ofString "row", .ref row1), (Str.ofString "steps", .int (st : Int) tt1)] (jm.frOut F6) (List.forall_mem_cons.mpr ⟨rfl, List.forall_mem_cons.mpr ⟨rfl, List.forall_mem_nil _⟩⟩)
              have N7 : News (ghostOf s1.heap [(59, 55), (52, 48)]) L h ((row1, listOf rvs.toArray (st + rg)) :: (lds1, listOf lvs.toArray lvs.length) :: (L + 1 + 1 + 1, oR) :: (L + 1 + 1, oE) :: (L + 1, oM) :: TL3) := fun p hp => N6 p (.tail _ hp)
              have sp7 := sp.tail
              clear F6 N6 jm sp
              have sr1 := sp7.head
              have sr2 := sp7.tail.head
              have sr3 := sp7.tail.tail.head
              have sr4 := sp7.tail.tail.tail.head
              have sr5 := sp7.tail.tail.tail.tail.head
              (try dsimp only)
              k_steps
              (rename Fr _ _ _ _ => F8)
              (rename News _ _ _ _ => N8)
              (rename IntsAre _ (List.drop _ _) => hIn)
              rw [Int.toNat_natCast, inside_drop] at hIn
              have hInl : (insideL ls fst st rg).length = rg := by simp [insideL]
              have hrings : ∀ y ∈ insideL ls fst st rg, y ∈ ringsL ls many.toNat := W.inside_rings H f0 f1' hwn
              have hib : ∀ y ∈ insideL ls fst st rg, 0 ≤ y ∧ y < (many.toNat : Int) := fun y hy => (mem_rings.mp (hrings y hy)).1
              obtain ⟨ins, hins⟩ : ∃ z, z = insideL ls fst st rg := ⟨_, rfl⟩
              have hperm := W.inside_perm
              rw [← hins] at hIn hInl hrings hib hperm
              rename_i ind1 iws _ _ _ _ _
              have hiw : iws.length = rg := by rw [hIn.length, hInl]
              refine Stop.out (LCg.CompSrc.ledger (its := iws.toArray) rfl F8 N8 (.head _) (by rw [sizeLine_eq]; simp; omega) fun g2 => ?_)
              refine rest_U (fun j ys nw => nw = (ind1, listOf iws.toArray 0) :: (row1, listOf rvs.toArray (st + rg)) :: (lds1, listOf lvs.toArray lvs.length) :: (L + 1 + 1 + 1, oR) :: (L + 1 + 1, oE) :: (L + 1, oM) :: TL3 ∧ IntsAre ys ((ins.take j).map (stp ls))) ?_ ?_ ?_
              rotate_left
              · exact ⟨rfl, .nil⟩
              · rintro j ys nw v I2 oI2 C3 oC3 D m₂ h33 tk33 E' hj ⟨rfl, hIy⟩ hv hC3 hx F13 N13 off ne
                obtain ⟨x, tx, rfl, hxd⟩ := ints_get (i := j) hIn (by simpa using hv)
                obtain ⟨x0, x1⟩ := hib x (List.mem_of_getElem? hxd)
                k_steps
                refine LCg.CompEnd.intro F13 N13 _ (fun p hp => hp) off (.inr ⟨_, .head _, rfl, _, rfl⟩) ⟨rfl, ?_⟩
                rw [List.take_add_one, hxd, List.map_append]
                exact IntsAre.append hIy (.cons _ _ .nil)
              · rintro mvs nw ⟨rfl, hIm⟩ D h33 tk33 F13 N13 o13
                rw [List.take_of_length_le (by simp; omega)] at hIm
                have hml : (ins.map (stp ls)).length = rg := by rw [List.length_map, hInl]
                have dI := off1_mem o13
                have da1 : ind1 ≠ D := dI _ (.head _)
                clear F8 N8 o13 dI
                (try dsimp only)
                k_steps
                rename_i D1 v1 n1 ec1 h34 i1 p1 o1 l1a D2 v2 n2 ec2 h35 F34 N34 i2 p2 o2 l2a
                refine Stop.out (ne_intsK (News.isList N34 (.tail _ (.head _))) i1 (News.isList N34 (.head _)) i2 (by units_room) ?_)
                rw [decide_eq_true (sorted_eq (p1.trans (hperm.trans p2.symm)) o1 o2)]
                have N35 : News (ghostOf s1.heap [(59, 55), (52, 48)]) L h35 ((ind1, listOf iws.toArray 0) :: (row1, listOf rvs.toArray (st + rg)) :: (lds1, listOf lvs.toArray lvs.length) :: (L + 1 + 1 + 1, oR) :: (L + 1 + 1, oE) :: (L + 1, oM) :: TL3) := fun p hp => N34 p (.tail _ (.tail _ (.tail _ hp)))
                obtain ⟨mJ, F35⟩ := frs [(Str.ofString "inside", .ref ind1)] F34 (List.forall_mem_cons.mpr ⟨rfl, List.forall_mem_nil _⟩)
                clear N34 F34 i1 i2 p1 p2 o1 o2 l1a l2a da1 hIm hml hperm
                have markCell : MarkCell := trivial
                (try dsimp only)
                k_steps
                (rename IsRange _ _ _ _ _ _ _ _ => hr)
                (rename Fr _ _ _ _ => F36)
                (rename News _ _ _ _ => N36)
                refine ⟨_, 0, many, _, _, _, many.toNat, _, fun i ys nw => nw = (ind1, listOf iws.toArray 0) :: (row1, listOf rvs.toArray (st + rg)) :: (lds1, listOf lvs.toArray lvs.length) :: (L + 1 + 1 + 1, oR) :: (L + 1 + 1, oE) :: (L + 1, oM) :: TL3 ∧ IntsAre ys ((rangeKs 0 i).filter fun p => (back ls many.toNat p).any (· == p)), rfl, rfl, F36, N36, hr, range_small (by omega) (by omega), range_size (by omega), by rw [sizeLine_eq]; omega, ⟨rfl, .nil⟩, ?_, ?_⟩
                · clear F36 N36 hr
                  rintro i ys nw I oI C oC c oc Dc t4 h37 tk37 gg E' hi ⟨rfl, hIy⟩ hoc F37 N37 sp37 lID lDC lCc
                  have pi0 : 0 ≤ 0 + (i : Int) := by omega
                  have pi1 : 0 + (i : Int) < (many.toNat : Int) := by omega
                  have hfs := filt_succ 0 (fun p => (back ls many.toNat p).any (· == p)) i
                  obtain ⟨pv, hpv⟩ : ∃ z, z = 0 + (i : Int) := ⟨_, rfl⟩
                  rw [← hpv] at hoc pi0 pi1 hfs
                  k_steps
                  (rename IsRange _ _ _ _ _ _ _ _ => hr2)
                  (rename Fr _ _ _ _ => F38)
                  (rename News _ _ _ _ => N38)
                  have hn2 : Builtin.Range.rangeSize 1 (many + 1) 1 = ((many.toNat : Nat) : Int) := by rw [rangeSize_nat]; congr 1; omega
                  refine Stop.out (LCg.CompSrc.range rfl F38 N38 hr2 (small_one (by omega) (by omega) (by omega) (by omega)) hn2 (by rw [sizeLine_eq]; omega) fun g2 => ?_)
                  refine rest_U (fun j ys2 nw => nw = (I, oI) :: (C, oC) :: (c, oc) :: (Dc, LCg.lst ys) :: (ind1, listOf iws.toArray 0) :: (row1, listOf rvs.toArray (st + rg)) :: (lds1, listOf lvs.toArray lvs.length) :: (L + 1 + 1 + 1, oR) :: (L + 1 + 1, oE) :: (L + 1, oM) :: TL3 ∧ IntsAre ys2 ((rangeKs 1 j).map fun k => it ls k.toNat pv)) ?_ ?_ ?_
                  rotate_left
                  · exact ⟨rfl, .nil⟩
                  · clear F38 N38 hr2
                    rintro j ys2 nw v I2 oI2 C3 oC3 D m₂ h38 tk38 E2' hj ⟨rfl, hIy2⟩ ⟨tv2, rfl⟩ hC3 hx F39 N39 off ne
                    k_steps
                    refine Stop.out (Ctr.use (c_after _ lds1 lvs ls lvs.length many.toNat pv (1 + (j : Int)) _ _ H hIl pi0 pi1 (by omega) (by omega)) (by assumption) F39 (by assumption) (fun _ h => nomatch h) (by assumption) rfl ⟨C1, C2⟩ (N39.get (.tail _ (.tail _ (.tail _ (.tail _ (.tail _ (.tail _ (.tail _ (.tail _ (.tail _ (.head _))))))))))) (by decide) (by decide) ?_)
                    rintro v h40 tk40 G40 ⟨ta, rfl⟩ F40
                    have N40 := re_0 N39 G40
                    clear F39 N39 G40
                    (try dsimp only)
                    (try k_steps)
                    refine LCg.CompEnd.intro F40 N40 _ (fun p hp => hp) off trivial ⟨rfl, ?_⟩
                    rw [rangeKs_succ, List.map_append]
                    exact IntsAre.append hIy2 (.cons _ _ .nil)
                  · rintro bvs nw ⟨rfl, hIb⟩ D h41 tk41 F41 N41 o41
                    have hIb : IntsAre bvs (back ls many.toNat pv) := hIb
                    have dI := off1_mem o41
                    clear F38 N38 hr2 o41
                    (try dsimp only)
                    k_steps
                    all_goals (
                      refine ⟨h41, _, _, rfl, F41, (fun p hp => N41 p (.tail _ hp)), sp37, rfl, ?_⟩
                      rw [hfs]
                      first
                        | (rw [if_pos (by assumption)]; exact IntsAre.append hIy (.cons _ _ .nil))
                        | (rw [if_neg (by rw [(by assumption : ((back ls many.toNat pv).any fun x => x == pv) = false)]; decide), List.append_nil]; exact hIy))
                · clear F36 N36 hr
                  rintro rvs2 nw ⟨rfl, hIr⟩ gg rng1 h43 tk43 F43 N43 o43
                  have hIr : IntsAre rvs2 (ringsL ls many.toNat) := hIr
                  have dI := off1_mem o43
                  have dn0 : ind1 ≠ rng1 := dI _ (.head _)
                  have dn1 : row1 ≠ rng1 := dI _ (.tail _ (.head _))
                  have dn2 : lds1 ≠ rng1 := dI _ (.tail _ (.tail _ (.head _)))
                  have dn3 : L + 1 + 1 + 1 ≠ rng1 := dI _ (.tail _ (.tail _ (.tail _ (.head _))))
                  have dn4 : L + 1 + 1 ≠ rng1 := dI _ (.tail _ (.tail _ (.tail _ (.tail _ (.head _)))))
                  have dn5 : L + 1 ≠ rng1 := dI _ (.tail _ (.tail _ (.tail _ (.tail _ (.tail _ (.head _))))))
                  have sn : ∀ p ∈ TL3, p.1 ≠ rng1 := fun p hp => dI p (.tail _ (.tail _ (.tail _ (.tail _ (.tail _ (.tail _ hp))))))
                  clear o43 dI
                  (try dsimp only)
                  k_steps
                  (rename Obj => oS)
                  (rename oS.data = _ => dS)
                  (rename Fr _ _ _ _ => F44)
                  (rename News _ _ _ _ => N44)
                  have hrl := rings_len ls many.toNat
                  have hrv : rvs2.length = (ringsL ls many.toNat).length := hIr.length
                  obtain ⟨RL, hRL⟩ : ∃ z, z = ringsL ls many.toNat := ⟨_, rfl⟩
                  have hrsort : ∀ {ns : List Int}, ns.Perm (RL.map (stp ls)) → ns.Pairwise (· ≤ ·) → ns = RL := by rw [hRL]; exact fun p o => H.rings_sorted p o
                  have hrb : ∀ y ∈ RL, 0 ≤ y ∧ y < (many.toNat : Int) := by rw [hRL]; exact fun y hy => (mem_rings.mp hy).1
                  have hcm : ∀ p : Int, 0 ≤ p → p < (many.toNat : Int) → it ls many.toNat p ∈ RL := by rw [hRL]; exact fun p h0 h1 => H.comes h0 h1
                  rw [← hRL] at hrl hrv hIr hrings
                  refine Stop.out (LCt.CompSrcT.ledger (its := iws.toArray) rfl F44 N44 (.tail _ (.head _)) (by rw [sizeLine_eq]; simp; omega) fun g2 => ?_)
                  refine rest_T (fun j ys nw => nw = (rng1, LCg.lst rvs2) :: (ind1, listOf iws.toArray 0) :: (row1, listOf rvs.toArray (st + rg)) :: (lds1, listOf lvs.toArray lvs.length) :: (L + 1 + 1 + 1, oS) :: (L + 1 + 1, oE) :: (L + 1, oM) :: TL3 ∧ ys = []) ?_ ?_ ?_
                  rotate_left
                  · exact ⟨rfl, rfl⟩
                  · clear F44 N44
                    rintro j ys nw v I2 oI2 C3 oC3 D m₂ h45 tk45 E' hj ⟨rfl, rfl⟩ hv hC3 hx F13 N13 off ne
                    obtain ⟨x, tx, rfl, hxd⟩ := ints_get (i := j) hIn (by simpa using hv)
                    have gx : (!(RL.any fun z => z == x)) = false := by rw [any_of_mem (hrings x (List.mem_of_getElem? hxd))]; rfl
                    k_steps
                    all_goals first
                      | exact absurd (by assumption) (by rw [gx]; decide)
                      | exact LCg.CompEnd.intro F13 N13 _ (fun p hp => hp) off (.inr ⟨_, .tail _ (.head _), rfl, _, rfl⟩) ⟨rfl, rfl⟩
                  · rintro ys nw ⟨rfl, rfl⟩ D h45 tk45 F45 N45 o45
                    have dI := off1_mem o45
                    clear F44 N44 o45
                    (try dsimp only)
                    k_steps
                    (rename Fr _ _ _ _ => F46)
                    (rename News _ _ _ _ => N46)
                    refine Stop.out (ne_intsK (News.isList N46 (.tail _ (.head _))) .nil (News.isList N46 (.head _)) .nil (by units_room) ?_)
                    have N47 : News (ghostOf s1.heap [(59, 55), (52, 48)]) L _ ((rng1, LCg.lst rvs2) :: (ind1, listOf iws.toArray 0) :: (row1, listOf rvs.toArray (st + rg)) :: (lds1, listOf lvs.toArray lvs.length) :: (L + 1 + 1 + 1, oS) :: (L + 1 + 1, oE) :: (L + 1, oM) :: TL3) := fun p hp => N46 p (.tail _ (.tail _ hp))
                    clear N46 dI
                    (try dsimp only)
                    k_steps
                    refine Stop.out (LCg.CompSrc.ledger (its := rvs2.toArray) rfl F46 N47 (.head _) (by rw [sizeLine_eq]; simp; omega) fun g3 => ?_)
                    refine rest_U (fun j ys nw => nw = (rng1, LCg.lst rvs2) :: (ind1, listOf iws.toArray 0) :: (row1, listOf rvs.toArray (st + rg)) :: (lds1, listOf lvs.toArray lvs.length) :: (L + 1 + 1 + 1, oS) :: (L + 1 + 1, oE) :: (L + 1, oM) :: TL3 ∧ IntsAre ys ((RL.take j).map (stp ls))) ?_ ?_ ?_
                    rotate_left
                    · exact ⟨rfl, .nil⟩
                    · clear F46 N47
                      rintro j ys nw v I2 oI2 C3 oC3 D m₂ h45 tk45 E' hj ⟨rfl, hIy⟩ hv hC3 hx F13 N13 off ne
                      obtain ⟨x, tx, rfl, hxd⟩ := ints_get (i := j) hIr (by simpa using hv)
                      obtain ⟨x0, x1⟩ := hrb x (List.mem_of_getElem? hxd)
                      k_steps
                      refine LCg.CompEnd.intro F13 N13 _ (fun p hp => hp) off (.inr ⟨_, .head _, rfl, _, rfl⟩) ⟨rfl, ?_⟩
                      rw [List.take_add_one, hxd, List.map_append]
                      exact IntsAre.append hIy (.cons _ _ .nil)
                    · rintro mvs nw ⟨rfl, hIm⟩ D h48 tk48 F48 N48 o48
                      rw [List.take_of_length_le (by simp; omega)] at hIm
                      have hml : (RL.map (stp ls)).length ≤ 12 := by rw [List.length_map]; omega
                      have dI := off1_mem o48
                      clear F46 N47 o48
                      (try dsimp only)
                      k_steps
                      rename_i D1 v1 n1 ec1 h49 F49 N49 i1 p1 o1 l1a
                      refine Stop.out (ne_intsK (News.isList N49 (.head _)) i1 (News.isList N49 (.tail _ (.tail _ (.head _)))) hIr (by units_room) ?_)
                      rw [decide_eq_true (hrsort p1 o1)]
                      have N50 : News (ghostOf s1.heap [(59, 55), (52, 48)]) L h49 ((rng1, LCg.lst rvs2) :: (ind1, listOf iws.toArray 0) :: (row1, listOf rvs.toArray (st + rg)) :: (lds1, listOf lvs.toArray lvs.length) :: (L + 1 + 1 + 1, oS) :: (L + 1 + 1, oE) :: (L + 1, oM) :: TL3) := fun p hp => N49 p (.tail _ (.tail _ hp))
                      clear N49 i1 p1 o1 l1a dI hIm hml
                      (try dsimp only)
                      k_steps
                      (rename IsRange _ _ _ _ _ _ _ _ => hr)
                      (rename Fr _ _ _ _ => F51)
                      (rename News _ _ _ _ => N51)
                      refine Stop.out (LCt.CompSrcT.range rfl F51 N51 hr (range_small (by omega) (by omega)) (range_size (by omega)) (by rw [sizeLine_eq]; omega) fun g4 => ?_)
                      refine rest_T (fun j ys nw => nw = (rng1, LCg.lst rvs2) :: (ind1, listOf iws.toArray 0) :: (row1, listOf rvs.toArray (st + rg)) :: (lds1, listOf lvs.toArray lvs.length) :: (L + 1 + 1 + 1, oS) :: (L + 1 + 1, oE) :: (L + 1, oM) :: TL3 ∧ ys = []) ?_ ?_ ?_
                      rotate_left
                      · exact ⟨rfl, rfl⟩
                      · clear F51 N51 hr
                        rintro j ys nw v I2 oI2 C3 oC3 D m₂ h52 tk52 E' hj ⟨rfl, rfl⟩ ⟨tv, rfl⟩ hC3 hx F13 N13 off ne
                        have y0 : 0 ≤ 0 + (j : Int) := by omega
                        have y1 : 0 + (j : Int) < (many.toNat : Int) := by omega
                        have gx : (!(RL.any fun z => z == it ls many.toNat (0 + (j : Int)))) = false := by rw [any_of_mem (hcm _ y0 y1)]; rfl
                        k_steps
                        refine Stop.out (Ctr.use (c_after _ lds1 lvs ls lvs.length many.toNat (0 + (j : Int)) many _ _ H hIl y0 y1 (by omega) (by omega)) (by assumption) F13 (by assumption) (fun _ h => nomatch h) (by assumption) rfl ⟨C1, C2⟩ (N13.get (.tail _ (.tail _ (.tail _ (.tail _ (.tail _ (.tail _ (.head _)))))))) (by decide) (by decide) ?_)
                        rintro v h53 tk53 G53 ⟨ta, rfl⟩ F53
                        have N53 := re_0 N13 G53
                        clear F13 N13 G53
                        (try dsimp only)
                        k_steps
                        all_goals first
                          | exact absurd (by assumption) (by rw [gx]; decide)
                          | exact LCg.CompEnd.intro F53 N53 _ (fun p hp => hp) off trivial ⟨rfl, rfl⟩
                      · rintro ys nw ⟨rfl, rfl⟩ D h54 tk54 F54 N54 o54
                        have dI := off1_mem o54
                        clear F51 N51 o54 hr
                        (try dsimp only)
                        k_steps
                        (rename Fr _ _ _ _ => F55)
                        (rename News _ _ _ _ => N55)
                        refine Stop.out (eq_intsK (News.isList N55 (.tail _ (.head _))) .nil (News.isList N55 (.head _)) .nil (by units_room) ?_)
                        (try dsimp only)
                        k_steps
                        obtain ⟨ga, gb⟩ := tabs_grown hT (fun p hp => (N55 p (.tail _ (.tail _ (.tail _ (.tail _ (.tail _ (.tail _ (.tail _ (.tail _ (.tail _ hp)))))))))).1)
                        exact Stop.out ⟨gb, ga, trivial⟩
)
end Mine
theorem PySem.Challenge.cw_ib0004_01_holds : PySem.Challenge.rw_ib0004_01.Holds :=
  Mine.X
