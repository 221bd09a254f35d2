import PyProof.Rows.All
import Wide.All
import OpenK.AllK
import Wide.FinOn
import PySem.Challenge.RW_sh0018_01
open PySem PySem.W PyProof.Rows
set_option Elab.async false
set_option maxRecDepth 100000
set_option maxHeartbeats 8000000
set_option pp.maxSteps 3000
set_option hygiene false
set_option compiler.extract_closed false
namespace Mine
open_top hd for PySem.Challenge.rw_sh0018_01
variable {w : World} {p : Program} {loose : List Str} {mean : ExcName → Option Value} {mg mb : Str → Option Value} {news : List (Addr × Obj)}

section
abbrev RetK : Type := List (Addr × Obj) → Heap → Addr → (Str → Option Value) → Shared → (Value → Shared → Prop) → Prop
noncomputable def OffA (x : Nat) : List (Addr × Obj) → Prop
  | [] => True
  | q :: r => (@Ne Nat q.1 x) ∧ OffA x r
theorem OffA.of {x : Addr} : ∀ {l : List (Addr × Obj)}, (∀ q ∈ l, q.1 ≠ x) → OffA x l
  | [], _ => trivial
  | _ :: _, h => ⟨h _ (.head _), OffA.of fun q hq => h q (.tail _ hq)⟩
theorem OffA.mem {x : Addr} : ∀ {l : List (Addr × Obj)}, OffA x l → ∀ q ∈ l, q.1 ≠ x
  | [], _, _, h => nomatch h
  | _ :: _, a, q, h => by
    rcases List.mem_cons.mp h with rfl | h
    · exact a.1
    · exact OffA.mem a.2 q h
noncomputable def Apart : List (Addr × Obj) → List (Addr × Obj) → Prop
  | [], _ => True
  | p :: r, rest => OffA p.1 rest ∧ Apart r rest
theorem Apart.of {rest : List (Addr × Obj)} : ∀ {l : List (Addr × Obj)}, (∀ p ∈ l, OffA p.1 rest) → Apart l rest
  | [], _ => trivial
  | _ :: _, h => ⟨h _ (.head _), Apart.of fun q hq => h q (.tail _ hq)⟩
theorem Apart.mem {rest : List (Addr × Obj)} : ∀ {l : List (Addr × Obj)}, Apart l rest → ∀ p ∈ l, OffA p.1 rest
  | [], _, _, h => nomatch h
  | _ :: _, a, q, h => by
    rcases List.mem_cons.mp h with rfl | h
    · exact a.1
    · exact Apart.mem a.2 q h
/-- what comes back: a value, and a ledger with `tl` on top of what stood -/
def Ret (Out : Value → List (Addr × Obj) → Prop) : RetK := fun rest h₀ L m s Q =>
  ∀ (v : Value) (tl : List (Addr × Obj)) (h' : Heap) (tk' : Nat), Out v tl → Fr h₀ L h' m → News h₀ L h' (tl ++ rest) → Apart tl rest → Q v { s with heap := h', toks := tk' }

/-- a call of the def at f on vs, from within a def; nd frames deep at most; it looks at `act` alone, and Out says what comes back -/
def Tel (w : World) (p : Program) (loose : List Str) (mean : ExcName → Option Value) (mg mb : Str → Option Value) (f : Addr) (nd : Nat) (act : List (Addr × Obj)) (vs : List Value) (Out : Value → List (Addr × Obj) → Prop) : Prop :=
  ∀ (rest : List (Addr × Obj)) (dp un : Nat) (gd : Option (List Code)) (cn : Str) (cs : Scope) (a : Addr) (ccd : Value) (cl : List (Str × Addr)) (outer : List Env) (A₀ : Around) (base h₀ : Heap) (L : Addr) (m : Str → Option Value) (s : Shared) (Q E : Value → Shared → Prop),
    Below A₀ base outer h₀ → Fr h₀ L s.heap m → (hd.heap_39 w.params).In h₀ → News h₀ L s.heap rest → SubL act rest → Top p loose mean mg mb h₀ → cs.kind = .function → dp + nd < recursionLimit → un + 8 * nd < cLine →
    Ret Out rest h₀ L m s Q →
    wpAny (model PySem.Challenge.rw_sh0018_01.row.prog w) (ktrTop dp un gd cn cs L a ccd cl outer) (call (.ref f) vs) Q E s

theorem tel_use {rest act : List (Addr × Obj)} {f : Addr} {nd : Nat} {vs : List Value} {Out : Value → List (Addr × Obj) → Prop} {dp un : Nat} {gd : Option (List Code)} {cn : Str} {cs : Scope} {a : Addr} {ccd : Value} {cl : List (Str × Addr)} {outer : List Env} {A₀ : Around} {base h₀ : Heap} {L : Addr} {m : Str → Option Value} {s : Shared} {Q E : Value → Shared → Prop}
    (C : Tel w p loose mean mg mb f nd act vs Out) (ret : Ret Out rest h₀ L m s Q)
    (B : Below A₀ base outer h₀ := by k_asm) (F : Fr h₀ L s.heap m := by k_asm) (X : (hd.heap_39 w.params).In h₀ := by k_asm) (N : News h₀ L s.heap rest := by k_asm) (S : SubL act rest := by k_subL) (T : Top p loose mean mg mb h₀ := by k_asm) (hk : cs.kind = .function := by first | exact rfl | assumption)
    (hd : dp + nd < recursionLimit := by ktr_room) (hu : un + 8 * nd < cLine := by ktr_units) :
    wpAny (model PySem.Challenge.rw_sh0018_01.row.prog w) (ktrTop dp un gd cn cs L a ccd cl outer) (call (.ref f) vs) Q E s := C _ _ _ _ _ _ _ _ _ _ _ _ _ _ _ _ _ _ B F X N S T hk hd hu ret

theorem ltAll {d : Addr} : ∀ {l : List (Addr × Obj)}, AllLt d l → ∀ p ∈ l, p.1 < d := ktn_ltOf

/-- the ledger behind a call, out of what the callee kept -/
theorem comb {rest act tl all : List (Addr × Obj)} {h₀ h h' g : Heap} {L L' : Addr} {m' : Str → Option Value} (N : News h₀ L h rest) (S : SubL act rest) (R : ∀ p ∈ rest, p.1 ∉ act.map (·.1) → g.get? p.1 = some p.2)
    (F' : Fr g L' h' m') (N' : News h₀ L h' all) (hs : SubL (tl ++ act) all) : News h₀ L h' (tl ++ rest) := by
  intro p hp
  rcases List.mem_append.mp hp with hp | hp
  · exact N' p (hs.mem p (List.mem_append_left _ hp))
  · by_cases hq : p.1 ∈ act.map (·.1)
    · obtain ⟨q, hq1, hq2⟩ := List.mem_map.mp hq
      have e1 := (N p hp).1
      have e2 := (N q (S.mem q hq1)).1
      rw [hq2, e1] at e2
      have : p = q := Prod.ext hq2.symm (Option.some.inj e2)
      rw [this]
      exact N' q (hs.mem q (List.mem_append_right _ hq1))
    · exact ⟨F'.keep _ _ (R p hp hq), (N p hp).2⟩

theorem combA {rest act tl all : List (Addr × Obj)} {h₀ h h' g : Heap} {L L' : Addr} (_ : News h₀ L h rest) (_ : SubL act rest) (R : ∀ p ∈ rest, p.1 ∉ act.map (·.1) → g.get? p.1 = some p.2)
    (N' : News g L' h' all) (hs : SubL tl all) (ha : Apart tl act) : Apart tl rest := by
  refine Apart.of fun p hp => OffA.of fun q hq e => ?_
  by_cases hm : q.1 ∈ act.map (·.1)
  · obtain ⟨r, hr1, hr2⟩ := List.mem_map.mp hm
    exact (ha.mem p hp).mem r hr1 (hr2.trans e)
  · have e1 := R q hq hm
    have e2 := (N' p (hs.mem p hp)).2.2
    rw [← e, e1] at e2
    cases e2
section
variable {prog : Program} {A₀ A : Around} {s : Shared} {K : Frag} {base h₀ : Heap} {L : Addr} {m : Str → Option Value} {env : Env} {outer : List Env} {R : Result → Shared → Prop} {name qual : Str} {params : Arguments} {body : List Stmt} {scope : Scope} {dV kV doc pm cdv ct oc : Value} {an od : Option Addr} {osl : Array (Option Value)} {f : Addr} {args : Args} {binds : List (Str × Value)}
  {rest act : List (Addr × Obj)}
/-- a def's body: it sees `act` as the call's own, all else as what stood -/
theorem code_plain (B : Below A₀ base outer h₀) (F : Fr h₀ L s.heap m) (X₀ : K.In h₀) (N : News h₀ L s.heap rest) (S : SubL act rest) (T : Top p loose mean mg mb h₀) (hA : A.frames = some (env :: outer)) (hf : env.frame = some L) (hke : env.scope.kind = .function)
    (ho : K.lookup f = some ⟨oc, od, .func (fnOf name qual params body scope dV kV doc pm an cdv ct), osl⟩) (hcd : codeIn K cdv qual = true) (hroom : A.depth < recursionLimit)
    (hbind : BindsTo s (fnOf name qual params body scope dV kV doc pm an cdv ct) args binds) (hloc : ∀ y ∈ binds, scope.names.lookup y.1 = some .local)
    (h : ∀ g L' h₁, Fr h₀ L g m → Fr g L' h₁ (fun y => binds.reverse.lookup y) → News g L' h₁ act → (∀ p ∈ rest, p.1 ∉ act.map (·.1) → g.get? p.1 = some p.2) → Below A base (env :: outer) g → K.In g → Top p loose mean mg mb g →
      wpAny (model prog w) (A.deeper (envOf qual scope L' f cdv)) (execs body (envOf qual scope L' f cdv))
        (fun fl s' => LeaveK h₀ L m g R (match fl with | .ret v => v | _ => .none) s')
        (fun e s' => wpAny (model prog w) (A.deeper (envOf qual scope L' f cdv)) (leaving (envOf qual scope L' f cdv) e) (fun _ s'' => R (.error e) s'') (fun e' s'' => R (.error e') s'') s')
        { s with heap := h₁, toks := s.toks + binds.length })
    (hco : scope.isCoroutine = false) (hgen : scope.isGenerator = false) (hk : scope.kind = .function)
    (hcell : ∀ x ∈ scope.names, x.2 ≠ .cell) : codeAny (model prog w) A (.call (.ref f) args) R s := by
  have NA : News h₀ L s.heap act := fun p hp => N p (S.mem p hp)
  obtain ⟨FG, BG, st, lv⟩ := groundX (R := R) B F NA hA hf hke
  refine codeAny_call_def (fd := fnOf name qual params body scope dV kV doc pm an cdv ct) (body := body) (binds := binds) hroom ((X₀.keeps F.keep) _ _ ho) rfl (T.nolimit.keeps F.keep) (codeRec_of (X₀.keeps F.keep) hcd) rfl hbind hcell hloc (fun h₁ hns hk₁ => ?_) hco hgen hk
  exact wpAny_mono (h _ s.heap.objs.size h₁ FG ⟨hns, fun b o e => hk₁ b o (of_hideAll _ e), Nat.le_of_eq (hideAll_size _ _)⟩
    (fun p hp => ⟨hk₁ _ _ (NA p hp).1, Nat.ne_of_lt (Heap.lt_size (NA p hp).1), hideAll_none _ (List.mem_map_of_mem hp)⟩) (fun p hp hn => hideAll_get _ (N p hp).1 hn) BG (X₀.keeps st) (T.keeps st)) (fun fl s' hl => lv _ _ hl) fun _ _ y => y
theorem code_cells (B : Below A₀ base outer h₀) (F : Fr h₀ L s.heap m) (X₀ : K.In h₀) (N : News h₀ L s.heap rest) (S : SubL act rest) (T : Top p loose mean mg mb h₀) (hA : A.frames = some (env :: outer)) (hf : env.frame = some L) (hke : env.scope.kind = .function)
    (ho : K.lookup f = some ⟨oc, od, .func (fnOf name qual params body scope dV kV doc pm an cdv ct), osl⟩) (hcd : codeIn K cdv qual = true) (hroom : A.depth < recursionLimit)
    (hbind : BindsTo s (fnOf name qual params body scope dV kV doc pm an cdv ct) args binds) (hkind : (binds.all fun y => scope.names.lookup y.1 == some .local || scope.names.lookup y.1 == some .cell) = true)
    (hnd : ((cellsFrom 0 scope.names []).map (·.1)).Nodup)
    (h : ∀ g L' h₁ tk cells, Fr h₀ L g m → Fr g L' h₁ (bindL (envOfC qual scope L' f cdv).kindOf binds fun _ => none) → News g L' h₁ (cells ++ act) →
      CellsAre (bindC (envOfC qual scope L' f cdv).kindOf binds fun _ => none) (cellsFrom (L' + 1) scope.names []) cells → (∀ p ∈ rest, p.1 ∉ act.map (·.1) → g.get? p.1 = some p.2) → Below A base (env :: outer) g → K.In g → Top p loose mean mg mb g → (∀ p ∈ act, p.1 < L') →
      wpAny (model prog w) (A.deeper (envOfC qual scope L' f cdv)) (execs body (envOfC qual scope L' f cdv))
        (fun fl s' => LeaveK h₀ L m g R (match fl with | .ret v => v | _ => .none) s')
        (fun e s' => wpAny (model prog w) (A.deeper (envOfC qual scope L' f cdv)) (leaving (envOfC qual scope L' f cdv) e) (fun _ s'' => R (.error e) s'') (fun e' s'' => R (.error e') s'') s')
        { s with heap := h₁, toks := tk })
    (hco : scope.isCoroutine = false) (hgen : scope.isGenerator = false) (hk : scope.kind = .function) : codeAny (model prog w) A (.call (.ref f) args) R s := by
  have NA : News h₀ L s.heap act := fun p hp => N p (S.mem p hp)
  obtain ⟨FG, BG, st, lv⟩ := groundX (R := R) B F NA hA hf hke
  refine codeAny_call_function hroom ((X₀.keeps F.keep) _ _ ho) rfl hco hgen rfl (codeRec_of (X₀.keeps F.keep) hcd) (hbind _ _ _ _ ?_)
  refine wpAny_newFunctionEnv_cells hk (kindsX hkind _) fun env' he s' x => ?_
  subst he
  refine ⟨(T.nolimit.keeps F.keep).keeps x.toInCall.keep, codeAny_func ?_⟩
  obtain ⟨h₁, tk, rfl, _⟩ := x.done
  have hk₁ := x.toInCall.keep
  obtain ⟨cells, NC, Y⟩ := Cl.news (h₀ := s.heap) (Nat.le_refl _) fun n c hm => ⟨x.cell n c (lookup_of_mem_nodup (cellsFrom_names scope.names 0 (s.heap.objs.size + 1) [] [] rfl ▸ hnd) hm), x.above n c hm⟩
  refine wpAny_mono (h _ s.heap.objs.size h₁ tk cells FG ⟨x.toInCall.ns, fun b o e => hk₁ b o (of_hideAll _ e), Nat.le_of_eq (hideAll_size _ _)⟩ (fun p hp => ?_) Y (fun p hp hn => hideAll_get _ (N p hp).1 hn) BG (X₀.keeps st) (T.keeps st) (fun p hp => Heap.lt_size (NA p hp).1)) (fun fl s' hl => lv _ _ hl) fun _ _ y => y
  rcases List.mem_append.mp hp with hp | hp
  · refine ⟨(NC p hp).1, (NC p hp).2.1, ?_⟩
    cases q : (hideAll s.heap (act.map (·.1))).get? p.1 with
    | none => rfl
    | some o => have := of_hideAll _ q; rw [(NC p hp).2.2] at this; cases this
  · exact ⟨hk₁ _ _ (NA p hp).1, Nat.ne_of_lt (Heap.lt_size (NA p hp).1), hideAll_none _ (List.mem_map_of_mem hp)⟩
end

theorem divmod_K {prog : Program} {A : Around} {E : Value → Shared → Prop} {s : Shared} {a b : Int} {t u : Tok} {Q : Value → Shared → Prop} {h₀ : Heap} {L : Addr} {m : Str → Option Value} (F : Fr h₀ L s.heap m) (N : News h₀ L s.heap news) (hb : b ≠ 0)
    (_ : -(2 ^ 60) < a ∧ a < 2 ^ 60) (hb2 : -(2 ^ 28) < b ∧ b < 2 ^ 28)
    (h : ∀ D t u h' tk', Fr h₀ L h' m → News h₀ L h' ((D, { cls := .type "tuple", data := .seq #[.int (a.fdiv b) t, .int (a.fmod b) u] }) :: news) → (∀ p ∈ news, p.1 < D) → Q (.ref D) { s with heap := h', toks := tk' }) :
    wpAny (model prog w) A (call (.builtin "divmod") [.int a t, .int b u]) Q E s :=
  divmod_N F N hb (fun h' F' N' => h _ _ _ _ _ F' N' fun p hp => Heap.lt_size (N p hp).1) (Or.inl (PyProof.noPylong_small (by omega)))
theorem tup2_eq {a b c d : Int} {t u : Tok} (h1 : a = c) (h2 : b = d) : ∃ t' u', ({ cls := .type "tuple", data := .seq #[.int a t, .int b u] } : Obj) = { cls := .type "tuple", data := .seq #[.int c t', .int d u'] } := ⟨t, u, by rw [h1, h2]⟩
theorem lst3_eq {a b c a' b' c' : Int} {t u v : Tok} (h1 : a = a') (h2 : b = b') (h3 : c = c') : ∃ k' t' u' v', LCg.lst [Value.int a t, Value.int b u, Value.int c v] = listOf #[.int a' t', .int b' u', .int c' v'] k' := ⟨3, t, u, v, by rw [h1, h2, h3]; rfl⟩
/-- one object is handed back -/
abbrev One (O : Obj → Prop) : Value → List (Addr × Obj) → Prop := fun v tl => ∃ x o, O o ∧ v = .ref x ∧ tl = [(x, o)]
/-- a bare value is handed back -/
abbrev Bare (V : Value → Prop) : Value → List (Addr × Obj) → Prop := fun v tl => V v ∧ tl = []
/-- three addresses that differ, out of omega's sight -/
structure Ne3 (I C D : Nat) : Prop where
  a : I ≠ C
  b : I ≠ D
  c : C ≠ D
theorem Ne3.of {I C D : Nat} (h : I ≠ C ∧ I ≠ D ∧ C ≠ D) : Ne3 I C D := ⟨h.1, h.2.1, h.2.2⟩
theorem off1_mem {D : Addr} : ∀ {l : List (Addr × Obj)}, LCg.Off1 D l → ∀ p ∈ l, p.1 ≠ D
  | [], _, _, h => nomatch h
  | _ :: _, x, p, h => by
    rcases List.mem_cons.mp h with rfl | h
    · exact x.1
    · exact off1_mem x.2 p h
theorem apart_mem {rest : List (Addr × Obj)} {x : Addr} {o : Obj} (h : Apart [(x, o)] rest) {y : Addr} {oy : Obj} (hm : (y, oy) ∈ rest) : y ≠ x := h.1.mem (y, oy) hm
section
variable {α β γ δ : Type} {rest : List (Addr × Obj)} {h₀ : Heap} {L : Addr} {m : Str → Option Value} {s : Shared} {Q : Value → Shared → Prop}
theorem Ret.of0 {V : Value} (k : ∀ h' tk', Fr h₀ L h' m → News h₀ L h' rest → Q V { s with heap := h', toks := tk' }) : Ret (Bare fun v => v = V) rest h₀ L m s Q :=
  fun _ _ h' tk' ho F' N' _ => by obtain ⟨rfl, rfl⟩ := ho; exact k h' tk' F' N'
theorem Ret.of1 {V : α → Value} (k : ∀ t h' tk', Fr h₀ L h' m → News h₀ L h' rest → Q (V t) { s with heap := h', toks := tk' }) : Ret (Bare fun v => ∃ t, v = V t) rest h₀ L m s Q :=
  fun _ _ h' tk' ho F' N' _ => by obtain ⟨⟨t, rfl⟩, rfl⟩ := ho; exact k t h' tk' F' N'
theorem Ret.oneO {O : Obj → Prop} (k : ∀ x o h' tk', O o → Fr h₀ L h' m → News h₀ L h' ((x, o) :: rest) → Apart [(x, o)] rest → Q (.ref x) { s with heap := h', toks := tk' }) : Ret (One O) rest h₀ L m s Q :=
  fun _ _ h' tk' ho F' N' l => by obtain ⟨x, o, hO, rfl, rfl⟩ := ho; exact k x o h' tk' hO F' N' l
theorem Ret.one2 {f : α → β → Obj} (k : ∀ x t u h' tk', Fr h₀ L h' m → News h₀ L h' ((x, f t u) :: rest) → Apart [(x, f t u)] rest → Q (.ref x) { s with heap := h', toks := tk' }) : Ret (One fun o => ∃ t u, o = f t u) rest h₀ L m s Q :=
  fun _ _ h' tk' ho F' N' l => by obtain ⟨x, _, ⟨t, u, rfl⟩, rfl, rfl⟩ := ho; exact k x t u h' tk' F' N' l
theorem Ret.one3 {f : α → β → γ → Obj} (k : ∀ x t u v h' tk', Fr h₀ L h' m → News h₀ L h' ((x, f t u v) :: rest) → Apart [(x, f t u v)] rest → Q (.ref x) { s with heap := h', toks := tk' }) : Ret (One fun o => ∃ t u v, o = f t u v) rest h₀ L m s Q :=
  fun _ _ h' tk' ho F' N' l => by obtain ⟨x, _, ⟨t, u, v, rfl⟩, rfl, rfl⟩ := ho; exact k x t u v h' tk' F' N' l
theorem Ret.one4 {f : α → β → γ → δ → Obj} (k : ∀ x c t u v h' tk', Fr h₀ L h' m → News h₀ L h' ((x, f c t u v) :: rest) → Apart [(x, f c t u v)] rest → Q (.ref x) { s with heap := h', toks := tk' }) : Ret (One fun o => ∃ c t u v, o = f c t u v) rest h₀ L m s Q :=
  fun _ _ h' tk' ho F' N' l => by obtain ⟨x, _, ⟨c, t, u, v, rfl⟩, rfl, rfl⟩ := ho; exact k x c t u v h' tk' F' N' l
end
theorem Ret.one {O : Obj → Prop} {rest : List (Addr × Obj)} {h₀ : Heap} {L : Addr} {m : Str → Option Value} {s : Shared} {Q : Value → Shared → Prop} (h : Ret (One O) rest h₀ L m s Q) {x : Addr} {o : Obj} {h' : Heap} {tk' : Nat}
    (hF : Fr h₀ L h' m) (hN : News h₀ L h' ([(x, o)] ++ rest)) (hA : Apart [(x, o)] rest) (hO : O o) : Q (.ref x) { s with heap := h', toks := tk' } := h _ _ _ _ ⟨x, o, hO, rfl, rfl⟩ hF hN hA
theorem Ret.bare {V : Value → Prop} {rest : List (Addr × Obj)} {h₀ : Heap} {L : Addr} {m : Str → Option Value} {s : Shared} {Q : Value → Shared → Prop} (h : Ret (Bare V) rest h₀ L m s Q) {v : Value} {h' : Heap} {tk' : Nat}
    (hF : Fr h₀ L h' m) (hN : News h₀ L h' ([] ++ rest)) (hV : V v) : Q v { s with heap := h', toks := tk' } := h _ _ _ _ ⟨hV, rfl⟩ hF hN trivial
section
variable {prog : Program} {M : Model} {A : Around} {E : Value → Shared → Prop} {s : Shared} {Q : Value → Shared → Prop} {h₀ : Heap} {L : Addr} {m : Str → Option Value}
theorem item_mine {value slice : PySem.Expr} {l : Addr} {vs : List Value} {n : Nat} {k : Int} {u : Tok} {v : Value} (N : News h₀ L s.heap news) (hm : (l, listOf vs.toArray n) ∈ news) (h0 : 0 ≤ k) (hhi : k < 2 ^ 63) (hx : vs[k.toNat]? = some v) (h : Q v s)
    (hs : subscripted slice false (.ref l) (.int k u) = operate [.ref l, .int k u] (getItem (.ref l) (.int k u)) := by with_unfolding_all rfl) :
    wpAny (model prog w) A (subscriptTail value slice (.ref l) (.int k u)) Q E s :=
  have hL : s.heap.IsList l vs.toArray := N.isList hm
  tail_any hL.typeIs slot_list_getitem.lookup (wpAny_getItem_list hL h0 hhi (by simpa using hx) h) hs
end
end

local macro_rules | `(tactic| walk_at "ite") => `(tactic| (k_here; k_openite; k_spoken; first
  | (refine ite_pos (by (law_purse 20000 => (simp only [beq_iff_eq, bne_iff_ne, decide_eq_true_eq, decide_eq_false_iff_not, ne_eq]; first | assumption | omega))) ?_; walk_say "PRUNED mine")
  | (refine ite_neg (by (law_purse 20000 => (simp only [beq_iff_eq, bne_iff_ne, decide_eq_true_eq, decide_eq_false_iff_not, ne_eq]; first | assumption | omega))) ?_; walk_say "PRUNED mine")))

local macro_rules | `(tactic| ktr_rel) => `(tactic| (refine neN ?_; (try dsimp only); first | with_reducible assumption | exact Ne.symm (by with_reducible assumption) | exact apart_mem (by with_reducible assumption) (by k_mem) | exact Ne.symm (apart_mem (by with_reducible assumption) (by k_mem)) | exact off1_mem (by with_reducible assumption) (_, _) (by k_mem) | exact Ne.symm (off1_mem (by with_reducible assumption) (_, _) (by k_mem)) | exact (LCg.Off3.mem (by with_reducible assumption) (_, _) (by k_mem)).1 | exact (LCg.Off3.mem (by with_reducible assumption) (_, _) (by k_mem)).2.1 | exact (LCg.Off3.mem (by with_reducible assumption) (_, _) (by k_mem)).2.2 | exact Ne.symm (LCg.Off3.mem (by with_reducible assumption) (_, _) (by k_mem)).1 | exact Ne.symm (LCg.Off3.mem (by with_reducible assumption) (_, _) (by k_mem)).2.1 | exact Ne.symm (LCg.Off3.mem (by with_reducible assumption) (_, _) (by k_mem)).2.2 | exact Ne3.a (by with_reducible assumption) | exact Ne3.b (by with_reducible assumption) | exact Ne3.c (by with_reducible assumption) | exact Ne.symm (Ne3.a (by with_reducible assumption)) | exact Ne.symm (Ne3.b (by with_reducible assumption)) | exact Ne.symm (Ne3.c (by with_reducible assumption)) | omega))
local macro_rules | `(tactic| k_all) => `(tactic| first | exact List.forall_mem_nil _ | (refine' List.forall_mem_cons.mpr ⟨?za, ?zb⟩; (case za => ktr_rel); (case zb => k_all)))
local macro_rules | `(tactic| k_upd) => `(tactic| first | (refine' Upd.head ?za; (case za => k_all)) | (refine' Upd.tail ?za ?zb; (case za => ktr_rel); (case zb => k_upd)))
local macro_rules | `(tactic| k_updF) => `(tactic| first | (refine' UpdF.head ?za; (case za => k_all)) | (refine' UpdF.tail ?za ?zb; (case za => ktr_rel); (case zb => k_updF)))
local macro_rules | `(tactic| k_offL) => `(tactic| first | exact trivial | (refine And.intro (by first | exact Or.inr (by k_cls) | exact Or.inl (by ktr_rel)) ?_; k_offL))
local macro_rules | `(tactic| lcg_off) => `(tactic| first | exact True.intro | (refine And.intro ⟨by ktr_rel, by ktr_rel, by ktr_rel⟩ ?_; lcg_off))
local macro_rules | `(tactic| walk_at "CompRest") => `(tactic| (with_unfolding_all first
  | (refine LCg.CompRest.succ ?_; intro v' I' oI' C' oC' D' m' h' tk' E' hv' hC' hx' F' N' off' ne'; (replace ne' := Ne3.of ne'); (first | lcg_open hv' | (obtain ⟨t9', hv9'⟩ := hv'; subst hv9')))
  | refine LCg.CompRest.zero ?_))
local macro_rules | `(tactic| walk_at "CompRestT") => `(tactic| (with_unfolding_all first
  | (refine LCt.CompRestT.succ ?_; intro v' I' oI' C' oC' D' m' h' tk' E' hv' hC' hx' F' N' off' ne'; (replace ne' := Ne3.of ne'); (first | lcg_open hv' | (obtain ⟨t9', hv9'⟩ := hv'; subst hv9')))
  | refine LCt.CompRestT.zero ?_))
local macro_rules | `(tactic| walk_at "FinE") => `(tactic| ((unfold LCg.FinE); intro D' h' tk' F' N' o1'; (try simp only [List.nil_append, List.cons_append] at N'); (try dsimp only)))
local macro_rules | `(tactic| walk_at "FinA") => `(tactic| ((unfold LCg.FinA); intro D' h' tk' F' N' o1'; (try simp only [List.nil_append, List.cons_append] at N'); (try dsimp only)))

local macro_rules | `(tactic| walk_at "own item") => `(tactic| (k_here; (with_reducible show wpAny _ _ (subscriptTail _ _ (Value.ref _) (Value.int _ _)) _ _ _); k_dflt (first
  | (refine' item_mine ?zN ?zm ?za ?zb ?zx ?_ ?zs; (case zN => k_asm); (case zm => k_mem); (case za => first | decide | omega); (case zb => first | decide | omega); (case zx => rfl); (case zs => with_unfolding_all rfl))
  | (refine' item_tupleT ?zt ?za ?zb ?zc ?zd ?_; (case zt => exact News.isTup (by k_asm) (by k_mem)); (case za => decide); (case zb => decide); (case zc => rfl); (case zd => rfl); k_whole))))
local macro_rules | `(tactic| walk_at "subscriptTail") => `(tactic| walk_at "own item")
local macro_rules | `(tactic| walk_at "subscriptTail Name Name ref int") => `(tactic| walk_at "own item")
local macro_rules | `(tactic| walk_at "subscriptTail Name Constant ref int") => `(tactic| walk_at "own item")

local macro_rules | `(tactic| walk_at "eval ListComp") => `(tactic| (k_here; lcf_look; lcg_calm; k_dflt (refine LCg.ListComp_U (F₀ := by k_asm) (by with_unfolding_all rfl) (by decide) (by rfl) (by decide) (by rfl) ?_); k_dflt lcg_toSrc))
local macro_rules | `(tactic| walk_at "CompSrc") => `(tactic| (k_here; k_dflt (first
  | (refine LCg.CompSrc.ledger (by rfl) (by k_asm) (by k_asm) (by k_mem) (by first | size_fits | exact Nat.le_of_ble_eq_true rfl) ?_; intro g'; lcg_lit)
  | (refine LCg.CompSrc.range (by rfl) (by k_asm) (by k_asm) (by assumption) (by first | decide | rfl) (by first | rfl | decide) (by first | size_fits | exact Nat.le_of_ble_eq_true rfl) ?_; intro g'; lcg_lit))))
local macro_rules | `(tactic| walk_at "CompEnd") => `(tactic| lcg_end)
local macro_rules | `(tactic| walk_at "eval ListComp") => `(tactic| (k_here; lct_look; lcg_calm; k_dflt (refine LCt.ListComp_T (F₀ := by k_asm) (by with_unfolding_all rfl) (by decide) (by rfl) (by decide) (by rfl) ?_); k_dflt lct_toSrc))
local macro_rules | `(tactic| walk_at "CompSrcT") => `(tactic| (k_here; k_dflt (first
  | (refine LCt.CompSrcT.ledger (by rfl) (by k_asm) (by k_asm) (by k_mem) (by first | size_fits | exact Nat.le_of_ble_eq_true rfl) ?_; intro g'; lct_lit)
  | (refine LCt.CompSrcT.range (by rfl) (by k_asm) (by k_asm) (by assumption) (by first | decide | rfl) (by first | rfl | decide) (by first | size_fits | exact Nat.le_of_ble_eq_true rfl) ?_; intro g'; lct_lit))))

section
open PySem.Spec PySem.Calls
namespace C2
section
variable {prog : Program} {A : Around} {E : Value → Shared → Prop} {R : Result → Shared → Prop} {s : Shared} {h₀ : Heap} {L : Addr} {m : Str → Option Value} {env : Env}
  {elt i0 i1 : PySem.Expr} {x y : Str} {px py : Pos} {scope : Scope} {pos : Pos} {it acc : Value}
abbrev two (elt : PySem.Expr) (x y : Str) (px py : Pos) (i0 i1 : PySem.Expr) (scope : Scope) (pos : Pos) : PySem.Expr := .ListComp elt [⟨.Name x px, i0, [], 0⟩, ⟨.Name y py, i1, [], 0⟩] scope pos
theorem turn_out : compTurn (two elt x y px py i0 i1 scope pos) 0 it acc env = (standAt i0.pos >>= fun _ => pyNext it >>= fun r => match r with
   | none => pure (.done .next)
   | some v => letOwnedTupleGo (.Name x px) it v >>= fun _ => assign (.Name x px) env v >>= fun _ =>
      eval i1 env >>= fun z => standAt i1.pos >>= fun _ => foldedSetIterable i1 env z >>= fun z => holding [z] (pyIter z) >>= fun it' => runOwn (.compStart (two elt x y px py i0 i1 scope pos) 1 it' acc env) env >>= fun _ =>
        again (.compLoop (two elt x y px py i0 i1 scope pos) 0 it acc env)) := by rfl
theorem turn_in : compTurn (two elt x y px py i0 i1 scope pos) 1 it acc env = (standAt i1.pos >>= fun _ => pyNext it >>= fun r => match r with
   | none => pure (.done .next)
   | some v => letOwnedTupleGo (.Name y py) it v >>= fun _ => assign (.Name y py) env v >>= fun _ =>
      (eval elt env >>= fun z => call (.builtin "list.append") [acc, z] >>= fun _ => pure ()) >>= fun _ =>
        again (.compLoop (two elt x y px py i0 i1 scope pos) 1 it acc env)) := by rfl
theorem loop_in (Iv : Nat → Shared → Prop)
    (turn : ∀ n s, Iv n s → wpAny (model prog w) A (pyNext it) (fun r s₁ => match r with
      | none => R (.ok .next) s₁
      | some v => wpAny (model prog w) A (assign (.Name y py) env v) (fun _ s₂ => wpAny (model prog w) A (eval elt env) (fun z s₃ =>
          wpAny (model prog w) A (call (.builtin "list.append") [acc, z]) (fun _ s₄ => ∃ m, m < n ∧ Iv m s₄) (notedBy (model prog w) A env fun e s' => R (.error e) s') s₃)
          (notedBy (model prog w) A env fun e s' => R (.error e) s') s₂) (notedBy (model prog w) A env fun e s' => R (.error e) s') s₁) (notedBy (model prog w) A env fun e s' => R (.error e) s') s)
    (n : Nat) (h : Iv n s) : codeAny (model prog w) A (.compLoop (two elt x y px py i0 i1 scope pos) 1 it acc env) R s := by
  refine codeAny_loop rfl Iv (fun n s hI => ?_) n h
  show wpAny _ _ ((compTurn (two elt x y px py i0 i1 scope pos) 1 it acc env).onRaise (fun x => do noteFrame x env; theTreesLotGoes x)) _ _ s
  refine wpAny_noted ?_
  rw [turn_in]
  refine wpAny_bind (wpAny_standAt (wpAny_bind (wpAny_mono (turn n s hI) (fun r s₁ h₁ => ?_) fun _ _ h' => h')))
  cases r with
  | none => exact wpAny_pure h₁
  | some v =>
    refine wpAny_bind (wpAny_pure ?_)
    exact wpAny_bind (wpAny_mono h₁ (fun _ s₂ h₂ => wpAny_bind (wpAny_bind (wpAny_mono h₂ (fun z s₃ h₃ => wpAny_bind (wpAny_mono h₃
      (fun _ s₄ h₄ => wpAny_pure (wpAny_pure ⟨rfl, h₄⟩)) fun _ _ h' => h')) fun _ _ h' => h'))) fun _ _ h' => h')
theorem start_in (h0 : codeAny (model prog w) A (.compLoop (two elt x y px py i0 i1 scope pos) 1 it acc env) R s)
    (h : wpAny (model prog w) A (pyIter it) (fun it' s' => codeAny (model prog w) A (.compLoop (two elt x y px py i0 i1 scope pos) 1 it' acc env) R s')
      (notedBy (model prog w) A env fun x s' => R (.error x) s') s) :
    codeAny (model prog w) A (.compStart (two elt x y px py i0 i1 scope pos) 1 it acc env) R s := by
  refine codeAny_of_tree ?_
  show wpAny _ _ ((compStart (two elt x y px py i0 i1 scope pos) 1 it acc env).onRaise (fun x => do noteFrame x env; standAt theWindowsPlace)) _ _ s
  refine wpAny_notedAt ?_
  unfold compStart
  show wpAny _ _ (ask >>= _) _ _ s
  refine wpAny_bind (wpAny_askSetting (wpAny_ite ?_))
  split
  · first
      | exact wpAny_bind (wpAny_pure (wpAny_pure (And.intro rfl h0)))
      | exact wpAny_pure (And.intro rfl h0)
  · first
      | exact wpAny_bind (wpAny_rule (wpAny_bind (wpAny_standAt (wpAny_bind (wpAny_mono h (fun it' s' h' => wpAny_pure (And.intro rfl h')) fun _ _ x => x)))))
      | (refine wpAny_bind (wpAny_rule ?_); show wpAny _ _ (standAt i1.pos >>= _) _ _ s; exact wpAny_bind (wpAny_standAt (wpAny_bind (wpAny_mono h (fun it' s' h' => wpAny_pure (And.intro rfl h')) fun _ _ x => x))))
theorem loop_out (hs : ∀ z, foldedSetIterable i1 env z = pure z) (Iv : Nat → Shared → Prop)
    (turn : ∀ n s, Iv n s → wpAny (model prog w) A (pyNext it) (fun r s₁ => match r with
      | none => R (.ok .next) s₁
      | some v => wpAny (model prog w) A (assign (.Name x px) env v) (fun _ s₂ => wpAny (model prog w) A (eval i1 env) (fun z s₃ =>
          wpAny (model prog w) A (pyIter z) (fun it' s₄ => codeAny (model prog w) A (.compStart (two elt x y px py i0 i1 scope pos) 1 it' acc env) (fun r s' => match r with
            | .ok _ => ∃ m, m < n ∧ Iv m s'
            | .error e => cameBackBy (model prog w) A env (notedBy (model prog w) A env fun e s' => R (.error e) s') e s') s₄) (notedBy (model prog w) A env fun e s' => R (.error e) s') s₃)
          (notedBy (model prog w) A env fun e s' => R (.error e) s') s₂) (notedBy (model prog w) A env fun e s' => R (.error e) s') s₁) (notedBy (model prog w) A env fun e s' => R (.error e) s') s)
    (n : Nat) (h : Iv n s) : codeAny (model prog w) A (.compLoop (two elt x y px py i0 i1 scope pos) 0 it acc env) R s := by
  refine codeAny_loop rfl Iv (fun n s hI => ?_) n h
  show wpAny _ _ ((compTurn (two elt x y px py i0 i1 scope pos) 0 it acc env).onRaise (fun x => do noteFrame x env; theTreesLotGoes x)) _ _ s
  refine wpAny_noted ?_
  rw [turn_out]
  refine wpAny_bind (wpAny_standAt (wpAny_bind (wpAny_mono (turn n s hI) (fun r s₁ h₁ => ?_) fun _ _ h' => h')))
  cases r with
  | none => exact wpAny_pure h₁
  | some v =>
    refine wpAny_bind (wpAny_pure ?_)
    refine wpAny_bind (wpAny_mono h₁ (fun _ s₂ h₂ => wpAny_bind (wpAny_mono h₂ (fun z s₃ h₃ => ?_) fun _ _ h' => h')) fun _ _ h' => h')
    refine wpAny_bind (wpAny_standAt (wpAny_bind (wpAny_of_eq (hs z) (wpAny_bind (wpAny_holding (wpAny_mono h₃ (fun it' s₄ h₄ => ?_) fun _ _ h' => h'))))))
    refine wpAny_bind (wpAny_runOwn (codeAny_mono h₄ fun r s' hr => ?_))
    cases r with
    | ok f => exact wpAny_pure ⟨rfl, hr⟩
    | error e => exact hr
def RangeEnd (h₀ : Heap) (L : Addr) (m : Str → Option Value) (s : Shared) (news : List (Addr × Obj)) (n : Nat) (xv : Value) (s₁ : Shared) : Prop :=
  ∃ r b t u v h tk, xv = .ref r ∧ s₁ = { s with heap := h, toks := tk } ∧ Fr h₀ L h m ∧ News h₀ L h news ∧ IsRange h r 0 b 1 t u v ∧ Builtin.Range.small 0 b 1 = true ∧ Builtin.Range.rangeSize 0 b 1 = ((n : Nat) : Int)
def InEnd (h₀ : Heap) (L : Addr) (m : Str → Option Value) (s : Shared) (K : Addr) (oK : Obj) (I : Addr) (oI : Obj) (C : Addr) (oC : Obj) (D : Addr) (ys : List Value) (J : List Value → List (Addr × Obj) → Prop) (v : Value) (s' : Shared) : Prop :=
  ∃ h' tk nw', s' = { s with heap := h', toks := tk } ∧ Fr h₀ L h' m ∧ News h₀ L h' ((K, oK) :: (I, oI) :: (C, oC) :: (D, LCg.lst ys) :: nw') ∧ (∀ p ∈ nw', p.1 ≠ K ∧ p.1 ≠ I ∧ p.1 ≠ C ∧ p.1 ≠ D) ∧ J (ys ++ [v]) nw'
/-- the outer loop's state -/
inductive OutI (h₀ : Heap) (L : Addr) (m : Str → Option Value) (s : Shared) (I C D : Addr) (n : Nat) (J : Nat → Nat → List Value → List (Addr × Obj) → Prop) (k : Nat) (s' : Shared) : Prop
  | mk (h' : Heap) (tk i : Nat) (ys : List Value) (m' : Str → Option Value) (nw : List (Addr × Obj)) (e : s' = { s with heap := h', toks := tk }) (hi : i ≤ n) (hk : k = n + 1 - i) (hI : IsRangeIter h' I (0 + ((i : Nat) : Int) * 1) ((n : Int) - ((i : Nat) : Int)) 1) (F : Fr h₀ L h' m) (hn : h'.Ns C m') (N : News h₀ L h' ((D, LCg.lst ys) :: nw))
      (off : ∀ p ∈ nw, p.1 ≠ I ∧ p.1 ≠ C ∧ p.1 ≠ D) (hJ : J i 0 ys nw)
/-- the inner loop's state -/
inductive InI (h₀ : Heap) (L : Addr) (m : Str → Option Value) (s : Shared) (x : Str) (tx : Tok) (K I C D : Addr) (n i mi : Nat) (J : Nat → List Value → List (Addr × Obj) → Prop) (k : Nat) (s' : Shared) : Prop
  | mk (h' : Heap) (tk j : Nat) (ys : List Value) (m' : Str → Option Value) (nw : List (Addr × Obj)) (e : s' = { s with heap := h', toks := tk }) (hj : j ≤ mi) (hk : k = mi + 1 - j) (hK : IsRangeIter h' K (0 + ((j : Nat) : Int) * 1) (mi - ((j : Nat) : Int)) 1)
      (hI : IsRangeIter h' I (0 + ((i + 1 : Nat) : Int) * 1) ((n : Int) - ((i + 1 : Nat) : Int)) 1) (F : Fr h₀ L h' m) (hn : h'.Ns C m') (hmx : m' x = some (.int (i : Int) tx)) (N : News h₀ L h' ((D, LCg.lst ys) :: nw)) (off : ∀ p ∈ nw, p.1 ≠ K ∧ p.1 ≠ I ∧ p.1 ≠ C ∧ p.1 ≠ D) (hJ : J j ys nw)
structure Ne4 (K I C D : Nat) : Prop where
  ki : K ≠ I
  kc : K ≠ C
  kd : K ≠ D
  ic : I ≠ C
  id : I ≠ D
  cd : C ≠ D
theorem block2 {cl : List (Str × Addr)} {s₂ : Shared} {I : Addr} {n : Nat} {mi : Nat → Nat} {news : List (Addr × Obj)} {J : Nat → Nat → List Value → List (Addr × Obj) → Prop} {RR : Value → Addr → Result → Shared → Prop}
    (hh : A.handled = none) (hfold : ∀ C z, foldedSetIterable i1 (compEnvC scope cl C env) z = pure z)
    (hcell : ∀ y ∈ scope.names, y.2 ≠ .cell) (hkind : scope.kind = .function) (hx : scope.names.lookup x = some .local) (hy : scope.names.lookup y = some .local) (hxy : x ≠ y)
    (hst : IsRangeIter s₂.heap I (0 + ((0 : Nat) : Int) * 1) ((n : Int) - ((0 : Nat) : Int)) 1)
    (F : Fr h₀ L s₂.heap m) (N : News h₀ L s₂.heap news) (hIL : L ≠ I) (hI₀ : h₀.get? I = none) (off : ∀ p ∈ news, p.1 ≠ I)
    (hsz : ∀ i j ys nw, J i j ys nw → ys.length ≤ sizeLine) (hJ0 : J 0 0 [] news) (hnext : ∀ i ys nw, i < n → J i (mi i) ys nw → J (i + 1) 0 ys nw)
    (hiter : ∀ i I oI C oC D m₂ h tk tx ys nw (E' : Value → Shared → Prop), i < n → J i 0 ys nw → LCg.NsObj oC m₂ → m₂ x = some (.int (i : Int) tx) → Fr h₀ L h m → News h₀ L h ((I, oI) :: (C, oC) :: (D, LCg.lst ys) :: nw) →
      wpAny (model prog w) A (eval i1 (compEnvC scope cl C env)) (RangeEnd h₀ L m s₂ ((I, oI) :: (C, oC) :: (D, LCg.lst ys) :: nw) (mi i)) E' { s₂ with heap := h, toks := tk })
    (helt : ∀ i j K oK I oI C oC D m₂ h tk tx ty ys nw (E' : Value → Shared → Prop), i < n → j < mi i → J i j ys nw → LCg.NsObj oC m₂ → m₂ x = some (.int (i : Int) tx) → m₂ y = some (.int (j : Int) ty) → Fr h₀ L h m →
      News h₀ L h ((K, oK) :: (I, oI) :: (C, oC) :: (D, LCg.lst ys) :: nw) → (∀ p ∈ nw, p.1 ≠ K ∧ p.1 ≠ I ∧ p.1 ≠ C ∧ p.1 ≠ D) → Ne4 K I C D →
      wpAny (model prog w) A (eval elt (compEnvC scope cl C env)) (InEnd h₀ L m s₂ K oK I oI C oC D ys (J i (j + 1))) E' { s₂ with heap := h, toks := tk })
    (hRR : ∀ D C h tk m' ys nw, Fr h₀ L h m → News h₀ L h ((D, LCg.lst ys) :: nw) → (∀ p ∈ nw, p.1 ≠ D) → h.Ns C m' → h₀.get? C = none → h₀.get? D = none → C ≠ L → D ≠ L → C ≠ D → (∀ p ∈ nw, p.1 ≠ C) → J n 0 ys nw → RR (.ref D) C (.ok .next) { s₂ with heap := h, toks := tk }) :
    wpAny (model prog w) A (newList []) (fun acc s₃ => wpAny (model prog w) A (newFunctionEnv scope env.globals cl [] env.qual none .none (some env)) (fun cenv s₄ =>
      codeAny (model prog w) A (.compStart (two elt x y px py i0 i1 scope pos) 0 (.ref I) acc { cenv with scope := relabel scope env }) (RR acc cenv.locals) s₄) E s₃) E s₂ := by
  refine wpAny_newObj_type (wpAny_newFunctionEnv hcell (by intro y hy; simp at hy) (fun h₁ hns₁ hsb₁ => ?_) hkind)
  dsimp only at hns₁ hsb₁ ⊢
  generalize hH2 : s₂.heap.push { cls := .type "list", dict := none, data := .seq ([] : List Value).toArray } = H2 at hns₁ hsb₁ ⊢
  have hC : H2.objs.size = s₂.heap.objs.size + 1 := by rw [← hH2, Heap.size_push]
  have old : ∀ b o, s₂.heap.get? b = some o → h₁.get? b = some o := fun b o e => hsb₁.extBut b o (by have : b < s₂.heap.objs.size := Heap.lt_size e; rw [hC]; exact Nat.ne_of_lt (Nat.lt_succ_of_lt this)) (Heap.get?_push_of_some _ (hH2 ▸ Heap.get?_push_of_some _ e))
  have hDC : s₂.heap.objs.size ≠ H2.objs.size := by rw [hC]; exact Nat.ne_of_lt (Nat.lt_succ_self _)
  have hacc : h₁.get? s₂.heap.objs.size = some (LCg.lst []) := hsb₁.extBut _ _ hDC (Heap.get?_push_of_some _ (hH2 ▸ Heap.get?_push_size _ rfl))
  have fresh : ∀ a, s₂.heap.objs.size ≤ a → s₂.heap.get? a = none := fun a ha => by
    cases e : s₂.heap.get? a with
    | none => rfl
    | some o' => exact absurd (Heap.lt_size e) (Nat.not_lt.mpr ha)
  have fresh₀ : ∀ a, s₂.heap.objs.size ≤ a → h₀.get? a = none := fun a ha => by
    cases e : h₀.get? a with
    | none => rfl
    | some o' => have := F.keep a o' e; rw [fresh a ha] at this; cases this
  have hIlt : I < s₂.heap.objs.size := Heap.lt_size (show s₂.heap.get? I = some _ from hst)
  have hLlt : L < s₂.heap.objs.size := F.ns.lt
  have hnl : ∀ p ∈ news, p.1 < s₂.heap.objs.size := fun p hp => Heap.lt_size (N p hp).1
  have hD₀ : h₀.get? s₂.heap.objs.size = none := fresh₀ _ (Nat.le_refl _)
  have hC₀ : h₀.get? H2.objs.size = none := fresh₀ _ (by rw [hC]; exact Nat.le_succ _)
  generalize hD : s₂.heap.objs.size = D at *
  generalize hCC : H2.objs.size = C at *
  have hDL : D ≠ L := (Nat.ne_of_lt hLlt).symm
  have hCL : C ≠ L := by intro e; rw [e] at hC; rw [hC] at hLlt; exact absurd hLlt (Nat.not_lt.mpr (Nat.le_succ _))
  have hID : I ≠ D := Nat.ne_of_lt hIlt
  have hIC : I ≠ C := by rw [hC]; exact Nat.ne_of_lt (Nat.lt_succ_of_lt hIlt)
  have hCD : C ≠ D := by rw [hC]; exact (Nat.ne_of_lt (Nat.lt_succ_self _)).symm
  have off₀ : ∀ p ∈ news, p.1 ≠ I ∧ p.1 ≠ C ∧ p.1 ≠ D := fun p hp => ⟨off p hp, by rw [hC]; exact Nat.ne_of_lt (Nat.lt_succ_of_lt (hnl p hp)), Nat.ne_of_lt (hnl p hp)⟩
  let W := LCg.range_walks (prog := prog) (w := w) (I := I) hh 0 n
  have hst₁ : IsRangeIter h₁ I (0 + ((0 : Nat) : Int) * 1) ((n : Int) - ((0 : Nat) : Int)) 1 := old _ _ (show s₂.heap.get? I = some _ from hst)
  have loop : ∀ s₃ : Shared, s₃ = { s₂ with heap := h₁, toks := s₂.toks + ([] : List (Str × Value)).length } →
      codeAny (model prog w) A (.compLoop (two elt x y px py i0 i1 scope pos) 0 (.ref I) (.ref D) (compEnvC scope cl C env)) (RR (.ref D) C) s₃ := by
    rintro s₃ rfl
    refine loop_out (hfold C)
      (OutI h₀ L m s₂ I C D n J) ?_ (n + 1) ⟨h₁, _, 0, [], _, news, rfl, Nat.zero_le _, rfl, hst₁, F.keeps old, hns₁, fun p hp => ?_, off₀, hJ0⟩
    · rintro k s' ⟨h', tk, i, ys, m', nw, rfl, hi, rfl, hst', F', hn', N', off', hJ⟩
      by_cases hlt : i < n
      · refine W.item i _ _ _ hlt hst' fun v h₂ tk₂ hPv hst₂ hk₂ => ?_
        obtain ⟨tx, rfl⟩ := hPv
        refine wpAny_assign_Name (wpAny_storeName_local (lookup_relabel_local hx) (hn'.at' fun o e => hk₂ _ o (by simpa using Ne.symm hIC) e) (fun h₃ hn₃ hs₃ => ?_) (by simp [compEnvC, relabel, hkind]))
        have hst₃ : IsRangeIter h₃ I (0 + ((i + 1 : Nat) : Int) * 1) ((n : Int) - ((i + 1 : Nat) : Int)) 1 := hs₃.extBut _ _ hIC (show h₂.get? I = some _ from hst₂)
        obtain ⟨oC, heC, hoC⟩ := LCg.ns_obj hn₃
        have F₃ : Fr h₀ L h₃ m := (LCg.fr_but F' hk₂ hIL hI₀).change hs₃ hCL hC₀
        have N₂ : News h₀ L h₂ ((D, LCg.lst ys) :: nw) := LCg.news_but N' hk₂ fun p hp => by
          rcases List.mem_cons.mp hp with rfl | hp
          · exact Ne.symm hID
          · exact (off' p hp).1
        have N₃ : News h₀ L h₃ ((I, _) :: (C, oC) :: (D, LCg.lst ys) :: nw) := fun p hp => by
          rcases List.mem_cons.mp hp with rfl | hp
          · exact ⟨show h₃.get? I = some _ from hst₃, Ne.symm hIL, hI₀⟩
          · rcases List.mem_cons.mp hp with rfl | hp
            · exact ⟨heC, hCL, hC₀⟩
            · have z := N₂ p hp
              refine ⟨hs₃.extBut _ _ ?_ z.1, z.2⟩
              rcases List.mem_cons.mp hp with rfl | hp
              · exact Ne.symm hCD
              · exact (off' p hp).2.1
        refine wpAny_mono (hiter i I _ C oC D _ h₃ _ tx ys nw _ hlt hJ hoC (by simp) F₃ N₃) (fun z s₁ hz => ?_) fun _ _ e => e
        obtain ⟨r, b, t1, t2, t3, h₄, tk₄, rfl, rfl, F₄, N₄, hr, hsm, hrs⟩ := hz
        refine wpAny_pyIter_range hr hsm ?_
        rw [hrs]
        generalize hH5 : h₄.push { cls := .type "range_iterator", data := .fields #[rawInt 0, rawInt ((mi i : Nat) : Int), rawInt 1] } = h₅
        have up : ∀ b o, h₄.get? b = some o → h₅.get? b = some o := fun b o e => hH5 ▸ Heap.get?_push_of_some _ e
        have heK : h₅.get? h₄.objs.size = some { cls := .type "range_iterator", data := .fields #[rawInt 0, rawInt ((mi i : Nat) : Int), rawInt 1] } := hH5 ▸ Heap.get?_push_size _ rfl
        have hKL : h₄.objs.size ≠ L := (Nat.ne_of_lt F₄.ns.lt).symm
        have hK₀ : h₀.get? h₄.objs.size = none := by
          cases e : h₀.get? h₄.objs.size with
          | none => rfl
          | some o' => exact absurd (Heap.lt_size (F₄.keep _ o' e)) (Nat.lt_irrefl _)
        have nK : ∀ p ∈ (I, _) :: (C, oC) :: (D, LCg.lst ys) :: nw, p.1 ≠ h₄.objs.size := fun p hp => Nat.ne_of_lt (Heap.lt_size (N₄ p hp).1)
        have hIK := nK _ (.head _)
        have hCK := nK _ (.tail _ (.head _))
        have hDK := nK _ (.tail _ (.tail _ (.head _)))
        have offK : ∀ p ∈ nw, p.1 ≠ h₄.objs.size := fun p hp => nK p (.tail _ (.tail _ (.tail _ hp)))
        dsimp only at hIK hCK hDK
        have F₅ : Fr h₀ L h₅ m := F₄.keeps up
        have N₅ := N₄.grown up
        generalize h₄.objs.size = K at *
        let W2 := LCg.range_walks (prog := prog) (w := w) (I := K) hh 0 (mi i)
        have hst5 : IsRangeIter h₅ K (0 + ((0 : Nat) : Int) * 1) ((mi i : Nat) - ((0 : Nat) : Int)) 1 := by
          show h₅.get? K = some _
          rw [heK]; simp
        have inner : ∀ s₃ : Shared, s₃ = { s₂ with heap := h₅, toks := tk₄ } → codeAny (model prog w) A (.compLoop (two elt x y px py i0 i1 scope pos) 1 (.ref K) (.ref D) (compEnvC scope cl C env)) (fun r s' => match r with
            | .ok _ => ∃ k', k' < n + 1 - i ∧ OutI h₀ L m s₂ I C D n J k' s'
            | .error e => cameBackBy (model prog w) A (compEnvC scope cl C env) (notedBy (model prog w) A (compEnvC scope cl C env) fun e s' => RR (.ref D) C (.error e) s') e s') s₃ := by
          rintro s₃ rfl
          refine loop_in (InI h₀ L m s₂ x tx K I C D n i (mi i) (J i)) ?_ (mi i + 1)
            ⟨h₅, _, 0, ys, _, nw, rfl, Nat.zero_le _, rfl, hst5, (N₅ _ (.head _)).1, F₅, hoC.ns (N₅ _ (.tail _ (.head _))).1, by simp, fun p hp => N₅ p (.tail _ (.tail _ hp)), fun p hp => ⟨offK p hp, off' p hp⟩, hJ⟩
          rintro k s' ⟨h', tk, j, ys, m', nw, rfl, hj, rfl, hsK, hsI, F', hn', hmx, N', off', hJ⟩
          by_cases hjt : j < mi i
          · refine W2.item j _ _ _ hjt hsK fun v h₂ tk₂ hPv hst₂ hk₂ => ?_
            obtain ⟨ty, rfl⟩ := hPv
            refine wpAny_assign_Name (wpAny_storeName_local (lookup_relabel_local hy) (hn'.at' fun o e => hk₂ _ o (by simpa using hCK) e) (fun h₃ hn₃ hs₃ => ?_) (by simp [compEnvC, relabel, hkind]))
            have hst₃ : IsRangeIter h₃ K (0 + ((j + 1 : Nat) : Int) * 1) ((mi i : Nat) - ((j + 1 : Nat) : Int)) 1 := hs₃.extBut _ _ (Ne.symm hCK) (show h₂.get? K = some _ from hst₂)
            have hsI₃ : IsRangeIter h₃ I (0 + ((i + 1 : Nat) : Int) * 1) ((n : Int) - ((i + 1 : Nat) : Int)) 1 := hs₃.extBut _ _ hIC (hk₂ _ _ (by simpa using hIK) (show h'.get? I = some _ from hsI))
            obtain ⟨oC, heC, hoC⟩ := LCg.ns_obj hn₃
            have F₃ : Fr h₀ L h₃ m := (LCg.fr_but F' hk₂ (Ne.symm hKL) hK₀).change hs₃ hCL hC₀
            have N₂ : News h₀ L h₂ ((D, LCg.lst ys) :: nw) := LCg.news_but N' hk₂ fun p hp => by
              rcases List.mem_cons.mp hp with rfl | hp
              · exact hDK
              · exact (off' p hp).1
            have N₃ : News h₀ L h₃ ((K, _) :: (I, _) :: (C, oC) :: (D, LCg.lst ys) :: nw) := fun p hp => by
              rcases List.mem_cons.mp hp with rfl | hp
              · exact ⟨show h₃.get? K = some _ from hst₃, hKL, hK₀⟩
              · rcases List.mem_cons.mp hp with rfl | hp
                · exact ⟨show h₃.get? I = some _ from hsI₃, Ne.symm hIL, hI₀⟩
                · rcases List.mem_cons.mp hp with rfl | hp
                  · exact ⟨heC, hCL, hC₀⟩
                  · have z := N₂ p hp
                    refine ⟨hs₃.extBut _ _ ?_ z.1, z.2⟩
                    rcases List.mem_cons.mp hp with rfl | hp
                    · exact Ne.symm hCD
                    · exact (off' p hp).2.2.1
            refine wpAny_mono (helt i j K _ I _ C oC D _ h₃ _ tx ty ys nw _ hlt hjt hJ hoC (by simp [hxy, hmx]) (by simp) F₃ N₃ off' ⟨Ne.symm hIK, Ne.symm hCK, Ne.symm hDK, hIC, hID, hCD⟩) (fun z s₄ h₄ => ?_) fun _ _ e => e
            obtain ⟨h₄, tk₄, nw₄, rfl, F₄, N₄, off₄, J₄⟩ := h₄
            have zK := (N₄ _ (.head _)).1
            have zI := (N₄ _ (.tail _ (.head _))).1
            have zC := (N₄ _ (.tail _ (.tail _ (.head _)))).1
            have zD := (N₄ _ (.tail _ (.tail _ (.tail _ (.head _))))).1
            refine append_at (hsz := by show ys.toArray.size ≤ sizeLine; rw [List.size_toArray]; exact hsz _ _ _ _ hJ) zD fun h₅ hs₅ hD₅ => ?_
            refine ⟨mi i + 1 - (j + 1), by omega, h₅, tk₄, j + 1, ys ++ [z], _, nw₄, rfl, hjt, rfl, hs₅.extBut _ _ (Ne.symm hDK) zK, hs₅.extBut _ _ hID zI, F₄.change hs₅ hDL hD₀, (hoC.ns zC).sameBut hs₅ hCD, by simp [hxy, hmx], fun p hp => ?_, off₄, J₄⟩
            rcases List.mem_cons.mp hp with rfl | hp
            · exact ⟨hD₅.trans (congrArg some (LCg.lst_snoc ys z)), hDL, hD₀⟩
            · have z := N₄ p (.tail _ (.tail _ (.tail _ (.tail _ hp))))
              exact ⟨hs₅.extBut _ _ (off₄ p hp).2.2.2 z.1, z.2⟩
          · obtain rfl : j = mi i := Nat.le_antisymm hj (Nat.not_lt.mp hjt)
            refine W2.done _ _ _ hsK fun h₂ tk₂ hk₂ => ?_
            refine ⟨n + 1 - (i + 1), by omega, h₂, tk₂, i + 1, ys, m', nw, rfl, hlt, rfl, hk₂ _ _ (by simpa using hIK) (show h'.get? I = some _ from hsI), LCg.fr_but F' hk₂ (Ne.symm hKL) hK₀, hn'.at' fun o e => hk₂ _ o (by simpa using hCK) e,
              LCg.news_but N' hk₂ fun p hp => ?_, fun p hp => (off' p hp).2, hnext _ _ _ hlt hJ⟩
            rcases List.mem_cons.mp hp with rfl | hp
            · exact hDK
            · exact (off' p hp).1
        exact start_in (inner _ rfl) (W2.self 0 _ _ _ hst5 (inner _ rfl))
      · obtain rfl : i = n := Nat.le_antisymm hi (Nat.not_lt.mp hlt)
        refine W.done _ _ _ hst' fun h₂ tk₂ hk₂ => ?_
        exact hRR _ _ h₂ tk₂ _ ys nw (LCg.fr_but F' hk₂ hIL hI₀) (LCg.news_but N' hk₂ fun p hp => by
          rcases List.mem_cons.mp hp with rfl | hp
          · exact Ne.symm hID
          · exact (off' p hp).1) (fun p hp => (off' p hp).2.2) (hn'.at' fun o e => hk₂ _ o (by simpa using Ne.symm hIC) e) hC₀ hD₀ hCL hDL hCD (fun p hp => (off' p hp).2.1) hJ
    · rcases List.mem_cons.mp hp with rfl | hp
      · exact ⟨hacc, hDL, hD₀⟩
      · exact ⟨old _ _ (N p hp).1, (N p hp).2⟩
  exact codeAny_compStart_list (loop _ rfl) (W.self 0 _ _ _ hst₁ (loop _ rfl))
theorem assign2 {t : Str} {pt : Pos} {cl : List (Str × Addr)} {spos : Pos} {n : Nat} {mi : Nat → Nat} {news : List (Addr × Obj)} {J : Nat → Nat → List Value → List (Addr × Obj) → Prop} {Q : Flow → Shared → Prop}
    (_ : Fr h₀ L s.heap m) (_ : News h₀ L s.heap news) (hh : A.handled = none) (hLe : env.locals = L) (hsw : swapsWith (two elt x y px py i0 i1 scope pos) (some (.Name t pt)) spos.line env = pure true)
    (hclos : closureFor scope env = pure cl) (hcell : ∀ z ∈ scope.names, z.2 ≠ .cell) (hkind : scope.kind = .function)
    (hnames : ∀ z ∈ scope.names, z.2 = .local → scope.names.lookup z.1 = some .local) (hx : scope.names.lookup x = some .local) (hy : scope.names.lookup y = some .local) (hxy : x ≠ y)
    (ht : env.kindOf t = some .local) (hp : (env.scope.kind == .class || (env.scope.kind == .module && env.locals != env.globals)) = false)
    (hf0 : ∀ z, foldedSetIterable i0 env z = pure z) (hfold : ∀ C z, foldedSetIterable i1 (compEnvC scope cl C env) z = pure z)
    (h : wpAny (model prog w) A (eval i0 env) (RangeEnd h₀ L m s news n) E s)
    (hsz : ∀ i j ys nw, J i j ys nw → ys.length ≤ sizeLine) (hJ0 : J 0 0 [] news) (hnext : ∀ i ys nw, i < n → J i (mi i) ys nw → J (i + 1) 0 ys nw)
    (hiter : ∀ i I oI C oC D m₂ h tk tx ys nw (E' : Value → Shared → Prop), i < n → J i 0 ys nw → LCg.NsObj oC m₂ → m₂ x = some (.int (i : Int) tx) → Fr h₀ L h m → News h₀ L h ((I, oI) :: (C, oC) :: (D, LCg.lst ys) :: nw) →
      wpAny (model prog w) A (eval i1 (compEnvC scope cl C env)) (RangeEnd h₀ L m s ((I, oI) :: (C, oC) :: (D, LCg.lst ys) :: nw) (mi i)) E' { s with heap := h, toks := tk })
    (helt : ∀ i j K oK I oI C oC D m₂ h tk tx ty ys nw (E' : Value → Shared → Prop), i < n → j < mi i → J i j ys nw → LCg.NsObj oC m₂ → m₂ x = some (.int (i : Int) tx) → m₂ y = some (.int (j : Int) ty) → Fr h₀ L h m →
      News h₀ L h ((K, oK) :: (I, oI) :: (C, oC) :: (D, LCg.lst ys) :: nw) → (∀ p ∈ nw, p.1 ≠ K ∧ p.1 ≠ I ∧ p.1 ≠ C ∧ p.1 ≠ D) → Ne4 K I C D →
      wpAny (model prog w) A (eval elt (compEnvC scope cl C env)) (InEnd h₀ L m s K oK I oI C oC D ys (J i (j + 1))) E' { s with heap := h, toks := tk })
    (fin : ∀ D h tk ys nw, J n 0 ys nw → Fr h₀ L h (fun z => if z = t then some (.ref D) else m z) → News h₀ L h ((D, LCg.lst ys) :: nw) → (∀ p ∈ nw, p.1 ≠ D) → Q .next { s with heap := h, toks := tk }) :
    wpAny (model prog w) A (exec (.Assign [.Name t pt] (two elt x y px py i0 i1 scope pos) spos) env) Q E s := by
  subst hLe
  rw [exec_Assign_Name_used _ _ _ _ hsw]
  refine wpAny_bind (wpAny_standAt (wpAny_bind ?_))
  show wpAny _ A (do let _ ← comprehension (two elt x y px py i0 i1 scope pos) scope env _ (newList []) false (eval i0 env) (some (assign (.Name t pt) env))) _ _ s
  refine wpAny_bind (wpAny_mono (wpAny_comprehension_free (use := some (assign (.Name t pt) env)) (Q := fun _ s' => Q .next s') rfl hf0 hclos hkind hnames
    (wpAny_mono h (fun xv s₁ h₁ => ?_) fun _ _ e => e)) (fun _ s' hq => wpAny_pure (wpAny_pure hq)) fun _ _ e => e)
  obtain ⟨r, b, t1, t2, t3, h1, tk1, rfl, rfl, F, N, hr, hsm, hn⟩ := h₁
  refine wpAny_pyIter_range hr hsm ?_
  refine block2 (n := n) (mi := mi) (news := news) (J := J) hh hfold hcell hkind hx hy hxy (by show IsRangeIter _ _ _ _ _; rw [hn]; simpa using Heap.get?_push_size _ rfl)
    (F.keeps fun _ _ e => Heap.get?_push_of_some _ e) (N.grown fun _ _ e => Heap.get?_push_of_some _ e) (Nat.ne_of_lt F.ns.lt) (next_is_new F) (fun p hp => Nat.ne_of_lt (Heap.lt_size (N p hp).1)) hsz hJ0 hnext hiter helt ?_
  intro D C h' tk m' ys nw F' N' o1 hnC hC₀ hD₀ hCL hDL hCD offC hJ
  show wpAny _ A (assign (.Name t pt) env (.ref D)) _ _ _
  refine wpAny_assign_Name (wpAny_storeName_local ht F'.ns (fun h₂ hn₂ hs₂ => ?_) hp)
  have hL₀ : h₀.get? env.locals = none := Heap.get?_none_of_le F'.above
  have F₂ : Fr h₀ env.locals h₂ (fun z => if z = t then some (.ref D) else m z) := ⟨hn₂, fun b o e => hs₂.extBut b o (fun q => by rw [q, hL₀] at e; cases e) (F'.keep b o e), F'.above⟩
  refine ⟨m', hnC.sameBut hs₂ hCL, fun h'' hs'' => fin D h'' _ ys nw hJ (F₂.change hs'' hCL hC₀) (fun p hp => ?_) o1⟩
  have z : h₂.get? p.1 = some p.2 := hs₂.extBut _ _ (N' p hp).2.1 (N' p hp).1
  refine ⟨hs''.extBut _ _ ?_ z, (N' p hp).2⟩
  rcases List.mem_cons.mp hp with rfl | hp
  · exact Ne.symm hCD
  · exact offC p hp
theorem comp_ind {n : Nat} {cl : List (Str × Addr)} {S : List (Addr × Obj) → Prop} {P : Nat → Value → Prop} {Fin : List Value → List (Addr × Obj) → Prop} {J : Nat → List Value → List (Addr × Obj) → Prop} (fin : ∀ ys nw, J n ys nw → Fin ys nw)
    (step : ∀ i ys nw, i < n → J i ys nw → ∀ v I oI C oC D m₂ h tk (E' : Value → Shared → Prop), P i v → LCg.NsObj oC m₂ → m₂ x = some v → Fr h₀ L h m → News h₀ L h ((I, oI) :: (C, oC) :: (D, LCg.lst ys) :: nw) → LCg.Off3 I C D nw → ((@Ne Nat I C) ∧ (@Ne Nat I D) ∧ (@Ne Nat C D)) →
      wpAny (model prog w) A (eval elt (compEnvC scope cl C env)) (LCg.CompEnd h₀ L m { s with heap := h, toks := tk } I oI C oC D (LCg.lst ys) S (fun y nw' => J (i + 1) (ys ++ [y]) nw')) E' { s with heap := h, toks := tk }) :
    ∀ k i ys nw, i + k = n → J i ys nw → LCg.CompRest prog w A h₀ L m env elt x scope cl s S P Fin k i ys nw := by
  intro k
  induction k with
  | zero =>
    intro i ys nw e j
    have : i = n := by omega
    subst this
    exact fin ys nw j
  | succ k ih =>
    intro i ys nw e j
    refine LCg.CompRest.succ fun v I oI C oC D m₂ h tk E' hv hC hx F N off ne => ?_
    refine wpAny_mono (step i ys nw (by omega) j v I oI C oC D m₂ h tk E' hv hC hx F N off ne) (fun y s' ⟨h', tk', nw', e1, F', N', off', hS, j'⟩ => ⟨h', tk', nw', e1, F', N', off', hS, ih (i + 1) _ nw' (by omega) j'⟩) fun _ _ e => e
end
end C2
end

section
theorem ints_at {vs : List Value} {ns : List Int} (h : IntsAre vs ns) : ∀ {i : Nat} {v : Value}, vs[i]? = some v → ∃ k t, ns[i]? = some k ∧ v = .int k t := by
  induction h with
  | nil => intro i v e; simp at e
  | cons n t _ ih =>
    intro i v e
    cases i with
    | zero => simp at e; subst e; exact ⟨n, t, by simp, rfl⟩
    | succ i => simpa using ih (by simpa using e)
theorem take_snoc {l : List Int} {i : Nat} {k : Int} (h : l[i]? = some k) : l.take (i + 1) = l.take i ++ [k] := by rw [List.take_add_one, h]; rfl
theorem snoc_ints {vs : List Value} {ns : List Int} (h : IntsAre vs ns) (x : Int) (t : Tok) : IntsAre (vs ++ [.int x t]) (ns ++ [x]) := by
  induction h with
  | nil => exact .cons x t .nil
  | cons n t' _ ih => exact .cons n t' ih
inductive Three (ys : List Value) (a b c : Int) : Prop
  | mk (t u v : Tok) (e : ys = [.int a t, .int b u, .int c v])
theorem ints3 {ys : List Value} {a b c : Int} (h : IntsAre ys [a, b, c]) : Three ys a b c := by
  cases h with
  | cons _ t h => cases h with
    | cons _ u h => cases h with
      | cons _ v h => cases h; exact ⟨t, u, v, rfl⟩
inductive IntIs (h₀ : Heap) (L : Addr) (m : Str → Option Value) (s : Shared) (all : List (Addr × Obj)) (k : Int) (v : Value) (s' : Shared) : Prop
  | mk (h' : Heap) (tk : Nat) (t : Tok) (e1 : v = .int k t) (e2 : s' = { s with heap := h', toks := tk }) (F : Fr h₀ L h' m) (N : News h₀ L h' all)
structure JMap (f : Int → Int) (cs : List Int) (nw0 : List (Addr × Obj)) (i : Nat) (ys : List Value) (nw : List (Addr × Obj)) : Prop where
  same : nw = nw0
  num : IntsAre ys ((cs.take i).map f)
theorem ints_map {prog : Program} {A : Around} {s₁ : Shared} {h₀ : Heap} {L ax : Addr} {m : Str → Option Value} {env : Env} {elt : PySem.Expr} {x : Str} {scope : Scope} {cl : List (Str × Addr)} {ws : List Value} {cs : List Int} {kk : Nat} {Q : Value → Shared → Prop} (f : Int → Int)
    (hh : A.handled = none) (F : Fr h₀ L s₁.heap m) (N : News h₀ L s₁.heap news) (hm : (ax, listOf (List.toArray ws) kk) ∈ news) (hi : IntsAre ws cs) (hn : cs.length ≤ 63)
    (step : ∀ I oI C oC D ys m₂ h tk c t (E' : Value → Shared → Prop), c ∈ cs → LCg.NsObj oC m₂ → m₂ x = some (.int c t) → Fr h₀ L h m → News h₀ L h ((I, oI) :: (C, oC) :: (D, LCg.lst ys) :: news) →
      wpAny (model prog w) A (eval elt (compEnvC scope cl C env)) (IntIs h₀ L m s₁ ((I, oI) :: (C, oC) :: (D, LCg.lst ys) :: news) (f c)) E' { s₁ with heap := h, toks := tk })
    (fin : ∀ D ys h tk, Fr h₀ L h m → News h₀ L h ((D, LCg.lst ys) :: news) → LCg.Off1 D news → IntsAre ys (cs.map f) → Q (.ref D) { s₁ with heap := h, toks := tk }) :
    LCg.CompSrc prog w A h₀ L m env elt x scope cl (fun s₂ => LCg.FinE h₀ L m s₂ Q) (.ref ax) s₁ := by
  have hlen := hi.length
  refine LCg.CompSrc.ledger hh F N hm (by rw [List.size_toArray, sizeLine_eq]; omega) fun g => ?_
  refine C2.comp_ind (J := JMap f cs news) (fun ys nw j => ?_) (fun i ys nw hlt j v I oI C oC D m₂ h tk E' hv hC hx F' N' off ne => ?_) _ 0 [] news (Nat.zero_add _) ⟨rfl, .nil⟩
  · obtain ⟨rfl, h1⟩ := j
    intro D h tk F' N' o1
    refine fin D ys h tk F' N' o1 ?_
    rw [List.size_toArray, hlen, List.take_length] at h1
    exact h1
  · obtain ⟨rfl, h1⟩ := j
    obtain ⟨c, t, hc, rfl⟩ := ints_at hi (by simpa using hv)
    refine wpAny_mono (step I oI C oC D ys m₂ h tk c t E' (List.mem_of_getElem? hc) hC hx F' N') (fun y s' ⟨h', tk', t', e1, e2, F2, N2⟩ => ?_) fun _ _ e => e
    subst e1
    subst e2
    refine ⟨h', tk', nw, rfl, F2, N2, off, .inr ⟨_, hm, rfl, _, rfl⟩, rfl, ?_⟩
    rw [take_snoc hc, List.map_append]
    exact snoc_ints h1 (f c) t'
end

section
theorem bitor16 {x y : Int} (h1 : 0 ≤ x) (h2 : x < 16) (h3 : 0 ≤ y) (h4 : y < 16) : Builtin.bitOr (x * 2 ^ Int.toNat 4) y = x * 16 + y := by
  have key : ∀ a b : Fin 16, Builtin.bitOr (((a.val : Nat) : Int) * 2 ^ Int.toNat 4) ((b.val : Nat) : Int) = ((a.val : Nat) : Int) * 16 + ((b.val : Nat) : Int) := by decide +kernel
  have := key ⟨x.toNat, by omega⟩ ⟨y.toNat, by omega⟩
  simp only [Int.toNat_of_nonneg h1, Int.toNat_of_nonneg h3] at this
  exact this
theorem acc_is {b q0 r0 k : Int} (h : k ≤ q0) : accDown (fun _ x => x + b) q0 r0 k = r0 + (q0 - k) * b :=
  accDown_eq (P := fun j => r0 + (q0 - j) * b) h (by simp) (fun j _ _ => by
    show r0 + (q0 - (j - 1)) * b = r0 + (q0 - j) * b + b
    have : q0 - (j - 1) = (q0 - j) + 1 := by omega
    rw [this, Int.add_mul, Int.one_mul]; omega)
theorem dn_core {a12 a3 b b1 b2 : Int} (h1 : 0 ≤ a12) (h3 : 0 ≤ a3) (h4 : a3 < 16) (h5 : 8 ≤ b1) (h6 : b1 < 16) (h7 : 0 ≤ b2) (h8 : b2 < 16) (h9 : b = b1 * 16 + b2) :
    (∀ j, j ≤ a12.fdiv b1 → accDown (fun _ x => x + b) (a12.fdiv b1) (Builtin.bitOr (a12.fmod b1 * 2 ^ Int.toNat 4) a3 - a12.fdiv b1 * b2) j = (a12 * 16 + a3) - j * b) ∧ (a12 * 16 + a3) - a12.fdiv b1 * b < b ∧ 0 ≤ a12.fdiv b1 := by
  have e1 : a12.fdiv b1 = a12 / b1 := Int.fdiv_eq_ediv_of_nonneg _ (by omega)
  have e2 : a12.fmod b1 = a12 % b1 := Int.fmod_eq_emod_of_nonneg _ (by omega)
  have r0 := Int.emod_nonneg a12 (b := b1) (by omega)
  have r1 := Int.emod_lt_of_pos a12 (b := b1) (by omega)
  have q0 : 0 ≤ a12 / b1 := Int.ediv_nonneg h1 (by omega)
  have hd := Int.mul_ediv_add_emod a12 b1
  rw [e1, e2]
  generalize a12 / b1 = q at *
  generalize a12 % b1 = r at *
  have e3 : q * b = q * b1 * 16 + q * b2 := by rw [h9, Int.mul_add, ← Int.mul_assoc]
  have e4 : b1 * q = q * b1 := Int.mul_comm _ _
  have e5 : 0 ≤ q * b2 := Int.mul_nonneg q0 h7
  refine ⟨fun j hj => ?_, by omega, q0⟩
  rw [acc_is hj, bitor16 r0 (by omega) h3 h4, Int.sub_mul]
  omega
theorem dn_stop {a12 a3 b b1 b2 : Int} (h1 : 0 ≤ a12) (h3 : 0 ≤ a3) (h4 : a3 < 16) (h5 : 8 ≤ b1) (h6 : b1 < 16) (h7 : 0 ≤ b2) (h8 : b2 < 16) (h9 : b = b1 * 16 + b2) :
    StopDown (fun k => decide (accDown (fun _ x => x + b) (a12.fdiv b1) (Builtin.bitOr (a12.fmod b1 * 2 ^ Int.toNat 4) a3 - a12.fdiv b1 * b2) k < 0)) (a12.fdiv b1) (min 0 (a12.fdiv b1)) := by
  obtain ⟨c1, c2, c3⟩ := dn_core h1 h3 h4 h5 h6 h7 h8 h9
  refine ⟨Int.min_le_right _ _, ?_⟩
  dsimp only
  rw [Int.min_eq_left c3, c1 0 c3, Int.zero_mul]
  exact decide_eq_false (by omega)
theorem dn_out {a12 a3 b b1 b2 k : Int} {t u : Tok} (h1 : 0 ≤ a12) (h3 : 0 ≤ a3) (h4 : a3 < 16) (h5 : 8 ≤ b1) (h6 : b1 < 16) (h7 : 0 ≤ b2) (h8 : b2 < 16) (h9 : b = b1 * 16 + b2)
    (hk : k ≤ a12.fdiv b1) (ha : ∀ j, k < j → j ≤ a12.fdiv b1 → decide (accDown (fun _ x => x + b) (a12.fdiv b1) (Builtin.bitOr (a12.fmod b1 * 2 ^ Int.toNat 4) a3 - a12.fdiv b1 * b2) j < 0) = true)
    (hz : decide (accDown (fun _ x => x + b) (a12.fdiv b1) (Builtin.bitOr (a12.fmod b1 * 2 ^ Int.toNat 4) a3 - a12.fdiv b1 * b2) k < 0) = false) :
    ∃ t' u', ({ cls := .type "tuple", data := .seq #[.int k t, vInt (accDown (fun _ x => x + b) (a12.fdiv b1) (Builtin.bitOr (a12.fmod b1 * 2 ^ Int.toNat 4) a3 - a12.fdiv b1 * b2) k) u] } : Obj) = { cls := .type "tuple", data := .seq #[.int ((a12 * 16 + a3).fdiv b) t', .int ((a12 * 16 + a3).fmod b) u'] } := by
  obtain ⟨c1, c2, c3⟩ := dn_core h1 h3 h4 h5 h6 h7 h8 h9
  have z := of_decide_eq_false hz
  rw [c1 k hk] at z ⊢
  have lt : (a12 * 16 + a3) - k * b < b := by
    by_cases e : k = a12.fdiv b1
    · rw [e]; exact c2
    · have y := of_decide_eq_true (ha (k + 1) (by omega) (by omega))
      rw [c1 (k + 1) (by omega), Int.add_mul, Int.one_mul] at y
      omega
  have bp : 0 < b := by omega
  have e1 : (a12 * 16 + a3).fdiv b = k := by
    rw [Int.fdiv_eq_ediv_of_nonneg _ (by omega)]
    refine Int.ediv_eq_iff_of_pos bp |>.mpr ?_ <;> first | omega | (constructor <;> omega)
  have e2 : (a12 * 16 + a3).fmod b = (a12 * 16 + a3) - k * b := by
    have := Int.mul_fdiv_add_fmod (a12 * 16 + a3) b
    rw [e1, Int.mul_comm] at this
    omega
  refine ⟨t, u, ?_⟩
  rw [e1, e2]
end

section
local macro_rules | `(tactic| walk_at "call builtin:divmod") => `(tactic| (k_here; (with_reducible show wpAny _ _ (call _ [Value.int _ _, Value.int _ _]) _ _ _); k_dflt (refine' divmod_K ?F ?N ?b ?c ?d ?_; (case F => k_asm); (case N => k_asm); (case b => omega); (case c => omega); (case d => omega)); intro D' t' u' h' tk' F' N' l1; (try k_lt l1); (try k_sweep)))
theorem div2n1n {a b n : Int} {t1 t2 t3 : Tok} (ha : 0 ≤ a) (ha2 : a < 2 ^ 20) (hb : 0 < b) (hb2 : b < 2 ^ 20) (hn : 0 ≤ n) (hn2 : n < 100) :
    Tel w p loose mean mg mb 38 1 [] [.int a t1, .int b t2, .int n t3] (One fun o => ∃ t u, o = { cls := .type "tuple", data := .seq #[.int (a.fdiv b) t, .int (a.fmod b) u] }) := by
  have hbits : Builtin.Int.intBits a ≤ 64 := intBits_le_64 (by omega) (by omega)
  w_top off
  unfold Tel
  k_fill
  intro rest9 dp9 un9 gd9 cn9 cs9 ad9 ccd9 cl9 ou9 A9 base9 hh9 L9 m9 s9 Q9 E9 B9 F9 X9 N9 S9 T9 hk9 hd9 hu9 hret
  refine wpAny_call ?_
  k_dflt (refine' code_plain ?k1 ?k2 ?k3 ?k4 ?kS ?k5 ?kA ?kF ?kK ?k6 ?k7 ?k8 ?k9 ?kB ?_ ?c2 ?c3 ?c4 ?c5; (case kA => exact rfl); (case kF => exact rfl); (case kK => assumption); (case k1 => k_asm); (case k2 => k_asm); (case k3 => k_asm); (case k4 => exact N9); (case kS => exact S9); (case k5 => k_asm); (case k6 => k_is); (case k7 => k_is); (case k8 => ktr_room); (case k9 => exact BindsTo.of_eq rfl); (case c5 => decide); (case kB => exact locs rfl); (case c2 => exact rfl); (case c3 => exact rfl); (case c4 => exact rfl); k_whole; intro g9 L' h' FG' F' N' R9 B' X' T'; (try dsimp only); (try k_lift B'); (try k_fold))
  k_steps
  all_goals (refine' Ret.one hret ?F ?N ?l ?o; (case F => k_asm); (case N => (refine' comb N9 S9 R9 ?Fk ?Nk ?Sk; (case Fk => assumption); (case Nk => assumption); (case Sk => k_subL))); (case l => (refine' combA N9 S9 R9 ?Nm ?Sm ?Am; (case Nm => assumption); (case Sm => k_subL); (case Am => first | (simp only [Apart, OffA, and_true]; done) | (simp only [Apart, OffA, and_true]; (repeat' apply And.intro) <;> ktr_rel)))); (case o => exact ⟨_, _, rfl⟩))
local macro_rules | `(tactic| walk_at "call ref") => `(tactic| (k_here; (with_reducible show wpAny _ _ (call (Value.ref 38) _) _ _ _); k_dflt (refine' tel_use (div2n1n ?a1 ?a2 ?a3 ?a4 ?a5 ?a6) ?_); (case a1 => omega); (case a2 => omega); (case a3 => omega); (case a4 => omega); (case a5 => omega); (case a6 => omega); (refine' Ret.one2 ?_); intro x' t' u' h' tk' F' N' l1; (try dsimp only); (try k_fold); (try k_sweep)))
theorem div3n2n {a12 a3 b b1 b2 : Int} {t1 t2 t3 t4 t5 t6 : Tok} (h1 : 0 ≤ a12) (h2 : a12 < 128) (h3 : 0 ≤ a3) (h4 : a3 < 16) (h5 : 8 ≤ b1) (h6 : b1 < 16) (h7 : 0 ≤ b2) (h8 : b2 < 16) (h9 : b = b1 * 16 + b2) :
    Tel w p loose mean mg mb 45 2 [] [.int a12 t1, .int a3 t2, .int b t3, .int b1 t4, .int b2 t5, .int 4 t6] (One fun o => ∃ t u, o = { cls := .type "tuple", data := .seq #[.int ((a12 * 16 + a3).fdiv b) t, .int ((a12 * 16 + a3).fmod b) u] }) := by
  w_top off
  unfold Tel
  k_fill
  intro rest9 dp9 un9 gd9 cn9 cs9 ad9 ccd9 cl9 ou9 A9 base9 hh9 L9 m9 s9 Q9 E9 B9 F9 X9 N9 S9 T9 hk9 hd9 hu9 hret
  refine wpAny_call ?_
  k_dflt (refine' code_plain ?k1 ?k2 ?k3 ?k4 ?kS ?k5 ?kA ?kF ?kK ?k6 ?k7 ?k8 ?k9 ?kB ?_ ?c2 ?c3 ?c4 ?c5; (case kA => exact rfl); (case kF => exact rfl); (case kK => assumption); (case k1 => k_asm); (case k2 => k_asm); (case k3 => k_asm); (case k4 => exact N9); (case kS => exact S9); (case k5 => k_asm); (case k6 => k_is); (case k7 => k_is); (case k8 => ktr_room); (case k9 => exact BindsTo.of_eq rfl); (case c5 => decide); (case kB => exact locs rfl); (case c2 => exact rfl); (case c3 => exact rfl); (case c4 => exact rfl); k_whole; intro g9 L' h' FG' F' N' R9 B' X' T'; (try dsimp only); (try k_lift B'); (try k_fold))
  have hx1 : a12.fdiv (2 ^ (4 : Int).toNat) ≠ b1 := by
    show a12.fdiv 16 ≠ b1
    rw [Int.fdiv_eq_ediv_of_nonneg _ (by omega)]; omega
  k_steps
  · exact dn_stop h1 h3 h4 h5 h6 h7 h8 h9
  · (refine' Ret.one hret ?F ?N ?l ?o; (case F => k_asm); (case N => (refine' comb N9 S9 R9 ?Fk ?Nk ?Sk; (case Fk => assumption); (case Nk => assumption); (case Sk => k_subL))); (case l => (refine' combA N9 S9 R9 ?Nm ?Sm ?Am; (case Nm => assumption); (case Sm => k_subL); (case Am => first | (simp only [Apart, OffA, and_true]; done) | (simp only [Apart, OffA, and_true]; (repeat' apply And.intro) <;> ktr_rel)))); (case o => exact dn_out h1 h3 h4 h5 h6 h7 h8 h9 (by assumption) (by assumption) (by assumption)))
#print axioms div3n2n
end

section
theorem div3w {A W : Int} {t1 t2 t3 t4 t5 t6 : Tok} (h1 : 0 ≤ A) (h2 : A < 2048) (h3 : 128 ≤ W) (h4 : W < 256) :
    Tel w p loose mean mg mb 45 2 [] [.int (A.fdiv (2 ^ Int.toNat 4)) t1, .int (Builtin.bitAnd A 15) t2, .int W t3, .int (W.fdiv (2 ^ Int.toNat 4)) t4, .int (Builtin.bitAnd W 15) t5, .int 4 t6] (One fun o => ∃ t u, o = { cls := .type "tuple", data := .seq #[.int (A.fdiv W) t, .int (A.fmod W) u] }) := by
  have e1 : A.fdiv (2 ^ Int.toNat 4) = A / 16 := Int.fdiv_eq_ediv_of_nonneg _ (by decide)
  have e2 : W.fdiv (2 ^ Int.toNat 4) = W / 16 := Int.fdiv_eq_ediv_of_nonneg _ (by decide)
  rw [e1, e2, bitAnd_m4, bitAnd_m4]
  have := div3n2n (w := w) (p := p) (loose := loose) (mean := mean) (mg := mg) (mb := mb)  (t1 := t1) (t2 := t2) (t3 := t3) (t4 := t4) (t5 := t5) (t6 := t6) (a12 := A / 16) (a3 := A % 16) (b := W) (b1 := W / 16) (b2 := W % 16) (by omega) (by omega) (by omega) (by omega) (by omega) (by omega) (by omega) (by omega) (by omega)
  rw [show A / 16 * 16 + A % 16 = A by omega] at this
  exact this
@[irreducible] def restOf (a b : Int) : Int := (a * 2 ^ (8 - (Builtin.Int.intBits b : Int)).toNat).fmod (b * 2 ^ (8 - (Builtin.Int.intBits b : Int)).toNat)
theorem bits_facts {a b : Int} (h0 : 0 ≤ a) (h1 : a < 8 * b) (h2 : 1 ≤ b) (h3 : b < 256) : Builtin.Int.intBits b ≤ 8 ∧ 128 ≤ b * 2 ^ (8 - (Builtin.Int.intBits b : Int)).toNat ∧ b * 2 ^ (8 - (Builtin.Int.intBits b : Int)).toNat < 256 ∧
    0 ≤ a * 2 ^ (8 - (Builtin.Int.intBits b : Int)).toNat ∧ a * 2 ^ (8 - (Builtin.Int.intBits b : Int)).toNat < 2048 ∧ (a * 2 ^ (8 - (Builtin.Int.intBits b : Int)).toNat).fdiv (b * 2 ^ (8 - (Builtin.Int.intBits b : Int)).toNat) = a.fdiv b ∧ (restOf a b = 0 ↔ a.fmod b = 0) := by
  have key : ∀ n : Fin 256, 1 ≤ n.val → Builtin.Int.intBits ((n.val : Nat) : Int) ≤ 8 ∧ 128 ≤ ((n.val : Nat) : Int) * 2 ^ (8 - (Builtin.Int.intBits ((n.val : Nat) : Int) : Int)).toNat ∧ ((n.val : Nat) : Int) * 2 ^ (8 - (Builtin.Int.intBits ((n.val : Nat) : Int) : Int)).toNat < 256 := by decide +kernel
  have k := key ⟨b.toNat, by omega⟩ (by show 1 ≤ b.toNat; omega)
  simp only [Int.toNat_of_nonneg (show 0 ≤ b by omega)] at k
  obtain ⟨k1, k2, k3⟩ := k
  unfold restOf
  have pp : 0 < (2 : Int) ^ (8 - (Builtin.Int.intBits b : Int)).toNat := Int.pow_pos (by decide)
  generalize (2 : Int) ^ (8 - (Builtin.Int.intBits b : Int)).toNat = P at *
  have q1 : 0 ≤ a * P := Int.mul_nonneg h0 (by omega)
  have q2 : a * P < 8 * b * P := Int.mul_lt_mul_of_pos_right h1 pp
  rw [Int.mul_assoc] at q2
  refine ⟨k1, k2, k3, q1, by omega, ?_, ?_⟩
  · rw [Int.fdiv_eq_ediv_of_nonneg _ (by omega), Int.fdiv_eq_ediv_of_nonneg _ (by omega)]
    exact Int.mul_ediv_mul_of_pos_left _ _ pp
  · rw [Int.fmod_eq_emod_of_nonneg _ (by omega), Int.fmod_eq_emod_of_nonneg _ (by omega)]
    have : (a * P) % (b * P) = (a % b) * P := by rw [Int.mul_comm a P, Int.mul_comm b P, Int.mul_emod_mul_of_pos _ _ pp, Int.mul_comm]
    rw [this]
    constructor
    · intro h
      rcases Int.mul_eq_zero.mp h with h | h <;> omega
    · intro h; rw [h, Int.zero_mul]

local macro_rules | `(tactic| walk_at "call ref") => `(tactic| (k_here; (with_reducible show wpAny _ _ (call (Value.ref 45) _) _ _ _); k_dflt (refine' tel_use (div3w ?a1 ?a2 ?a3 ?a4) ?_); (case a1 => omega); (case a2 => omega); (case a3 => omega); (case a4 => omega); (refine' Ret.one2 ?_); intro x' t' u' h' tk' F' N' l1; (try dsimp only); (try k_fold); (try k_sweep)))
theorem divided {a b : Int} {t1 t2 : Tok} (h0 : 0 ≤ a) (h1 : a < 8 * b) (h2 : 1 ≤ b) (h3 : b < 256) :
    Tel w p loose mean mg mb 122 3 [] [.int a t1, .int b t2] (One fun o => ∃ t u, o = { cls := .type "tuple", data := .seq #[.int (a.fdiv b) t, .int (restOf a b) u] }) := by
  obtain ⟨k1, k2, k3, k4, k5, k6, k7⟩ := bits_facts h0 h1 h2 h3
  have k8 : 0 ≤ (a * 2 ^ (8 - (Builtin.Int.intBits b : Int)).toNat).fmod (b * 2 ^ (8 - (Builtin.Int.intBits b : Int)).toNat) := Int.fmod_nonneg_of_pos _ (by omega)
  have k9 : (a * 2 ^ (8 - (Builtin.Int.intBits b : Int)).toNat).fmod (b * 2 ^ (8 - (Builtin.Int.intBits b : Int)).toNat) < (b * 2 ^ (8 - (Builtin.Int.intBits b : Int)).toNat) := Int.fmod_lt_of_pos _ (by omega)
  have k10 := Int.fdiv_mul_add_fmod (a * 2 ^ (8 - (Builtin.Int.intBits b : Int)).toNat) (b * 2 ^ (8 - (Builtin.Int.intBits b : Int)).toNat)
  have k11 : (2 : Int) ^ (8 - (Builtin.Int.intBits b : Int)).toNat ≤ 256 := by
    have : (8 - (Builtin.Int.intBits b : Int)).toNat ≤ 8 := by omega
    generalize (8 - (Builtin.Int.intBits b : Int)).toNat = n at *
    have key : ∀ n : Fin 9, (2 : Int) ^ n.val ≤ 256 := by decide
    exact key ⟨n, by omega⟩
  w_top off
  unfold Tel
  k_fill
  intro rest9 dp9 un9 gd9 cn9 cs9 ad9 ccd9 cl9 ou9 A9 base9 hh9 L9 m9 s9 Q9 E9 B9 F9 X9 N9 S9 T9 hk9 hd9 hu9 hret
  refine wpAny_call ?_
  k_dflt (refine' code_plain ?k1 ?k2 ?k3 ?k4 ?kS ?k5 ?kA ?kF ?kK ?k6 ?k7 ?k8 ?k9 ?kB ?_ ?c2 ?c3 ?c4 ?c5; (case kA => exact rfl); (case kF => exact rfl); (case kK => assumption); (case k1 => k_asm); (case k2 => k_asm); (case k3 => k_asm); (case k4 => exact N9); (case kS => exact S9); (case k5 => k_asm); (case k6 => k_is); (case k7 => k_is); (case k8 => ktr_room); (case k9 => exact BindsTo.of_eq rfl); (case c5 => decide); (case kB => exact locs rfl); (case c2 => exact rfl); (case c3 => exact rfl); (case c4 => exact rfl); k_whole; intro g9 L' h' FG' F' N' R9 B' X' T'; (try dsimp only); (try k_lift B'); (try k_fold))
  k_steps
  (refine' Ret.one hret ?F ?N ?l ?o; (case F => k_asm); (case N => (refine' comb N9 S9 R9 ?Fk ?Nk ?Sk; (case Fk => assumption); (case Nk => assumption); (case Sk => k_subL))); (case l => (refine' combA N9 S9 R9 ?Nm ?Sm ?Am; (case Nm => assumption); (case Sm => k_subL); (case Am => first | (simp only [Apart, OffA, and_true]; done) | (simp only [Apart, OffA, and_true]; (repeat' apply And.intro) <;> ktr_rel)))); (case o => exact tup2_eq k6 (by rw [restOf])))
end

section
def priceOf (v0 v1 v2 s0 s1 s2 : Int) : Int :=
  if 0 < s0 then
    if 0 < s1 then
      if 0 < s2 then min (min ((840 * v0).fdiv s0) ((840 * v1).fdiv s1)) ((840 * v2).fdiv s2) else min ((840 * v0).fdiv s0) ((840 * v1).fdiv s1)
    else if 0 < s2 then min ((840 * v0).fdiv s0) ((840 * v2).fdiv s2) else (840 * v0).fdiv s0
  else if 0 < s1 then
    if 0 < s2 then min ((840 * v1).fdiv s1) ((840 * v2).fdiv s2) else (840 * v1).fdiv s1
  else (840 * v2).fdiv s2
def offerOf (v0 v1 v2 s0 s1 s2 : Int) : Int := max (max ((840 * v0).fdiv (s0 + 1)) ((840 * v1).fdiv (s1 + 1))) ((840 * v2).fdiv (s2 + 1))
theorem item_of {prog : Program} {A : Around} {E : Value → Shared → Prop} {s : Shared} {h₀ : Heap} {L l : Addr} {value slice : PySem.Expr} {vs : List Value} {ns : List Int} {n i : Nat} {u : Tok} {P : Int → Prop} {Q : Value → Shared → Prop} (N : News h₀ L s.heap news) (hm : (l, listOf vs.toArray n) ∈ news) (hi : IntsAre vs ns) (hP : ∀ x ∈ ns, P x) (h1 : i < vs.length) (hn : vs.length ≤ 63) (h : ∀ x t, ns[i]? = some x → P x → Q (.int x t) s)
    (hs : subscripted slice false (.ref l) (.int (0 + (i : Int)) u) = operate [.ref l, .int (0 + (i : Int)) u] (getItem (.ref l) (.int (0 + (i : Int)) u))) : wpAny (model prog w) A (subscriptTail value slice (.ref l) (.int (0 + (i : Int)) u)) Q E s := by
  have hlt : (0 + (i : Int)).toNat < vs.length := by omega
  have ei : (0 + (i : Int)).toNat = i := by omega
  obtain ⟨x, t, e1, e⟩ := ints_at hi (List.getElem?_eq_getElem hlt)
  rw [ei] at e1
  exact item_mine N hm (by omega) (by omega) (by rw [List.getElem?_eq_getElem hlt, e]) (h x t e1 (hP x (List.mem_of_getElem? e1))) hs
theorem compT_ind {prog : Program} {A : Around} {s : Shared} {h₀ : Heap} {L : Addr} {m : Str → Option Value} {env : Env} {ct elt : PySem.Expr} {x : Str} {scope : Scope} {n : Nat} {cl : List (Str × Addr)} {S : List (Addr × Obj) → Prop} {P : Nat → Value → Prop} {Fin : List Value → List (Addr × Obj) → Prop} {J : Nat → List Value → List (Addr × Obj) → Prop} (fin : ∀ ys nw, J n ys nw → Fin ys nw)
    (step : ∀ i ys nw, i < n → J i ys nw → ∀ v I oI C oC D m₂ h tk (E' : Value → Shared → Prop), P i v → LCg.NsObj oC m₂ → m₂ x = some v → Fr h₀ L h m → News h₀ L h ((I, oI) :: (C, oC) :: (D, LCg.lst ys) :: nw) → LCg.Off3 I C D nw → ((@Ne Nat I C) ∧ (@Ne Nat I D) ∧ (@Ne Nat C D)) →
      wpAny (model prog w) A (isTrue ct (compEnvC scope cl C env) (eval ct (compEnvC scope cl C env))) (fun ok s' => if ok = true then
        wpAny (model prog w) A (eval elt (compEnvC scope cl C env)) (LCg.CompEnd h₀ L m { s with heap := h, toks := tk } I oI C oC D (LCg.lst ys) S (fun y nw' => J (i + 1) (ys ++ [y]) nw')) E' s'
        else LCg.CompEnd h₀ L m { s with heap := h, toks := tk } I oI C oC D (LCg.lst ys) S (fun _ nw' => J (i + 1) ys nw') Value.none s') E' { s with heap := h, toks := tk }) :
    ∀ k i ys nw, i + k = n → J i ys nw → LCt.CompRestT prog w A h₀ L m env ct elt x scope cl s S P Fin k i ys nw := by
  intro k
  induction k with
  | zero =>
    intro i ys nw e j
    have : i = n := by omega
    subst this
    exact fin ys nw j
  | succ k ih =>
    intro i ys nw e j
    refine LCt.CompRestT.succ fun v I oI C oC D m₂ h tk E' hv hC hx F N off ne => ?_
    refine wpAny_mono (step i ys nw (by omega) j v I oI C oC D m₂ h tk E' hv hC hx F N off ne) (fun ok s' h' => ?_) fun _ _ e => e
    cases ok with
    | true =>
      simp only [if_true] at h' ⊢
      exact wpAny_mono h' (fun y s' ⟨h', tk', nw', e1, F', N', off', hS, j'⟩ => ⟨h', tk', nw', e1, F', N', off', hS, ih (i + 1) _ nw' (by omega) j'⟩) fun _ _ e => e
    | false =>
      simp only [Bool.false_eq_true, if_false] at h' ⊢
      obtain ⟨h', tk', nw', e1, F', N', off', hS, j'⟩ := h'
      exact ⟨h', tk', nw', e1, F', N', off', hS, ih (i + 1) _ nw' (by omega) j'⟩
/-- the list of what f hands back so far -/
structure JPick (f : Nat → List Int) (nw0 : List (Addr × Obj)) (i : Nat) (ys : List Value) (nw : List (Addr × Obj)) : Prop where
  same : nw = nw0
  num : IntsAre ys (((List.range i).map f).flatten)
theorem pick_end {f : Nat → List Int} {nw0 nw : List (Addr × Obj)} {i tk : Nat} {ys : List Value} {h₀ h : Heap} {L I C D : Addr} {oI oC : Obj} {m : Str → Option Value} {s : Shared} {x : Int} {t : Tok} (F : Fr h₀ L h m) (N : News h₀ L h ((I, oI) :: (C, oC) :: (D, LCg.lst ys) :: nw)) (off : LCg.Off3 I C D nw) (J : JPick f nw0 i ys nw) (hf : f i = [x]) :
    LCg.CompEnd h₀ L m s I oI C oC D (LCg.lst ys) (fun _ => True) (fun y nw' => JPick f nw0 (i + 1) (ys ++ [y]) nw') (.int x t) { s with heap := h, toks := tk } := by
  refine ⟨h, tk, nw, rfl, F, N, off, trivial, J.same, ?_⟩
  rw [List.range_succ, List.map_append, List.flatten_append]
  simp only [List.map_cons, List.map_nil, List.flatten_cons, List.flatten_nil, List.append_nil, hf]
  exact snoc_ints J.num x t
theorem pick_skip {f : Nat → List Int} {nw0 nw : List (Addr × Obj)} {i tk : Nat} {ys : List Value} {h₀ h : Heap} {L I C D : Addr} {oI oC : Obj} {m : Str → Option Value} {s : Shared} {v : Value} (F : Fr h₀ L h m) (N : News h₀ L h ((I, oI) :: (C, oC) :: (D, LCg.lst ys) :: nw)) (off : LCg.Off3 I C D nw) (J : JPick f nw0 i ys nw) (hf : f i = []) :
    LCg.CompEnd h₀ L m s I oI C oC D (LCg.lst ys) (fun _ => True) (fun _ nw' => JPick f nw0 (i + 1) ys nw') v { s with heap := h, toks := tk } := by
  refine ⟨h, tk, nw, rfl, F, N, off, trivial, J.same, ?_⟩
  rw [List.range_succ, List.map_append, List.flatten_append]
  simp only [List.map_cons, List.map_nil, List.flatten_cons, List.flatten_nil, List.append_nil, hf]
  exact J.num
def at3 (a b c : Int) (i : Nat) : Int := if i = 0 then a else if i = 1 then b else c
theorem at3_of {a b c x : Int} {i : Nat} (h : [a, b, c][i]? = some x) : x = at3 a b c i := by
  rcases i with _ | _ | _ | i
  · simp at h; exact h.symm
  · simp at h; exact h.symm
  · simp at h; exact h.symm
  · simp at h
def fPrice (v0 v1 v2 s0 s1 s2 : Int) (i : Nat) : List Int := if 0 < at3 s0 s1 s2 i then [(840 * at3 v0 v1 v2 i).fdiv (at3 s0 s1 s2 i)] else []
def fOffer (v0 v1 v2 s0 s1 s2 : Int) (i : Nat) : List Int := [(840 * at3 v0 v1 v2 i).fdiv (at3 s0 s1 s2 i + 1)]
theorem min2 (a b : Int) : (min a b = a ∨ min a b = b) ∧ min a b ≤ a ∧ min a b ≤ b :=
  ⟨by rw [Int.min_def]; split; exact .inl rfl; exact .inr rfl, Int.min_le_left a b, Int.min_le_right a b⟩
theorem min3 (a b c : Int) : (min (min a b) c = a ∨ min (min a b) c = b ∨ min (min a b) c = c) ∧ min (min a b) c ≤ a ∧ min (min a b) c ≤ b ∧ min (min a b) c ≤ c := by
  obtain ⟨h1, h2, h3⟩ := min2 (min a b) c
  obtain ⟨g1, g2, g3⟩ := min2 a b
  refine ⟨?_, Int.le_trans h2 g2, Int.le_trans h2 g3, h3⟩
  rcases h1 with h | h
  · rcases g1 with g | g
    · exact .inl (h.trans g)
    · exact .inr (.inl (h.trans g))
  · exact .inr (.inr h)
theorem max2 (a b : Int) : (max a b = a ∨ max a b = b) ∧ a ≤ max a b ∧ b ≤ max a b :=
  ⟨by rw [Int.max_def]; split; exact .inr rfl; exact .inl rfl, Int.le_max_left a b, Int.le_max_right a b⟩
theorem max3 (a b c : Int) : (max (max a b) c = a ∨ max (max a b) c = b ∨ max (max a b) c = c) ∧ a ≤ max (max a b) c ∧ b ≤ max (max a b) c ∧ c ≤ max (max a b) c := by
  obtain ⟨h1, h2, h3⟩ := max2 (max a b) c
  obtain ⟨g1, g2, g3⟩ := max2 a b
  refine ⟨?_, Int.le_trans g2 h2, Int.le_trans g3 h2, h3⟩
  rcases h1 with h | h
  · rcases g1 with g | g
    · exact .inl (h.trans g)
    · exact .inr (.inl (h.trans g))
  · exact .inr (.inr h)
theorem prices {ys : List Value} {v0 v1 v2 s0 s1 s2 : Int} (hs : 1 ≤ s0 + s1 + s2) (p0 : 0 ≤ s0) (p1 : 0 ≤ s1) (p2 : 0 ≤ s2) (h : IntsAre ys (((List.range 3).map (fPrice v0 v1 v2 s0 s1 s2)).flatten)) : ∃ ns, IntsAre ys ns ∧ priceOf v0 v1 v2 s0 s1 s2 ∈ ns ∧ ∀ x ∈ ns, priceOf v0 v1 v2 s0 s1 s2 ≤ x := by
  refine ⟨_, h, ?_⟩
  have e : ((List.range 3).map (fPrice v0 v1 v2 s0 s1 s2)).flatten = (if 0 < s0 then [(840 * v0).fdiv s0] else []) ++ (if 0 < s1 then [(840 * v1).fdiv s1] else []) ++ (if 0 < s2 then [(840 * v2).fdiv s2] else []) := by
    simp [List.range_succ, fPrice, at3]
  rw [e]
  unfold priceOf
  by_cases h0 : 0 < s0 <;> by_cases h1 : 0 < s1 <;> by_cases h2 : 0 < s2 <;> simp only [h0, h1, h2, if_true, if_false, List.cons_append, List.nil_append, List.append_nil, List.mem_cons, List.not_mem_nil, or_false, forall_eq_or_imp, forall_eq] <;> first | exact min3 _ _ _ | exact min2 _ _ | (simp; done) | omega | (simp; omega)
theorem offers {ys : List Value} {v0 v1 v2 s0 s1 s2 : Int} (h : IntsAre ys (((List.range 3).map (fOffer v0 v1 v2 s0 s1 s2)).flatten)) : ∃ ns, IntsAre ys ns ∧ offerOf v0 v1 v2 s0 s1 s2 ∈ ns ∧ ∀ x ∈ ns, x ≤ offerOf v0 v1 v2 s0 s1 s2 := by
  refine ⟨_, h, ?_⟩
  have e : ((List.range 3).map (fOffer v0 v1 v2 s0 s1 s2)).flatten = [(840 * v0).fdiv (s0 + 1), (840 * v1).fdiv (s1 + 1), (840 * v2).fdiv (s2 + 1)] := by
    simp [List.range_succ, fOffer, at3]
  rw [e]
  unfold offerOf
  simp only [List.mem_cons, List.not_mem_nil, or_false, forall_eq_or_imp, forall_eq]
  exact max3 _ _ _
def MaxOf (ys : List Value) (P : Int) : Prop := ∃ ns, IntsAre ys ns ∧ P ∈ ns ∧ ∀ x ∈ ns, x ≤ P
def MinOf (ys : List Value) (P : Int) : Prop := ∃ ns, IntsAre ys ns ∧ P ∈ ns ∧ ∀ x ∈ ns, P ≤ x
section
variable {prog : Program} {A : Around} {E : Value → Shared → Prop} {s : Shared} {h₀ : Heap} {L l : Addr} {m : Str → Option Value} {ys : List Value} {P : Int} {Q : Value → Shared → Prop}
theorem max_mine (h : ∀ h' (t : Tok) tk, Fr h₀ L h' m → News h₀ L h' news → Q (.int P t) { s with heap := h', toks := tk }) (F : Fr h₀ L s.heap m := by k_asm) (N : News h₀ L s.heap news := by k_asm) (hm : (l, LCg.lst ys) ∈ news := by k_mem) (hi : MaxOf ys P := by assumption) (hh : A.handled = none := by with_unfolding_all rfl) :
    wpAny (model prog w) A (call (.builtin "max") [.ref l]) Q E s := by
  obtain ⟨ns, h1, h2, h3⟩ := hi
  refine kso_max F N ⟨_, (N _ hm).1, rfl, _, rfl⟩ h1 (List.length_pos_of_mem h2) hh fun h' M t tk F' N' a b => ?_
  obtain rfl : M = P := Int.le_antisymm (h3 _ a) (b _ h2)
  exact h h' t tk F' N'
theorem min_mine (h : ∀ h' (t : Tok) tk, Fr h₀ L h' m → News h₀ L h' news → Q (.int P t) { s with heap := h', toks := tk }) (F : Fr h₀ L s.heap m := by k_asm) (N : News h₀ L s.heap news := by k_asm) (hm : (l, LCg.lst ys) ∈ news := by k_mem) (hi : MinOf ys P := by assumption) (hh : A.handled = none := by with_unfolding_all rfl) :
    wpAny (model prog w) A (call (.builtin "min") [.ref l]) Q E s := by
  obtain ⟨ns, h1, h2, h3⟩ := hi
  refine kso_min F N ⟨_, (N _ hm).1, rfl, _, rfl⟩ h1 (List.length_pos_of_mem h2) hh fun h' M t tk F' N' a b => ?_
  obtain rfl : M = P := Int.le_antisymm (b _ h2) (h3 _ a)
  exact h h' t tk F' N'
end
theorem item_at3 {prog : Program} {A : Around} {E : Value → Shared → Prop} {s : Shared} {h₀ : Heap} {L l : Addr} {value slice : PySem.Expr} {a b c : Int} {t0 t1 t2 : Tok} {n i : Nat} {u : Tok} {P : Int → Prop} {Q : Value → Shared → Prop} (N : News h₀ L s.heap news) (hm : (l, listOf #[.int a t0, .int b t1, .int c t2] n) ∈ news) (hP : ∀ x ∈ [a, b, c], P x) (h1 : i < 3) (h : ∀ t, P (at3 a b c i) → Q (.int (at3 a b c i) t) s)
    (hs : subscripted slice false (.ref l) (.int (0 + (i : Int)) u) = operate [.ref l, .int (0 + (i : Int)) u] (getItem (.ref l) (.int (0 + (i : Int)) u))) : wpAny (model prog w) A (subscriptTail value slice (.ref l) (.int (0 + (i : Int)) u)) Q E s :=
  item_of (vs := [.int a t0, .int b t1, .int c t2]) (ns := [a, b, c]) N hm (.cons _ _ (.cons _ _ (.cons _ _ .nil))) hP h1 (Nat.le_of_ble_eq_true rfl) (fun x t e p => by obtain rfl := at3_of e; exact h t p) hs
theorem all3 {a b c : Int} {P : Int → Prop} (h0 : P a) (h1 : P b) (h2 : P c) : ∀ x ∈ [a, b, c], P x := by
  intro x hx
  simp only [List.mem_cons, List.not_mem_nil, or_false] at hx
  rcases hx with rfl | rfl | rfl <;> assumption
def Hold7 (P : Prop) : Prop := P
theorem hold7 {P : Prop} (h : Hold7 P) : P := h
theorem unhold7 {P : Prop} (h : P) : Hold7 P := h
local macro_rules | `(tactic| walk_at "CompSrc") => `(tactic| refine hold7 ?_)
local macro_rules | `(tactic| walk_at "CompSrcT") => `(tactic| refine hold7 ?_)
local macro_rules | `(tactic| walk_at "CompEnd") => `(tactic| refine hold7 ?_)
local macro_rules | `(tactic| walk_at "eval ListComp") => `(tactic| (k_here; (with_reducible show wpAny _ _ (eval (PySem.Expr.ListComp _ [PySem.Comprehension.mk _ _ [] _] _ _) _) _ _ _); k_dflt (refine LCg.ListComp_U (F₀ := by k_asm) (by with_unfolding_all rfl) (by decide) (by rfl) (by decide) (by rfl) ?_)))
local macro_rules | `(tactic| walk_at "eval ListComp") => `(tactic| (k_here; (with_reducible show wpAny _ _ (eval (PySem.Expr.ListComp _ [PySem.Comprehension.mk _ _ [_] _] _ _) _) _ _ _); k_dflt (refine LCt.ListComp_T (F₀ := by k_asm) (by with_unfolding_all rfl) (by decide) (by rfl) (by decide) (by rfl) ?_)))
local macro_rules | `(tactic| walk_at "subscriptTail Name Name ref int") => `(tactic| (k_here; k_dflt (refine' item_at3 ?N ?m ?P ?a ?_ ?s; (case N => k_asm); (case m => k_mem); (case P => assumption); (case a => assumption); (case s => with_unfolding_all rfl)); intro t' hp'))
local macro_rules | `(tactic| walk_at "call builtin:max") => `(tactic| (k_here; (with_reducible show wpAny _ _ (call (Value.builtin _) [Value.ref _]) _ _ _); k_dflt (refine' max_mine ?_); intro h' t' k' F' N'))
local macro_rules | `(tactic| walk_at "call builtin:min") => `(tactic| (k_here; (with_reducible show wpAny _ _ (call (Value.builtin _) [Value.ref _]) _ _ _); k_dflt (refine' min_mine ?_); intro h' t' k' F' N'))
theorem bounds {lv ls : Addr} {v0 v1 v2 s0 s1 s2 : Int} {n ns : Nat} {t0 t1 t2 t3 t4 t5 : Tok} (h0 : 0 ≤ v0 ∧ v0 ≤ 80) (h1 : 0 ≤ v1 ∧ v1 ≤ 80) (h2 : 0 ≤ v2 ∧ v2 ≤ 80) (hs0 : 0 ≤ s0 ∧ s0 ≤ 7) (hs1 : 0 ≤ s1 ∧ s1 ≤ 7) (hs2 : 0 ≤ s2 ∧ s2 ≤ 7) (hs : 1 ≤ s0 + s1 + s2) :
    Tel w p loose mean mg mb 110 3 [(lv, listOf #[.int v0 t0, .int v1 t1, .int v2 t2] n), (ls, listOf #[.int s0 t3, .int s1 t4, .int s2 t5] ns)] [.ref lv, .ref ls] (One fun o => ∃ t u, o = { cls := .type "tuple", data := .seq #[.int (priceOf v0 v1 v2 s0 s1 s2) t, .int (offerOf v0 v1 v2 s0 s1 s2) u] }) := by
  have hPv := all3 (P := fun x => 0 ≤ x ∧ x ≤ 80) h0 h1 h2
  have hPs := all3 (P := fun x => 0 ≤ x ∧ x ≤ 7) hs0 hs1 hs2
  w_top off
  unfold Tel
  k_fill
  intro rest9 dp9 un9 gd9 cn9 cs9 ad9 ccd9 cl9 ou9 A9 base9 hh9 L9 m9 s9 Q9 E9 B9 F9 X9 N9 S9 T9 hk9 hd9 hu9 hret
  refine wpAny_call ?_
  k_dflt (refine' code_cells ?k1 ?k2 ?k3 ?k4 ?kS ?k5 ?kA ?kF ?kK ?k6 ?k7 ?k8 ?k9 ?kB ?kD ?_ ?c2 ?c3 ?c4; (case kA => exact rfl); (case kF => exact rfl); (case kK => assumption); (case k1 => k_asm); (case k2 => k_asm); (case k3 => k_asm); (case k4 => exact N9); (case kS => exact S9); (case k5 => k_asm); (case k6 => k_is); (case k7 => k_is); (case k8 => ktr_room); (case k9 => exact BindsTo.of_eq rfl); (case kB => exact rfl); (case kD => decide +kernel); (case c2 => exact rfl); (case c3 => exact rfl); (case c4 => exact rfl); k_whole; intro g9 L' h' tk' cells' FG' F' N' Y' R9 B' X' T' l1; (try k_lt l1); k_cells Y'; (try simp only [List.cons_append, List.nil_append] at N'); (try dsimp only); (try k_lift B'); (try k_fold))
  k_steps
  refine unhold7 ?_
  refine LCt.CompSrcT.range (by rfl) (by k_asm) (by k_asm) (by assumption) (by first | decide | rfl) (by first | rfl | decide) (n := 3) (by first | size_fits | exact Nat.le_of_ble_eq_true rfl) ?_
  intro g'
  refine compT_ind (J := JPick (fPrice v0 v1 v2 s0 s1 s2) _) ?pfin ?pstep _ 0 [] _ (Nat.zero_add _) ⟨rfl, .nil⟩
  case pstep =>
    rintro i ys nw hi ⟨rfl, hnum⟩ v I oI C oC D m₂ h tk E' ⟨t9, rfl⟩ hC hx F' N' off ne
    k_steps
    all_goals refine unhold7 ?_
    all_goals first
      | exact pick_end (by k_asm) (by k_asm) off ⟨rfl, hnum⟩ (by unfold fPrice; rw [if_pos (by omega)])
      | exact pick_skip (by k_asm) (by k_asm) off ⟨rfl, hnum⟩ (by unfold fPrice; rw [if_neg (by omega)])
  rintro ys nw ⟨rfl, hnum⟩
  have hmin : MinOf ys (priceOf v0 v1 v2 s0 s1 s2) := prices hs hs0.1 hs1.1 hs2.1 hnum
  unfold LCg.FinE
  intro D h tk F' N' o1
  (try dsimp only)
  k_steps
  refine unhold7 ?_
  refine LCg.CompSrc.range (by rfl) (by k_asm) (by k_asm) (by assumption) (by first | decide | rfl) (by first | rfl | decide) (n := 3) (by first | size_fits | exact Nat.le_of_ble_eq_true rfl) ?_
  intro g'
  refine C2.comp_ind (J := JPick (fOffer v0 v1 v2 s0 s1 s2) _) ?ofin ?ostep _ 0 [] _ (Nat.zero_add _) ⟨rfl, .nil⟩
  case ostep =>
    rintro i ys nw hi ⟨rfl, hnum⟩ v I oI C oC D m₂ h tk E' ⟨t9, rfl⟩ hC hx F' N' off ne
    k_steps
    refine unhold7 ?_
    exact pick_end (by k_asm) (by k_asm) off ⟨rfl, hnum⟩ rfl
  rintro ys nw ⟨rfl, hnum2⟩
  have hmax : MaxOf ys (offerOf v0 v1 v2 s0 s1 s2) := offers hnum2
  unfold LCg.FinE
  intro D h tk F' N' o1
  (try dsimp only)
  k_steps
  (refine' Ret.one hret ?F ?N ?l ?o; (case F => k_asm); (case N => (refine' comb N9 S9 R9 ?Fk ?Nk ?Sk; (case Fk => assumption); (case Nk => assumption); (case Sk => k_subL))); (case l => (refine' combA N9 S9 R9 ?Nm ?Sm ?Am; (case Nm => assumption); (case Sm => k_subL); (case Am => first | (simp only [Apart, OffA, and_true]; done) | (simp only [Apart, OffA, and_true]; (repeat' apply And.intro) <;> ktr_rel)))); (case o => exact tup2_eq rfl rfl))
end

section
/-- m dots, then o -/
@[irreducible] def sd (m : Nat) (o : List Nat) : Str := ⟨(List.replicate m 46 ++ o).toArray⟩
def Ltr (o : List Nat) : Prop := o = [97] ∨ o = [98] ∨ o = [99]
theorem sd_len (m : Nat) (o : List Nat) : (sd m o).length = m + o.length := by
  unfold sd
  show (List.replicate m 46 ++ o).toArray.size = _
  simp
theorem ltr_len {o : List Nat} (h : Ltr o) : o.length = 1 := by rcases h with rfl | rfl | rfl <;> rfl
theorem ltr_all {P : List Nat → Prop} (h1 : P [97]) (h2 : P [98]) (h3 : P [99]) {o : List Nat} (h : Ltr o) : P o := by rcases h with rfl | rfl | rfl <;> assumption
theorem sl_from0 {m : Nat} (hm : m < 12) {k : Int} (h0 : 0 ≤ k) (h1 : k ≤ m) : Txt.slice (sd m []) (some k) none = sd (m - k.toNat) [] := by
  have key : ∀ a b : Fin 12, b.val ≤ a.val → Txt.slice (sd a.val []) (some ((b.val : Nat) : Int)) none = sd (a.val - b.val) [] := by decide +kernel
  have := key ⟨m, hm⟩ ⟨k.toNat, by omega⟩ (by show k.toNat ≤ m; omega)
  simp only [Int.toNat_of_nonneg h0] at this
  exact this
theorem sl_from {m : Nat} {o : List Nat} (hm : m < 12) (ho : Ltr o) {k : Int} (h0 : 0 ≤ k) (h1 : k ≤ m) : Txt.slice (sd m o) (some k) none = sd (m - k.toNat) o := by
  have key : ∀ a b : Fin 12, b.val ≤ a.val → Txt.slice (sd a.val [97]) (some ((b.val : Nat) : Int)) none = sd (a.val - b.val) [97] ∧ Txt.slice (sd a.val [98]) (some ((b.val : Nat) : Int)) none = sd (a.val - b.val) [98] ∧ Txt.slice (sd a.val [99]) (some ((b.val : Nat) : Int)) none = sd (a.val - b.val) [99] := by decide +kernel
  have := key ⟨m, hm⟩ ⟨k.toNat, by omega⟩ (by show k.toNat ≤ m; omega)
  simp only [Int.toNat_of_nonneg h0] at this
  exact ltr_all (P := fun o => Txt.slice (sd m o) (some k) none = sd (m - k.toNat) o) this.1 this.2.1 this.2.2 ho
theorem sl_all0 {m : Nat} (hm : m < 12) : Txt.slice (sd m []) none none = sd m [] := by
  have key : ∀ a : Fin 12, Txt.slice (sd a.val []) none none = sd a.val [] := by decide +kernel
  exact key ⟨m, hm⟩
theorem sl_all {m : Nat} {o : List Nat} (hm : m < 12) (ho : Ltr o) : Txt.slice (sd m o) none none = sd m o := by
  have key : ∀ a : Fin 12, Txt.slice (sd a.val [97]) none none = sd a.val [97] ∧ Txt.slice (sd a.val [98]) none none = sd a.val [98] ∧ Txt.slice (sd a.val [99]) none none = sd a.val [99] := by decide +kernel
  have := key ⟨m, hm⟩
  exact ltr_all (P := fun o => Txt.slice (sd m o) none none = sd m o) this.1 this.2.1 this.2.2 ho
theorem sl_but {m : Nat} {o : List Nat} (hm : m < 12) (ho : Ltr o) : Txt.slice (sd m o) none (some (-1)) = sd m [] := by
  have key : ∀ a : Fin 12, Txt.slice (sd a.val [97]) none (some (-1)) = sd a.val [] ∧ Txt.slice (sd a.val [98]) none (some (-1)) = sd a.val [] ∧ Txt.slice (sd a.val [99]) none (some (-1)) = sd a.val [] := by decide +kernel
  have := key ⟨m, hm⟩
  exact ltr_all (P := fun o => Txt.slice (sd m o) none (some (-1)) = sd m []) this.1 this.2.1 this.2.2 ho
theorem sl_mid {m : Nat} {o : List Nat} (hm : m < 12) (ho : Ltr o) : Txt.slice (sd m o) (some 1) (some (-1)) = sd (m - 1) [] := by
  have key : ∀ a : Fin 12, Txt.slice (sd a.val [97]) (some 1) (some (-1)) = sd (a.val - 1) [] ∧ Txt.slice (sd a.val [98]) (some 1) (some (-1)) = sd (a.val - 1) [] ∧ Txt.slice (sd a.val [99]) (some 1) (some (-1)) = sd (a.val - 1) [] := by decide +kernel
  have := key ⟨m, hm⟩
  exact ltr_all (P := fun o => Txt.slice (sd m o) (some 1) (some (-1)) = sd (m - 1) []) this.1 this.2.1 this.2.2 ho
theorem it_dot0 {m : Nat} (hm : m < 12) {k : Int} (h0 : 0 ≤ k) (h1 : k < m) : Txt.item (sd m []) k = ⟨#[46]⟩ := by
  have key : ∀ a b : Fin 12, b.val < a.val → Txt.item (sd a.val []) ((b.val : Nat) : Int) = ⟨#[46]⟩ := by decide +kernel
  have := key ⟨m, hm⟩ ⟨k.toNat, by omega⟩ (by show k.toNat < m; omega)
  simp only [Int.toNat_of_nonneg h0] at this
  exact this
theorem it_dot {m : Nat} {o : List Nat} (hm : m < 12) (ho : Ltr o) {k : Int} (h0 : 0 ≤ k) (h1 : k < m) : Txt.item (sd m o) k = ⟨#[46]⟩ := by
  have key : ∀ a b : Fin 12, b.val < a.val → Txt.item (sd a.val [97]) ((b.val : Nat) : Int) = ⟨#[46]⟩ ∧ Txt.item (sd a.val [98]) ((b.val : Nat) : Int) = ⟨#[46]⟩ ∧ Txt.item (sd a.val [99]) ((b.val : Nat) : Int) = ⟨#[46]⟩ := by decide +kernel
  have := key ⟨m, hm⟩ ⟨k.toNat, by omega⟩ (by show k.toNat < m; omega)
  simp only [Int.toNat_of_nonneg h0] at this
  exact ltr_all (P := fun o => Txt.item (sd m o) k = ⟨#[46]⟩) this.1 this.2.1 this.2.2 ho
theorem it_last {m : Nat} {o : List Nat} (hm : m < 12) (ho : Ltr o) : Txt.item (sd m o) (-1) = ⟨o.toArray⟩ ∧ Txt.item (sd m o) (m : Int) = ⟨o.toArray⟩ := by
  have key : ∀ a : Fin 12, (Txt.item (sd a.val [97]) (-1) = ⟨#[97]⟩ ∧ Txt.item (sd a.val [97]) ((a.val : Nat) : Int) = ⟨#[97]⟩) ∧ (Txt.item (sd a.val [98]) (-1) = ⟨#[98]⟩ ∧ Txt.item (sd a.val [98]) ((a.val : Nat) : Int) = ⟨#[98]⟩) ∧ (Txt.item (sd a.val [99]) (-1) = ⟨#[99]⟩ ∧ Txt.item (sd a.val [99]) ((a.val : Nat) : Int) = ⟨#[99]⟩) := by decide +kernel
  have := key ⟨m, hm⟩
  exact ltr_all (P := fun o => Txt.item (sd m o) (-1) = ⟨o.toArray⟩ ∧ Txt.item (sd m o) (m : Int) = ⟨o.toArray⟩) this.1 this.2.1 this.2.2 ho

theorem it_end {m : Nat} {o : List Nat} (hm : m < 12) (ho : Ltr o) {k : Int} (hk : k = m) : Txt.item (sd m o) k = ⟨o.toArray⟩ := hk ▸ (it_last hm ho).2
theorem it_neg {m : Nat} {o : List Nat} (hm : m < 12) (ho : Ltr o) {k : Int} (hk : k = -1) : Txt.item (sd m o) k = ⟨o.toArray⟩ := hk ▸ (it_last hm ho).1
theorem str_refl (x : Str) : (x == x) = true := by simp
theorem sd_ne {m n : Nat} {o : List Nat} (h : m ≠ n) : (sd m o == sd n o) = false := by
  rw [beq_eq_false_iff_ne]
  intro e
  have := congrArg Str.length e
  rw [sd_len, sd_len] at this
  omega
theorem dot_ne {o : List Nat} (h : Ltr o) : ((⟨#[46]⟩ : Str) == ⟨o.toArray⟩) = false := by rcases h with rfl | rfl | rfl <;> decide
theorem let_ne {o : List Nat} (h : Ltr o) : ((⟨o.toArray⟩ : Str) == ⟨#[46]⟩) = false := by rcases h with rfl | rfl | rfl <;> decide
section
variable {prog : Program} {A : Around} {E : Value → Shared → Prop} {s : Shared} {h₀ : Heap} {L : Addr} {m : Str → Option Value} {x y : Str} {t : Tok}
theorem len_ltr {n : Nat} {o : List Nat} {Q : Value → Shared → Prop} (hm : n < 12) (ho : Ltr o) (h : ∀ t tk, Q (.int ((n : Int) + 1) t) { s with toks := tk }) : wpAny (model prog w) A (call (.builtin "len") [.str (sd n o) t]) Q E s :=
  SBL.len (by rw [sd_len, ltr_len ho]; omega) (by
    rw [sd_len, ltr_len ho]
    exact h _ _)
theorem len_nil {n : Nat} {Q : Value → Shared → Prop} (hm : n < 12) (h : ∀ t tk, Q (.int (n : Int) t) { s with toks := tk }) : wpAny (model prog w) A (call (.builtin "len") [.str (sd n []) t]) Q E s :=
  SBL.len (by rw [sd_len]; simp; omega) (by
    rw [sd_len]
    exact h _ _)
theorem eq_mine {b : Bool} {u : Tok} {Q : Value → Shared → Prop} (e : (x == y) = b) (h : Q (.bool b) s) : wpAny (model prog w) A (compareOp .Eq (.str x t) (.str y u)) Q E s := by
  subst e
  exact PyProof.Rows.eq_str h
theorem truthy_yes {Q : Bool → Shared → Prop} (h : ∀ tk, Q true { s with toks := tk }) (hx : 0 < x.length := by (simp only [sd_len, List.length_nil, List.length_cons]; omega)) (h2 : x.length < 1000 := by (simp only [sd_len, List.length_nil, List.length_cons]; omega)) : wpAny (model prog w) A (PySem.truthy (.str x t)) Q E s :=
  SBL.truthy (by omega) (by
    rw [show ((x.length : Int) != 0) = true by simp; omega]
    exact h _)
theorem truthy_no {Q : Bool → Shared → Prop} (h : ∀ tk, Q false { s with toks := tk }) (hx : x.length = 0 := by (simp only [sd_len, List.length_nil, List.length_cons]; omega)) : wpAny (model prog w) A (PySem.truthy (.str x t)) Q E s :=
  SBL.truthy (by omega) (by
    rw [hx]
    exact h _)
variable {value slice : PySem.Expr} {Q : Value → Shared → Prop}
theorem slice_sn {i : Int} {ui : Tok} (hF : Fr h₀ L s.heap m) (hN : News h₀ L s.heap news) (e : Txt.slice x (some i) none = y) (h : ∀ h' t' k, Fr h₀ L h' m → News h₀ L h' news → Q (.str y t') { s with heap := h', toks := k })
    (hx : x.length < 1000 := by (simp only [sd_len, List.length_nil, List.length_cons]; omega))
    (hs : subscripted slice false (.str x t) (.ref s.heap.objs.size) = operate [.ref s.heap.objs.size, .str x t] (getItem (.str x t) (.ref s.heap.objs.size)) := by with_unfolding_all rfl)
    (ht : ∀ r, letTemporaryGo value (.str x t) r = pure () := by (intro _; with_unfolding_all rfl)) :
    wpAny (model prog w) A (subscriptTail value slice (.str x t) (.ref s.heap.objs.size)) Q E { s with heap := s.heap.push { cls := .type "slice", data := .fields #[.int i ui, .none, .none] } } := by
  subst e
  exact slice_strN_sn hF hN h hs ht (by rw [sizeLine_eq]; omega)
theorem slice_ns {j : Int} {uj : Tok} (hF : Fr h₀ L s.heap m) (hN : News h₀ L s.heap news) (e : Txt.slice x none (some j) = y) (h : ∀ h' t' k, Fr h₀ L h' m → News h₀ L h' news → Q (.str y t') { s with heap := h', toks := k })
    (hx : x.length < 1000 := by (simp only [sd_len, List.length_nil, List.length_cons]; omega))
    (hs : subscripted slice false (.str x t) (.ref s.heap.objs.size) = operate [.ref s.heap.objs.size, .str x t] (getItem (.str x t) (.ref s.heap.objs.size)) := by with_unfolding_all rfl)
    (ht : ∀ r, letTemporaryGo value (.str x t) r = pure () := by (intro _; with_unfolding_all rfl)) :
    wpAny (model prog w) A (subscriptTail value slice (.str x t) (.ref s.heap.objs.size)) Q E { s with heap := s.heap.push { cls := .type "slice", data := .fields #[.none, .int j uj, .none] } } := by
  subst e
  exact slice_strN_ns hF hN h hs ht (by rw [sizeLine_eq]; omega)
theorem slice_nn (hF : Fr h₀ L s.heap m) (hN : News h₀ L s.heap news) (e : Txt.slice x none none = y) (h : ∀ h' t' k, Fr h₀ L h' m → News h₀ L h' news → Q (.str y t') { s with heap := h', toks := k })
    (hx : x.length < 1000 := by (simp only [sd_len, List.length_nil, List.length_cons]; omega))
    (hs : subscripted slice false (.str x t) (.ref s.heap.objs.size) = operate [.ref s.heap.objs.size, .str x t] (getItem (.str x t) (.ref s.heap.objs.size)) := by with_unfolding_all rfl)
    (ht : ∀ r, letTemporaryGo value (.str x t) r = pure () := by (intro _; with_unfolding_all rfl)) :
    wpAny (model prog w) A (subscriptTail value slice (.str x t) (.ref s.heap.objs.size)) Q E { s with heap := s.heap.push { cls := .type "slice", data := .fields #[.none, .none, .none] } } := by
  subst e
  exact slice_strN_nn hF hN h hs ht (by rw [sizeLine_eq]; omega)
theorem slice_ss {i j : Int} {ui uj : Tok} (hF : Fr h₀ L s.heap m) (hN : News h₀ L s.heap news) (e : Txt.slice x (some i) (some j) = y) (h : ∀ h' t' k, Fr h₀ L h' m → News h₀ L h' news → Q (.str y t') { s with heap := h', toks := k })
    (hx : x.length < 1000 := by (simp only [sd_len, List.length_nil, List.length_cons]; omega))
    (hs : subscripted slice false (.str x t) (.ref s.heap.objs.size) = operate [.ref s.heap.objs.size, .str x t] (getItem (.str x t) (.ref s.heap.objs.size)) := by with_unfolding_all rfl)
    (ht : ∀ r, letTemporaryGo value (.str x t) r = pure () := by (intro _; with_unfolding_all rfl)) :
    wpAny (model prog w) A (subscriptTail value slice (.str x t) (.ref s.heap.objs.size)) Q E { s with heap := s.heap.push { cls := .type "slice", data := .fields #[.int i ui, .int j uj, .none] } } := by
  subst e
  exact slice_strN_ss hF hN h hs ht (by rw [sizeLine_eq]; omega)
theorem item_sd {i : Int} {u : Tok} (e : Txt.item x i = y) (h : ∀ t' k, Q (.str y t') { s with toks := k })
    (h0 : -(x.length : Int) ≤ i := by (simp only [sd_len, List.length_nil, List.length_cons]; omega)) (h1 : i < x.length := by (simp only [sd_len, List.length_nil, List.length_cons]; omega)) (hx : x.length < 1000 := by (simp only [sd_len, List.length_nil, List.length_cons]; omega))
    (hs : subscripted slice false (.str x t) (.int i u) = operate [.str x t, .int i u] (getItem (.str x t) (.int i u)) := by with_unfolding_all rfl)
    (ht : ∀ r, letTemporaryGo value (.str x t) r = pure () := by (intro _; with_unfolding_all rfl)) :
    wpAny (model prog w) A (subscriptTail value slice (.str x t) (.int i u)) Q E s := by
  subst e
  exact item_str (fitsSsize_of (N := 1000) (by omega) (by omega) (by decide)) h0 h1 (fun _ => h _ _) hs ht
end

section
variable {prog : Program} {A : Around} {E : Value → Shared → Prop} {Q : Flow → Shared → Prop} {s : Shared} {env : Env} {h₀ : Heap} {L : Addr}
structure UpTo (K : Int) : Prop where
structure DownTo (K : Int) : Prop where
theorem while_up {i : Str} {K : Int} (_ : UpTo K) {test : PySem.Expr} {body : List Stmt} {pos : Pos} {m : Str → Option Value} {k₀ : Int} {t₀ : Tok}
    (F : Fr h₀ L s.heap m) (Nw : News h₀ L s.heap news) (hmi : m i = some (.int k₀ t₀)) (hK : k₀ ≤ K)
    (turn : ∀ k t h₁ tk₁, k₀ ≤ k → k < K → Fr h₀ L h₁ (bindM m i (some (.int k t))) → News h₀ L h₁ news →
      wpAny (model prog w) A (isTrue test env (eval test env)) (fun b s₂ => if b = true then wpAny (model prog w) A (execs body env) (CntStep h₀ L s m i news (k + 1)) E s₂ else False) E { s with heap := h₁, toks := tk₁ })
    (done : ∀ t h₁ tk₁, Fr h₀ L h₁ (bindM m i (some (.int K t))) → News h₀ L h₁ news →
      wpAny (model prog w) A (isTrue test env (eval test env)) (fun b s₂ => if b = true then False else Q .next s₂) E { s with heap := h₁, toks := tk₁ })
    (hE : PassesOwn (model prog w) A env E) :
    wpAny (model prog w) A (exec (.While test body [] pos) env) Q E s := by
  have hm0 : m = bindM m i (some (.int k₀ t₀)) := by rw [← hmi]; exact bindM_start m i
  refine While_inv (fun n m₁ news₁ => ∃ k t, k₀ ≤ k ∧ k ≤ K ∧ m₁ = bindM m i (some (.int k t)) ∧ news = news₁ ∧ n = (K - k).toNat)
    F Nw ⟨k₀, t₀, Int.le_refl _, hK, hm0, rfl, rfl⟩ ?_ hE
  rintro n m₁ news₁ h₁ tk₁ F₁ N₁ ⟨k, t, hk, hkK, rfl, rfl, rfl⟩
  by_cases c : k < K
  · refine wpAny_mono (turn k t h₁ tk₁ hk c F₁ N₁) (fun b s₂ h₂ => ?_) fun _ _ e => e
    cases b with
    | false => simp only [Bool.false_eq_true, if_false] at h₂
    | true =>
      simp only [if_true] at h₂ ⊢
      refine wpAny_mono h₂ (fun f s₃ h₃ => ?_) fun _ _ e => e
      obtain ⟨rfl, h'', tk'', t', rfl, F₃, N₃⟩ := h₃
      exact WhileStep.intro F₃ N₃ (n' := (K - (k + 1)).toNat) (by omega) ⟨k + 1, t', by omega, by omega, rfl, rfl, rfl⟩
  · obtain rfl : k = K := by omega
    refine wpAny_mono (done t h₁ tk₁ F₁ N₁) (fun b s₂ h₂ => ?_) fun _ _ e => e
    cases b with
    | false => simpa only [Bool.false_eq_true, if_false] using h₂
    | true => simp only [if_true] at h₂
theorem while_down {i : Str} {K : Int} (_ : DownTo K) {test : PySem.Expr} {body : List Stmt} {pos : Pos} {m : Str → Option Value} {k₀ : Int} {t₀ : Tok}
    (F : Fr h₀ L s.heap m) (Nw : News h₀ L s.heap news) (hmi : m i = some (.int k₀ t₀)) (hK : K ≤ k₀)
    (turn : ∀ k t h₁ tk₁, k ≤ k₀ → K < k → Fr h₀ L h₁ (bindM m i (some (.int k t))) → News h₀ L h₁ news →
      wpAny (model prog w) A (isTrue test env (eval test env)) (fun b s₂ => if b = true then wpAny (model prog w) A (execs body env) (CntStep h₀ L s m i news (k - 1)) E s₂ else False) E { s with heap := h₁, toks := tk₁ })
    (done : ∀ t h₁ tk₁, Fr h₀ L h₁ (bindM m i (some (.int K t))) → News h₀ L h₁ news →
      wpAny (model prog w) A (isTrue test env (eval test env)) (fun b s₂ => if b = true then False else Q .next s₂) E { s with heap := h₁, toks := tk₁ })
    (hE : PassesOwn (model prog w) A env E) :
    wpAny (model prog w) A (exec (.While test body [] pos) env) Q E s := by
  have hm0 : m = bindM m i (some (.int k₀ t₀)) := by rw [← hmi]; exact bindM_start m i
  refine While_inv (fun n m₁ news₁ => ∃ k t, k ≤ k₀ ∧ K ≤ k ∧ m₁ = bindM m i (some (.int k t)) ∧ news = news₁ ∧ n = (k - K).toNat)
    F Nw ⟨k₀, t₀, Int.le_refl _, hK, hm0, rfl, rfl⟩ ?_ hE
  rintro n m₁ news₁ h₁ tk₁ F₁ N₁ ⟨k, t, hk, hkK, rfl, rfl, rfl⟩
  by_cases c : K < k
  · refine wpAny_mono (turn k t h₁ tk₁ hk c F₁ N₁) (fun b s₂ h₂ => ?_) fun _ _ e => e
    cases b with
    | false => simp only [Bool.false_eq_true, if_false] at h₂
    | true =>
      simp only [if_true] at h₂ ⊢
      refine wpAny_mono h₂ (fun f s₃ h₃ => ?_) fun _ _ e => e
      obtain ⟨rfl, h'', tk'', t', rfl, F₃, N₃⟩ := h₃
      exact WhileStep.intro F₃ N₃ (n' := (k - 1 - K).toNat) (by omega) ⟨k - 1, t', by omega, by omega, rfl, rfl, rfl⟩
  · obtain rfl : k = K := by omega
    refine wpAny_mono (done t h₁ tk₁ F₁ N₁) (fun b s₂ h₂ => ?_) fun _ _ e => e
    cases b with
    | false => simpa only [Bool.false_eq_true, if_false] using h₂
    | true => simp only [if_true] at h₂
end
end

section
/-- n dots, then x -/
@[irreducible] def bd (n : Nat) (x : UInt8) : Array UInt8 := (List.replicate n 46 ++ [x]).toArray
theorem bd_size (n : Nat) (x : UInt8) : (bd n x).size = n + 1 := by unfold bd; simp
theorem bd_a : #[46, 97] = bd 1 97 := by unfold bd; rfl
theorem bd_b : #[46, 98] = bd 1 98 := by unfold bd; rfl
theorem bd_c : #[46, 99] = bd 1 99 := by unfold bd; rfl
def Ltb (x : UInt8) : Prop := x = 97 ∨ x = 98 ∨ x = 99
theorem ltb_any {x : UInt8} (h : x = 97 ∨ x = 98 ∨ x = 99) : Ltb x := h
section
variable {prog : Program} {A : Around} {E : Value → Shared → Prop} {s : Shared} {n : Nat} {x : UInt8} {t u : Tok}
theorem len_bd {Q : Value → Shared → Prop} (hn : n < 100) (h : ∀ t tk, Q (.int ((n : Int) + 1) t) { s with toks := tk }) : wpAny (model prog w) A (call (.builtin "len") [.bytes (bd n x) t]) Q E s := by
  refine len_bytes (by rw [bd_size]; omega) ?_
  rw [bd_size]
  exact h _ _
end
section
variable {prog : Program} {A : Around} {E : Value → Shared → Prop} {s : Shared} {h₀ : Heap} {L l : Addr} {n : Nat} {a b c : Value} {Q : Value → Shared → Prop}
theorem len3 (N : News h₀ L s.heap news) (hm : (l, listOf #[a, b, c] n) ∈ news) (h : ∀ t tk, Q (.int 3 t) { s with toks := tk }) : wpAny (model prog w) A (call (.builtin "len") [.ref l]) Q E s :=
  len_list (items := #[a, b, c]) (N.isList hm) (by simp) (h _ _)
theorem len2 (N : News h₀ L s.heap news) (hm : (l, listOf #[a, b] n) ∈ news) (h : ∀ t tk, Q (.int 2 t) { s with toks := tk }) : wpAny (model prog w) A (call (.builtin "len") [.ref l]) Q E s :=
  len_list (items := #[a, b]) (N.isList hm) (by simp) (h _ _)
end
theorem unrEnd_mono {h₀ : Heap} {L I : Addr} {it : Obj} {r r' : (Str → Option Value) → List (Addr × Obj) → Prop} {s₁ s₂ : Shared} (h : UnrEnd h₀ L s₁ I it r s₂) (k : ∀ m n, r m n → r' m n) : UnrEnd h₀ L s₁ I it r' s₂ :=
  let ⟨h', tk, m', n', e, F, N, o, q⟩ := h
  ⟨h', tk, m', n', e, F, N, o, k _ _ q⟩
inductive Pick (p : Addr × Obj) : List (Addr × Obj) → List (Addr × Obj) → Prop
  | here {r} : Pick p (p :: r) r
  | there {q r r'} : Pick p r r' → Pick p (q :: r) (q :: r')
theorem Pick.mem {p : Addr × Obj} : ∀ {l r : List (Addr × Obj)}, Pick p l r → ∀ q ∈ p :: r, q ∈ l
  | _, _, .here, q, h => h
  | _, _, .there d, q, h => by
    rcases List.mem_cons.mp h with rfl | h
    · exact .tail _ (d.mem _ (.head _))
    · rcases List.mem_cons.mp h with rfl | h
      · exact .head _
      · exact .tail _ (d.mem q (.tail _ h))
theorem unrEnd_pick {h₀ : Heap} {L I : Addr} {it : Obj} {rest : (Str → Option Value) → List (Addr × Obj) → Prop} {s₁ : Shared} {h' : Heap} {tk : Nat} {m' : Str → Option Value} {all news' : List (Addr × Obj)} (F : Fr h₀ L h' m') (N : News h₀ L h' all)
    (d : Pick (I, it) all news') (off : ∀ p ∈ news', p.1 ≠ I) (r : rest m' news') : UnrEnd h₀ L s₁ I it rest { s₁ with heap := h', toks := tk } := UnrEnd.intro F N news' d.mem off r
theorem unrPost_mono {h₀ : Heap} {L I : Addr} {it : Obj} {r r' : (Str → Option Value) → List (Addr × Obj) → Prop} {s₁ s₂ : Shared} {Q : Flow → Shared → Prop} {f : Flow} (h : UnrPost h₀ L s₁ I it r Q f s₂) (k : ∀ m n, r m n → r' m n) : UnrPost h₀ L s₁ I it r' Q f s₂ := by
  cases f with
  | ret v => exact h
  | brk => exact h
  | next => exact unrEnd_mono h k
  | cont => exact unrEnd_mono h k
section
variable {prog : Program} {A : Around} {E : Value → Shared → Prop} {h₀ : Heap} {env : Env} {x : Str} {body : List Stmt} {Q : Flow → Shared → Prop} {s : Shared} {I : Addr} {a : Int} {n : Nat}
theorem rr_ind {J : Nat → (Str → Option Value) → List (Addr × Obj) → Prop}
    (fin : ∀ m news, J n m news → ∀ h tk, Fr h₀ env.locals h m → News h₀ env.locals h news → Q .next { s with heap := h, toks := tk })
    (step : ∀ i m news, i < n → J i m news → ∀ t h tk, Fr h₀ env.locals h (fun y => if y = x then some (.int (a + (i : Int)) t) else m y) →
      News h₀ env.locals h ((I, itR (a + ((i + 1 : Nat) : Int)) ((n : Int) - ((i + 1 : Nat) : Int))) :: news) →
      wpAny (model prog w) A (execs body env) (UnrPost h₀ env.locals { s with heap := h, toks := tk } I (itR (a + ((i + 1 : Nat) : Int)) ((n : Int) - ((i + 1 : Nat) : Int))) (J (i + 1)) Q) E { s with heap := h, toks := tk }) :
    ∀ k i m news, i + k = n → J i m news → RangeRest prog w A E h₀ env x body Q s I a n k i m news := by
  intro k
  induction k with
  | zero =>
    intro i m news e j
    have : i = n := by omega
    subst this
    exact fin m news j
  | succ k ih =>
    intro i m news e j
    refine RangeRest.succ fun t h tk F N => ?_
    exact wpAny_mono (step i m news (by omega) j t h tk F N) (fun f s₂ p => unrPost_mono p fun m' n' j' => ih (i + 1) m' n' (by omega) j') fun _ _ e => e
end
/-- the deal's order: party k's s_k-th seat goes ahead of party j's next -/
abbrev Ahead (vk sk vj sj : Int) : Prop := vk * sj > vj * sk
abbrev Level (vk sk vj sj : Int) : Prop := vk * sj ≥ vj * sk
structure Dealt3 (v0 v1 v2 : Int) (s0 s1 s2 : Nat) : Prop where
  w01 : s0 = 0 ∨ Level v0 s0 v1 (s1 + 1)
  w02 : s0 = 0 ∨ Level v0 s0 v2 (s2 + 1)
  w10 : s1 = 0 ∨ Ahead v1 s1 v0 (s0 + 1)
  w12 : s1 = 0 ∨ Level v1 s1 v2 (s2 + 1)
  w20 : s2 = 0 ∨ Ahead v2 s2 v0 (s0 + 1)
  w21 : s2 = 0 ∨ Ahead v2 s2 v1 (s1 + 1)
structure Last3 (v0 v1 v2 : Int) (s0 s1 s2 : Nat) (l : Int) : Prop where
  l0 : l = 0 → 1 ≤ s0 ∧ (s1 = 0 ∨ Ahead v1 s1 v0 s0) ∧ (s2 = 0 ∨ Ahead v2 s2 v0 s0)
  l1 : l = 1 → 1 ≤ s1 ∧ (s0 = 0 ∨ Level v0 s0 v1 s1) ∧ (s2 = 0 ∨ Ahead v2 s2 v1 s1)
  l2 : l = 2 → 1 ≤ s2 ∧ (s0 = 0 ∨ Level v0 s0 v2 s2) ∧ (s1 = 0 ∨ Level v1 s1 v2 s2)
  any : l = 0 ∨ l = 1 ∨ l = 2
def Inv3 (v0 v1 v2 : Int) (s0 s1 s2 : Nat) (l : Int) (i : Nat) : Prop := s0 + s1 + s2 = i ∧ Dealt3 v0 v1 v2 s0 s1 s2 ∧ (i = 0 ∨ Last3 v0 v1 v2 s0 s1 s2 l)
theorem inv3_start (v0 v1 v2 l : Int) : Inv3 v0 v1 v2 0 0 0 l 0 := ⟨rfl, ⟨.inl rfl, .inl rfl, .inl rfl, .inl rfl, .inl rfl, .inl rfl⟩, .inl rfl⟩
theorem inv3_0 {v0 v1 v2 l : Int} {s0 s1 s2 i : Nat} (p0 : 0 ≤ v0) (p1 : 0 ≤ v1) (p2 : 0 ≤ v2) (h : Inv3 v0 v1 v2 s0 s1 s2 l i) (c1 : v1 * (s0 + 1) ≤ v0 * (s1 + 1)) (c2 : v2 * (s0 + 1) ≤ v0 * (s2 + 1)) : Inv3 v0 v1 v2 (s0 + 1) s1 s2 0 (i + 1) := by
  obtain ⟨hs, ⟨a1, a2, a3, a4, a5, a6⟩, _⟩ := h
  simp only [Ahead, Level, Int.natCast_add, Int.mul_add, Int.mul_one, Int.natCast_one] at *
  refine ⟨by omega, ⟨?_, ?_, ?_, ?_, ?_, ?_⟩, .inr ⟨fun _ => ⟨by omega, ?_, ?_⟩, fun h => absurd h (by decide), fun h => absurd h (by decide), .inl rfl⟩⟩ <;> (simp only [Ahead, Level, Int.natCast_add, Int.mul_add, Int.mul_one, Int.natCast_one]; omega)
theorem inv3_1 {v0 v1 v2 l : Int} {s0 s1 s2 i : Nat} (p0 : 0 ≤ v0) (p1 : 0 ≤ v1) (p2 : 0 ≤ v2) (h : Inv3 v0 v1 v2 s0 s1 s2 l i) (c1 : v1 * (s0 + 1) > v0 * (s1 + 1)) (c2 : v2 * (s1 + 1) ≤ v1 * (s2 + 1)) : Inv3 v0 v1 v2 s0 (s1 + 1) s2 1 (i + 1) := by
  obtain ⟨hs, ⟨a1, a2, a3, a4, a5, a6⟩, _⟩ := h
  simp only [Ahead, Level, Int.natCast_add, Int.mul_add, Int.mul_one, Int.natCast_one] at *
  refine ⟨by omega, ⟨?_, ?_, ?_, ?_, ?_, ?_⟩, .inr ⟨fun h => absurd h (by decide), fun _ => ⟨by omega, ?_, ?_⟩, fun h => absurd h (by decide), .inr (.inl rfl)⟩⟩ <;> (simp only [Ahead, Level, Int.natCast_add, Int.mul_add, Int.mul_one, Int.natCast_one]; omega)
theorem frac_trans {a b c p q r : Int} (hp : 0 < p) (hq : 0 < q) (hr : 0 < r) (h1 : b * p ≤ a * q) (h2 : c * p > a * r) : c * q > b * r := by
  have e1 : a * r * q < c * p * q := Int.mul_lt_mul_of_pos_right h2 hq
  have e2 : b * p * r ≤ a * q * r := Int.mul_le_mul_of_nonneg_right h1 (by omega)
  have e3 : b * r * p < c * q * p := by
    rw [Int.mul_right_comm b r p, Int.mul_right_comm c q p]
    rw [Int.mul_right_comm a r q] at e1
    omega
  exact Int.lt_of_mul_lt_mul_right e3 (by omega)
theorem inv3_2 {v0 v1 v2 l : Int} {s0 s1 s2 i : Nat} (p0 : 0 ≤ v0) (p1 : 0 ≤ v1) (p2 : 0 ≤ v2) (h : Inv3 v0 v1 v2 s0 s1 s2 l i) (c1 : v2 * (s0 + 1) > v0 * (s2 + 1)) (c2 : v2 * (s1 + 1) > v1 * (s2 + 1)) : Inv3 v0 v1 v2 s0 s1 (s2 + 1) 2 (i + 1) := by
  obtain ⟨hs, ⟨a1, a2, a3, a4, a5, a6⟩, _⟩ := h
  simp only [Ahead, Level, Int.natCast_add, Int.mul_add, Int.mul_one, Int.natCast_one] at *
  refine ⟨by omega, ⟨?_, ?_, ?_, ?_, ?_, ?_⟩, .inr ⟨fun h => absurd h (by decide), fun h => absurd h (by decide), fun _ => ⟨by omega, ?_, ?_⟩, .inr (.inr rfl)⟩⟩ <;> (simp only [Ahead, Level, Int.natCast_add, Int.mul_add, Int.mul_one, Int.natCast_one]; omega)
theorem inv3_20 {v0 v1 v2 l : Int} {s0 s1 s2 i : Nat} (p0 : 0 ≤ v0) (p1 : 0 ≤ v1) (p2 : 0 ≤ v2) (h : Inv3 v0 v1 v2 s0 s1 s2 l i) (c1 : v1 * (s0 + 1) ≤ v0 * (s1 + 1)) (c2 : v2 * (s0 + 1) > v0 * (s2 + 1)) : Inv3 v0 v1 v2 s0 s1 (s2 + 1) 2 (i + 1) :=
  inv3_2 p0 p1 p2 h c2 (frac_trans (by omega) (by omega) (by omega) c1 c2)
theorem inv3_21 {v0 v1 v2 l : Int} {s0 s1 s2 i : Nat} (p0 : 0 ≤ v0) (p1 : 0 ≤ v1) (p2 : 0 ≤ v2) (h : Inv3 v0 v1 v2 s0 s1 s2 l i) (c1 : v1 * (s0 + 1) > v0 * (s1 + 1)) (c2 : v2 * (s1 + 1) > v1 * (s2 + 1)) : Inv3 v0 v1 v2 s0 s1 (s2 + 1) 2 (i + 1) :=
  inv3_2 p0 p1 p2 h (frac_trans (by omega) (by omega) (by omega) (by omega) c2) c2
end

section
local macro_rules | `(tactic| walk_at "call ref") => `(tactic| (k_here; (with_reducible show wpAny _ _ (call (Value.ref 122) _) _ _ _); k_dflt (refine' tel_use (divided ?a1 ?a2 ?a3 ?a4) ?_); (case a1 => omega); (case a2 => omega); (case a3 => omega); (case a4 => omega); (refine' Ret.one2 ?_); intro x' t' u' h' tk' F' N' l1; (try dsimp only); (try k_fold); (try k_sweep)))
section
def Hold5 (P : Prop) : Prop := P
theorem hold5 {P : Prop} (h : Hold5 P) : P := h
theorem unhold5 {P : Prop} (h : P) : Hold5 P := h
theorem news_tail {h₀ h : Heap} {L : Addr} {q : Addr × Obj} {all : List (Addr × Obj)} (N : News h₀ L h (q :: all)) : News h₀ L h all := fun p hp => N p (.tail _ hp)
local macro_rules | `(tactic| walk_at "eval ListComp") => `(tactic| (k_here; k_dflt (refine LCg.ListComp_U (F₀ := by k_asm) (by with_unfolding_all rfl) (by decide) (by rfl) (by decide) (by rfl) ?_)))
local macro_rules | `(tactic| walk_at "CompSrc") => `(tactic| refine hold5 ?_)
local macro_rules | `(tactic| walk_at "IntIs") => `(tactic| k_dflt (refine' ⟨_, _, _, rfl, rfl, ?F, ?N⟩; (case F => k_asm); (case N => exact news_tail (by k_asm))))
theorem shares {lv : Addr} {v0 v1 v2 house : Int} {n : Nat} {t0 t1 t2 t3 : Tok} (hs : 1 ≤ v0 + v1 + v2 ∧ v0 + v1 + v2 ≤ 160) (hh : 4 ≤ house ∧ house ≤ 7)
  (hP : ∀ x ∈ [v0, v1, v2], (0 ≤ x ∧ x ≤ 80) ∧ 0 ≤ house * x ∧ house * x < 8 * (v0 + v1 + v2)) :
    Tel w p loose mean mg mb 134 5 [(lv, listOf #[.int v0 t0, .int v1 t1, .int v2 t2] n)] [.ref lv, .int house t3] (One fun o => ∃ k t u v, o = listOf #[.int ((house * v0).fdiv (v0 + v1 + v2)) t, .int ((house * v1).fdiv (v0 + v1 + v2)) u, .int ((house * v2).fdiv (v0 + v1 + v2)) v] k) := by
  have hsum : v0 + (v1 + (v2 + 0)) = v0 + v1 + v2 := by omega
  w_top off
  unfold Tel
  k_fill
  intro rest9 dp9 un9 gd9 cn9 cs9 ad9 ccd9 cl9 ou9 A9 base9 hh9 L9 m9 s9 Q9 E9 B9 F9 X9 N9 S9 T9 hk9 hd9 hu9 hret
  refine wpAny_call ?_
  k_dflt (refine' code_cells ?k1 ?k2 ?k3 ?k4 ?kS ?k5 ?kA ?kF ?kK ?k6 ?k7 ?k8 ?k9 ?kB ?kD ?_ ?c2 ?c3 ?c4; (case kA => exact rfl); (case kF => exact rfl); (case kK => assumption); (case k1 => k_asm); (case k2 => k_asm); (case k3 => k_asm); (case k4 => exact N9); (case kS => exact S9); (case k5 => k_asm); (case k6 => k_is); (case k7 => k_is); (case k8 => ktr_room); (case k9 => exact BindsTo.of_eq rfl); (case kB => exact rfl); (case kD => decide +kernel); (case c2 => exact rfl); (case c3 => exact rfl); (case c4 => exact rfl); k_whole; intro g9 L' h' tk' cells' FG' F' N' Y' R9 B' X' T' l1; (try k_lt l1); k_cells Y'; (try simp only [List.cons_append, List.nil_append] at N'); (try dsimp only); (try k_lift B'); (try k_fold))
  k_steps
  refine unhold5 ?_
  refine' ints_map (ws := [_, _, _]) (cs := [v0, v1, v2]) (fun c => (house * c).fdiv (v0 + (v1 + (v2 + 0)))) ?ah ?aF ?aN ?am ?ai ?an ?_ ?_
  case ah => rfl
  case aF => k_asm
  case aN => k_asm
  case am => k_mem
  case ai => exact .cons _ _ (.cons _ _ (.cons _ _ .nil))
  case an => exact Nat.le_of_ble_eq_true rfl
  · intro I2 oI2 C2 oC2 D2 ys2 m2 h2 tk2 c t2 E2 hc hC2 hx2 F' N'
    have hb := hP c hc
    clear hc
    k_steps
  · intro D2 ys2 h2 tk2 F' N' o2 hi2
    obtain ⟨y0, y1, y2, rfl⟩ := ints3 hi2
    (try dsimp only)
    k_steps
    (refine' Ret.one hret ?F ?N ?l ?o; (case F => k_asm); (case N => (refine' comb N9 S9 R9 ?Fk ?Nk ?Sk; (case Fk => assumption); (case Nk => assumption); (case Sk => k_subL))); (case l => (refine' combA N9 S9 R9 ?Nm ?Sm ?Am; (case Nm => assumption); (case Sm => k_subL); (case Am => first | (simp only [Apart, OffA, and_true]; done) | (simp only [Apart, OffA, and_true]; (repeat' apply And.intro) <;> ktr_rel)))); (case o => exact lst3_eq (by rw [hsum]) (by rw [hsum]) (by rw [hsum])))
end

section
def pick3 (a b c l : Int) : Int := if l = 0 then a else if l = 1 then b else c
theorem item_pick {prog : Program} {A : Around} {E : Value → Shared → Prop} {s : Shared} {Q : Value → Shared → Prop} {h₀ : Heap} {L : Addr} {value slice : PySem.Expr} {a : Addr} {x y z l : Int} {n : Nat} {t u v tk : Tok} (N : News h₀ L s.heap news) (hm : (a, listOf #[.int x t, .int y u, .int z v] n) ∈ news) (hl : l = 0 ∨ l = 1 ∨ l = 2)
    (h : ∀ t', Q (.int (pick3 x y z l) t') s) (hs : ∀ k : Int, subscripted slice false (.ref a) (.int k tk) = operate [.ref a, .int k tk] (getItem (.ref a) (.int k tk))) :
    wpAny (model prog w) A (subscriptTail value slice (.ref a) (.int l tk)) Q E s := by
  rcases hl with rfl | rfl | rfl
  · exact item_mine (vs := [.int x t, .int y u, .int z v]) N hm (by decide) (by decide) rfl (h t) (hs 0)
  · exact item_mine (vs := [.int x t, .int y u, .int z v]) N hm (by decide) (by decide) rfl (h u) (hs 1)
  · exact item_mine (vs := [.int x t, .int y u, .int z v]) N hm (by decide) (by decide) rfl (h v) (hs 2)
/-- a party's seats, out of the quotient's parts; the last seat is party l's -/
structure DueK (k l rest whole s : Int) : Prop where
  z : ¬ k > l → whole = s
  a : rest ≠ 0 → whole = s
  b : k > l → rest = 0 → whole > 0 → whole - 1 = s
  c : rest = 0 → ¬ whole > 0 → whole = s
def SeatEnd (h₀ : Heap) (L : Addr) (m : Str → Option Value) (news : List (Addr × Obj)) (s : Shared) (seat : Int) (v : Value) (s' : Shared) : Prop :=
  ∃ t h' tk, v = .int seat t ∧ s' = { s with heap := h', toks := tk } ∧ Fr h₀ L h' m ∧ News h₀ L h' news
theorem seat_join {M : Model} {A : Around} {E : Value → Shared → Prop} {s : Shared} {h₀ : Heap} {L : Addr} {m : Str → Option Value} {e : PySem.Expr} {env : Env} {Q : Value → Shared → Prop} {k l seat whole rest : Int} {tw tr : Tok} (F : Fr h₀ L s.heap m) (N : News h₀ L s.heap news)
    (_ : m (Str.ofString "whole") = some (.int whole tw)) (_ : m (Str.ofString "rest") = some (.int rest tr)) (_ : DueK k l rest whole seat) (h : wpAny M A (eval e env) (SeatEnd h₀ L m news s seat) E s)
    (k : ∀ t h' tk, Fr h₀ L h' m → News h₀ L h' news → Q (.int seat t) { s with heap := h', toks := tk }) : wpAny M A (eval e env) Q E s :=
  wpAny_mono h (fun _ _ ⟨t, h', tk, e1, e2, F', N'⟩ => by subst e1; subst e2; exact k t h' tk F' N') fun _ _ x => x
theorem seat_val {a b : Int} {t : Tok} (h : a = b) : Value.int a t = Value.int b t := by rw [h]
inductive JDue (lv ld : Addr) (R : List (Addr × Obj)) (held l s0 s1 s2 : Int) (t3 t4 : Tok) (i : Nat) (m : Str → Option Value) (news : List (Addr × Obj)) : Prop
  | mk (ys : List Value) (kk : Nat) (hys : IntsAre ys ((List.range i).map (at3 s0 s1 s2))) (h1 : m (Str.ofString "votes") = some (.ref lv)) (h2 : m (Str.ofString "held") = some (.int held t3)) (h3 : m (Str.ofString "last") = some (.int l t4)) (h4 : m (Str.ofString "due") = some (.ref ld)) (e : news = (ld, listOf (List.toArray ys) kk) :: R)
theorem jdue_next {lv ld I : Addr} {o it : Obj} {held l s0 s1 s2 : Int} {t3 t4 t : Tok} {i kk tk : Nat} {m' : Str → Option Value} {ys : List Value} {h₀ h' : Heap} {L : Addr} {s₁ : Shared} {all : List (Addr × Obj)} (h : IntsAre ys ((List.range i).map (at3 s0 s1 s2)))
    (F : Fr h₀ L h' m') (N : News h₀ L h' all) (mI : (I, it) ∈ all) (m1 : (ld, listOf ((List.toArray ys).push (.int (at3 s0 s1 s2 i) t)) kk) ∈ all) (m2 : (lv, o) ∈ all) (n1 : ld ≠ I) (n2 : lv ≠ I)
    (h1 : m' (Str.ofString "votes") = some (.ref lv)) (h2 : m' (Str.ofString "held") = some (.int held t3)) (h3 : m' (Str.ofString "last") = some (.int l t4)) (h4 : m' (Str.ofString "due") = some (.ref ld)) :
    UnrEnd h₀ L s₁ I it (JDue lv ld [(lv, o)] held l s0 s1 s2 t3 t4 (i + 1)) { s₁ with heap := h', toks := tk } := by
  refine UnrEnd.intro F N [(ld, listOf (List.toArray (ys ++ [.int (at3 s0 s1 s2 i) t])) kk), (lv, o)] (List.forall_mem_cons.mpr ⟨mI, List.forall_mem_cons.mpr ⟨?_, List.forall_mem_cons.mpr ⟨m2, List.forall_mem_nil _⟩⟩⟩) (List.forall_mem_cons.mpr ⟨n1, List.forall_mem_cons.mpr ⟨n2, List.forall_mem_nil _⟩⟩)
    ⟨ys ++ [.int (at3 s0 s1 s2 i) t], kk, by rw [List.range_succ, List.map_append]; exact snoc_ints h _ _, h1, h2, h3, h4, rfl⟩
  rw [← List.push_toArray]
  exact m1
theorem jdue_init {lv ld : Addr} {R : List (Addr × Obj)} {held l s0 s1 s2 : Int} {t3 t4 : Tok} {kk : Nat} {m : Str → Option Value} (h1 : m (Str.ofString "votes") = some (.ref lv)) (h2 : m (Str.ofString "held") = some (.int held t3)) (h3 : m (Str.ofString "last") = some (.int l t4)) (h4 : m (Str.ofString "due") = some (.ref ld)) :
    JDue lv ld R held l s0 s1 s2 t3 t4 0 m ((ld, listOf #[] kk) :: R) := ⟨[], kk, .nil, h1, h2, h3, h4, rfl⟩
theorem due_end {ys : List Value} {s0 s1 s2 : Int} {kk : Nat} (h : IntsAre ys ((List.range 3).map (at3 s0 s1 s2))) : ∃ k t u v, listOf (List.toArray ys) kk = listOf #[.int s0 t, .int s1 u, .int s2 v] k := by
  obtain ⟨t, u, v, rfl⟩ := ints3 h
  exact ⟨kk, t, u, v, rfl⟩
local macro_rules | `(tactic| walk_at "call builtin:list.append") => `(tactic| (k_here; (with_reducible show wpAny _ _ (call (Value.builtin _) [Value.ref _, _]) _ _ _); k_dflt (refine' append_K ?k1 ?k2 ?k3 ?_ ?z; (case k1 => k_asm); (case k2 => k_asm); (case k3 => k_upd); (case z => assumption); k_whole); intro h' F' N'; (try k_sweep)))
theorem due_size {ys : List Value} {ns : List Int} (h : IntsAre ys ns) (hn : ns.length < 100) : (List.toArray ys).size < sizeLine := by
  rw [List.size_toArray, h.length, sizeLine_eq]; omega
def Hold6 (P : Prop) : Prop := P
theorem hold6 {P : Prop} (h : Hold6 P) : P := h
theorem unhold6 {P : Prop} (h : P) : Hold6 P := h
local macro_rules | `(tactic| walk_at "RangeRest") => `(tactic| refine hold6 ?_)
local macro_rules | `(tactic| walk_at "eval Name") => `(tactic| (k_here; k_dflt (refine' ld ?k1 ?k2 ?_; (case k1 => k_asm); (case k2 => first | exact rfl | assumption))))
local macro_rules | `(tactic| walk_at "UnrEnd") => `(tactic| refine hold6 ?_)
local macro_rules | `(tactic| walk_at "subscriptTail Name Name ref int") => `(tactic| (k_here; first
  | ((with_reducible show wpAny _ _ (subscriptTail _ _ (Value.ref _) (Value.int (0 + _) _)) _ _ _); k_dflt (refine' item_at3 ?N ?m ?P ?a ?_ ?s; (case N => k_asm); (case m => k_mem); (case P => assumption); (case a => assumption); (case s => with_unfolding_all rfl)); intro t' hp')
  | (k_dflt (refine' item_pick ?N ?m ?l ?_ ?s; (case N => k_asm); (case m => k_mem); (case l => assumption); (case s => intro _; with_unfolding_all rfl)); intro t')))
local macro_rules | `(tactic| walk_at "eval IfExp") => `(tactic| (k_here; (fail_if_success (with_reducible show wpAny _ _ _ (SeatEnd _ _ _ _ _ _) _ _)); k_dflt (refine' seat_join ?k1 ?k2 ?k3 ?k4 ?k5 ?_ ?_; (case k1 => k_asm); (case k2 => k_asm); (case k3 => exact rfl); (case k4 => exact rfl); (case k5 => assumption)); rotate_left; intro t' h' tk' F' N'; (try k_sweep); rotate_right))
local macro_rules | `(tactic| walk_at "SeatEnd") => `(tactic| (k_dflt (refine' ⟨_, _, _, ?v, rfl, ?F, ?N⟩; (case F => k_asm); (case N => k_asm); (case v => (refine seat_val ?_; first | exact DueK.z (by assumption) (by assumption) | exact DueK.a (by assumption) (by assumption) | exact DueK.b (by assumption) (by assumption) (by assumption) (by assumption) | exact DueK.c (by assumption) (by assumption) (by assumption))))))
theorem due {lv : Addr} {v0 v1 v2 held l s0 s1 s2 : Int} {n : Nat} {t0 t1 t2 t3 t4 : Tok} (hl : l = 0 ∨ l = 1 ∨ l = 2) (hv : 1 ≤ pick3 v0 v1 v2 l ∧ pick3 v0 v1 v2 l ≤ 80) (hh : 0 ≤ held ∧ held ≤ 7)
  (hP : ∀ x ∈ [v0, v1, v2], (0 ≤ x ∧ x ≤ 80) ∧ 0 ≤ x * held ∧ x * held < 8 * pick3 v0 v1 v2 l)
  (hD : ∀ i : Nat, i < 3 → DueK (0 + (i : Int)) l (restOf (at3 v0 v1 v2 i * held) (pick3 v0 v1 v2 l)) ((at3 v0 v1 v2 i * held).fdiv (pick3 v0 v1 v2 l)) (at3 s0 s1 s2 i)) :
    Tel w p loose mean mg mb 129 4 [(lv, listOf #[.int v0 t0, .int v1 t1, .int v2 t2] n)] [.ref lv, .int held t3, .int l t4] (One fun o => ∃ k t u v, o = listOf #[.int s0 t, .int s1 u, .int s2 v] k) := by
  w_top off
  unfold Tel
  k_fill
  intro rest9 dp9 un9 gd9 cn9 cs9 ad9 ccd9 cl9 ou9 A9 base9 hh9 L9 m9 s9 Q9 E9 B9 F9 X9 N9 S9 T9 hk9 hd9 hu9 hret
  refine wpAny_call ?_
  k_dflt (refine' code_plain ?k1 ?k2 ?k3 ?k4 ?kS ?k5 ?kA ?kF ?kK ?k6 ?k7 ?k8 ?k9 ?kB ?_ ?c2 ?c3 ?c4 ?c5; (case kA => exact rfl); (case kF => exact rfl); (case kK => assumption); (case k1 => k_asm); (case k2 => k_asm); (case k3 => k_asm); (case k4 => exact N9); (case kS => exact S9); (case k5 => k_asm); (case k6 => k_is); (case k7 => k_is); (case k8 => ktr_room); (case k9 => exact BindsTo.of_eq rfl); (case c5 => decide); (case kB => exact locs rfl); (case c2 => exact rfl); (case c3 => exact rfl); (case c4 => exact rfl); k_whole; intro g9 L' h' FG' F' N' R9 B' X' T'; (try dsimp only); (try k_lift B'); (try k_fold))
  k_steps
  refine unhold6 ?_
  refine' rr_ind (J := JDue lv _ _ held l s0 s1 s2 t3 t4) ?fin ?step _ 0 _ _ (Nat.zero_add _) ?init
  case init =>
    refine' jdue_init ?a ?b ?c ?d
    case a => rfl
    case b => rfl
    case c => rfl
    case d => rfl
  case step =>
    rintro i m news hi ⟨ys, kk, hys, hm1, hm2, hm3, hm4, rfl⟩ t h tk F' N'
    have hd := hD i hi
    have hz := due_size hys (by rw [List.length_map, List.length_range]; omega)
    k_steps
    refine unhold6 ?_
    exact jdue_next hys (by k_asm) (by k_asm) (by k_mem) (by k_mem) (by k_mem) (by ktr_rel) (by ktr_rel) (by exact hm1) (by exact hm2) (by exact hm3) (by exact hm4)
  case fin =>
    rintro m news ⟨ys, kk, hys, hm1, hm2, hm3, hm4, rfl⟩ h tk F' N'
    dsimp only
    k_steps
    (refine' Ret.one hret ?F ?N ?l ?o; (case F => k_asm); (case N => (refine' comb N9 S9 R9 ?Fk ?Nk ?Sk; (case Fk => assumption); (case Nk => assumption); (case Sk => k_subL))); (case l => (refine' combA N9 S9 R9 ?Nm ?Sm ?Am; (case Nm => assumption); (case Sm => k_subL); (case Am => first | (simp only [Apart, OffA, and_true]; done) | (simp only [Apart, OffA, and_true]; (repeat' apply And.intro) <;> ktr_rel)))); (case o => exact due_end hys))
end

end

section
abbrev fOne : UInt64 := 4607182418800017408
abbrev fSix : UInt64 := 4618441417868443648
abbrev hvI (h : UInt64) : Int := Flt.toInt Float64.truncOf (Float64.mul h fSix)
abbrev hvF (h : UInt64) : UInt64 := Float64.sub (Float64.mul h fSix) (Float64.ofInt (hvI h))
abbrev hvP (s v : UInt64) : UInt64 := Float64.mul v (Float64.sub fOne s)
abbrev hvQ (h s v : UInt64) : UInt64 := Float64.mul v (Float64.sub fOne (Float64.mul s (hvF h)))
abbrev hvT (h s v : UInt64) : UInt64 := Float64.mul v (Float64.sub fOne (Float64.mul s (Float64.sub fOne (hvF h))))
def hsvR (h s v : UInt64) : UInt64 := if (hvI h).fmod 6 = 0 then v else if (hvI h).fmod 6 = 1 then hvQ h s v else if (hvI h).fmod 6 = 2 then hvP s v else if (hvI h).fmod 6 = 3 then hvP s v else if (hvI h).fmod 6 = 4 then hvT h s v else v
def hsvG (h s v : UInt64) : UInt64 := if (hvI h).fmod 6 = 0 then hvT h s v else if (hvI h).fmod 6 = 1 then v else if (hvI h).fmod 6 = 2 then v else if (hvI h).fmod 6 = 3 then hvQ h s v else if (hvI h).fmod 6 = 4 then hvP s v else hvP s v
def hsvB (h s v : UInt64) : UInt64 := if (hvI h).fmod 6 = 0 then hvP s v else if (hvI h).fmod 6 = 1 then hvP s v else if (hvI h).fmod 6 = 2 then hvT h s v else if (hvI h).fmod 6 = 3 then v else if (hvI h).fmod 6 = 4 then v else hvQ h s v
structure HFine (h : UInt64) : Prop where
  n : Float64.isNaN (Float64.mul h fSix) = false
  i : Float64.isInf (Float64.mul h fSix) = false
  b : (hvI h).natAbs < 2 ^ 1024 - 2 ^ 970
theorem tupF {a b c a' b' c' : UInt64} {t u v : Tok} (h1 : a = a') (h2 : b = b') (h3 : c = c') : ∃ t' u' v', ({ cls := .type "tuple", data := .seq #[.float a t, .float b u, .float c v] } : Obj) = { cls := .type "tuple", data := .seq #[.float a' t', .float b' u', .float c' v'] } := ⟨t, u, v, by rw [h1, h2, h3]⟩
theorem hsv {h s v : UInt64} {t1 t2 t3 : Tok} (hs : (Float64.cmp s 0 == some Ordering.eq) = false) (hf : HFine h) :
    Tel w p loose mean mg mb 52 1 [] [.float h t1, .float s t2, .float v t3] (One fun o => ∃ t u x, o = { cls := .type "tuple", data := .seq #[.float (hsvR h s v) t, .float (hsvG h s v) u, .float (hsvB h s v) x] }) := by
  have k0 := fmod_lo (Flt.toInt Float64.truncOf (Float64.mul h 4618441417868443648)) (n := 6) (by decide)
  have k1 := fmod_hi (Flt.toInt Float64.truncOf (Float64.mul h 4618441417868443648)) (n := 6) (by decide)
  w_top off
  unfold Tel
  k_fill
  intro rest9 dp9 un9 gd9 cn9 cs9 ad9 ccd9 cl9 ou9 A9 base9 hh9 L9 m9 s9 Q9 E9 B9 F9 X9 N9 S9 T9 hk9 hd9 hu9 hret
  refine wpAny_call ?_
  k_dflt (refine' code_plain ?k1 ?k2 ?k3 ?k4 ?kS ?k5 ?kA ?kF ?kK ?k6 ?k7 ?k8 ?k9 ?kB ?_ ?c2 ?c3 ?c4 ?c5; (case kA => exact rfl); (case kF => exact rfl); (case kK => assumption); (case k1 => k_asm); (case k2 => k_asm); (case k3 => k_asm); (case k4 => exact N9); (case kS => exact S9); (case k5 => k_asm); (case k6 => k_is); (case k7 => k_is); (case k8 => ktr_room); (case k9 => exact BindsTo.of_eq rfl); (case c5 => decide); (case kB => exact locs rfl); (case c2 => exact rfl); (case c3 => exact rfl); (case c4 => exact rfl); k_whole; intro g9 L' h' FG' F' N' R9 B' X' T'; (try dsimp only); (try k_lift B'); (try k_fold))
  k_steps
  all_goals first
    | exact absurd (show Float64.isNaN (Float64.mul h fSix) = true by assumption) (by rw [hf.n]; decide)
    | exact absurd (show Float64.isInf (Float64.mul h fSix) = true by assumption) (by rw [hf.i]; decide)
    | exact absurd (show 2 ^ 1024 - 2 ^ 970 ≤ (hvI h).natAbs by assumption) (Nat.not_le.mpr hf.b)
    | (refine' Ret.one hret ?F ?N ?l ?o; (case F => k_asm); (case N => (refine' comb N9 S9 R9 ?Fk ?Nk ?Sk; (case Fk => assumption); (case Nk => assumption); (case Sk => k_subL))); (case l => (refine' combA N9 S9 R9 ?Nm ?Sm ?Am; (case Nm => assumption); (case Sm => k_subL); (case Am => first | (simp only [Apart, OffA, and_true]; done) | (simp only [Apart, OffA, and_true]; (repeat' apply And.intro) <;> ktr_rel)))); (case o => exact tupF (by unfold hsvR; simp [*]) (by unfold hsvG; simp [*]) (by unfold hsvB; simp [*])))
    | (exfalso; omega)
end

section
def quo (a b : Int) : UInt64 := Float64.ofFrac (decide (a < 0) != decide (b < 0)) a.natAbs b.natAbs
section
variable {prog : Program} {A : Around} {E : Value → Shared → Prop} {s : Shared} {Q : Value → Shared → Prop} {t u : Tok}
theorem div_mine {a b : Int} (hA : A.handled = none) (ha : 0 ≤ a ∧ a < 2 ^ 60) (hb : 0 < b ∧ b < 2 ^ 60) (h : ∀ t, Q (.float (quo a b) t) { s with toks := s.toks + 1 }) :
    wpAny (model prog w) A (binaryOp .Div (.int a t) (.int b u)) Q E s :=
  Flt.div_ii_fits hA (by have := ha.2; have : a.natAbs < 2 ^ 60 := by omega
                         exact Nat.lt_trans this (by decide +kernel)) (fun e => by omega) fun _ _ => h _
theorem int_mine {x : UInt64} (hA : A.handled = none) (hn : Float64.isNaN x = false) (hi : Float64.isInf x = false) (h : ∀ t, Q (.int (Flt.toInt Float64.truncOf x) t) { s with toks := s.toks + 1 }) :
    wpAny (model prog w) A (call (.type "int") [.float x t]) Q E s :=
  Flt.call_int_float3 hA (fun e => by rw [hn] at e; cases e) (fun e => by rw [hi] at e; cases e) fun _ => h _
end
theorem drop7 {h₀ h : Heap} {L : Addr} {i d x l c1 c2 lc : Addr × Obj} (N : News h₀ L h [i, d, x, l, c1, c2, lc]) : News h₀ L h [i, d, c1, c2, lc] := fun p hp => N p (by simp at hp ⊢; rcases hp with h | h | h | h | h <;> simp [h])
theorem drop6 {h₀ h : Heap} {L : Addr} {d x l c1 c2 lc : Addr × Obj} (N : News h₀ L h [d, x, l, c1, c2, lc]) : News h₀ L h [d, c1, c2, lc] := fun p hp => N p (by simp at hp ⊢; rcases hp with h | h | h | h <;> simp [h])
theorem cell_mod (c : Int) (h0 : 0 ≤ c) (h1 : c < 32) : (0 ≤ c.fmod 8 ∧ c.fmod 8 < 8) ∧ (0 ≤ c.fdiv 8 ∧ c.fdiv 8 < 4) := by
  rw [Int.fmod_eq_emod_of_nonneg _ (by omega), Int.fdiv_eq_ediv_of_nonneg _ (by omega)]
  omega
def lampH (c : Int) : UInt64 := quo (c.fmod 8) 8
def lampV (c : Int) : UInt64 := quo (c.fdiv 8 + 1) 4
def lit (x : UInt64) : UInt64 := Float64.mul x (Float64.ofInt 16)
def partOf (c corner : Int) : Int := (c.fdiv 8 + 1) * max 0 (min 4 (8 - min ((3 * c.fmod 8 - corner).natAbs : Int) (24 - ((3 * c.fmod 8 - corner).natAbs : Int))))
structure LitFine (x : UInt64) (k : Int) : Prop where
  n : Float64.isNaN (lit x) = false
  i : Float64.isInf (lit x) = false
  v : Flt.toInt Float64.truncOf (lit x) = k
structure CellFine (c : Int) : Prop where
  h : HFine (lampH c)
  r : LitFine (hsvR (lampH c) fOne (lampV c)) (partOf c 0)
  g : LitFine (hsvG (lampH c) fOne (lampV c)) (partOf c 8)
  b : LitFine (hsvB (lampH c) fOne (lampV c)) (partOf c 16)
theorem cell_fine (c : Int) (h0 : 0 ≤ c) (h1 : c < 32) : CellFine c := by
  have key : ∀ n : Fin 32, (Float64.isNaN (Float64.mul (lampH ((n.val : Nat) : Int)) fSix) = false ∧ Float64.isInf (Float64.mul (lampH ((n.val : Nat) : Int)) fSix) = false ∧ (hvI (lampH ((n.val : Nat) : Int))).natAbs < 8) ∧
      (Float64.isNaN (lit (hsvR (lampH ((n.val : Nat) : Int)) fOne (lampV ((n.val : Nat) : Int)))) = false ∧ Float64.isInf (lit (hsvR (lampH ((n.val : Nat) : Int)) fOne (lampV ((n.val : Nat) : Int)))) = false ∧ Flt.toInt Float64.truncOf (lit (hsvR (lampH ((n.val : Nat) : Int)) fOne (lampV ((n.val : Nat) : Int)))) = partOf ((n.val : Nat) : Int) 0) ∧
      (Float64.isNaN (lit (hsvG (lampH ((n.val : Nat) : Int)) fOne (lampV ((n.val : Nat) : Int)))) = false ∧ Float64.isInf (lit (hsvG (lampH ((n.val : Nat) : Int)) fOne (lampV ((n.val : Nat) : Int)))) = false ∧ Flt.toInt Float64.truncOf (lit (hsvG (lampH ((n.val : Nat) : Int)) fOne (lampV ((n.val : Nat) : Int)))) = partOf ((n.val : Nat) : Int) 8) ∧
      (Float64.isNaN (lit (hsvB (lampH ((n.val : Nat) : Int)) fOne (lampV ((n.val : Nat) : Int)))) = false ∧ Float64.isInf (lit (hsvB (lampH ((n.val : Nat) : Int)) fOne (lampV ((n.val : Nat) : Int)))) = false ∧ Flt.toInt Float64.truncOf (lit (hsvB (lampH ((n.val : Nat) : Int)) fOne (lampV ((n.val : Nat) : Int)))) = partOf ((n.val : Nat) : Int) 16) := by decide +kernel
  have k := key ⟨c.toNat, by omega⟩
  simp only [Int.toNat_of_nonneg h0] at k
  obtain ⟨⟨a1, a2, a3⟩, ⟨r1, r2, r3⟩, ⟨g1, g2, g3⟩, ⟨b1, b2, b3⟩⟩ := k
  exact ⟨⟨a1, a2, Nat.lt_trans a3 (by decide +kernel)⟩, ⟨r1, r2, r3⟩, ⟨g1, g2, g3⟩, ⟨b1, b2, b3⟩⟩
theorem sum5 {a0 a1 a2 a3 a4 b0 b1 b2 b3 b4 : Int} (h0 : a0 = b0) (h1 : a1 = b1) (h2 : a2 = b2) (h3 : a3 = b3) (h4 : a4 = b4) : 0 + a0 + a1 + a2 + a3 + a4 = b0 + b1 + b2 + b3 + b4 := by omega
theorem part_bnd (c : Int) (h0 : 0 ≤ c) (h1 : c < 32) : (0 ≤ partOf c 0 ∧ partOf c 0 ≤ 16) ∧ (0 ≤ partOf c 8 ∧ partOf c 8 ≤ 16) ∧ (0 ≤ partOf c 16 ∧ partOf c 16 ≤ 16) ∧ 4 ≤ partOf c 0 + partOf c 8 + partOf c 16 ∧ partOf c 0 + partOf c 8 + partOf c 16 ≤ 32 := by
  have key : ∀ n : Fin 32, (0 ≤ partOf ((n.val : Nat) : Int) 0 ∧ partOf ((n.val : Nat) : Int) 0 ≤ 16) ∧ (0 ≤ partOf ((n.val : Nat) : Int) 8 ∧ partOf ((n.val : Nat) : Int) 8 ≤ 16) ∧ (0 ≤ partOf ((n.val : Nat) : Int) 16 ∧ partOf ((n.val : Nat) : Int) 16 ≤ 16) ∧ 4 ≤ partOf ((n.val : Nat) : Int) 0 + partOf ((n.val : Nat) : Int) 8 + partOf ((n.val : Nat) : Int) 16 ∧ partOf ((n.val : Nat) : Int) 0 + partOf ((n.val : Nat) : Int) 8 + partOf ((n.val : Nat) : Int) 16 ≤ 32 := by decide +kernel
  have k := key ⟨c.toNat, by omega⟩
  simp only [Int.toNat_of_nonneg h0] at k
  exact k
end

section
local macro_rules | `(tactic| walk_at "binaryOp Div int int") => `(tactic| (k_here; k_dflt (refine' div_mine ?a ?b ?c ?_; (case a => exact rfl); (case b => first | omega | (constructor <;> omega)); (case c => omega)); intro t'; (try dsimp only); (try k_fold)))
local macro_rules | `(tactic| walk_at "call type:int") => `(tactic| (k_here; (with_reducible show wpAny _ _ (call _ [Value.float _ _]) _ _ _); k_dflt (refine' int_mine ?a (LitFine.n ?b) (LitFine.i ?c) ?_; (case a => exact rfl); (case b => assumption); (case c => assumption)); intro t'; (try dsimp only); (try k_fold)))
theorem lr_ind {prog : Program} {A : Around} {E : Value → Shared → Prop} {h₀ : Heap} {env : Env} {x : Str} {body : List Stmt} {Q : Flow → Shared → Prop} {s : Shared} {I : Addr} {lp : Addr × Obj} {vs : List Value} {J : Nat → (Str → Option Value) → List (Addr × Obj) → Prop} (hlp : ∀ i m nw, J i m nw → lp ∈ nw)
    (fin : ∀ m nw, J vs.length m nw → ∀ h tk, Fr h₀ env.locals h m → News h₀ env.locals h nw → Q .next { s with heap := h, toks := tk })
    (step : ∀ i v m nw, vs[i]? = some v → J i m nw → ∀ (it : Obj) h tk, it.cls = .type "list_iterator" → Fr h₀ env.locals h (fun y => if y = x then some v else m y) → News h₀ env.locals h ((I, it) :: nw) →
      wpAny (model prog w) A (execs body env) (UnrPost h₀ env.locals { s with heap := h, toks := tk } I it (J (i + 1)) Q) E { s with heap := h, toks := tk }) :
    ∀ r i m nw, vs.drop i = r → i ≤ vs.length → J i m nw → ListRest prog w A E h₀ env x body Q s I lp r m nw := by
  intro r
  induction r with
  | nil =>
    intro i m nw e hi j
    have hz : vs.length - i = 0 := by rw [← List.length_drop, e]; rfl
    have : i = vs.length := by omega
    subst this
    exact fin m nw j
  | cons v r ih =>
    intro i m nw e hi j
    have hlt : i < vs.length := by
      have : (vs.drop i).length = r.length + 1 := by rw [e]; rfl
      rw [List.length_drop] at this; omega
    have hv : vs[i]? = some v := by
      have := congrArg (·[0]?) e
      simpa using this
    have e' : vs.drop (i + 1) = r := by rw [← List.drop_drop, e]; rfl
    refine ListRest.succ fun it h tk hit F N => ?_
    refine wpAny_mono (step i v m nw hv j it h tk hit F N) (fun f s₂ p => ?_) fun _ _ e => e
    cases f with
    | ret v => exact p
    | brk => exact p
    | next =>
      obtain ⟨h', tk', m', n', e1, F', N', o, q⟩ := p
      exact ⟨h', tk', m', n', e1, F', N', o, hlp _ _ _ q, ih (i + 1) m' n' e' hlt q⟩
    | cont =>
      obtain ⟨h', tk', m', n', e1, F', N', o, q⟩ := p
      exact ⟨h', tk', m', n', e1, F', N', o, hlp _ _ _ q, ih (i + 1) m' n' e' hlt q⟩
def colN (cs : List Int) (i : Nat) (k : Int) : Int := ((cs.take i).map fun c => partOf c k).sum
theorem colN_succ {cs : List Int} {i : Nat} {c : Int} (h : cs[i]? = some c) (k : Int) : colN cs (i + 1) k = colN cs i k + partOf c k := by
  unfold colN
  rw [List.take_add_one, h]
  simp
theorem colN5 (c0 c1 c2 c3 c4 k : Int) : colN [c0, c1, c2, c3, c4] 5 k = partOf c0 k + partOf c1 k + partOf c2 k + partOf c3 k + partOf c4 k := by
  unfold colN
  simp only [List.take_succ_cons, List.take_zero, List.map_cons, List.map_nil, List.sum_cons, List.sum_nil]
  omega
theorem of3_eq {a b c a' b' c' : Int} {t u v : Tok} {k : Nat} (h1 : a = a') (h2 : b = b') (h3 : c = c') : ∃ k' t' u' v', listOf #[.int a t, .int b u, .int c v] k = listOf #[.int a' t', .int b' u', .int c' v'] k' := ⟨k, t, u, v, by rw [h1, h2, h3]⟩
inductive JV (cs : List Int) (a1 a2 : Addr) (lp : Addr × Obj) (i : Nat) (nw : List (Addr × Obj)) : Prop
  | mk (x : Addr) (o1 o2 : Obj) (z : Option Value) (ta tb tc : Tok) (k : Nat) (d1 : o1.data = .cell z) (d2 : o2.data = .cell (some (.ref x))) (n1 : x ≠ a1) (n2 : x ≠ a2) (n3 : x ≠ lp.1)
      (e : nw = [(x, listOf #[.int (colN cs i 0) ta, .int (colN cs i 8) tb, .int (colN cs i 16) tc] k), (a1, o1), (a2, o2), lp])
theorem votes_init {cs : List Int} {a1 a2 x : Addr} {lp : Addr × Obj} {o1 o2 : Obj} {z : Option Value} {ta tb tc : Tok} {k : Nat} (d1 : o1.data = .cell z) (d2 : o2.data = .cell (some (.ref x))) (oD : x ≠ a1 ∧ x ≠ a2 ∧ x ≠ lp.1) :
    JV cs a1 a2 lp 0 [(x, listOf #[.int 0 ta, .int 0 tb, .int 0 tc] k), (a1, o1), (a2, o2), lp] := ⟨x, o1, o2, z, ta, tb, tc, k, d1, d2, oD.1, oD.2.1, oD.2.2, by simp [colN]⟩
theorem votes_add {cs : List Int} {i : Nat} {c k X : Int} (hc : cs[i]? = some c) (h : X = partOf c k) : colN cs i k + X = colN cs (i + 1) k := by rw [colN_succ hc, h]
theorem votes_end {cs : List Int} {a1 a2 I D : Addr} {lp : Addr × Obj} {i tk : Nat} {h₀ h' : Heap} {L : Addr} {m' : Str → Option Value} {s₁ : Shared} {it o1 o2 : Obj} {z : Option Value} {all : List (Addr × Obj)} {X Y Z : Int} {ta tb tc : Tok} {k : Nat} (F : Fr h₀ L h' m') (N : News h₀ L h' all)
    (m2 : (a1, o1) ∈ all) (m3 : (a2, o2) ∈ all) (d1 : o1.data = .cell z) (d2 : o2.data = .cell (some (.ref D))) (m1 : (D, listOf #[.int X ta, .int Y tb, .int Z tc] k) ∈ all) (m4 : lp ∈ all) (mI : (I, it) ∈ all)
    (oI : D ≠ I ∧ a1 ≠ I ∧ a2 ≠ I ∧ lp.1 ≠ I) (oD : D ≠ a1 ∧ D ≠ a2 ∧ D ≠ lp.1) (e0 : X = colN cs (i + 1) 0) (e1 : Y = colN cs (i + 1) 8) (e2 : Z = colN cs (i + 1) 16) :
    UnrEnd h₀ L s₁ I it (fun _ nw => JV cs a1 a2 lp (i + 1) nw) { s₁ with heap := h', toks := tk } := by
  subst e0 e1 e2
  refine UnrEnd.intro F N [(D, listOf #[.int (colN cs (i + 1) 0) ta, .int (colN cs (i + 1) 8) tb, .int (colN cs (i + 1) 16) tc] k), (a1, o1), (a2, o2), lp] ?_ ?_ ⟨D, o1, o2, z, ta, tb, tc, k, d1, d2, oD.1, oD.2.1, oD.2.2, rfl⟩
  · intro p hp
    simp only [List.mem_cons, List.not_mem_nil, or_false] at hp
    rcases hp with rfl | rfl | rfl | rfl | rfl <;> assumption
  · intro p hp
    simp only [List.mem_cons, List.not_mem_nil, or_false] at hp
    rcases hp with rfl | rfl | rfl | rfl
    · exact oI.1
    · exact oI.2.1
    · exact oI.2.2.1
    · exact oI.2.2.2
def atF (a b c : UInt64) (i : Nat) : UInt64 := if i = 0 then a else if i = 1 then b else c
theorem lit_at {c : Int} (f : CellFine c) {i : Nat} (h : i < 3) : LitFine (atF (hsvR (lampH c) fOne (lampV c)) (hsvG (lampH c) fOne (lampV c)) (hsvB (lampH c) fOne (lampV c)) i) (at3 (partOf c 0) (partOf c 8) (partOf c 16) i) := by
  rcases i with _ | _ | _ | i
  · exact f.r
  · exact f.g
  · exact f.b
  · omega
theorem lit_end {x : UInt64} {A k : Int} (h : LitFine x k) : [A + k] = [A + Flt.toInt Float64.truncOf (lit x)] := by rw [h.v]
theorem item_tup3 {prog : Program} {A : Around} {E : Value → Shared → Prop} {s : Shared} {h₀ : Heap} {L l : Addr} {value slice : PySem.Expr} {a b c : UInt64} {t0 t1 t2 : Tok} {i : Nat} {u : Tok} {Q : Value → Shared → Prop} (N : News h₀ L s.heap news) (hm : (l, ({ cls := .type "tuple", data := .seq #[.float a t0, .float b t1, .float c t2] } : Obj)) ∈ news) (h1 : i < 3) (h : ∀ t, Q (.float (atF a b c i) t) s)
    (hs : ∀ k : Int, subscripted slice false (.ref l) (.int k u) = operate [.ref l, .int k u] (getItem (.ref l) (.int k u)) := by intro _; with_unfolding_all rfl) : wpAny (model prog w) A (subscriptTail value slice (.ref l) (.int (0 + (i : Int)) u)) Q E s := by
  have T := News.isTup N hm
  rcases i with _ | _ | _ | i
  · exact item_tupleT T (by decide) (by decide) rfl rfl (h t0) (hs _)
  · exact item_tupleT T (by decide) (by decide) rfl rfl (h t1) (hs _)
  · exact item_tupleT T (by decide) (by decide) rfl rfl (h t2) (hs _)
  · omega
def Hold9 (P : Prop) : Prop := P
theorem hold9 {P : Prop} (h : Hold9 P) : P := h
theorem unhold9 {P : Prop} (h : P) : Hold9 P := h
local macro_rules | `(tactic| walk_at "ListRest") => `(tactic| refine hold9 ?_)
local macro_rules | `(tactic| walk_at "UnrEnd") => `(tactic| refine hold9 ?_)
local macro_rules | `(tactic| walk_at "CompSrc") => `(tactic| refine hold9 ?_)
local macro_rules | `(tactic| walk_at "CompEnd") => `(tactic| refine hold9 ?_)
local macro_rules | `(tactic| walk_at "eval ListComp") => `(tactic| (k_here; k_dflt (refine LCg.ListComp_U (F₀ := by k_asm) (by with_unfolding_all rfl) (by decide) (by rfl) (by decide) (by rfl) ?_)))
local macro_rules | `(tactic| walk_at "subscriptTail Name Name ref int") => `(tactic| (k_here; k_dflt (first
  | (refine' item_at3 ?N ?m ?P ?a ?_ ?s; (case N => k_asm); (case m => k_mem); (case P => exact fun _ _ => trivial); (case a => assumption); (case s => with_unfolding_all rfl); intro t' _)
  | (refine' item_tup3 ?N ?m ?a ?_; (case N => k_asm); (case m => k_mem); (case a => assumption); intro t'))))
local macro_rules | `(tactic| walk_at "call ref") => `(tactic| (k_here; (with_reducible show wpAny _ _ (call (Value.ref 52) _) _ _ _); k_dflt (refine' tel_use (hsv ?a1 ?a2) ?_); (case a1 => decide +kernel); (case a2 => exact CellFine.h (by assumption)); (refine' Ret.one3 ?_); intro x' t' u' v9' h' tk' F' N' l1; (try dsimp only); (try k_fold); (try k_sweep)))
theorem votes {lc : Addr} {c0 c1 c2 c3 c4 : Int} {n : Nat} {t0 t1 t2 t3 t4 : Tok} (h0 : 0 ≤ c0 ∧ c0 < 32) (h1 : 0 ≤ c1 ∧ c1 < 32) (h2 : 0 ≤ c2 ∧ c2 < 32) (h3 : 0 ≤ c3 ∧ c3 < 32) (h4 : 0 ≤ c4 ∧ c4 < 32) :
    Tel w p loose mean mg mb 88 3 [(lc, listOf #[.int c0 t0, .int c1 t1, .int c2 t2, .int c3 t3, .int c4 t4] n)] [.ref lc] (One fun o => ∃ k t u v, o = listOf #[.int (partOf c0 0 + partOf c1 0 + partOf c2 0 + partOf c3 0 + partOf c4 0) t, .int (partOf c0 8 + partOf c1 8 + partOf c2 8 + partOf c3 8 + partOf c4 8) u, .int (partOf c0 16 + partOf c1 16 + partOf c2 16 + partOf c3 16 + partOf c4 16) v] k) := by
  w_top off
  unfold Tel
  k_fill
  intro rest9 dp9 un9 gd9 cn9 cs9 ad9 ccd9 cl9 ou9 A9 base9 hh9 L9 m9 s9 Q9 E9 B9 F9 X9 N9 S9 T9 hk9 hd9 hu9 hret
  refine wpAny_call ?_
  k_dflt (refine' code_cells ?k1 ?k2 ?k3 ?k4 ?kS ?k5 ?kA ?kF ?kK ?k6 ?k7 ?k8 ?k9 ?kB ?kD ?_ ?c2 ?c3 ?c4; (case kA => exact rfl); (case kF => exact rfl); (case kK => assumption); (case k1 => k_asm); (case k2 => k_asm); (case k3 => k_asm); (case k4 => exact N9); (case kS => exact S9); (case k5 => k_asm); (case k6 => k_is); (case k7 => k_is); (case k8 => ktr_room); (case k9 => exact BindsTo.of_eq rfl); (case kB => exact rfl); (case kD => decide +kernel); (case c2 => exact rfl); (case c3 => exact rfl); (case c4 => exact rfl); k_whole; intro g9 L' h' tk' cells' FG' F' N' Y' R9 B' X' T' l1; (try k_lt l1); k_cells Y'; (try simp only [List.cons_append, List.nil_append] at N'); (try dsimp only); (try k_lift B'); (try k_fold))
  k_steps
  refine unhold9 ?_
  refine' lr_ind (J := fun i _ nw => JV [c0, c1, c2, c3, c4] (L' + 1 + 1) (L' + 1) (lc, listOf #[.int c0 t0, .int c1 t1, .int c2 t2, .int c3 t3, .int c4 t4] n) i nw) ?hlp ?fin ?step _ 0 _ _ rfl (Nat.zero_le _) ?init
  case hlp =>
    rintro i m nw ⟨x, o1, o2, z, ta, tb, tc, k, d1, d2, n1, n2, n3, rfl⟩
    exact .tail _ (.tail _ (.tail _ (.head _)))
  case init => exact votes_init (by assumption) (by assumption) ⟨by ktr_rel, by ktr_rel, by ktr_rel⟩
  case step =>
    rintro i v m nw hv ⟨x, o1, o2, z, ta, tb, tc, k, d1, d2, n1, n2, n3, rfl⟩ it h tk hit F' N'
    obtain ⟨c, t, hc, rfl⟩ := ints_at (ns := [c0, c1, c2, c3, c4]) (.cons _ _ (.cons _ _ (.cons _ _ (.cons _ _ (.cons _ _ .nil))))) hv
    have hcm := List.mem_of_getElem? hc
    have hb : 0 ≤ c ∧ c < 32 := by
      simp only [List.mem_cons, List.not_mem_nil, or_false] at hcm
      rcases hcm with rfl | rfl | rfl | rfl | rfl <;> assumption
    clear hcm
    have f := cell_fine c hb.1 hb.2
    obtain ⟨m0, d0⟩ := cell_mod c hb.1 hb.2
    k_steps
    refine unhold9 ?_
    refine LCg.CompSrc.range (by rfl) (by k_asm) (by k_asm) (by assumption) (by first | decide | rfl) (by first | rfl | decide) (n := 3) (by first | size_fits | exact Nat.le_of_ble_eq_true rfl) ?_
    intro g'
    refine C2.comp_ind (J := JPick (fun j => [at3 (colN [c0, c1, c2, c3, c4] i 0) (colN [c0, c1, c2, c3, c4] i 8) (colN [c0, c1, c2, c3, c4] i 16) j + at3 (partOf c 0) (partOf c 8) (partOf c 16) j]) _) ?vfin ?vstep _ 0 [] _ (Nat.zero_add _) ⟨rfl, .nil⟩
    case vstep =>
      rintro j ys nw hj ⟨rfl, hnum⟩ v' I' oI' C' oC' D' m' h' tk' E' ⟨t9, rfl⟩ hC hx F' N' off ne
      have hlit := lit_at f hj
      k_steps
      refine unhold9 ?_
      exact pick_end (by k_asm) (by k_asm) off ⟨rfl, hnum⟩ (lit_end hlit)
    rintro ys nw ⟨rfl, hnum⟩
    obtain ⟨y0, y1, y2, rfl⟩ := ints3 hnum
    unfold LCg.FinE
    intro D h tk F' N' o1
    (try dsimp only)
    k_steps
    refine unhold9 ?_
    exact votes_end (by k_asm) (by k_asm) (by k_mem) (by k_mem) (by assumption) (by assumption) (by k_mem) (by k_mem) (by k_mem) ⟨by ktr_rel, by ktr_rel, by ktr_rel, by ktr_rel⟩ ⟨by ktr_rel, by ktr_rel, by ktr_rel⟩ (votes_add hc rfl) (votes_add hc rfl) (votes_add hc rfl)
  case fin =>
    rintro m nw ⟨x, o1, o2, z, ta, tb, tc, k, d1, d2, n1, n2, n3, rfl⟩ h tk F' N'
    dsimp only
    k_steps
    (refine' Ret.one hret ?F ?N ?l ?o; (case F => k_asm); (case N => (refine' comb N9 S9 R9 ?Fk ?Nk ?Sk; (case Fk => assumption); (case Nk => assumption); (case Sk => k_subL))); (case l => (refine' combA N9 S9 R9 ?Nm ?Sm ?Am; (case Nm => assumption); (case Sm => k_subL); (case Am => first | (simp only [Apart, OffA, and_true]; done) | (simp only [Apart, OffA, and_true]; (repeat' apply And.intro) <;> ktr_rel)))); (case o => exact of3_eq (colN5 c0 c1 c2 c3 c4 0) (colN5 c0 c1 c2 c3 c4 8) (colN5 c0 c1 c2 c3 c4 16)))
end

section
theorem min_if (a b : Int) : min a b = if b < a then b else a := by omega
theorem max_if (a b : Int) : max a b = if b > a then b else a := by omega
theorem abs_if (a : Int) : (a.natAbs : Int) = if a < 0 then -a else a := by omega
theorem part_eq {c k X : Int} {t : Tok} (h : X = max 0 (min 4 (8 - min ((3 * c.fmod 8 - k).natAbs : Int) (24 - ((3 * c.fmod 8 - k).natAbs : Int))))) : ∃ t', Value.int ((c.fdiv 8 + 1) * X) t = Value.int (partOf c k) t' := ⟨t, by unfold partOf; rw [h]⟩
theorem part {c k : Int} {t1 t2 : Tok} (h0 : 0 ≤ c ∧ c < 32) (hk : 0 ≤ k ∧ k ≤ 16) :
    Tel w p loose mean mg mb 95 1 [] [.int c t1, .int k t2] (Bare fun v => ∃ t, v = .int (partOf c k) t) := by
  have k0 := fmod_lo c (n := 8) (by decide)
  have k1 := fmod_hi c (n := 8) (by decide)
  w_top off
  unfold Tel
  k_fill
  intro rest9 dp9 un9 gd9 cn9 cs9 ad9 ccd9 cl9 ou9 A9 base9 hh9 L9 m9 s9 Q9 E9 B9 F9 X9 N9 S9 T9 hk9 hd9 hu9 hret
  refine wpAny_call ?_
  k_dflt (refine' code_plain ?k1 ?k2 ?k3 ?k4 ?kS ?k5 ?kA ?kF ?kK ?k6 ?k7 ?k8 ?k9 ?kB ?_ ?c2 ?c3 ?c4 ?c5; (case kA => exact rfl); (case kF => exact rfl); (case kK => assumption); (case k1 => k_asm); (case k2 => k_asm); (case k3 => k_asm); (case k4 => exact N9); (case kS => exact S9); (case k5 => k_asm); (case k6 => k_is); (case k7 => k_is); (case k8 => ktr_room); (case k9 => exact BindsTo.of_eq rfl); (case c5 => decide); (case kB => exact locs rfl); (case c2 => exact rfl); (case c3 => exact rfl); (case c4 => exact rfl); k_whole; intro g9 L' h' FG' F' N' R9 B' X' T'; (try dsimp only); (try k_lift B'); (try k_fold))
  k_steps
  (refine' Ret.bare hret ?F ?N ?o; (case F => k_asm); (case N => (refine' comb N9 S9 R9 ?Fk ?Nk ?Sk; (case Fk => assumption); (case Nk => assumption); (case Sk => k_subL))); (case o => exact part_eq (by simp only [min_if, max_if, abs_if])))
end

section
namespace MDec
open Builtin
set_option maxRecDepth 100000
theorem args_decode_2 (a b : Value) : argsOk "bytes.decode" ⟨[a, b], []⟩ := by
  unfold argsOk; rw [signature?_of (id := "bytes.decode") (n := ['e', 'd', 'o', 'c', 'e', 'd']) (o := ['s', 'e', 't', 'y', 'b']) (by kernel_rfl) FB.owner_bytes]; kernel_rfl
section
variable {b : Array UInt8} {c : UInt8} {cs : List UInt8} {t u : Tok} {x : PySem.Str} {n : Nat}
theorem road_ascii {id : String} : _codecs.decodeRoad id b (PySem.Str.ofString "ascii") none [] = (_codecs.runDecoder id _codecs.asciiDecoder none true b 0 [] >>= fun r => mkStr ⟨r.1⟩) := by kernel_rfl
theorem meets_ascii {t1 t2 : Tok} {d : PySem.Str} (hd : ∀ id, _codecs.runDecoder id _codecs.asciiDecoder none true b 0 [] = pure (x.cps, n)) :
    Meets («_codecs.decode.text» ⟨[.bytes b t, .str (PySem.Str.ofString "ascii") t1, .none, .str d t2], []⟩) (fun _ R s => x.length ≤ sizeLine ∧ R (.ok (.ret (.str x s.toks))) { s with toks := s.toks + 1 }) := by
  refine .of_wp fun prog w A R s hS => ?_
  obtain ⟨hsz, h⟩ := hS
  show wpAny _ _ (Bytes.bytesLike _ (.bytes b t) >>= fun r => _) _ _ s
  refine wpAny_bind (wpAny_of_eq KBd.like_eq ?_)
  refine wpAny_bind (wpAny_of_eq KBd.held_eq ?_)
  show wpAny _ _ (_codecs.decodeRoad _ b (PySem.Str.ofString "ascii") none [] >>= fun v => _) _ _ s
  rw [road_ascii, hd]
  refine wpAny_bind (wpAny_bind (wpAny_pure ?_))
  exact wpAny_mkStr (wpAny_pure ⟨_, rfl, h⟩) hsz
theorem entry2_eq : «bytes.decode» ⟨[.bytes (c :: cs).toArray t, .str (PySem.Str.ofString "ascii") u], []⟩ = (mkStr (PySem.Str.ofString "utf-8") >>= fun _ => mkStr (PySem.Str.ofString "ascii") >>= fun e => mkStr (PySem.Str.ofString "bytes.decode") >>= fun d =>
    call (.builtin "_codecs.decode.text") [.bytes (c :: cs).toArray t, e, .none, d] >>= fun v => ret v) := by kernel_rfl
theorem meets_decode2 (hd : ∀ id, _codecs.runDecoder id _codecs.asciiDecoder none true (c :: cs).toArray 0 [] = pure (x.cps, n)) :
    Meets («bytes.decode» ⟨[.bytes (c :: cs).toArray t, .str (PySem.Str.ofString "ascii") u], []⟩) (fun _ R s => x.length ≤ sizeLine ∧ ∀ t' k, R (.ok (.ret (.str x t'))) { s with toks := k }) := by
  refine .of_wp fun prog w A R s hS => ?_
  obtain ⟨hsz, h⟩ := hS
  rw [entry2_eq]
  refine wpAny_bind (wpAny_mkStr ?_ (by decide))
  refine wpAny_bind (wpAny_mkStr ?_ (by decide))
  refine wpAny_bind (wpAny_mkStr ?_ (by decide))
  exact wpAny_bind (call_function_meets KBd.kind_text KBd.plain_text KBd.entry_text (KBd.args_text _ _ _ _) (meets_ascii hd) ⟨hsz, wpAny_pure ⟨_, rfl, h _ _⟩⟩)
end
section
variable {prog : Program} {A : Around} {E : Value → Shared → Prop} {s : Shared} {c : UInt8} {cs : List UInt8} {t u : Tok} {x : PySem.Str} {n : Nat}
theorem decode2 {Q : Value → Shared → Prop} (hd : ∀ id, _codecs.runDecoder id _codecs.asciiDecoder none true (c :: cs).toArray 0 [] = pure (x.cps, n)) (hsz : x.length ≤ sizeLine) (h : ∀ t' k, Q (.str x t') { s with toks := k }) :
    wpAny (model prog w) A (call (.builtin "bytes.decode") [.bytes (c :: cs).toArray t, .str (PySem.Str.ofString "ascii") u]) Q E s :=
  call_meets FB.slot_bytes_decode (typeIs_bytes _ _ _) FB.entry_bytes_decode (args_decode_2 _ _) (meets_decode2 hd) ⟨hsz, h⟩
end
end MDec
theorem bd_cons (n : Nat) (x : UInt8) : ∃ c cs, bd n x = (c :: cs).toArray := by
  unfold bd
  cases n with
  | zero => exact ⟨x, [], rfl⟩
  | succ n => exact ⟨46, List.replicate n 46 ++ [x], rfl⟩
theorem run_bd {n : Nat} {x : UInt8} (hn : n < 12) (hx : Ltb x) (id : String) : Builtin._codecs.runDecoder id Builtin._codecs.asciiDecoder none true (bd n x) 0 [] = pure ((sd n [x.toNat]).cps, n + 1) := by
  have h := (show ∀ n, n < 12 → n = 0 ∨ n = 1 ∨ n = 2 ∨ n = 3 ∨ n = 4 ∨ n = 5 ∨ n = 6 ∨ n = 7 ∨ n = 8 ∨ n = 9 ∨ n = 10 ∨ n = 11 by decide) n hn
  unfold bd sd
  rcases h with rfl | rfl | rfl | rfl | rfl | rfl | rfl | rfl | rfl | rfl | rfl | rfl <;> rcases hx with rfl | rfl | rfl <;> kernel_rfl
theorem decode_bd {prog : Program} {A : Around} {E : Value → Shared → Prop} {s : Shared} {n : Nat} {x : UInt8} {t u : Tok} {Q : Value → Shared → Prop} (hn : n < 12) (hx : Ltb x) (h : ∀ t tk, Q (.str (sd n [x.toNat]) t) { s with toks := tk }) : wpAny (model prog w) A (call (.builtin "bytes.decode") [.bytes (bd n x) t, .str (Str.ofString "ascii") u]) Q E s := by
  obtain ⟨c, cs, e⟩ := bd_cons n x
  have hr := run_bd hn hx
  rw [e] at hr ⊢
  exact MDec.decode2 (x := sd n [x.toNat]) hr (by rw [sd_len, sizeLine_eq]; simp; omega) h
end

section
namespace MSub
open Builtin
set_option maxRecDepth 100000
theorem plain_pat : PlainAttrs "re.Pattern" :=
  ⟨⟨"object.__getattribute__", by rw [typeLookup_type, builtinLookup_eq_fast]; kernel_rfl, by decide +kernel⟩, by rw [typeLookup_type, builtinLookup_eq_fast]; kernel_rfl⟩
theorem slot_sub : Slot "re.Pattern" "sub" "re.Pattern.sub" :=
  .of (owner := "re.Pattern") (n := "sub") (by rw [typeLookup_type, builtinLookup_eq_fast]; kernel_rfl) (by decide +kernel) (by decide +kernel) (by decide +kernel)
    (by first | exact .inl (by decide +kernel) | exact .inr (by decide +kernel)) (by rw [isSubtype_type]; kernel_rfl)
theorem type_sub : typeOf (.builtin "re.Pattern.sub") = pure (.type "method_descriptor") := by show builtinType _ = _; rw [builtinType_eq_fast]; kernel_rfl
theorem entry_sub : entryFor table "re.Pattern.sub" = some Builtin.«re.Pattern.sub» := entryFor_of_tree (by kernel_rfl)
theorem entry_loop : entryFor table "re.Pattern.sub.loop" = some Builtin.«re.Pattern.sub.loop» := entryFor_of_tree (by kernel_rfl)
theorem entry_join : entryFor table "bytes.join" = some Builtin.«bytes.join» := entryFor_of_tree (by kernel_rfl)
theorem args_sub_3 (a b c : Value) : argsOk "re.Pattern.sub" ⟨[a, b, c], []⟩ := by
  unfold argsOk; kernel_rfl
theorem slot_join : Slot "bytes" "join" "bytes.join" :=
  .of (owner := "bytes") (n := "join") (by rw [typeLookup_type, builtinLookup_eq_fast]; kernel_rfl) (by decide +kernel) (by decide +kernel) (by decide +kernel)
    (by first | exact .inl (by decide +kernel) | exact .inr (by decide +kernel)) (by rw [isSubtype_type]; kernel_rfl)
theorem args_join_2 (a b : Value) : argsOk "bytes.join" ⟨[a, b], []⟩ := by
  unfold argsOk; rw [signature?_of (id := "bytes.join") (n := ['n', 'i', 'o', 'j']) (o := ['s', 'e', 't', 'y', 'b']) (by kernel_rfl) FB.owner_bytes]; kernel_rfl
end MSub
noncomputable def runS {α : Type} (g : Setting) : Nat → List (Addr × Obj) → Nat → Sem α → List (Addr × Addr) × Nat × Sem α
  | 0, _, k, t => ([], k, t)
  | n + 1, ls, k, t => match t with
    | .rule _ f => runS g n ls k (f ())
    | .at _ f => runS g n ls k (f ())
    | .point _ f => runS g n ls k (f ())
    | .ask f => runS g n ls k (f g)
    | .fresh f => runS g n ls (k + 1) (f k)
    | .load b q f => match ls with
      | [] => ([], k, .load b q f)
      | e :: ls => ((e.1, b) :: (runS g n ls k (f e.2)).1, (runS g n ls k (f e.2)).2)
    | t => ([], k, t)
theorem runS_ok {α : Type} {prog : Program} {A : Around} {Q : α → Shared → Prop} {E : Value → Shared → Prop} : ∀ (n : Nat) {ls : List (Addr × Obj)} {s : Shared} {t : Sem α}, (∀ p ∈ ls, s.heap.get? p.1 = some p.2) →
    (∀ p ∈ (runS ⟨prog, w.params⟩ n ls s.toks t).1, p.1 = p.2) → wpAny (model prog w) A (runS ⟨prog, w.params⟩ n ls s.toks t).2.2 Q E { s with toks := (runS ⟨prog, w.params⟩ n ls s.toks t).2.1 } → wpAny (model prog w) A t Q E s := by
  intro n
  induction n with
  | zero => intro ls s t _ _ h; exact h
  | succ n ih =>
    intro ls s t hl he h
    cases t
    case rule => exact X.x_rule (ih hl he h)
    case «at» => exact X.x_at (ih hl he h)
    case point => exact X.x_point (ih hl he h)
    case ask => exact X.x_ask (ih hl he h)
    case fresh f => exact X.x_fresh (ih (s := { s with toks := s.toks + 1 }) hl he h)
    case load b q f =>
      cases ls with
      | nil => exact h
      | cons p ls =>
        obtain ⟨a, o⟩ := p
        have e : a = b := he (a, b) (.head _)
        subst e
        exact X.x_load (hl (a, o) (.head _)) (ih (fun p hp => hl p (.tail _ hp)) (fun p hp => he p (.tail _ hp)) h)
    all_goals exact h
theorem runS_use {α : Type} {prog : Program} {A : Around} {Q : α → Shared → Prop} {E : Value → Shared → Prop} (n : Nat) (ls : List (Addr × Obj)) {s : Shared} {t t' : Sem α} {k' : Nat} (e : runS ⟨prog, w.params⟩ n ls s.toks t = (ls.map (fun p => (p.1, p.1)), k', t'))
    (hl : ∀ p ∈ ls, s.heap.get? p.1 = some p.2) (h : wpAny (model prog w) A t' Q E { s with toks := k' }) : wpAny (model prog w) A t Q E s := by
  refine runS_ok n hl ?_ ?_
  · rw [e]; intro p hp; obtain ⟨q, _, rfl⟩ := List.mem_map.mp hp; rfl
  · rw [e]; exact h
noncomputable def runA {α : Type} (g : Setting) (a : Addr) : Nat → List (Option (Addr × Obj)) → Obj → Nat → Sem α → List (Addr × Addr) × Obj × Nat × Sem α
  | 0, _, o, k, t => ([], o, k, t)
  | n + 1, ls, o, k, t => match t with
    | .rule _ f => runA g a n ls o k (f ())
    | .at _ f => runA g a n ls o k (f ())
    | .point _ f => runA g a n ls o k (f ())
    | .ask f => runA g a n ls o k (f g)
    | .fresh f => runA g a n ls o (k + 1) (f k)
    | .load b q f => match ls with
      | [] => ([], o, k, .load b q f)
      | e :: ls => match e with
        | none => ((a, b) :: (runA g a n ls o k (f o)).1, (runA g a n ls o k (f o)).2)
        | some cx => ((cx.1, b) :: (runA g a n ls o k (f cx.2)).1, (runA g a n ls o k (f cx.2)).2)
    | .update b q f r => match ls with
      | [] => ([], o, k, .update b q f r)
      | e :: ls => match e with
        | none => cond (f o).isFreed ([], o, k, .update b q f r) ((a, b) :: (runA g a n ls (f o) k (r ())).1, (runA g a n ls (f o) k (r ())).2)
        | some _ => ([], o, k, .update b q f r)
    | t => ([], o, k, t)
theorem runA_ok {α : Type} {prog : Program} {A : Around} {Q : α → Shared → Prop} {E : Value → Shared → Prop} {a : Addr} : ∀ (n : Nat) {ls : List (Option (Addr × Obj))} {o : Obj} {s : Shared} {t : Sem α}, s.heap.get? a = some o →
    (∀ c x, some (c, x) ∈ ls → s.heap.get? c = some x ∧ c ≠ a) → (∀ p ∈ (runA ⟨prog, w.params⟩ a n ls o s.toks t).1, p.1 = p.2) →
    (∀ h', Heap.SameBut a s.heap h' → h'.get? a = some (runA ⟨prog, w.params⟩ a n ls o s.toks t).2.1 → wpAny (model prog w) A (runA ⟨prog, w.params⟩ a n ls o s.toks t).2.2.2 Q E { s with heap := h', toks := (runA ⟨prog, w.params⟩ a n ls o s.toks t).2.2.1 }) →
    wpAny (model prog w) A t Q E s := by
  intro n
  induction n with
  | zero => intro ls o s t ho _ _ h; exact h s.heap (Heap.SameBut.refl _ _) ho
  | succ n ih =>
    intro ls o s t ho hl he h
    cases t
    case rule => exact X.x_rule (ih ho hl he h)
    case «at» => exact X.x_at (ih ho hl he h)
    case point => exact X.x_point (ih ho hl he h)
    case ask => exact X.x_ask (ih ho hl he h)
    case fresh f => exact X.x_fresh (ih (s := { s with toks := s.toks + 1 }) ho hl he h)
    case load b q f =>
      rcases ls with _ | ⟨_ | ⟨c, x⟩, ls⟩
      · exact h s.heap (Heap.SameBut.refl _ _) ho
      · have e : a = b := he (a, b) (.head _)
        subst e
        exact X.x_load ho (ih ho (fun c x hp => hl c x (.tail _ hp)) (fun p hp => he p (.tail _ hp)) h)
      · have e : c = b := he (c, b) (.head _)
        subst e
        exact X.x_load (hl c x (.head _)).1 (ih ho (fun c x hp => hl c x (.tail _ hp)) (fun p hp => he p (.tail _ hp)) h)
    case update b q f r =>
      rcases ls with _ | ⟨_ | ⟨c, x⟩, ls⟩
      · exact h s.heap (Heap.SameBut.refl _ _) ho
      · cases hf : (f o).isFreed
        · have key : runA ⟨prog, w.params⟩ a (n + 1) (none :: ls) o s.toks (.update b q f r) = cond (f o).isFreed ([], o, s.toks, .update b q f r) ((a, b) :: (runA ⟨prog, w.params⟩ a n ls (f o) s.toks (r ())).1, (runA ⟨prog, w.params⟩ a n ls (f o) s.toks (r ())).2) := rfl
          rw [key, hf] at he h
          have e : a = b := he (a, b) (.head _)
          subst e
          have hs : Heap.SameBut a s.heap (s.heap.update a f) := Heap.SameBut.update ..
          refine wpAny_bind (m := updatePart a q f) (f := r) (wpAny_updatePart ho ?_)
          exact ih (s := { s with heap := s.heap.update a f }) (by first | exact Heap.get?_update_self f ho hf | exact Heap.get?_update_self _ ho hf | (rw [Heap.get?_update_self _ ho]; exact hf))
            (fun c x hp => ⟨(hs.2 c (hl c x (.tail _ hp)).2).trans (hl c x (.tail _ hp)).1, (hl c x (.tail _ hp)).2⟩) (fun p hp => he p (.tail _ hp)) (fun h' h1 h2 => h h' (hs.trans h1) h2)
        · have key : runA ⟨prog, w.params⟩ a (n + 1) (none :: ls) o s.toks (.update b q f r) = cond (f o).isFreed ([], o, s.toks, .update b q f r) ((a, b) :: (runA ⟨prog, w.params⟩ a n ls (f o) s.toks (r ())).1, (runA ⟨prog, w.params⟩ a n ls (f o) s.toks (r ())).2) := rfl
          rw [key, hf] at h
          exact h s.heap (Heap.SameBut.refl _ _) ho
      · exact h s.heap (Heap.SameBut.refl _ _) ho
    all_goals exact h s.heap (Heap.SameBut.refl _ _) ho
namespace MSub
open Builtin
abbrev o57 : Obj := { cls := .type "re.Pattern", data := .fields #[.bytes #[40, 63, 109, 41, 94, 92, 46] 336, .int 8 349, .int 0 0, .none, .none, .ref 56, .int 1 0] }
abbrev o56 : Obj := { cls := .type "tuple", data := .seq #[.int 14 0, .int 4 0, .int 0 0, .int 1 0, .int 1 0, .int 6 0, .int 1 0, .int 16 0, .int 46 0, .int 1 0] }
theorem at57 (P : Params) : (hd.heap_39 P).lookup 57 = some o57 := by rfl
theorem at56 (P : Params) : (hd.heap_39 P).lookup 56 = some o56 := by rfl
abbrev bl (n : Nat) (x : UInt8) : Array UInt8 := (List.replicate n 46 ++ [x]).toArray
abbrev loopArgs (b : Array UInt8) (t1 t2 : Tok) (n done start : Int) (a : Addr) : Args := ⟨[.ref 57, .bytes b t2, .bytes #[46, 46] t1, rawInt 0, rawInt 0, rawInt n, rawInt done, rawInt start, .bool false, .ref a, .bool false], []⟩
theorem seg1 (g : Setting) (k : Nat) (b : Array UInt8) (t1 t2 : Tok) : runS g 400 [(57, o57), (56, o56)] k («re.Pattern.sub» ⟨[.ref 57, .bytes #[46, 46] t1, .bytes b t2], []⟩) =
    ([(57, 57), (56, 56)], k, newList [] >>= fun l => again (.builtin "re.Pattern.sub.loop" ⟨[.ref 57, .bytes b t2, .bytes #[46, 46] t1, rawInt 0, rawInt 0, rawInt 0, rawInt 0, rawInt 0, .bool false, l, .bool false], []⟩)) := by kernel_rfl
abbrev two (n : Nat) (x : UInt8) (t1 t : Tok) (e : Nat) : Obj := { cls := .type "list", data := .seq #[.bytes #[46, 46] t1, .bytes (bl n x) t] e }
theorem seg2_all {n : Nat} {x : UInt8} (h1 : 1 ≤ n) (h2 : n ≤ 7) (hx : Ltb x) (g : Setting) (k : Nat) (t1 t2 : Tok) (a : Addr) : runS g 4000 [(57, o57), (56, o56)] k («re.Pattern.sub.loop» (loopArgs (bl n x) t1 t2 0 0 0 a)) =
    ([(57, 57), (56, 56)], k, updateSeq a (·.push (.bytes #[46, 46] t1)) >>= fun _ => again (.builtin "re.Pattern.sub.loop" (loopArgs (bl n x) t1 t2 1 1 1 a))) := by
  have h := (show ∀ n, n < 8 → 1 ≤ n → n = 1 ∨ n = 2 ∨ n = 3 ∨ n = 4 ∨ n = 5 ∨ n = 6 ∨ n = 7 by decide) n (Nat.lt_succ_of_le h2) h1
  rcases h with rfl | rfl | rfl | rfl | rfl | rfl | rfl <;> rcases hx with rfl | rfl | rfl <;> kernel_rfl
theorem seven {n : Nat} (h : n ≤ 6) : n = 0 ∨ n = 1 ∨ n = 2 ∨ n = 3 ∨ n = 4 ∨ n = 5 ∨ n = 6 := (show ∀ n, n < 7 → n = 0 ∨ n = 1 ∨ n = 2 ∨ n = 3 ∨ n = 4 ∨ n = 5 ∨ n = 6 by decide) n (Nat.lt_succ_of_le h)
theorem seg3_all {n : Nat} {x : UInt8} (h2 : n ≤ 6) (hx : Ltb x) (g : Setting) (k e : Nat) (t1 t2 : Tok) (a : Addr) : runA g a 4000 [some (57, o57), some (56, o56), none, none, none, none] { cls := .type "list", data := .seq #[.bytes #[46, 46] t1] e } k («re.Pattern.sub.loop» (loopArgs (bl (n + 1) x) t1 t2 1 1 1 a)) =
    ([(57, 57), (56, 56), (a, a), (a, a), (a, a), (a, a)], two n x t1 k (e + 1), k + 2, call (.builtin "bytes.join") [.bytes #[] (k + 1), .ref a] >>= fun v => ret v) := by
  have h := seven h2
  rcases h with rfl | rfl | rfl | rfl | rfl | rfl | rfl <;> rcases hx with rfl | rfl | rfl <;> kernel_rfl
theorem seg4_all {n : Nat} {x : UInt8} (h2 : n ≤ 6) (hx : Ltb x) (g : Setting) (k e : Nat) (t t1 t2 : Tok) (a : Addr) : runS g 4000 [(a, two n x t1 t2 e), (a, two n x t1 t2 e), (a, two n x t1 t2 e), (a, two n x t1 t2 e), (a, two n x t1 t2 e), (a, two n x t1 t2 e)] k («bytes.join» ⟨[.bytes #[] t, .ref a], []⟩) =
    ([(a, a), (a, a), (a, a), (a, a), (a, a), (a, a)], k + 1, ret (.bytes (bl (n + 2) x) k)) := by
  have h := seven h2
  rcases h with rfl | rfl | rfl | rfl | rfl | rfl | rfl <;> rcases hx with rfl | rfl | rfl <;> kernel_rfl
end MSub
end

section
namespace MSub
open Builtin
set_option maxRecDepth 100000
theorem sub_meets {prog : Program} {h0 : Heap} {L : Addr} {m : Str → Option Value} {news : List (Addr × Obj)} {n : Nat} {x : UInt8} {t1 t2 : Tok} (h1 : n ≤ 6) (hx : Ltb x) (X : (hd.heap_39 w.params).In h0) :
    MeetsIn prog w («re.Pattern.sub» ⟨[.ref 57, .bytes #[46, 46] t1, .bytes (bl (n + 1) x) t2], []⟩) (fun _ R s => Fr h0 L s.heap m ∧ News h0 L s.heap news ∧ ∀ h' t tk, Fr h0 L h' m → News h0 L h' news → R (.ok (.ret (.bytes (bl (n + 2) x) t))) { s with heap := h', toks := tk }) := by
  intro A R s ⟨F, N, h⟩
  have k57 := X _ _ (at57 w.params)
  have k56 := X _ _ (at56 w.params)
  have hl : ∀ {h' : Heap}, Fr h0 L h' m → ∀ p ∈ [((57 : Addr), o57), (56, o56)], h'.get? p.1 = some p.2 := by
    intro h' F' p hp
    rcases List.mem_cons.mp hp with rfl | hp
    · exact F'.keep _ _ k57
    · rcases List.mem_cons.mp hp with rfl | hp
      · exact F'.keep _ _ k56
      · cases hp
  refine runS_use 400 [(57, o57), (56, o56)] (seg1 _ _ _ _ _) (hl F) ?_
  refine wpAny_bind (newList_N F N (fun hA FA NA => ?_) (by decide))
  have na : h0.get? s.heap.objs.size = none := NA.fresh (.head _)
  have nL : s.heap.objs.size ≠ L := (NA _ (.head _)).2.1
  have ga : hA.get? s.heap.objs.size = some { cls := .type "list", data := .seq #[] } := NA.get (.head _)
  have nb : ∀ p ∈ news, p.1 ≠ s.heap.objs.size := N.apart
  generalize s.heap.objs.size = a at *
  refine wpAny_pure ⟨Code.quiet_builtin _ (by decide +kernel), codeAny_builtin entry_loop ?_⟩
  refine runS_use 4000 [(57, o57), (56, o56)] (seg2_all (by omega) (by omega) hx _ _ _ _ _) (hl FA) ?_
  refine wpAny_bind (wpAny_updateSeq ga rfl ?_)
  have hsB : Heap.SameBut a hA (hA.update a (Obj.mapSeq (·.push (.bytes #[46, 46] t1)))) := Heap.SameBut.update ..
  have gb : (hA.update a (Obj.mapSeq (·.push (.bytes #[46, 46] t1)))).get? a = some { cls := .type "list", data := .seq #[.bytes #[46, 46] t1] 1 } := by
    first | exact Heap.get?_update_self _ ga rfl | (rw [Heap.get?_update_self _ ga rfl]; rfl)
  have FB := FA.change hsB nL na
  generalize hA.update a (Obj.mapSeq (·.push (.bytes #[46, 46] t1))) = hB at *
  refine wpAny_pure ⟨Code.quiet_builtin _ (by decide +kernel), codeAny_builtin entry_loop ?_⟩
  refine runA_ok 4000 (a := a) (ls := [some (57, o57), some (56, o56), none, none, none, none]) gb ?_ ?_ ?_
  · intro c y hp
    have hc : (c, y) ∈ [((57 : Addr), o57), (56, o56)] := by
      rcases List.mem_cons.mp hp with e | hp
      · cases e; exact .head _
      · rcases List.mem_cons.mp hp with e | hp
        · cases e; exact .tail _ (.head _)
        · simp at hp
    refine ⟨hl FB _ hc, ?_⟩
    rintro rfl
    rcases List.mem_cons.mp hc with e | hc
    · cases e; rw [k57] at na; cases na
    · rcases List.mem_cons.mp hc with e | hc
      · cases e; rw [k56] at na; cases na
      · cases hc
  · rw [seg3_all (by omega) hx]
    intro p hp
    simp only [List.mem_cons, List.not_mem_nil, or_false] at hp
    rcases hp with rfl | rfl | rfl | rfl | rfl | rfl <;> rfl
  · rw [seg3_all (by omega) hx]
    intro hC hs gc
    obtain ⟨k9, gc⟩ : ∃ k9, hC.get? a = some (two n x t1 k9 2) := ⟨_, gc⟩
    dsimp only at hs ⊢
    have FC := FB.change hs nL na
    have NC : News h0 L hC news := fun p hp => ⟨(hs.2 p.1 (nb p hp)).trans ((hsB.2 p.1 (nb p hp)).trans (NA p (.tail _ hp)).1), (N p hp).2⟩
    refine wpAny_bind ?_
    refine call_meetsIn slot_join (typeIs_bytes _ _ _) entry_join (args_join_2 _ _) (S := fun _ R s' => s'.heap = hC ∧ ∀ t tk, R (.ok (.ret (.bytes (bl (n + 2) x) t))) { s' with toks := tk }) ?_ ⟨rfl, ?_⟩
    · intro A' R' s' ⟨e, hq⟩
      refine runS_use 4000 [(a, two n x t1 k9 2), (a, two n x t1 k9 2), (a, two n x t1 k9 2), (a, two n x t1 k9 2), (a, two n x t1 k9 2), (a, two n x t1 k9 2)] (seg4_all (by omega) hx _ _ 2 _ _ _ _) ?_ (wpAny_pure (hq _ _))
      intro p hp
      simp only [List.mem_cons, List.not_mem_nil, or_false, or_self] at hp
      rw [e, hp]
      exact gc
    · intro t tk
      exact wpAny_pure (h hC t tk FC NC)
end MSub
end

section
section
variable {prog : Program} {A : Around} {E : Value → Shared → Prop} {s : Shared} {h0 : Heap} {L : Addr} {m : Str → Option Value} {pl : Sem Bool}
theorem pat_method {Q : Value × List Value → Shared → Prop} (F : Fr h0 L s.heap m) (X : (hd.heap_39 w.params).In h0) (h : Q (.builtin "re.Pattern.sub", [.ref 57]) s) : wpAny (model prog w) A (getMethod (.ref 57) (Str.ofString "sub") pl) Q E s := by
  have e := F.keep _ _ (X _ _ (MSub.at57 w.params))
  exact PySem.getMethod_builtin (T := "re.Pattern") ⟨_, e, rfl⟩ MSub.plain_pat MSub.slot_sub MSub.type_sub (fun a ha => by cases ha; exact ⟨_, e, rfl⟩) h
theorem pat_sub {n : Nat} {x : UInt8} {t1 t2 : Tok} {Q : Value → Shared → Prop} (F : Fr h0 L s.heap m) (X : (hd.heap_39 w.params).In h0) (N : News h0 L s.heap news) (h1 : 1 ≤ n) (h2 : n ≤ 7) (hx : Ltb x)
    (h : ∀ h' t tk, Fr h0 L h' m → News h0 L h' news → Q (.bytes (bd (n + 1) x) t) { s with heap := h', toks := tk }) :
    wpAny (model prog w) A (call (.builtin "re.Pattern.sub") [.ref 57, .bytes #[46, 46] t1, .bytes (bd n x) t2]) Q E s := by
  have e := F.keep _ _ (X _ _ (MSub.at57 w.params))
  obtain ⟨k, rfl⟩ : ∃ k, n = k + 1 := ⟨n - 1, by omega⟩
  have hb : bd (k + 1) x = MSub.bl (k + 1) x := by unfold bd; rfl
  have hb2 : bd (k + 1 + 1) x = MSub.bl (k + 2) x := by unfold bd; rfl
  rw [hb]
  rw [hb2] at h
  exact call_meetsIn MSub.slot_sub ⟨_, e, rfl⟩ MSub.entry_sub (MSub.args_sub_3 _ _ _) (MSub.sub_meets (by omega) hx X) ⟨F, N, h⟩
end
local macro_rules | `(tactic| walk_at "getMethod ref") => `(tactic| (k_here; (with_reducible show wpAny _ _ (getMethod (Value.ref 57) _ _) _ _ _); k_dflt (refine' pat_method ?k1 ?k2 ?_; (case k1 => k_asm); (case k2 => k_asm))))
local macro_rules | `(tactic| walk_at "call builtin:re.Pattern.sub") => `(tactic| (k_here; k_dflt (refine' pat_sub ?k1 ?k2 ?k3 ?k4 ?k5 ?k6 ?_; (case k1 => k_asm); (case k2 => k_asm); (case k3 => k_asm); (case k4 => assumption); (case k5 => assumption); (case k6 => assumption)); intro h' t' tk' F' N'))
theorem quote {n : Nat} {x : UInt8} {t1 : Tok} (h1 : 1 ≤ n) (h2 : n ≤ 7) (hx : Ltb x) :
    Tel w p loose mean mg mb 64 1 [] [.bytes (bd n x) t1] (Bare fun v => ∃ t, v = .bytes (bd (n + 1) x) t) := by
  w_top off
  unfold Tel
  k_fill
  intro rest9 dp9 un9 gd9 cn9 cs9 ad9 ccd9 cl9 ou9 A9 base9 hh9 L9 m9 s9 Q9 E9 B9 F9 X9 N9 S9 T9 hk9 hd9 hu9 hret
  refine wpAny_call ?_
  k_dflt (refine' code_plain ?k1 ?k2 ?k3 ?k4 ?kS ?k5 ?kA ?kF ?kK ?k6 ?k7 ?k8 ?k9 ?kB ?_ ?c2 ?c3 ?c4 ?c5; (case kA => exact rfl); (case kF => exact rfl); (case kK => assumption); (case k1 => k_asm); (case k2 => k_asm); (case k3 => k_asm); (case k4 => exact N9); (case kS => exact S9); (case k5 => k_asm); (case k6 => k_is); (case k7 => k_is); (case k8 => ktr_room); (case k9 => exact BindsTo.of_eq rfl); (case c5 => decide); (case kB => exact locs rfl); (case c2 => exact rfl); (case c3 => exact rfl); (case c4 => exact rfl); k_whole; intro g9 L' h' FG' F' N' R9 B' X' T'; (try dsimp only); (try k_lift B'); (try k_fold))
  k_steps
  (refine' Ret.bare hret ?F ?N ?o; (case F => k_asm); (case N => (refine' comb N9 S9 R9 ?Fk ?Nk ?Sk; (case Fk => assumption); (case Nk => assumption); (case Sk => k_subL))); (case o => exact ⟨_, rfl⟩))
theorem cnt_eq (s : Nat) : ((s + 1 : Nat) : Int) + 1 - 1 = (s : Int) + 1 := by omega
end

section
local macro_rules | `(tactic| walk_at "exec For Name Call cons nil") => `(tactic| (k_here; (rename Fr _ _ _ _ => lF'); (with_unfolding_all refine' For_invVF lF' ?k1 ?k2 ?_; (case k1 => exact rfl); (case k2 => exact rfl); k_whole)))
local macro_rules | `(tactic| walk_at "pyIter ref") => `(tactic| (k_here; (with_reducible show wpAny _ _ (pyIter (Value.ref _)) (fun it s₂ => LoopAtV _ _ _ _ _ _ _ _ _ it s₂) _ _); first
  | k_rangeUnr
  | ((rename Fr _ _ _ _ => lF'); (rename News _ _ _ _ => lN'); (with_unfolding_all refine iter_rangeUnr (by rfl) (by assumption) (small_one (by omega) (by omega) (by omega) (by omega)) (rangeSize_nat _ _) lF' lN' ?_); clear lF' lN')))
local macro_rules | `(tactic| walk_at "eval Name") => `(tactic| (k_here; k_dflt (refine' ld ?k1 ?k2 ?_; (case k1 => k_asm); (case k2 => first | exact rfl | assumption))))
local macro_rules | `(tactic| walk_at "call builtin:len") => `(tactic| (k_here; (with_reducible show wpAny _ _ (call (Value.builtin "len") [Value.bytes _ _]) _ _ _); (with_reducible refine' len_bd ?a ?_; (case a => omega)); intro t' tk'))
local macro_rules | `(tactic| walk_at "call builtin:len") => `(tactic| (k_here; (with_reducible show wpAny _ _ (call (Value.builtin "len") [Value.ref _]) _ _ _); k_dflt (first | (refine' len3 ?a ?b ?_; (case a => k_asm); (case b => k_mem)) | (refine' len2 ?a ?b ?_; (case a => k_asm); (case b => k_mem))); intro t' tk'))
local macro_rules | `(tactic| walk_at "call builtin:bytes.decode") => `(tactic| (k_here; (with_reducible refine' decode_bd ?a ?b ?_; (case a => omega); (case b => exact ltb_any (by first | exact Or.inl rfl | exact Or.inr (Or.inl rfl) | exact Or.inr (Or.inr rfl)))); intro t' tk'))
local macro_rules | `(tactic| tb_rel) => `(tactic| first | exact Pick.here | (refine' Pick.there ?_; tb_rel))
local macro_rules | `(tactic| walk_at "UnrEnd") => `(tactic| (k_here; (refine' unrEnd_pick ?F ?N ?d ?o ?_; (case F => assumption); (case N => assumption); (case d => tb_rel); (case o => k_all))))
local macro_rules | `(tactic| walk_at "call ref") => `(tactic| (k_here; (with_reducible show wpAny _ _ (call (Value.ref 64) _) _ _ _); k_dflt (refine' tel_use (quote ?a1 ?a2 ?a3) ?_); (case a1 => omega); (case a2 => omega); (case a3 => exact ltb_any (by first | exact Or.inl rfl | exact Or.inr (Or.inl rfl) | exact Or.inr (Or.inr rfl))); (refine' Ret.of1 ?_); intro t' h' tk' F' N'; (try dsimp only); (try k_fold); (try k_sweep)))
section
inductive JD3 (lv lr : Addr) (R : List (Addr × Obj)) (v0 v1 v2 : Int) (i : Nat) (m : Str → Option Value) (news : List (Addr × Obj)) : Prop
  | mk (s0 s1 s2 : Nat) (l : Int) (u0 u1 u2 tl : Tok) (nn : Nat) (inv : Inv3 v0 v1 v2 s0 s1 s2 l i) (h1 : m (Str.ofString "votes") = some (.ref lv)) (h2 : m (Str.ofString "rows") = some (.ref lr)) (h3 : m (Str.ofString "last") = some (.int l tl)) (e : news = (lr, listOf #[.bytes (bd (s0 + 1) 97) u0, .bytes (bd (s1 + 1) 98) u1, .bytes (bd (s2 + 1) 99) u2] nn) :: R)
theorem jd3_init {lv lr : Addr} {R : List (Addr × Obj)} {v0 v1 v2 : Int} {m : Str → Option Value} {u0 u1 u2 tl : Tok} {nn : Nat} (h1 : m (Str.ofString "votes") = some (.ref lv)) (h2 : m (Str.ofString "rows") = some (.ref lr)) (h3 : m (Str.ofString "last") = some (.int 0 tl)) :
    JD3 lv lr R v0 v1 v2 0 m ((lr, listOf #[.bytes #[46, 97] u0, .bytes #[46, 98] u1, .bytes #[46, 99] u2] nn) :: R) :=
  ⟨0, 0, 0, 0, u0, u1, u2, tl, nn, inv3_start _ _ _ _, h1, h2, h3, by rw [bd_a, bd_b, bd_c]⟩
theorem jd3_next {lv lr : Addr} {R : List (Addr × Obj)} {v0 v1 v2 l : Int} {i s0 s1 s2 nn : Nat} {m : Str → Option Value} {u0 u1 u2 tl : Tok} (h : Inv3 v0 v1 v2 s0 s1 s2 l i) (h1 : m (Str.ofString "votes") = some (.ref lv)) (h2 : m (Str.ofString "rows") = some (.ref lr)) (h3 : m (Str.ofString "last") = some (.int l tl)) :
    JD3 lv lr R v0 v1 v2 i m ((lr, listOf #[.bytes (bd (s0 + 1) 97) u0, .bytes (bd (s1 + 1) 98) u1, .bytes (bd (s2 + 1) 99) u2] nn) :: R) :=
  ⟨s0, s1, s2, l, u0, u1, u2, tl, nn, h, h1, h2, h3, rfl⟩
inductive DealOut3 (v0 v1 v2 house : Int) (v : Value) (tl : List (Addr × Obj)) : Prop
  | mk (tp rl : Addr) (s0 s1 s2 : Nat) (l : Int) (t u0 u1 u2 : Tok) (k : Nat) (inv : Inv3 v0 v1 v2 s0 s1 s2 l house.toNat) (e1 : v = .ref tp) (e2 : tl = [(tp, { cls := .type "tuple", data := .seq #[.ref rl, .int l t] }), (rl, listOf #[.str (sd (s0 + 1) [97]) u0, .str (sd (s1 + 1) [98]) u1, .str (sd (s2 + 1) [99]) u2] k)])
theorem ret_deal3 {v0 v1 v2 house : Int} {rest all act : List (Addr × Obj)} {hh h h' g : Heap} {L L' : Addr} {m m' : Str → Option Value} {s : Shared} {Q : Value → Shared → Prop} (hret : Ret (DealOut3 v0 v1 v2 house) rest hh L m s Q) {tp rl : Addr} {s0 s1 s2 k tk' : Nat} {l : Int} {t u0 u1 u2 : Tok}
    (N : News hh L h rest) (S : SubL act rest) (R : ∀ p ∈ rest, p.1 ∉ act.map (·.1) → g.get? p.1 = some p.2) (F' : Fr g L' h' m') (Ng : News g L' h' all) (F : Fr hh L h' m) (Nk : News hh L h' all)
    (m1 : (tp, ({ cls := .type "tuple", data := .seq #[.ref rl, .int l t] } : Obj)) ∈ all) (m2 : (rl, listOf #[.str (sd (s0 + 1) [97]) u0, .str (sd (s1 + 1) [98]) u1, .str (sd (s2 + 1) [99]) u2] k) ∈ all) (m3 : SubL act all)
    (a1 : Apart [(tp, ({ cls := .type "tuple", data := .seq #[.ref rl, .int l t] } : Obj)), (rl, listOf #[.str (sd (s0 + 1) [97]) u0, .str (sd (s1 + 1) [98]) u1, .str (sd (s2 + 1) [99]) u2] k)] act) (i : Inv3 v0 v1 v2 s0 s1 s2 l house.toNat) : Q (.ref tp) { s with heap := h', toks := tk' } :=
  hret _ _ _ _ ⟨tp, rl, s0, s1, s2, l, t, u0, u1, u2, k, i, rfl, rfl⟩ F (comb N S R F' Nk ⟨m1, m2, m3⟩) (combA N S R Ng ⟨m1, m2, trivial⟩ a1)
theorem deal3 {lv : Addr} {v0 v1 v2 house : Int} {n : Nat} {t0 t1 t2 t3 : Tok} (h0 : 0 ≤ v0 ∧ v0 ≤ 160) (h1 : 0 ≤ v1 ∧ v1 ≤ 160) (h2 : 0 ≤ v2 ∧ v2 ≤ 160) (hh : 4 ≤ house ∧ house ≤ 7) :
    Tel w p loose mean mg mb 100 2 [(lv, listOf #[.int v0 t0, .int v1 t1, .int v2 t2] n)] [.ref lv, .int house t3] (DealOut3 v0 v1 v2 house) := by
  w_top off
  unfold Tel
  k_fill
  intro rest9 dp9 un9 gd9 cn9 cs9 ad9 ccd9 cl9 ou9 A9 base9 hh9 L9 m9 s9 Q9 E9 B9 F9 X9 N9 S9 T9 hk9 hd9 hu9 hret
  refine wpAny_call ?_
  k_dflt (refine' code_plain ?k1 ?k2 ?k3 ?k4 ?kS ?k5 ?kA ?kF ?kK ?k6 ?k7 ?k8 ?k9 ?kB ?_ ?c2 ?c3 ?c4 ?c5; (case kA => exact rfl); (case kF => exact rfl); (case kK => assumption); (case k1 => k_asm); (case k2 => k_asm); (case k3 => k_asm); (case k4 => exact N9); (case kS => exact S9); (case k5 => k_asm); (case k6 => k_is); (case k7 => k_is); (case k8 => ktr_room); (case k9 => exact BindsTo.of_eq rfl); (case c5 => decide); (case kB => exact locs rfl); (case c2 => exact rfl); (case c3 => exact rfl); (case c4 => exact rfl); k_whole; intro g9 L' h' FG' F' N' R9 B' X' T'; (try dsimp only); (try k_lift B'); (try k_fold))
  k_steps
  rename_i I9 hI9
  k_lt hI9
  refine' rr_ind (J := JD3 _ _ _ v0 v1 v2) ?fin ?step _ 0 _ _ (Nat.zero_add _) ?init
  case init =>
    refine' jd3_init ?a ?b ?c
    case a => rfl
    case b => rfl
    case c => rfl
  case step =>
    rintro i m news hi ⟨s0, s1, s2, l, u0, u1, u2, tl, nn, hinv, hm1, hm2, hm3, rfl⟩ t h tk F' N'
    have h6 : s0 + s1 + s2 ≤ 6 := by have := hinv.1; omega
    clear hi hh
    k_steps
    all_goals simp only [cnt_eq] at *
    all_goals first
      | exact jd3_next (inv3_21 h0.1 h1.1 h2.1 hinv (by assumption) (by assumption)) hm1 hm2 rfl
      | exact jd3_next (inv3_1 h0.1 h1.1 h2.1 hinv (by assumption) (Int.not_lt.mp (by assumption))) hm1 hm2 rfl
      | exact jd3_next (inv3_20 h0.1 h1.1 h2.1 hinv (Int.not_lt.mp (by assumption)) (by assumption)) hm1 hm2 rfl
      | exact jd3_next (inv3_0 h0.1 h1.1 h2.1 hinv (Int.not_lt.mp (by assumption)) (Int.not_lt.mp (by assumption))) hm1 hm2 rfl
  case fin =>
    rintro m news ⟨s0, s1, s2, l, u0, u1, u2, tl, nn, hinv, hm1, hm2, hm3, rfl⟩ h tk F' N'
    have h7 : s0 + s1 + s2 ≤ 7 := by have := hinv.1; omega
    clear hh
    dsimp only
    k_steps
    refine' ret_deal3 hret N9 S9 R9 ?Fg ?Ng ?F ?Nk ?m1 ?m2 ?m3 ?a1 ?i
    case Fg => assumption
    case Ng => assumption
    case F => k_asm
    case Nk => assumption
    case m1 => k_mem
    case m2 => k_mem
    case m3 => k_subL
    case a1 => (simp only [Apart, OffA, and_true]; (repeat' apply And.intro) <;> ktr_rel)
    case i => (rw [show house.toNat = (house - 0).toNat by omega]; exact hinv)
end

section
local macro_rules | `(tactic| walk_at "pad") => `(tactic| fail)
def Inv2 (v0 v1 : Int) (s0 s1 i : Nat) : Prop := s0 + s1 = i ∧ (s0 = 0 ∨ Level v0 s0 v1 (s1 + 1)) ∧ (s1 = 0 ∨ Ahead v1 s1 v0 (s0 + 1))
theorem inv2_0 {v0 v1 : Int} {s0 s1 i : Nat} (p0 : 0 ≤ v0) (p1 : 0 ≤ v1) (h : Inv2 v0 v1 s0 s1 i) (c1 : v1 * (s0 + 1) ≤ v0 * (s1 + 1)) : Inv2 v0 v1 (s0 + 1) s1 (i + 1) := by
  obtain ⟨hs, a1, a2⟩ := h
  simp only [Ahead, Level, Int.natCast_add, Int.mul_add, Int.mul_one, Int.natCast_one] at *
  refine ⟨by omega, ?_, ?_⟩ <;> (simp only [Ahead, Level, Int.natCast_add, Int.mul_add, Int.mul_one, Int.natCast_one]; omega)
theorem inv2_1 {v0 v1 : Int} {s0 s1 i : Nat} (p0 : 0 ≤ v0) (p1 : 0 ≤ v1) (h : Inv2 v0 v1 s0 s1 i) (c1 : v1 * (s0 + 1) > v0 * (s1 + 1)) : Inv2 v0 v1 s0 (s1 + 1) (i + 1) := by
  obtain ⟨hs, a1, a2⟩ := h
  simp only [Ahead, Level, Int.natCast_add, Int.mul_add, Int.mul_one, Int.natCast_one] at *
  refine ⟨by omega, ?_, ?_⟩ <;> (simp only [Ahead, Level, Int.natCast_add, Int.mul_add, Int.mul_one, Int.natCast_one]; omega)
inductive JD2 (lv lr : Addr) (R : List (Addr × Obj)) (v0 v1 : Int) (i : Nat) (m : Str → Option Value) (news : List (Addr × Obj)) : Prop
  | mk (s0 s1 : Nat) (l : Int) (u0 u1 tl : Tok) (nn : Nat) (inv : Inv2 v0 v1 s0 s1 i) (h1 : m (Str.ofString "votes") = some (.ref lv)) (h2 : m (Str.ofString "rows") = some (.ref lr)) (h3 : m (Str.ofString "last") = some (.int l tl)) (e : news = (lr, listOf #[.bytes (bd (s0 + 1) 97) u0, .bytes (bd (s1 + 1) 98) u1] nn) :: R)
theorem jd2_init {lv lr : Addr} {R : List (Addr × Obj)} {v0 v1 : Int} {m : Str → Option Value} {u0 u1 tl : Tok} {nn : Nat} (h1 : m (Str.ofString "votes") = some (.ref lv)) (h2 : m (Str.ofString "rows") = some (.ref lr)) (h3 : m (Str.ofString "last") = some (.int 0 tl)) :
    JD2 lv lr R v0 v1 0 m ((lr, listOf #[.bytes #[46, 97] u0, .bytes #[46, 98] u1] nn) :: R) :=
  ⟨0, 0, 0, u0, u1, tl, nn, ⟨rfl, .inl rfl, .inl rfl⟩, h1, h2, h3, by rw [bd_a, bd_b]⟩
theorem jd2_next {lv lr : Addr} {R : List (Addr × Obj)} {v0 v1 l : Int} {i s0 s1 nn : Nat} {m : Str → Option Value} {u0 u1 tl : Tok} (h : Inv2 v0 v1 s0 s1 i) (h1 : m (Str.ofString "votes") = some (.ref lv)) (h2 : m (Str.ofString "rows") = some (.ref lr)) (h3 : m (Str.ofString "last") = some (.int l tl)) :
    JD2 lv lr R v0 v1 i m ((lr, listOf #[.bytes (bd (s0 + 1) 97) u0, .bytes (bd (s1 + 1) 98) u1] nn) :: R) :=
  ⟨s0, s1, l, u0, u1, tl, nn, h, h1, h2, h3, rfl⟩
inductive DealOut2 (v0 v1 house : Int) (v : Value) (tl : List (Addr × Obj)) : Prop
  | mk (tp rl : Addr) (s0 s1 : Nat) (l : Int) (t u0 u1 : Tok) (k : Nat) (inv : Inv2 v0 v1 s0 s1 house.toNat) (e1 : v = .ref tp) (e2 : tl = [(tp, { cls := .type "tuple", data := .seq #[.ref rl, .int l t] }), (rl, listOf #[.str (sd (s0 + 1) [97]) u0, .str (sd (s1 + 1) [98]) u1] k)])
theorem ret_deal2 {v0 v1 house : Int} {rest all act : List (Addr × Obj)} {hh h h' g : Heap} {L L' : Addr} {m m' : Str → Option Value} {s : Shared} {Q : Value → Shared → Prop} (hret : Ret (DealOut2 v0 v1 house) rest hh L m s Q) {tp rl : Addr} {s0 s1 k tk' : Nat} {l : Int} {t u0 u1 : Tok}
    (N : News hh L h rest) (S : SubL act rest) (R : ∀ p ∈ rest, p.1 ∉ act.map (·.1) → g.get? p.1 = some p.2) (F' : Fr g L' h' m') (Ng : News g L' h' all) (F : Fr hh L h' m) (Nk : News hh L h' all)
    (m1 : (tp, ({ cls := .type "tuple", data := .seq #[.ref rl, .int l t] } : Obj)) ∈ all) (m2 : (rl, listOf #[.str (sd (s0 + 1) [97]) u0, .str (sd (s1 + 1) [98]) u1] k) ∈ all) (m3 : SubL act all)
    (a1 : Apart [(tp, ({ cls := .type "tuple", data := .seq #[.ref rl, .int l t] } : Obj)), (rl, listOf #[.str (sd (s0 + 1) [97]) u0, .str (sd (s1 + 1) [98]) u1] k)] act) (i : Inv2 v0 v1 s0 s1 house.toNat) : Q (.ref tp) { s with heap := h', toks := tk' } :=
  hret _ _ _ _ ⟨tp, rl, s0, s1, l, t, u0, u1, k, i, rfl, rfl⟩ F (comb N S R F' Nk ⟨m1, m2, m3⟩) (combA N S R Ng ⟨m1, m2, trivial⟩ a1)
theorem deal2 {lv : Addr} {v0 v1 house : Int} {n : Nat} {t0 t1 t3 : Tok} (h0 : 0 ≤ v0 ∧ v0 ≤ 160) (h1 : 0 ≤ v1 ∧ v1 ≤ 160) (hh : 4 ≤ house ∧ house ≤ 7) :
    Tel w p loose mean mg mb 100 2 [(lv, listOf #[.int v0 t0, .int v1 t1] n)] [.ref lv, .int house t3] (DealOut2 v0 v1 house) := by
  w_top off
  unfold Tel
  k_fill
  intro rest9 dp9 un9 gd9 cn9 cs9 ad9 ccd9 cl9 ou9 A9 base9 hh9 L9 m9 s9 Q9 E9 B9 F9 X9 N9 S9 T9 hk9 hd9 hu9 hret
  refine wpAny_call ?_
  k_dflt (refine' code_plain ?k1 ?k2 ?k3 ?k4 ?kS ?k5 ?kA ?kF ?kK ?k6 ?k7 ?k8 ?k9 ?kB ?_ ?c2 ?c3 ?c4 ?c5; (case kA => exact rfl); (case kF => exact rfl); (case kK => assumption); (case k1 => k_asm); (case k2 => k_asm); (case k3 => k_asm); (case k4 => exact N9); (case kS => exact S9); (case k5 => k_asm); (case k6 => k_is); (case k7 => k_is); (case k8 => ktr_room); (case k9 => exact BindsTo.of_eq rfl); (case c5 => decide); (case kB => exact locs rfl); (case c2 => exact rfl); (case c3 => exact rfl); (case c4 => exact rfl); k_whole; intro g9 L' h' FG' F' N' R9 B' X' T'; (try dsimp only); (try k_lift B'); (try k_fold))
  k_steps
  rename_i I9 hI9
  k_lt hI9
  refine' rr_ind (J := JD2 _ _ _ v0 v1) ?fin ?step _ 0 _ _ (Nat.zero_add _) ?init
  case init =>
    refine' jd2_init ?a ?b ?c
    case a => rfl
    case b => rfl
    case c => rfl
  case step =>
    rintro i m news hi ⟨s0, s1, l, u0, u1, tl, nn, hinv, hm1, hm2, hm3, rfl⟩ t h tk F' N'
    have h6 : s0 + s1 ≤ 6 := by have := hinv.1; omega
    clear hi hh
    k_steps
    all_goals simp only [cnt_eq] at *
    all_goals first
      | exact jd2_next (inv2_1 h0.1 h1.1 hinv (by assumption)) hm1 hm2 rfl
      | exact jd2_next (inv2_0 h0.1 h1.1 hinv (Int.not_lt.mp (by assumption))) hm1 hm2 rfl
  case fin =>
    rintro m news ⟨s0, s1, l, u0, u1, tl, nn, hinv, hm1, hm2, hm3, rfl⟩ h tk F' N'
    have h7 : s0 + s1 ≤ 7 := by have := hinv.1; omega
    clear hh
    dsimp only
    k_steps
    refine' ret_deal2 hret N9 S9 R9 ?Fg ?Ng ?F ?Nk ?m1 ?m2 ?m3 ?a1 ?i
    case Fg => assumption
    case Ng => assumption
    case F => k_asm
    case Nk => assumption
    case m1 => k_mem
    case m2 => k_mem
    case m3 => k_subL
    case a1 => (simp only [Apart, OffA, and_true]; (repeat' apply And.intro) <;> ktr_rel)
    case i => (rw [show house.toNat = (house - 0).toNat by omega]; exact hinv)
end

end

section
local macro_rules | `(tactic| walk_at "subscriptTail Name Slice str ref") => `(tactic| (k_here; (with_reducible rename Fr _ _ _ _ => F'); (with_reducible rename News _ _ _ _ => N'); (first
  | ((with_reducible show wpAny _ _ (subscriptTail _ (Expr.Slice (some _) none none _) _ _) _ _ _); k_dflt (refine' slice_sn (s := ⟨_, _, _, _, _⟩) F' N' ?e ?_; (case e => first | with_reducible exact sl_from0 (by omega) (by omega) (by omega) | with_reducible exact sl_from (by omega) (by assumption) (by omega) (by omega))))
  | ((with_reducible show wpAny _ _ (subscriptTail _ (Expr.Slice none (some _) none _) _ _) _ _ _); (first
    | (with_reducible refine' slice_nn (s := ⟨_, _, _, _, _⟩) F' N' ?e ?_; (case e => first | with_reducible exact sl_all0 (by omega) | with_reducible exact sl_all (by omega) (by assumption)))
    | (with_reducible refine' slice_ns (s := ⟨_, _, _, _, _⟩) F' N' ?e ?_; (case e => with_reducible exact sl_but (by omega) (by assumption)))
    | k_dflt (refine' slice_nn (s := ⟨_, _, _, _, _⟩) F' N' ?e ?_; (case e => first | with_reducible exact sl_all0 (by omega) | with_reducible exact sl_all (by omega) (by assumption)))
    | k_dflt (refine' slice_ns (s := ⟨_, _, _, _, _⟩) F' N' ?e ?_; (case e => with_reducible exact sl_but (by omega) (by assumption)))))
  | ((with_reducible show wpAny _ _ (subscriptTail _ (Expr.Slice (some _) (some _) none _) _ _) _ _ _); k_dflt (refine' slice_ss (s := ⟨_, _, _, _, _⟩) F' N' ?e ?_; (case e => with_reducible exact sl_mid (by omega) (by assumption))))); intro h' t' tk' F' N'; (try k_sweep)))
local macro_rules | `(tactic| walk_at "truthy str") => `(tactic| (k_here; k_dflt (first | refine' truthy_yes ?_ | refine' truthy_no ?_); intro tk'))
local macro_rules | `(tactic| walk_at "subscriptTail Name Name str int") => `(tactic| (k_here; k_dflt (refine' item_sd ?e ?_; (case e => first | with_reducible exact it_dot0 (by omega) (by omega) (by omega) | with_reducible exact it_dot (by omega) (by assumption) (by omega) (by omega) | with_reducible exact it_end (by omega) (by assumption) (by omega) | with_reducible exact it_neg (by omega) (by assumption) (by omega))); intro t' tk'))
local macro_rules | `(tactic| walk_at "subscriptTail Name BinOp str int") => `(tactic| (k_here; k_dflt (refine' item_sd ?e ?_; (case e => first | with_reducible exact it_dot0 (by omega) (by omega) (by omega) | with_reducible exact it_neg (by omega) (by assumption) (by omega) | with_reducible exact it_dot (by omega) (by assumption) (by omega) (by omega))); intro t' tk'))
local macro_rules | `(tactic| walk_at "compareOp Eq str str") => `(tactic| (k_here; k_dflt (refine' eq_mine ?e ?_; (case e => first | with_reducible exact sd_ne (by omega) | with_reducible exact dot_ne (by assumption) | with_reducible exact let_ne (by assumption) | with_reducible exact str_refl _))))
local macro_rules | `(tactic| walk_at "call builtin:len") => `(tactic| (k_here; (with_reducible show wpAny _ _ (call (Value.builtin "len") [Value.str _ _]) _ _ _); (first | (with_reducible refine' len_nil ?a ?_; (case a => omega)) | (with_reducible refine' len_ltr ?a ?b ?_; (case a => omega); (case b => assumption))); intro t' tk'))
section
local macro_rules | `(tactic| walk_at "exec While") => `(tactic| (k_here; (with_reducible show wpAny _ _ (exec (Stmt.While _ [Stmt.AugAssign _ Operator.Add _ _] _ _) _) _ _ _); k_dflt (refine' while_up (i := Str.ofString "pre") ?u ?F ?N ?h ?k (fun k' t' h' tk' hlo' hhi' F' N' => ?_) (fun t' h' tk' F' N' => ?_) ?e; (case u => assumption); (case F => k_asm); (case N => k_asm); (case h => rfl); (case k => omega); (case e => passes_own))))
local macro_rules | `(tactic| walk_at "exec While") => `(tactic| (k_here; (with_reducible show wpAny _ _ (exec (Stmt.While _ [Stmt.AugAssign _ Operator.Sub _ _] _ _) _) _ _ _); k_dflt (refine' while_down (i := Str.ofString "post") ?u ?F ?N ?h ?k (fun k' t' h' tk' hlo' hhi' F' N' => ?_) (fun t' h' tk' F' N' => ?_) ?e; (case u => assumption); (case F => k_asm); (case N => k_asm); (case h => rfl); (case k => omega); (case e => passes_own))))
theorem levA {m : Nat} {o : List Nat} {mc : Int} {t1 t2 t3 : Tok} (hm : 2 ≤ m) (hm2 : m ≤ 9) (ho : Ltr o) :
    Tel w p loose mean mg mb 78 2 [] [.str (sd m o) t1, .str (sd 1 o) t2, .int mc t3] (Bare fun v => ∃ t, v = .int (2 * ((m : Int) - 1)) t) := by
  have hup : UpTo 1 := ⟨⟩
  have hdn : DownTo (-1) := ⟨⟩
  have hlo := ltr_len ho
  w_top off
  unfold Tel
  k_fill
  intro rest9 dp9 un9 gd9 cn9 cs9 ad9 ccd9 cl9 ou9 A9 base9 hh9 L9 m9 s9 Q9 E9 B9 F9 X9 N9 S9 T9 hk9 hd9 hu9 hret
  refine wpAny_call ?_
  k_dflt (refine' code_plain ?k1 ?k2 ?k3 ?k4 ?kS ?k5 ?kA ?kF ?kK ?k6 ?k7 ?k8 ?k9 ?kB ?_ ?c2 ?c3 ?c4 ?c5; (case kA => exact rfl); (case kF => exact rfl); (case kK => assumption); (case k1 => k_asm); (case k2 => k_asm); (case k3 => k_asm); (case k4 => exact N9); (case kS => exact S9); (case k5 => k_asm); (case k6 => k_is); (case k7 => k_is); (case k8 => ktr_room); (case k9 => exact BindsTo.of_eq rfl); (case c5 => decide); (case kB => exact locs rfl); (case c2 => exact rfl); (case c3 => exact rfl); (case c4 => exact rfl); k_whole; intro g9 L' h' FG' F' N' R9 B' X' T'; (try dsimp only); (try k_lift B'); (try k_fold))
  k_steps
  (refine' Ret.bare hret ?F ?N ?o; (case F => k_asm); (case N => (refine' comb N9 S9 R9 ?Fk ?Nk ?Sk; (case Fk => assumption); (case Nk => assumption); (case Sk => k_subL))); (case o => exact ⟨_, by rw [show ((m - Int.toNat 1 : Nat) : Int) + ((1 - Int.toNat 1 : Nat) : Int) = (m : Int) - 1 by omega]⟩))
theorem levB {q9 : Nat} {mc : Int} {t1 t2 t3 : Tok} (hm : 1 ≤ q9) (hm2 : q9 ≤ 9) :
    Tel w p loose mean mg mb 78 2 [] [.str (sd q9 []) t1, .str (sd (q9 + 1) []) t2, .int mc t3] (Bare fun v => ∃ t, v = .int 2 t) := by
  have hup : UpTo (q9 : Int) := ⟨⟩
  have hdn : DownTo 0 := ⟨⟩
  w_top off
  unfold Tel
  k_fill
  intro rest9 dp9 un9 gd9 cn9 cs9 ad9 ccd9 cl9 ou9 A9 base9 hh9 L9 m9 s9 Q9 E9 B9 F9 X9 N9 S9 T9 hk9 hd9 hu9 hret
  refine wpAny_call ?_
  k_dflt (refine' code_plain ?k1 ?k2 ?k3 ?k4 ?kS ?k5 ?kA ?kF ?kK ?k6 ?k7 ?k8 ?k9 ?kB ?_ ?c2 ?c3 ?c4 ?c5; (case kA => exact rfl); (case kF => exact rfl); (case kK => assumption); (case k1 => k_asm); (case k2 => k_asm); (case k3 => k_asm); (case k4 => exact N9); (case kS => exact S9); (case k5 => k_asm); (case k6 => k_is); (case k7 => k_is); (case k8 => ktr_room); (case k9 => exact BindsTo.of_eq rfl); (case c5 => decide); (case kB => exact locs rfl); (case c2 => exact rfl); (case c3 => exact rfl); (case c4 => exact rfl); k_whole; intro g9 L' h' FG' F' N' R9 B' X' T'; (try dsimp only); (try k_lift B'); (try k_fold))
  k_steps
  (refine' Ret.bare hret ?F ?N ?o; (case F => k_asm); (case N => (refine' comb N9 S9 R9 ?Fk ?Nk ?Sk; (case Fk => assumption); (case Nk => assumption); (case Sk => k_subL))); (case o => exact ⟨_, by rw [show (2 : Int) * (((q9 - ((q9 : Int)).toNat : Nat) : Int) + ((q9 + 1 - ((q9 : Int)).toNat : Nat) : Int)) = 2 by omega]⟩))
theorem levE {m : Nat} {o : List Nat} {mc : Int} {t1 t2 t3 : Tok} :
    Tel w p loose mean mg mb 78 2 [] [.str (sd m o) t1, .str (sd m o) t2, .int mc t3] (Bare fun v => ∃ t, v = .int 0 t) := by
  w_top off
  unfold Tel
  k_fill
  intro rest9 dp9 un9 gd9 cn9 cs9 ad9 ccd9 cl9 ou9 A9 base9 hh9 L9 m9 s9 Q9 E9 B9 F9 X9 N9 S9 T9 hk9 hd9 hu9 hret
  refine wpAny_call ?_
  k_dflt (refine' code_plain ?k1 ?k2 ?k3 ?k4 ?kS ?k5 ?kA ?kF ?kK ?k6 ?k7 ?k8 ?k9 ?kB ?_ ?c2 ?c3 ?c4 ?c5; (case kA => exact rfl); (case kF => exact rfl); (case kK => assumption); (case k1 => k_asm); (case k2 => k_asm); (case k3 => k_asm); (case k4 => exact N9); (case kS => exact S9); (case k5 => k_asm); (case k6 => k_is); (case k7 => k_is); (case k8 => ktr_room); (case k9 => exact BindsTo.of_eq rfl); (case c5 => decide); (case kB => exact locs rfl); (case c2 => exact rfl); (case c3 => exact rfl); (case c4 => exact rfl); k_whole; intro g9 L' h' FG' F' N' R9 B' X' T'; (try dsimp only); (try k_lift B'); (try k_fold))
  k_steps
  (refine' Ret.bare hret ?F ?N ?o; (case F => k_asm); (case N => (refine' comb N9 S9 R9 ?Fk ?Nk ?Sk; (case Fk => assumption); (case Nk => assumption); (case Sk => k_subL))); (case o => exact ⟨_, rfl⟩))
theorem lev_row {k : Nat} {o : List Nat} {mc : Int} {t1 t2 t3 : Tok} (hk : k ≤ 8) (ho : Ltr o) :
    Tel w p loose mean mg mb 78 2 [] [.str (sd (k + 1) o) t1, .str (sd 1 o) t2, .int mc t3] (Bare fun v => ∃ t, v = .int (2 * (k : Int)) t) := by
  by_cases h : k = 0
  · subst h
    exact levE
  · have := levA (w := w) (p := p) (loose := loose) (mean := mean) (mg := mg) (mb := mb) (m := k + 1) (o := o) (mc := mc) (t1 := t1) (t2 := t2) (t3 := t3) (by omega) (by omega) ho
    rw [show (2 : Int) * (((k + 1 : Nat) : Int) - 1) = 2 * (k : Int) by omega] at this
    exact this
theorem lev_dots {a b : Nat} {mc : Int} {t1 t2 t3 : Tok} (ha : 1 ≤ a) (ha2 : a ≤ 9) (h : b = a ∨ b = a + 1) :
    Tel w p loose mean mg mb 78 2 [] [.str (sd a []) t1, .str (sd b []) t2, .int mc t3] (Bare fun v => ∃ t, v = .int (2 * ((b : Int) - a)) t) := by
  rcases h with rfl | rfl
  · rw [show (2 : Int) * ((b : Int) - b) = 0 by omega]
    exact levE
  · rw [show (2 : Int) * (((a + 1 : Nat) : Int) - a) = 2 by omega]
    exact levB ha ha2
end

local macro_rules | `(tactic| walk_at "call ref") => `(tactic| ((first
  | (k_here; (with_reducible show wpAny _ _ (call (Value.ref 78) _) _ _ _); k_dflt (refine' tel_use (lev_row ?a1 ?a2) ?_); (case a1 => omega); (case a2 => first | assumption | exact Or.inl rfl | exact Or.inr (Or.inl rfl) | exact Or.inr (Or.inr rfl)))
  | (k_here; (with_reducible show wpAny _ _ (call (Value.ref 78) _) _ _ _); k_dflt (refine' tel_use (lev_dots ?a1 ?a2 ?a3) ?_); (case a1 => omega); (case a2 => omega); (case a3 => omega))); (refine' Ret.of1 ?_); intro t' h' tk' F' N'; (try dsimp only); (try k_fold); (try k_sweep)))
section
def at3n (a b c : Nat) (i : Nat) : Nat := if i = 0 then a else if i = 1 then b else c
theorem add_dot {prog : Program} {A : Around} {E : Value → Shared → Prop} {s : Shared} {Q : Value → Shared → Prop} {x : Nat} {t u : Tok} (h0 : x = 97 ∨ x = 98 ∨ x = 99) (h : ∀ t tk, Q (.str (sd 1 [x]) t) { s with toks := tk }) : wpAny (model prog w) A (binaryOp .Add (.str (Str.ofString ".") t) (.str ⟨#[x]⟩ u)) Q E s := by
  have e : Str.ofString "." ++ (⟨#[x]⟩ : Str) = sd 1 [x] := by rcases h0 with rfl | rfl | rfl <;> decide +kernel
  have hz : (Str.ofString ".").length + (⟨#[x]⟩ : Str).length ≤ sizeLine := by rcases h0 with rfl | rfl | rfl <;> decide +kernel
  refine PyProof.Rows.add_str (fun t' tk => ?_) hz
  rw [e]
  exact h t' tk
theorem dbl_half (n : Nat) : Int.fdiv (2 * (n : Int)) 2 = n := by rw [Int.fdiv_eq_ediv_of_nonneg _ (by omega)]; omega
theorem abc_at {i : Nat} (h : i < 3) : Txt.item (Str.ofString "abc") (0 + (i : Int)) = ⟨#[97 + i]⟩ := (show ∀ i : Fin 3, Txt.item (Str.ofString "abc") (0 + (i.val : Int)) = ⟨#[97 + i.val]⟩ by decide +kernel) ⟨i, h⟩
theorem abc_ltr {i : Nat} (h : i < 3) : Ltr [97 + i] := by
  rcases i with _ | _ | _ | i
  · exact Or.inl rfl
  · exact Or.inr (Or.inl rfl)
  · exact Or.inr (Or.inr rfl)
  · omega
theorem abc_num {i : Nat} (h : i < 3) : 97 + i = 97 ∨ 97 + i = 98 ∨ 97 + i = 99 := by omega
theorem item_row {prog : Program} {A : Around} {E : Value → Shared → Prop} {s : Shared} {h₀ : Heap} {L l : Addr} {value slice : PySem.Expr} {s0 s1 s2 : Nat} {t0 t1 t2 : Tok} {n i : Nat} {u : Tok} {Q : Value → Shared → Prop} (N : News h₀ L s.heap news) (hm : (l, listOf #[.str (sd (s0 + 1) [97]) t0, .str (sd (s1 + 1) [98]) t1, .str (sd (s2 + 1) [99]) t2] n) ∈ news) (h1 : i < 3) (h : ∀ t, Q (.str (sd (at3n s0 s1 s2 i + 1) [97 + i]) t) s)
    (hs : ∀ k : Int, subscripted slice false (.ref l) (.int k u) = operate [.ref l, .int k u] (getItem (.ref l) (.int k u))) : wpAny (model prog w) A (subscriptTail value slice (.ref l) (.int (0 + (i : Int)) u)) Q E s := by
  rcases i with _ | _ | _ | i
  · exact item_mine (vs := [.str (sd (s0 + 1) [97]) t0, .str (sd (s1 + 1) [98]) t1, .str (sd (s2 + 1) [99]) t2]) N hm (by decide) (by decide) rfl (h t0) (hs _)
  · exact item_mine (vs := [.str (sd (s0 + 1) [97]) t0, .str (sd (s1 + 1) [98]) t1, .str (sd (s2 + 1) [99]) t2]) N hm (by decide) (by decide) rfl (h t1) (hs _)
  · exact item_mine (vs := [.str (sd (s0 + 1) [97]) t0, .str (sd (s1 + 1) [98]) t1, .str (sd (s2 + 1) [99]) t2]) N hm (by decide) (by decide) rfl (h t2) (hs _)
  · omega
theorem add_abc {prog : Program} {A : Around} {E : Value → Shared → Prop} {s : Shared} {Q : Value → Shared → Prop} {i : Nat} {t u : Tok} (hi : i < 3) (h : ∀ t tk, Q (.str (sd 1 [97 + i]) t) { s with toks := tk }) : wpAny (model prog w) A (binaryOp .Add (.str (Str.ofString ".") t) (.str (Txt.item (Str.ofString "abc") (0 + (i : Int))) u)) Q E s := by
  rw [abc_at hi]
  exact add_dot (abc_num hi) h
def Hold4 (P : Prop) : Prop := P
theorem hold4 {P : Prop} (h : Hold4 P) : P := h
theorem unhold4 {P : Prop} (h : P) : Hold4 P := h
local macro_rules | `(tactic| walk_at "eval ListComp") => `(tactic| (k_here; k_dflt (refine LCg.ListComp_U (F₀ := by k_asm) (by with_unfolding_all rfl) (by decide) (by rfl) (by decide) (by rfl) ?_)))
local macro_rules | `(tactic| walk_at "CompSrc") => `(tactic| refine hold4 ?_)
local macro_rules | `(tactic| walk_at "CompEnd") => `(tactic| refine hold4 ?_)
local macro_rules | `(tactic| walk_at "subscriptTail Name Name ref int") => `(tactic| (k_here; k_dflt (refine' item_row ?N ?m ?a ?_ ?s; (case N => k_asm); (case m => k_mem); (case a => assumption); (case s => intro _; with_unfolding_all rfl)); intro t'))
local macro_rules | `(tactic| walk_at "binaryOp Add str str") => `(tactic| (k_here; k_dflt (refine' add_abc ?e ?_; (case e => assumption)); intro t' tk'))
theorem seats {lr : Addr} {s0 s1 s2 k : Nat} {house : Int} {u0 u1 u2 t3 : Tok} (hs : s0 + s1 + s2 ≤ 7) (hh : 4 ≤ house ∧ house ≤ 7) :
    Tel w p loose mean mg mb 105 3 [(lr, listOf #[.str (sd (s0 + 1) [97]) u0, .str (sd (s1 + 1) [98]) u1, .str (sd (s2 + 1) [99]) u2] k)] [.ref lr, .int house t3] (One fun o => ∃ k t u v, o = listOf #[.int s0 t, .int s1 u, .int s2 v] k) := by
  w_top off
  unfold Tel
  k_fill
  intro rest9 dp9 un9 gd9 cn9 cs9 ad9 ccd9 cl9 ou9 A9 base9 hh9 L9 m9 s9 Q9 E9 B9 F9 X9 N9 S9 T9 hk9 hd9 hu9 hret
  refine wpAny_call ?_
  k_dflt (refine' code_cells ?k1 ?k2 ?k3 ?k4 ?kS ?k5 ?kA ?kF ?kK ?k6 ?k7 ?k8 ?k9 ?kB ?kD ?_ ?c2 ?c3 ?c4; (case kA => exact rfl); (case kF => exact rfl); (case kK => assumption); (case k1 => k_asm); (case k2 => k_asm); (case k3 => k_asm); (case k4 => exact N9); (case kS => exact S9); (case k5 => k_asm); (case k6 => k_is); (case k7 => k_is); (case k8 => ktr_room); (case k9 => exact BindsTo.of_eq rfl); (case kB => exact rfl); (case kD => decide +kernel); (case c2 => exact rfl); (case c3 => exact rfl); (case c4 => exact rfl); k_whole; intro g9 L' h' tk' cells' FG' F' N' Y' R9 B' X' T' l1; (try k_lt l1); k_cells Y'; (try simp only [List.cons_append, List.nil_append] at N'); (try dsimp only); (try k_lift B'); (try k_fold))
  k_steps
  refine unhold4 ?_
  refine LCg.CompSrc.range (by rfl) (by k_asm) (by k_asm) (by assumption) (by first | decide | rfl) (by first | rfl | decide) (n := 3) (by first | size_fits | exact Nat.le_of_ble_eq_true rfl) ?_
  intro g'
  refine C2.comp_ind (J := JPick (fun i => [Int.fdiv (2 * (at3n s0 s1 s2 i : Int)) 2]) _) ?ofin ?ostep _ 0 [] _ (Nat.zero_add _) ⟨rfl, .nil⟩
  case ostep =>
    rintro i ys nw hi ⟨rfl, hnum⟩ v I oI C oC D m₂ h tk E' ⟨t9, rfl⟩ hC hx F' N' off ne
    have hl := abc_ltr hi
    have h8 : at3n s0 s1 s2 i ≤ 8 := by unfold at3n; split <;> (try split) <;> omega
    k_steps
    refine unhold4 ?_
    exact pick_end (by k_asm) (by k_asm) off ⟨rfl, hnum⟩ rfl
  rintro ys nw ⟨rfl, hnum⟩
  obtain ⟨y0, y1, y2, rfl⟩ := ints3 hnum
  unfold LCg.FinE
  intro D h tk F' N' o1
  (try dsimp only)
  k_steps
  (refine' Ret.one hret ?F ?N ?l ?o; (case F => k_asm); (case N => (refine' comb N9 S9 R9 ?Fk ?Nk ?Sk; (case Fk => assumption); (case Nk => assumption); (case Sk => k_subL))); (case l => (refine' combA N9 S9 R9 ?Nm ?Sm ?Am; (case Nm => assumption); (case Sm => k_subL); (case Am => first | (simp only [Apart, OffA, and_true]; done) | (simp only [Apart, OffA, and_true]; (repeat' apply And.intro) <;> ktr_rel)))); (case o => exact lst3_eq (dbl_half _) (dbl_half _) (dbl_half _)))
end

section
theorem add_dots {prog : Program} {A : Around} {E : Value → Shared → Prop} {s : Shared} {Q : Value → Shared → Prop} {a b : Nat} {t u : Tok} (ha : a < 12) (hb : b < 12) (h : ∀ t tk, Q (.str (sd (a + b) []) t) { s with toks := tk }) :
    wpAny (model prog w) A (binaryOp .Add (.str (sd a []) t) (.str (sd b []) u)) Q E s := by
  have e : sd a [] ++ sd b [] = sd (a + b) [] := by
    have key : ∀ x y : Fin 12, sd x.val [] ++ sd y.val [] = sd (x.val + y.val) [] := by decide +kernel
    exact key ⟨a, ha⟩ ⟨b, hb⟩
  refine PyProof.Rows.add_str (fun t' tk => ?_) (by rw [sd_len, sd_len, sizeLine_eq]; simp; omega)
  rw [e]
  exact h t' tk
structure JoinL (va vb house : Int) (k : Nat) : Prop where
  f : ∀ x y, Inv2 va vb x y house.toNat → (x = k ∨ x = k + 1) ∧ x ≤ 7
structure JoinR (va vb house : Int) (k : Nat) : Prop where
  f : ∀ x y, Inv2 va vb x y house.toNat → (y = k ∨ y = k + 1) ∧ y ≤ 7
local macro_rules | `(tactic| walk_at "call ref") => `(tactic| (k_here; (with_reducible show wpAny _ _ (call (Value.ref 100) _) _ _ _); k_dflt (refine' tel_use (deal2 ?a1 ?a2 ?a3) ?_); (case a1 => omega); (case a2 => omega); (case a3 => assumption); intro v' tl' h' tk' ho' F' N' l1; (obtain ⟨tp', rl', x0', x1', l', t', u0', u1', k', inv', e1', e2'⟩ := ho'); (subst e1'); (subst e2'); (first | (have hj' := JoinL.f (by assumption) _ _ inv') | (have hj' := JoinR.f (by assumption) _ _ inv')); (obtain ⟨hj', hj2'⟩ := hj'); (try simp only [List.cons_append, List.nil_append] at N'); (try dsimp only); (try k_fold); (try k_sweep)))
local macro_rules | `(tactic| walk_at "binaryOp Add str str") => `(tactic| (k_here; k_dflt (refine' add_dots ?e1 ?e2 ?_; (case e1 => omega); (case e2 => omega)); intro t' tk'))
theorem bool_tt {a b : Int} (h : a = b) : Value.bool (a == b) = Value.bool true := by subst h; simp
theorem joined01 {lv lr : Addr} {s0 s1 s2 k n : Nat} {v0 v1 v2 house : Int} {t0 t1 t2 t3 t4 t5 u0 u1 u2 : Tok} (h0 : 0 ≤ v0 ∧ v0 ≤ 80) (h1 : 0 ≤ v1 ∧ v1 ≤ 80) (h2 : 0 ≤ v2 ∧ v2 ≤ 80) (hh : 4 ≤ house ∧ house ≤ 7) (hs : s0 + s1 + s2 ≤ 7) (hj : JoinL (v0 + v1) v2 house (s0 + s1)) :
    Tel w p loose mean mg mb 141 3 [(lv, listOf #[.int v0 t0, .int v1 t1, .int v2 t2] n), (lr, listOf #[.str (sd (s0 + 1) [97]) u0, .str (sd (s1 + 1) [98]) u1, .str (sd (s2 + 1) [99]) u2] k)] [.ref lv, .ref lr, .int house t3, .int 0 t4, .int 1 t5] (Bare fun v => v = .bool true) := by
  have hLa : Ltr [97] := Or.inl rfl
  have hLb : Ltr [98] := Or.inr (Or.inl rfl)
  have hLc : Ltr [99] := Or.inr (Or.inr rfl)
  w_top off
  unfold Tel
  k_fill
  intro rest9 dp9 un9 gd9 cn9 cs9 ad9 ccd9 cl9 ou9 A9 base9 hh9 L9 m9 s9 Q9 E9 B9 F9 X9 N9 S9 T9 hk9 hd9 hu9 hret
  refine wpAny_call ?_
  k_dflt (refine' code_plain ?k1 ?k2 ?k3 ?k4 ?kS ?k5 ?kA ?kF ?kK ?k6 ?k7 ?k8 ?k9 ?kB ?_ ?c2 ?c3 ?c4 ?c5; (case kA => exact rfl); (case kF => exact rfl); (case kK => assumption); (case k1 => k_asm); (case k2 => k_asm); (case k3 => k_asm); (case k4 => exact N9); (case kS => exact S9); (case k5 => k_asm); (case k6 => k_is); (case k7 => k_is); (case k8 => ktr_room); (case k9 => exact BindsTo.of_eq rfl); (case c5 => decide); (case kB => exact locs rfl); (case c2 => exact rfl); (case c3 => exact rfl); (case c4 => exact rfl); k_whole; intro g9 L' h' FG' F' N' R9 B' X' T'; (try dsimp only); (try k_lift B'); (try k_fold))
  k_steps
  (refine' Ret.bare hret ?F ?N ?o; (case F => k_asm); (case N => (refine' comb N9 S9 R9 ?Fk ?Nk ?Sk; (case Fk => assumption); (case Nk => assumption); (case Sk => k_subL))); (case o => exact bool_tt (by omega)))
theorem joined02 {lv lr : Addr} {s0 s1 s2 k n : Nat} {v0 v1 v2 house : Int} {t0 t1 t2 t3 t4 t5 u0 u1 u2 : Tok} (h0 : 0 ≤ v0 ∧ v0 ≤ 80) (h1 : 0 ≤ v1 ∧ v1 ≤ 80) (h2 : 0 ≤ v2 ∧ v2 ≤ 80) (hh : 4 ≤ house ∧ house ≤ 7) (hs : s0 + s1 + s2 ≤ 7) (hj : JoinL (v0 + v2) v1 house (s0 + s2)) :
    Tel w p loose mean mg mb 141 3 [(lv, listOf #[.int v0 t0, .int v1 t1, .int v2 t2] n), (lr, listOf #[.str (sd (s0 + 1) [97]) u0, .str (sd (s1 + 1) [98]) u1, .str (sd (s2 + 1) [99]) u2] k)] [.ref lv, .ref lr, .int house t3, .int 0 t4, .int 2 t5] (Bare fun v => v = .bool true) := by
  have hLa : Ltr [97] := Or.inl rfl
  have hLb : Ltr [98] := Or.inr (Or.inl rfl)
  have hLc : Ltr [99] := Or.inr (Or.inr rfl)
  w_top off
  unfold Tel
  k_fill
  intro rest9 dp9 un9 gd9 cn9 cs9 ad9 ccd9 cl9 ou9 A9 base9 hh9 L9 m9 s9 Q9 E9 B9 F9 X9 N9 S9 T9 hk9 hd9 hu9 hret
  refine wpAny_call ?_
  k_dflt (refine' code_plain ?k1 ?k2 ?k3 ?k4 ?kS ?k5 ?kA ?kF ?kK ?k6 ?k7 ?k8 ?k9 ?kB ?_ ?c2 ?c3 ?c4 ?c5; (case kA => exact rfl); (case kF => exact rfl); (case kK => assumption); (case k1 => k_asm); (case k2 => k_asm); (case k3 => k_asm); (case k4 => exact N9); (case kS => exact S9); (case k5 => k_asm); (case k6 => k_is); (case k7 => k_is); (case k8 => ktr_room); (case k9 => exact BindsTo.of_eq rfl); (case c5 => decide); (case kB => exact locs rfl); (case c2 => exact rfl); (case c3 => exact rfl); (case c4 => exact rfl); k_whole; intro g9 L' h' FG' F' N' R9 B' X' T'; (try dsimp only); (try k_lift B'); (try k_fold))
  k_steps
  (refine' Ret.bare hret ?F ?N ?o; (case F => k_asm); (case N => (refine' comb N9 S9 R9 ?Fk ?Nk ?Sk; (case Fk => assumption); (case Nk => assumption); (case Sk => k_subL))); (case o => exact bool_tt (by omega)))
theorem joined12 {lv lr : Addr} {s0 s1 s2 k n : Nat} {v0 v1 v2 house : Int} {t0 t1 t2 t3 t4 t5 u0 u1 u2 : Tok} (h0 : 0 ≤ v0 ∧ v0 ≤ 80) (h1 : 0 ≤ v1 ∧ v1 ≤ 80) (h2 : 0 ≤ v2 ∧ v2 ≤ 80) (hh : 4 ≤ house ∧ house ≤ 7) (hs : s0 + s1 + s2 ≤ 7) (hj : JoinR v0 (v1 + v2) house (s1 + s2)) :
    Tel w p loose mean mg mb 141 3 [(lv, listOf #[.int v0 t0, .int v1 t1, .int v2 t2] n), (lr, listOf #[.str (sd (s0 + 1) [97]) u0, .str (sd (s1 + 1) [98]) u1, .str (sd (s2 + 1) [99]) u2] k)] [.ref lv, .ref lr, .int house t3, .int 1 t4, .int 2 t5] (Bare fun v => v = .bool true) := by
  have hLa : Ltr [97] := Or.inl rfl
  have hLb : Ltr [98] := Or.inr (Or.inl rfl)
  have hLc : Ltr [99] := Or.inr (Or.inr rfl)
  w_top off
  unfold Tel
  k_fill
  intro rest9 dp9 un9 gd9 cn9 cs9 ad9 ccd9 cl9 ou9 A9 base9 hh9 L9 m9 s9 Q9 E9 B9 F9 X9 N9 S9 T9 hk9 hd9 hu9 hret
  refine wpAny_call ?_
  k_dflt (refine' code_plain ?k1 ?k2 ?k3 ?k4 ?kS ?k5 ?kA ?kF ?kK ?k6 ?k7 ?k8 ?k9 ?kB ?_ ?c2 ?c3 ?c4 ?c5; (case kA => exact rfl); (case kF => exact rfl); (case kK => assumption); (case k1 => k_asm); (case k2 => k_asm); (case k3 => k_asm); (case k4 => exact N9); (case kS => exact S9); (case k5 => k_asm); (case k6 => k_is); (case k7 => k_is); (case k8 => ktr_room); (case k9 => exact BindsTo.of_eq rfl); (case c5 => decide); (case kB => exact locs rfl); (case c2 => exact rfl); (case c3 => exact rfl); (case c4 => exact rfl); k_whole; intro g9 L' h' FG' F' N' R9 B' X' T'; (try dsimp only); (try k_lift B'); (try k_fold))
  k_steps
  (refine' Ret.bare hret ?F ?N ?o; (case F => k_asm); (case N => (refine' comb N9 S9 R9 ?Fk ?Nk ?Sk; (case Fk => assumption); (case Nk => assumption); (case Sk => k_subL))); (case o => exact bool_tt (by omega)))
end

end

section
/-- the value v is a deal x, y, rest that the ledger bears -/
inductive DealAt (house : Int) (nw : List (Addr × Obj)) (x y : Nat) (v : Value) : Prop
  | mk (a : Addr) (t u z : Tok) (k : Nat) (e : v = .ref a) (hm : (a, listOf #[.int (x : Int) t, .int (y : Int) u, .int (house - (x : Int) - (y : Int)) z] k) ∈ nw)
theorem DealAt.mono {house : Int} {nw nw' : List (Addr × Obj)} {x y : Nat} {v : Value} (h : DealAt house nw x y v) (hs : ∀ p ∈ nw, p ∈ nw') : DealAt house nw' x y v := let ⟨a, t, u, z, k, e, hm⟩ := h; ⟨a, t, u, z, k, e, hs _ hm⟩
structure JDeal (house : Int) (s0 s1 : Nat) (base : List (Addr × Obj)) (i j : Nat) (ys : List Value) (nw : List (Addr × Obj)) : Prop where
  base : ∀ p ∈ base, p ∈ nw
  len : ys.length ≤ 8 * i + j
  bnd : i ≤ 8 ∧ j ≤ 8
  all : ∀ v ∈ ys, ∃ x y : Nat, ((x + y : Nat) : Int) ≤ house ∧ DealAt house nw x y v
  seen : (s0 < i ∨ s0 = i ∧ s1 < j) → ∃ v ∈ ys, DealAt house nw s0 s1 v
theorem range_end {h₀ h : Heap} {L r : Addr} {m : Str → Option Value} {s : Shared} {news all : List (Addr × Obj)} {n tk : Nat} {b : Int} {t u v : Tok} (F : Fr h₀ L h m) (N : News h₀ L h all) (sub : ∀ p ∈ news, p ∈ all) (hr : IsRange h r 0 b 1 t u v) (hb : 0 ≤ b ∧ b ≤ 1000) (hn : n = b.toNat) :
    C2.RangeEnd h₀ L m s news n (.ref r) { s with heap := h, toks := tk } := ⟨r, b, t, u, v, h, tk, rfl, rfl, F, fun p hp => N p (sub p hp), hr, small_one (by omega) (by omega) (by omega) (by omega), by rw [rangeSize_nat, hn, Int.sub_zero]⟩
theorem put3 {h₀ h : Heap} {L : Addr} {a b c : Addr × Obj} {base nw : List (Addr × Obj)} (N : News h₀ L h (a :: b :: c :: nw)) (hb : ∀ p ∈ base, p ∈ nw) : News h₀ L h (a :: b :: c :: (base ++ nw)) := by
  intro p hp
  simp only [List.mem_cons, List.mem_append] at hp
  refine N p ?_
  simp only [List.mem_cons]
  rcases hp with h | h | h | h | h
  · exact .inl h
  · exact .inr (.inl h)
  · exact .inr (.inr (.inl h))
  · exact .inr (.inr (.inr (hb _ h)))
  · exact .inr (.inr (.inr h))
theorem sub3 {a b c : Addr × Obj} {base nw : List (Addr × Obj)} : ∀ p ∈ a :: b :: c :: nw, p ∈ a :: b :: c :: (base ++ nw) := by
  intro p hp
  simp only [List.mem_cons, List.mem_append] at hp ⊢
  rcases hp with h | h | h | h
  · exact .inl h
  · exact .inr (.inl h)
  · exact .inr (.inr (.inl h))
  · exact .inr (.inr (.inr (.inr h)))
theorem sub3of {house : Int} {s0 s1 i j : Nat} {ys : List Value} {a b c : Addr × Obj} {base nw : List (Addr × Obj)} (_ : JDeal house s0 s1 base i j ys nw) : ∀ p ∈ a :: b :: c :: nw, p ∈ a :: b :: c :: (base ++ nw) := sub3
theorem put4 {h₀ h : Heap} {L : Addr} {a b c d : Addr × Obj} {base nw : List (Addr × Obj)} (N : News h₀ L h (a :: b :: c :: d :: nw)) (hb : ∀ p ∈ base, p ∈ nw) : News h₀ L h (a :: b :: c :: d :: (base ++ nw)) := by
  intro p hp
  rcases List.mem_cons.mp hp with rfl | hp
  · exact N _ (.head _)
  · exact put3 (fun q hq => N q (.tail _ hq)) hb p hp
theorem deal_end {house : Int} {s0 s1 i j tk : Nat} {base nw : List (Addr × Obj)} {h₀ h : Heap} {L K I C D l : Addr} {oK oI oC : Obj} {m : Str → Option Value} {s : Shared} {ys : List Value} {t u z : Tok} {k : Nat} (F : Fr h₀ L h m)
    (N : News h₀ L h ((l, listOf #[.int (i : Int) t, .int (j : Int) u, .int (house - (i : Int) - (j : Int)) z] k) :: (K, oK) :: (I, oI) :: (C, oC) :: (D, LCg.lst ys) :: (base ++ nw)))
    (lt : ∀ p ∈ (K, oK) :: (I, oI) :: (C, oC) :: (D, LCg.lst ys) :: (base ++ nw), p.1 < l) (off : ∀ p ∈ nw, p.1 ≠ K ∧ p.1 ≠ I ∧ p.1 ≠ C ∧ p.1 ≠ D) (J : JDeal house s0 s1 base i j ys nw) (hi : ((i + j : Nat) : Int) ≤ house) (hb : j < 8) :
    C2.InEnd h₀ L m s K oK I oI C oC D ys (JDeal house s0 s1 base i (j + 1)) (.ref l) { s with heap := h, toks := tk } := by
  have ne : ∀ {x : Addr × Obj}, x ∈ (K, oK) :: (I, oI) :: (C, oC) :: (D, LCg.lst ys) :: (base ++ nw) → l ≠ x.1 := fun hx => Ne.symm (Nat.ne_of_lt (lt _ hx))
  refine ⟨h, tk, (l, listOf #[.int (i : Int) t, .int (j : Int) u, .int (house - (i : Int) - (j : Int)) z] k) :: nw, rfl, F, ?_, ?_, ?_⟩
  · intro p hp
    simp only [List.mem_cons] at hp
    refine N p ?_
    simp only [List.mem_cons, List.mem_append]
    rcases hp with h | h | h | h | h | h
    · exact .inr (.inl h)
    · exact .inr (.inr (.inl h))
    · exact .inr (.inr (.inr (.inl h)))
    · exact .inr (.inr (.inr (.inr (.inl h))))
    · exact .inl h
    · exact .inr (.inr (.inr (.inr (.inr (.inr h)))))
  · intro p hp
    rcases List.mem_cons.mp hp with rfl | hp
    · exact ⟨ne (x := (K, oK)) (.head _), ne (x := (I, oI)) (.tail _ (.head _)), ne (x := (C, oC)) (.tail _ (.tail _ (.head _))), ne (x := (D, LCg.lst ys)) (.tail _ (.tail _ (.tail _ (.head _))))⟩
    · exact off p hp
  · have here : DealAt house ((l, listOf #[.int (i : Int) t, .int (j : Int) u, .int (house - (i : Int) - (j : Int)) z] k) :: nw) i j (.ref l) := ⟨l, t, u, z, k, rfl, .head _⟩
    refine ⟨fun p hp => .tail _ (J.base p hp), ?_, ⟨J.bnd.1, hb⟩, ?_, ?_⟩
    · have := J.len
      rw [List.length_append, List.length_singleton]; omega
    · intro v hv
      rcases List.mem_append.mp hv with hv | hv
      · obtain ⟨x, y, h1, h2⟩ := J.all v hv
        exact ⟨x, y, h1, h2.mono fun p hp => .tail _ hp⟩
      · rw [List.mem_singleton.mp hv]
        exact ⟨i, j, hi, here⟩
    · intro hsn
      by_cases hn : s0 < i ∨ s0 = i ∧ s1 < j
      · obtain ⟨v, hv, h2⟩ := J.seen hn
        exact ⟨v, List.mem_append_left _ hv, h2.mono fun p hp => .tail _ hp⟩
      · obtain ⟨rfl, rfl⟩ : s0 = i ∧ s1 = j := by omega
        exact ⟨_, List.mem_append_right _ (List.mem_singleton.mpr rfl), here⟩
/-- the value v is a pair of bounds that the ledger bears -/
inductive PairAt (nw : List (Addr × Obj)) (P O : Int) (v : Value) : Prop
  | mk (a : Addr) (t u : Tok) (e : v = .ref a) (hm : (a, ({ cls := .type "tuple", data := .seq #[.int P t, .int O u] } : Obj)) ∈ nw)
theorem PairAt.mono {nw nw' : List (Addr × Obj)} {P O : Int} {v : Value} (h : PairAt nw P O v) (hs : ∀ p ∈ nw, p ∈ nw') : PairAt nw' P O v := let ⟨a, t, u, e, hm⟩ := h; ⟨a, t, u, e, hs _ hm⟩
structure JBnd (Dl : Value → Prop) (price offer : Int) (vs : List Value) (nw0 : List (Addr × Obj)) (i : Nat) (ys : List Value) (nw : List (Addr × Obj)) : Prop where
  base : ∀ p ∈ nw0, p ∈ nw
  len : ys.length = i
  all : ∀ v ∈ ys, ∃ P O, P ≤ price ∧ offer ≤ O ∧ PairAt nw P O v
  seen : (∃ k v, k < i ∧ vs[k]? = some v ∧ Dl v) → ∃ v ∈ ys, PairAt nw price offer v
theorem base_cons {x : Addr × Obj} {base nw : List (Addr × Obj)} (hx : x ∈ nw) (hb : ∀ p ∈ base, p ∈ nw) : ∀ p ∈ x :: base, p ∈ nw := fun p hp => by
  rcases List.mem_cons.mp hp with rfl | hp
  · exact hx
  · exact hb p hp
inductive DealPick (house : Int) (s0 s1 : Nat) (nw : List (Addr × Obj)) (v : Value) : Prop
  | mk (x y : Nat) (hxy : ((x + y : Nat) : Int) ≤ house) (hd : DealAt house nw x y v) (hs : DealAt house nw s0 s1 v → x = s0 ∧ y = s1)
theorem deal_pick {house : Int} {s0 s1 : Nat} {base nw : List (Addr × Obj)} {i j : Nat} {ys : List Value} (J : JDeal house s0 s1 base i j ys nw) (hs : ((s0 + s1 : Nat) : Int) ≤ house) {v : Value} (hv : v ∈ ys) :
    DealPick house s0 s1 nw v := by
  by_cases h : DealAt house nw s0 s1 v
  · exact ⟨s0, s1, hs, h, fun _ => ⟨rfl, rfl⟩⟩
  · obtain ⟨x, y, h1, h2⟩ := J.all v hv
    exact ⟨x, y, h1, h2, fun h' => absurd h' h⟩
theorem bnd_end {Dl : Value → Prop} {i tk : Nat} {P O price offer : Int} {b0 nw0 nw : List (Addr × Obj)} {h₀ h : Heap} {L I C D T ax : Addr} {oI oC : Obj} {m : Str → Option Value} {s : Shared} {vs ys : List Value} {t u : Tok} {v : Value} (F : Fr h₀ L h m)
    (N : News h₀ L h ((T, { cls := .type "tuple", data := .seq #[.int P t, .int O u] }) :: (I, oI) :: (C, oC) :: (D, LCg.lst ys) :: (b0 ++ nw)))
    (ap : Apart [(T, ({ cls := .type "tuple", data := .seq #[.int P t, .int O u] } : Obj))] ((I, oI) :: (C, oC) :: (D, LCg.lst ys) :: (b0 ++ nw))) (off : LCg.Off3 I C D nw) (_ : ∀ p ∈ b0, p ∈ nw) (J : JBnd Dl price offer vs nw0 i ys nw) (hv : vs[i]? = some v) (hP : P ≤ price) (hO : offer ≤ O)
    (hd : Dl v → P = price ∧ O = offer) (hx : (ax, LCg.lst vs) ∈ nw0) :
    LCg.CompEnd h₀ L m s I oI C oC D (LCg.lst ys) (LCg.SrcAt h₀ ax vs.toArray) (fun y nw' => JBnd Dl price offer vs nw0 (i + 1) (ys ++ [y]) nw') (.ref T) { s with heap := h, toks := tk } := by
  have ne : ∀ {x : Addr × Obj}, x ∈ (I, oI) :: (C, oC) :: (D, LCg.lst ys) :: (b0 ++ nw) → T ≠ x.1 := fun hx => Ne.symm (ap.1.mem _ hx)
  have hpair : PairAt ((T, ({ cls := .type "tuple", data := .seq #[.int P t, .int O u] } : Obj)) :: nw) P O (.ref T) := ⟨T, t, u, rfl, .head _⟩
  refine ⟨h, tk, (T, { cls := .type "tuple", data := .seq #[.int P t, .int O u] }) :: nw, rfl, F, ?_, ?_, ?_, ?_⟩
  · intro p hp
    simp only [List.mem_cons] at hp
    refine N p ?_
    simp only [List.mem_cons, List.mem_append]
    rcases hp with h | h | h | h | h
    · exact .inr (.inl h)
    · exact .inr (.inr (.inl h))
    · exact .inr (.inr (.inr (.inl h)))
    · exact .inl h
    · exact .inr (.inr (.inr (.inr (.inr h))))
  · exact ⟨⟨ne (x := (I, oI)) (.head _), ne (x := (C, oC)) (.tail _ (.head _)), ne (x := (D, LCg.lst ys)) (.tail _ (.tail _ (.head _)))⟩, off⟩
  · exact .inr ⟨_, .tail _ (J.base _ hx), rfl, _, rfl⟩
  · refine ⟨fun p hp => .tail _ (J.base p hp), by rw [List.length_append, List.length_singleton, J.len], fun v hv => ?_, fun hs => ?_⟩
    · rcases List.mem_append.mp hv with hv | hv
      · obtain ⟨P, O, h1, h2, h3⟩ := J.all v hv
        exact ⟨P, O, h1, h2, h3.mono fun p hp => .tail _ hp⟩
      · rw [List.mem_singleton.mp hv]
        exact ⟨P, O, hP, hO, hpair⟩
    · by_cases hq : ∃ k v, k < i ∧ vs[k]? = some v ∧ Dl v
      · obtain ⟨v, hv, h2⟩ := J.seen hq
        exact ⟨v, List.mem_append_left _ hv, h2.mono fun p hp => .tail _ hp⟩
      · obtain ⟨k, v', hk, hv', hdd⟩ := hs
        have : k = i := by
          by_cases hki : k < i
          · exact absurd ⟨k, v', hki, hv', hdd⟩ hq
          · omega
        subst this
        rw [hv] at hv'
        obtain rfl := Option.some.inj hv'
        obtain ⟨e1, e2⟩ := hd hdd
        refine ⟨.ref T, List.mem_append_right _ (List.mem_singleton.mpr rfl), ?_⟩
        rw [← e1, ← e2]
        exact hpair
structure JOne (Tg : Value → Prop) (R : Int → Prop) (tgt : Int) (vs : List Value) (nw0 : List (Addr × Obj)) (i : Nat) (ys : List Value) (nw : List (Addr × Obj)) : Prop where
  base : ∀ p ∈ nw0, p ∈ nw
  num : ∃ ns, IntsAre ys ns ∧ ns.length = i ∧ (∀ x ∈ ns, R x) ∧ ((∃ k v, k < i ∧ vs[k]? = some v ∧ Tg v) → tgt ∈ ns)
theorem ints_snoc {vs : List Value} {ns : List Int} (h : IntsAre vs ns) (x : Int) (t : Tok) : IntsAre (vs ++ [.int x t]) (ns ++ [x]) := by
  induction h with
  | nil => exact .cons x t .nil
  | cons n t' _ ih => exact .cons n t' ih
inductive PairPick (price offer : Int) (nw : List (Addr × Obj)) (v : Value) : Prop
  | mk (P O : Int) (hP : P ≤ price) (hO : offer ≤ O) (hp : PairAt nw P O v) (hs : PairAt nw price offer v → P = price ∧ O = offer)
theorem pair_pick {Dl : Value → Prop} {price offer : Int} {vs : List Value} {nw0 nw : List (Addr × Obj)} {i : Nat} {ys : List Value} (J : JBnd Dl price offer vs nw0 i ys nw) {v : Value} (hv : v ∈ ys) :
    PairPick price offer nw v := by
  by_cases h : PairAt nw price offer v
  · exact ⟨price, offer, Int.le_refl _, Int.le_refl _, h, fun _ => ⟨rfl, rfl⟩⟩
  · obtain ⟨P, O, h1, h2, h3⟩ := J.all v hv
    exact ⟨P, O, h1, h2, h3, fun h' => absurd h' h⟩
theorem one_end {Tg : Value → Prop} {R : Int → Prop} {tgt X : Int} {i tk : Nat} {b0 nw0 nw : List (Addr × Obj)} {h₀ h : Heap} {L I C D ax : Addr} {oI oC : Obj} {m : Str → Option Value} {s : Shared} {vs ys : List Value} {t : Tok} {v : Value} (F : Fr h₀ L h m)
    (N : News h₀ L h ((I, oI) :: (C, oC) :: (D, LCg.lst ys) :: (b0 ++ nw))) (off : LCg.Off3 I C D nw) (_ : ∀ p ∈ b0, p ∈ nw) (J : JOne Tg R tgt vs nw0 i ys nw) (hv : vs[i]? = some v) (hX : R X) (hd : Tg v → X = tgt) (hx : (ax, LCg.lst vs) ∈ nw0) :
    LCg.CompEnd h₀ L m s I oI C oC D (LCg.lst ys) (LCg.SrcAt h₀ ax vs.toArray) (fun y nw' => JOne Tg R tgt vs nw0 (i + 1) (ys ++ [y]) nw') (.int X t) { s with heap := h, toks := tk } := by
  refine ⟨h, tk, nw, rfl, F, ?_, off, .inr ⟨_, J.base _ hx, rfl, _, rfl⟩, J.base, ?_⟩
  · intro p hp
    simp only [List.mem_cons] at hp
    refine N p ?_
    simp only [List.mem_cons, List.mem_append]
    rcases hp with h | h | h | h
    · exact .inl h
    · exact .inr (.inl h)
    · exact .inr (.inr (.inl h))
    · exact .inr (.inr (.inr (.inr h)))
  · obtain ⟨ns, h1, h2, h3, h4⟩ := J.num
    refine ⟨ns ++ [X], ints_snoc h1 X t, by rw [List.length_append, List.length_singleton, h2], fun x hx => ?_, fun hs => ?_⟩
    · rcases List.mem_append.mp hx with hx | hx
      · exact h3 x hx
      · rw [List.mem_singleton.mp hx]; exact hX
    · by_cases hq : ∃ k v, k < i ∧ vs[k]? = some v ∧ Tg v
      · exact List.mem_append_left _ (h4 hq)
      · obtain ⟨k, v', hk, hv', hdd⟩ := hs
        have : k = i := by
          by_cases hki : k < i
          · exact absurd ⟨k, v', hki, hv', hdd⟩ hq
          · omega
        subst this
        rw [hv] at hv'
        obtain rfl := Option.some.inj hv'
        exact List.mem_append_right _ (List.mem_singleton.mpr (hd hdd).symm)
theorem idx_of_mem {l : List Value} {v : Value} (h : v ∈ l) : ∃ k, k < l.length ∧ l[k]? = some v := by
  obtain ⟨k, hk⟩ := List.mem_iff_getElem?.mp h
  exact ⟨k, (List.getElem?_eq_some_iff.mp hk).1, hk⟩
theorem one_ind {prog : Program} {A : Around} {s : Shared} {h₀ : Heap} {L : Addr} {m : Str → Option Value} {env : Env} {elt : PySem.Expr} {x : Str} {scope : Scope} {n : Nat} {cl : List (Str × Addr)} {S : List (Addr × Obj) → Prop} {P : Nat → Value → Prop} {Fin : List Value → List (Addr × Obj) → Prop}
    (Tg : Value → Prop) (R : Int → Prop) (tgt : Int) (vs : List Value) (fin : ∀ ys nw, JOne Tg R tgt vs news n ys nw → Fin ys nw)
    (step : ∀ i ys nw, i < n → JOne Tg R tgt vs news i ys nw → ∀ v I oI C oC D m₂ h tk (E' : Value → Shared → Prop), P i v → LCg.NsObj oC m₂ → m₂ x = some v → Fr h₀ L h m → News h₀ L h ((I, oI) :: (C, oC) :: (D, LCg.lst ys) :: nw) → LCg.Off3 I C D nw → ((@Ne Nat I C) ∧ (@Ne Nat I D) ∧ (@Ne Nat C D)) →
      wpAny (model prog w) A (eval elt (compEnvC scope cl C env)) (LCg.CompEnd h₀ L m { s with heap := h, toks := tk } I oI C oC D (LCg.lst ys) S (fun y nw' => JOne Tg R tgt vs news (i + 1) (ys ++ [y]) nw')) E' { s with heap := h, toks := tk }) :
    LCg.CompRest prog w A h₀ L m env elt x scope cl s S P Fin n 0 [] news :=
  C2.comp_ind fin step n 0 [] news (Nat.zero_add _) ⟨fun _ hp => hp, [], .nil, rfl, fun x hx => (nomatch hx), fun ⟨k, v, hk, _⟩ => by omega⟩
theorem put1 {h₀ h : Heap} {L : Addr} {a : Addr × Obj} {base nw : List (Addr × Obj)} (N : News h₀ L h (a :: nw)) (hb : ∀ p ∈ base, p ∈ nw) : News h₀ L h (a :: (base ++ nw)) := by
  intro p hp
  rcases List.mem_cons.mp hp with rfl | hp
  · exact N _ (.head _)
  · rcases List.mem_append.mp hp with hp | hp
    · exact N _ (.tail _ (hb p hp))
    · exact N _ (.tail _ hp)
local macro_rules | `(tactic| walk_at "newList") => `(tactic| (k_here; k_dflt (refine' newList_K ?k1 ?k2 ?_; (case k1 => k_asm); (case k2 => k_asm)); intro l' h' F' N' l1))
local macro_rules | `(tactic| walk_at "call ref") => `(tactic| (k_here; (with_reducible show wpAny _ _ (call (Value.ref 110) _) _ _ _); k_dflt (refine' tel_use (bounds ?a1 ?a2 ?a3 ?a4 ?a5 ?a6 ?a7) ?_); (case a1 => assumption); (case a2 => assumption); (case a3 => assumption); (case a4 => omega); (case a5 => omega); (case a6 => omega); (case a7 => omega); (refine' Ret.one2 ?_); intro x' t' u' h' tk' F' N' l1; (try dsimp only); (try k_fold)))
local macro_rules | `(tactic| walk_at "call builtin:max") => `(tactic| (k_here; (with_reducible show wpAny _ _ (call (Value.builtin _) [Value.ref _]) _ _ _); k_dflt (refine' max_mine ?_); intro h' t' k' F' N'))
local macro_rules | `(tactic| walk_at "call builtin:min") => `(tactic| (k_here; (with_reducible show wpAny _ _ (call (Value.builtin _) [Value.ref _]) _ _ _); k_dflt (refine' min_mine ?_); intro h' t' k' F' N'))
local macro_rules | `(tactic| walk_at "eval ListComp") => `(tactic| (k_here; k_dflt (refine LCg.ListComp_U (F₀ := by k_asm) (by with_unfolding_all rfl) (by decide) (by rfl) (by decide) (by rfl) ?_)))
theorem rng_len (H i : Nat) : H + 1 - i = ((H : Int) + 1 - (i : Int)).toNat := by omega
theorem best {lv ls : Addr} {v0 v1 v2 house : Int} {s0 s1 s2 n ns : Nat} {t0 t1 t2 t3 t4 t5 t6 : Tok} (h0 : 0 ≤ v0 ∧ v0 ≤ 80) (h1 : 0 ≤ v1 ∧ v1 ≤ 80) (h2 : 0 ≤ v2 ∧ v2 ≤ 80) (hh : 4 ≤ house ∧ house ≤ 7) (hs : ((s0 + s1 + s2 : Nat) : Int) = house)
  {price offer : Int} (hprice : priceOf v0 v1 v2 s0 s1 s2 = price) (hoffer : offerOf v0 v1 v2 s0 s1 s2 = offer) (hle : offer ≤ price)
  (hmax : ∀ x y : Nat, ((x + y : Nat) : Int) ≤ house → priceOf v0 v1 v2 x y (house - (x : Int) - (y : Int)) ≤ price ∧ offer ≤ offerOf v0 v1 v2 x y (house - (x : Int) - (y : Int))) :
    Tel w p loose mean mg mb 115 4 [(lv, listOf #[.int v0 t0, .int v1 t1, .int v2 t2] n), (ls, listOf #[.int s0 t3, .int s1 t4, .int s2 t5] ns)] [.ref lv, .ref ls, .int house t6] (Bare fun v => v = .bool true) := by
  obtain ⟨H, rfl⟩ : ∃ H : Nat, house = (H : Int) := ⟨s0 + s1 + s2, hs.symm⟩
  have hN : s0 + s1 + s2 = H := Int.ofNat.inj hs
  have h7 : 4 ≤ H ∧ H ≤ 7 := ⟨Int.ofNat_le.mp hh.1, Int.ofNat_le.mp hh.2⟩
  clear hs hh
  w_top off
  unfold Tel
  k_fill
  intro rest9 dp9 un9 gd9 cn9 cs9 ad9 ccd9 cl9 ou9 A9 base9 hh9 L9 m9 s9 Q9 E9 B9 F9 X9 N9 S9 T9 hk9 hd9 hu9 hret
  refine wpAny_call ?_
  k_dflt (refine' code_cells ?k1 ?k2 ?k3 ?k4 ?kS ?k5 ?kA ?kF ?kK ?k6 ?k7 ?k8 ?k9 ?kB ?kD ?_ ?c2 ?c3 ?c4; (case kA => exact rfl); (case kF => exact rfl); (case kK => assumption); (case k1 => k_asm); (case k2 => k_asm); (case k3 => k_asm); (case k4 => exact N9); (case kS => exact S9); (case k5 => k_asm); (case k6 => k_is); (case k7 => k_is); (case k8 => ktr_room); (case k9 => exact BindsTo.of_eq rfl); (case kB => exact rfl); (case kD => decide +kernel); (case c2 => exact rfl); (case c3 => exact rfl); (case c4 => exact rfl); k_whole; intro g9 L' h' tk' cells' FG' F' N' Y' R9 B' X' T' l1; (try k_lt l1); k_cells Y'; (try simp only [List.cons_append, List.nil_append] at N'); (try dsimp only); (try k_lift B'); (try k_fold))
  k_steps
  with_reducible rename Fr _ _ _ _ => F0
  with_reducible rename News _ _ _ _ => N0
  refine' C2.assign2 (n := H + 1) (mi := fun i => H + 1 - i) (news := ?nw) (J := JDeal H s0 s1 ?nw) F0 N0 ?hh ?hLe ?hsw ?hclos ?hcell ?hkind ?hnames ?hx ?hy ?hxy ?ht ?hp ?hf0 ?hfold ?h ?hsz ?hJ0 ?hnext ?hiter ?helt ?fin
  case hh => rfl
  case hLe => rfl
  case hsw => with_unfolding_all rfl
  case hclos => with_unfolding_all rfl
  case hcell => decide
  case hkind => rfl
  case hnames => decide
  case hx => rfl
  case hy => rfl
  case hxy => decide
  case ht => rfl
  case hp => rfl
  case hf0 => intro _; rfl
  case hfold => intro _ _; rfl
  case h =>
    k_steps
    exact range_end (by k_asm) (by k_asm) (fun _ hp => hp) (by assumption) (by omega) rfl
  case hsz =>
    intro i j ys nw hJ
    have h1 := hJ.len
    have h2 := hJ.bnd
    rw [sizeLine_eq]; omega
  case hJ0 => exact ⟨fun _ hp => hp, Nat.le_refl _, ⟨Nat.zero_le _, Nat.zero_le _⟩, fun v hv => (nomatch hv), fun hn => by omega⟩
  case hnext =>
    intro i ys nw hi hJ
    refine ⟨hJ.base, ?_, ⟨by omega, by omega⟩, hJ.all, fun hn => hJ.seen (by omega)⟩
    have h1 := hJ.len
    omega
  case hiter =>
    intro i I oI C oC D m₂ h tk tx ys nw E' hi hJ hC hx F' Nw
    have N' := put3 Nw hJ.base
    clear Nw
    simp only [List.cons_append, List.nil_append] at N'
    k_steps
    exact range_end (by k_asm) (by k_asm) (sub3of hJ) (by assumption) (by omega) (rng_len H i)
  case helt =>
    intro i j K oK I oI C oC D m₂ h tk tx ty ys nw E' hi hj hJ hC hx hy F' Nw off ne
    have N' := put4 Nw hJ.base
    clear Nw
    simp only [List.cons_append, List.nil_append] at N'
    k_steps
    exact deal_end (by k_asm) (by k_asm) (by assumption) off hJ (by omega) (by omega)
  case fin =>
    intro D h tk ys nw hJ F' N' off
    dsimp only
    k_steps
    refine LCg.CompSrc.ledger (by rfl) (by k_asm) (by k_asm) (.head _) ?hsz2 ?hcomp
    case hsz2 =>
      have h1 := hJ.len
      have h2 := hJ.bnd
      rw [sizeLine_eq, List.size_toArray]; omega
    intro g9'
    refine C2.comp_ind (J := JBnd (DealAt H nw s0 s1) price offer ys ((D, LCg.lst ys) :: nw)) ?bfin ?bstep _ 0 [] _ (Nat.zero_add _) ?binit
    case binit => exact ⟨fun _ hp => hp, rfl, fun v hv => (nomatch hv), fun ⟨k, v, hk, _⟩ => by omega⟩
    case bstep =>
      intro i ys2 nw2 hi hB v I oI C oC D2 m₂ h tk E' hv hC hx F' Nw off2 ne2
      obtain ⟨x, y, hxy, hd, hsame⟩ := deal_pick hJ (by omega) (List.mem_of_getElem? (by simpa using hv))
      obtain ⟨a, t, u, z, k, rfl, hm⟩ := id hd
      have hb2 := base_cons (hB.base _ (.tail _ hm)) (fun p hp => hB.base p (.tail _ (hJ.base p hp)))
      have N' := put3 Nw hb2
      simp only [List.cons_append, List.nil_append] at N'
      have hmx := hmax x y hxy
      k_steps
      have es2 : (H : Int) - (s0 : Int) - (s1 : Int) = (s2 : Int) := by omega
      refine bnd_end (by k_asm) (by k_asm) (by assumption) off2 hb2 hB (by simpa using hv) hmx.1 hmx.2 ?_ (.head _)
      intro hdd
      obtain ⟨e1, e2⟩ := hsame hdd
      rw [e1, e2, es2]
      exact ⟨hprice, hoffer⟩
    intro ys2 nw2 hB
    unfold LCg.FinA
    intro D2 h2 tk2 F' Nw o1
    have hb1 : ∀ p ∈ _, p ∈ nw2 := fun p hp => hB.base p (.tail _ (hJ.base p hp))
    have N' := put1 Nw hb1
    clear Nw
    simp only [List.cons_append, List.nil_append] at N'
    dsimp only
    k_steps
    have hsz2 : ys2.toArray.size ≤ sizeLine := by
      have h1 := hJ.len
      have h2 := hJ.bnd
      have h3 := hB.len
      rw [List.size_toArray] at h3
      rw [sizeLine_eq, List.size_toArray, h3]; omega
    refine LCg.CompSrc.ledger (by rfl) (by k_asm) (by k_asm) (by k_mem) hsz2 ?_
    intro g8
    have hseen : ∃ k v, k < ys2.toArray.size ∧ ys2[k]? = some v ∧ PairAt nw2 price offer v := by
      obtain ⟨v, hv, hd⟩ := hJ.seen (by omega)
      obtain ⟨k, hk, hk2⟩ := idx_of_mem hv
      obtain ⟨v2, hv2, hp2⟩ := hB.seen ⟨k, v, by rw [List.size_toArray]; exact hk, hk2, hd⟩
      obtain ⟨k2, hk3, hk4⟩ := idx_of_mem hv2
      exact ⟨k2, v2, by rw [List.size_toArray]; exact hk3, hk4, hp2⟩
    refine one_ind (PairAt nw2 price offer) (fun x => x ≤ price) price ys2 ?ofin ?ostep
    case ostep =>
      intro i ys3 nw3 hi hO v I oI C oC D3 m₂ h tk E' hv hC hx F' Nw off3 ne3
      obtain ⟨P, O, hP, hOO, hd, hsame⟩ := pair_pick hB (List.mem_of_getElem? (by simpa using hv))
      obtain ⟨a, t, u, rfl, hm⟩ := id hd
      have hb3 := base_cons (base := []) (hO.base (a, ({ cls := .type "tuple", data := .seq #[.int P t, .int O u] } : Obj)) (by repeat (first | exact hm | refine List.Mem.tail _ ?_))) (fun p hp => (nomatch hp))
      have N' := put3 Nw hb3
      simp only [List.cons_append, List.nil_append] at N'
      k_steps
      exact one_end (by k_asm) (by k_asm) off3 hb3 hO (by simpa using hv) hP (fun hdd => (hsame hdd).1) (by k_mem)
    intro ys3 nw3 hO
    unfold LCg.FinE
    intro D3 h3 tk3 F' Nw o3
    have hmax3 : MaxOf ys3 price := by
      obtain ⟨ns, h1, h2, h3, h4⟩ := hO.num
      exact ⟨ns, h1, h4 hseen, h3⟩
    have hb4 := base_cons (base := []) (hO.base (D2, LCg.lst ys2) (by k_mem)) (fun p hp => (nomatch hp))
    have hm2 : ∀ p ∈ nw2, p ∈ nw3 := fun p hp => hO.base p (by repeat (first | exact hp | refine List.Mem.tail _ ?_))
    have N' := put1 Nw hb4
    clear Nw hO
    simp only [List.cons_append, List.nil_append] at N'
    try dsimp only
    k_steps
    refine LCg.CompSrc.ledger (by rfl) (by k_asm) (by k_asm) (by k_mem) hsz2 ?_
    intro g7
    refine one_ind (PairAt nw2 price offer) (fun x => offer ≤ x) offer ys2 ?ofin2 ?ostep2
    case ostep2 =>
      intro i ys4 nw4 hi hO v I oI C oC D4 m₂ h tk E' hv hC hx F' Nw off3 ne3
      obtain ⟨P, O, hP, hOO, hd, hsame⟩ := pair_pick hB (List.mem_of_getElem? (by simpa using hv))
      obtain ⟨a, t, u, rfl, hm⟩ := id hd
      replace hm := hm2 _ hm
      have hb3 := base_cons (base := []) (hO.base (a, ({ cls := .type "tuple", data := .seq #[.int P t, .int O u] } : Obj)) (by repeat (first | exact hm | refine List.Mem.tail _ ?_))) (fun p hp => (nomatch hp))
      have N' := put3 Nw hb3
      simp only [List.cons_append, List.nil_append] at N'
      k_steps
      exact one_end (by k_asm) (by k_asm) off3 hb3 hO (by simpa using hv) hOO (fun hdd => (hsame hdd).2) (by k_mem)
    intro ys4 nw4 hO
    unfold LCg.FinE
    intro D4 h4 tk4 F' Nw o4
    have hmin4 : MinOf ys4 offer := by
      obtain ⟨ns, h1, h2, h3, h4⟩ := hO.num
      exact ⟨ns, h1, h4 hseen, h3⟩
    have hb5 : ∀ p ∈ _, p ∈ nw4 := fun p hp => hO.base p (by have hq := hm2 _ (hb1 p hp); repeat (first | exact hq | refine List.Mem.tail _ ?_))
    have N' := put1 Nw hb5
    clear Nw hO
    simp only [List.cons_append, List.nil_append] at N'
    try dsimp only
    k_steps
    (refine' Ret.bare hret ?F ?N ?o; (case F => k_asm); (case N => (refine' comb N9 S9 R9 ?Fk ?Nk ?Sk; (case Fk => assumption); (case Nk => assumption); (case Sk => k_subL))); (case o => exact congrArg Value.bool (decide_eq_true (by rw [hprice, hoffer]; exact hle))))
end

section
theorem level_any {a b t : Int} {s : Nat} (ha : 0 ≤ a) (ht : 0 ≤ t) (h : s = 0 ∨ Level a s b t) : b * s ≤ a * t := by
  rcases h with rfl | h
  · simp only [Int.natCast_zero, Int.mul_zero]; exact Int.mul_nonneg ha ht
  · exact h
theorem ahead_any {a b t : Int} {s : Nat} (ha : 0 ≤ a) (ht : 0 ≤ t) (h : s = 0 ∨ Ahead a s b t) : b * s ≤ a * t := by
  rcases h with rfl | h
  · simp only [Int.natCast_zero, Int.mul_zero]; exact Int.mul_nonneg ha ht
  · exact Int.le_of_lt h
/-- who holds a seat has at least as many votes for it as another one with one seat more -/
structure W6 (v0 v1 v2 s0 s1 s2 : Int) : Prop where
  a01 : v1 * s0 ≤ v0 * s1 + v0
  a02 : v2 * s0 ≤ v0 * s2 + v0
  a10 : v0 * s1 ≤ v1 * s0 + v1
  a12 : v2 * s1 ≤ v1 * s2 + v1
  a20 : v0 * s2 ≤ v2 * s0 + v2
  a21 : v1 * s2 ≤ v2 * s1 + v2
  b10 : s1 = 0 ∨ v0 * s1 < v1 * s0 + v1
  b20 : s2 = 0 ∨ v0 * s2 < v2 * s0 + v2
  b21 : s2 = 0 ∨ v1 * s2 < v2 * s1 + v2
theorem w6_of {v0 v1 v2 : Int} {s0 s1 s2 : Nat} (p0 : 0 ≤ v0) (p1 : 0 ≤ v1) (p2 : 0 ≤ v2) (d : Dealt3 v0 v1 v2 s0 s1 s2) : W6 v0 v1 v2 s0 s1 s2 := by
  have e : ∀ a b : Int, a * (b + 1) = a * b + a := fun a b => by rw [Int.mul_add, Int.mul_one]
  have c1 := level_any p0 (by omega) d.w01
  have c2 := level_any p0 (by omega) d.w02
  have c3 := ahead_any p1 (by omega) d.w10
  have c4 := level_any p1 (by omega) d.w12
  have c5 := ahead_any p2 (by omega) d.w20
  have c6 := ahead_any p2 (by omega) d.w21
  have d3 := d.w10
  have d5 := d.w20
  have d6 := d.w21
  simp only [Ahead, Level, e] at *
  refine ⟨c1, c2, c3, c4, c5, c6, ?_, ?_, ?_⟩ <;> omega
theorem fd_le {a b c d : Int} (hb : 0 < b) (hd : 0 < d) (h : a * d ≤ c * b) : a.fdiv b ≤ c.fdiv d := by
  rw [Int.fdiv_eq_ediv_of_nonneg _ (by omega), Int.fdiv_eq_ediv_of_nonneg _ (by omega)]
  refine Int.le_ediv_of_mul_le hd ?_
  have h1 : a / b * b ≤ a := Int.ediv_mul_le a (by omega)
  have h2 : a / b * b * d ≤ a * d := Int.mul_le_mul_of_nonneg_right h1 (by omega)
  have h3 : a / b * d * b ≤ c * b := by rw [Int.mul_right_comm]; omega
  exact Int.le_of_mul_le_mul_right h3 hb
theorem fd_le840 {v s u t : Int} (hs : 0 < s) (ht : 0 < t) (h : v * t ≤ u * s) : (840 * v).fdiv s ≤ (840 * u).fdiv t := by
  refine fd_le hs ht ?_
  rw [Int.mul_assoc, Int.mul_assoc]; omega
theorem offer0 (v0 v1 v2 s0 s1 s2 : Int) : (840 * v0).fdiv (s0 + 1) ≤ offerOf v0 v1 v2 s0 s1 s2 := (max3 _ _ _).2.1
theorem offer1 (v0 v1 v2 s0 s1 s2 : Int) : (840 * v1).fdiv (s1 + 1) ≤ offerOf v0 v1 v2 s0 s1 s2 := (max3 _ _ _).2.2.1
theorem offer2 (v0 v1 v2 s0 s1 s2 : Int) : (840 * v2).fdiv (s2 + 1) ≤ offerOf v0 v1 v2 s0 s1 s2 := (max3 _ _ _).2.2.2
theorem offer_le {v0 v1 v2 s0 s1 s2 X : Int} (h0 : (840 * v0).fdiv (s0 + 1) ≤ X) (h1 : (840 * v1).fdiv (s1 + 1) ≤ X) (h2 : (840 * v2).fdiv (s2 + 1) ≤ X) : offerOf v0 v1 v2 s0 s1 s2 ≤ X := Int.max_le.mpr ⟨Int.max_le.mpr ⟨h0, h1⟩, h2⟩
theorem price0 {v0 v1 v2 s0 s1 s2 : Int} (h : 0 < s0) : priceOf v0 v1 v2 s0 s1 s2 ≤ (840 * v0).fdiv s0 := by
  unfold priceOf
  rw [if_pos h]
  split <;> split <;> first | exact (min3 _ _ _).2.1 | exact (min2 _ _).2.1 | exact Int.le_refl _
theorem price1 {v0 v1 v2 s0 s1 s2 : Int} (h : 0 < s1) : priceOf v0 v1 v2 s0 s1 s2 ≤ (840 * v1).fdiv s1 := by
  unfold priceOf
  rw [if_pos h, if_pos h]
  split <;> split <;> first | exact (min3 _ _ _).2.2.1 | exact (min2 _ _).2.2 | exact (min2 _ _).2.1 | exact Int.le_refl _
theorem price2 {v0 v1 v2 s0 s1 s2 : Int} (h : 0 < s2) : priceOf v0 v1 v2 s0 s1 s2 ≤ (840 * v2).fdiv s2 := by
  unfold priceOf
  rw [if_pos h, if_pos h, if_pos h]
  split <;> split <;> first | exact (min3 _ _ _).2.2.2 | exact (min2 _ _).2.2 | exact Int.le_refl _
theorem le_price {v0 v1 v2 s0 s1 s2 X : Int} (hs : 0 < s0 + s1 + s2) (p0 : 0 ≤ s0) (p1 : 0 ≤ s1) (p2 : 0 ≤ s2) (h0 : 0 < s0 → X ≤ (840 * v0).fdiv s0) (h1 : 0 < s1 → X ≤ (840 * v1).fdiv s1) (h2 : 0 < s2 → X ≤ (840 * v2).fdiv s2) : X ≤ priceOf v0 v1 v2 s0 s1 s2 := by
  unfold priceOf
  split
  · have a := h0 (by assumption)
    split
    · have b := h1 (by assumption)
      split
      · exact Int.le_min.mpr ⟨Int.le_min.mpr ⟨a, b⟩, h2 (by assumption)⟩
      · exact Int.le_min.mpr ⟨a, b⟩
    · split
      · exact Int.le_min.mpr ⟨a, h2 (by assumption)⟩
      · exact a
  · split
    · have b := h1 (by assumption)
      split
      · exact Int.le_min.mpr ⟨b, h2 (by assumption)⟩
      · exact b
    · exact h2 (by omega)
theorem mul_s (a b : Int) : a * (b + 1) = a * b + a := by rw [Int.mul_add, Int.mul_one]
theorem offer_price {v0 v1 v2 s0 s1 s2 : Int} (v0p : 0 ≤ v0) (v1p : 0 ≤ v1) (v2p : 0 ≤ v2) (p0 : 0 ≤ s0) (p1 : 0 ≤ s1) (p2 : 0 ≤ s2) (hs : 0 < s0 + s1 + s2) (W : W6 v0 v1 v2 s0 s1 s2) : offerOf v0 v1 v2 s0 s1 s2 ≤ priceOf v0 v1 v2 s0 s1 s2 := by
  obtain ⟨a01, a02, a10, a12, a20, a21, _, _, _⟩ := W
  refine offer_le ?_ ?_ ?_ <;> refine le_price hs p0 p1 p2 (fun h => ?_) (fun h => ?_) (fun h => ?_) <;> refine fd_le840 (by omega) h (by rw [mul_s]; omega)
theorem fd_anti {v a b : Int} (hv : 0 ≤ v) (ha : 0 < a) (h : a ≤ b) : (840 * v).fdiv b ≤ (840 * v).fdiv a :=
  fd_le840 (by omega) ha (Int.mul_le_mul_of_nonneg_left h hv)
/-- one party with more seats there: its price there is no more than any offer here, and so no more than the least price here -/
theorem best_key {v s x P O : Int} (hv : 0 ≤ v) (p : 0 ≤ s) (h : s < x) (ho : (840 * v).fdiv (s + 1) ≤ O) (hop : O ≤ P) : 0 < x ∧ (840 * v).fdiv x ≤ P :=
  ⟨Int.lt_of_le_of_lt p h, Int.le_trans (fd_anti hv (Int.lt_add_one_of_le p) (Int.add_one_le_of_lt h)) (Int.le_trans ho hop)⟩
theorem best_key' {v s x P O : Int} (hv : 0 ≤ v) (q : 0 ≤ x) (h : x < s) (hp : P ≤ (840 * v).fdiv s) (hop : O ≤ P) : O ≤ (840 * v).fdiv (x + 1) :=
  Int.le_trans hop (Int.le_trans hp (fd_anti hv (Int.lt_add_one_of_le q) (Int.add_one_le_of_lt h)))
theorem three_lt {x y z s0 s1 s2 : Int} (e : x + y + z = s0 + s1 + s2) (he : ¬ (x = s0 ∧ y = s1 ∧ z = s2)) : (s0 < x ∨ s1 < y ∨ s2 < z) ∧ (x < s0 ∨ y < s1 ∨ z < s2) := by omega
theorem best_all {v0 v1 v2 s0 s1 s2 : Int} (v0p : 0 ≤ v0) (v1p : 0 ≤ v1) (v2p : 0 ≤ v2) (p0 : 0 ≤ s0) (p1 : 0 ≤ s1) (p2 : 0 ≤ s2) (hs : 0 < s0 + s1 + s2) (W : W6 v0 v1 v2 s0 s1 s2) {x y z : Int} (q0 : 0 ≤ x) (q1 : 0 ≤ y) (q2 : 0 ≤ z) (hsum : x + y + z = s0 + s1 + s2) :
    priceOf v0 v1 v2 x y z ≤ priceOf v0 v1 v2 s0 s1 s2 ∧ offerOf v0 v1 v2 s0 s1 s2 ≤ offerOf v0 v1 v2 x y z := by
  have hop := offer_price v0p v1p v2p p0 p1 p2 hs W
  by_cases he : x = s0 ∧ y = s1 ∧ z = s2
  · obtain ⟨rfl, rfl, rfl⟩ := he
    exact ⟨Int.le_refl _, Int.le_refl _⟩
  · obtain ⟨hk, hk'⟩ := three_lt hsum he
    constructor
    · rcases hk with h | h | h
      · obtain ⟨a, b⟩ := best_key v0p p0 h (offer0 v0 v1 v2 s0 s1 s2) hop
        exact Int.le_trans (price0 a) b
      · obtain ⟨a, b⟩ := best_key v1p p1 h (offer1 v0 v1 v2 s0 s1 s2) hop
        exact Int.le_trans (price1 a) b
      · obtain ⟨a, b⟩ := best_key v2p p2 h (offer2 v0 v1 v2 s0 s1 s2) hop
        exact Int.le_trans (price2 a) b
    · rcases hk' with h | h | h
      · exact Int.le_trans (best_key' v0p q0 h (price0 (Int.lt_of_le_of_lt q0 h)) hop) (offer0 v0 v1 v2 x y z)
      · exact Int.le_trans (best_key' v1p q1 h (price1 (Int.lt_of_le_of_lt q1 h)) hop) (offer1 v0 v1 v2 x y z)
      · exact Int.le_trans (best_key' v2p q2 h (price2 (Int.lt_of_le_of_lt q2 h)) hop) (offer2 v0 v1 v2 x y z)
/-- a share of the house, rounded down, is no more than the seats -/
theorem share_le {h v t s : Int} (ht : 0 < t) (hs : 0 ≤ s) (hlt : h * v < t * (s + 1)) : (h * v).fdiv t ≤ s := by
  rw [Int.fdiv_eq_ediv_of_nonneg _ (by omega)]
  have : h * v / t < s + 1 := Int.ediv_lt_of_lt_mul ht (by rw [Int.mul_comm (s + 1) t]; exact hlt)
  omega
theorem share_ge {h v t : Int} (hh : 0 ≤ h) (hv : 0 ≤ v) (ht : 0 < t) : 0 ≤ (h * v).fdiv t := by
  rw [Int.fdiv_eq_ediv_of_nonneg _ (by omega)]
  exact Int.ediv_nonneg (Int.mul_nonneg hh hv) (by omega)
/-- a party's share is less than its seats and one, out of what it has against the two others -/
theorem share_lin {t a b c s m m1 m2 n1 n2 : Int} (ha : 0 ≤ a) (ht : 0 < t) (h1 : m1 ≤ n1 + b) (h2 : m2 ≤ n2 + c) (k1 : 0 ≤ n1) (k2 : 0 ≤ n2) (e : t = a + b + c) (z : a = 0 → m1 = 0 ∧ m2 = 0) : m + m1 + m2 < (m + n1 + n2) + t := by
  by_cases h : a = 0
  · obtain ⟨rfl, rfl⟩ := z h
    omega
  · omega
theorem share_one {h a b c s x y : Int} (hs : h = s + x + y) (ha : 0 ≤ a) (hb : 0 ≤ b) (hc : 0 ≤ c) (ps : 0 ≤ s) (ht : 0 < a + b + c) (h1 : a * x ≤ b * s + b) (h2 : a * y ≤ c * s + c) {t : Int} (et : t = a + b + c) : 0 ≤ h → 0 ≤ (h * a).fdiv t ∧ (h * a).fdiv t ≤ s := by
  intro hh
  subst et
  refine ⟨share_ge hh ha ht, share_le ht ps ?_⟩
  rw [hs, mul_s, Int.add_mul, Int.add_mul, Int.add_mul, Int.add_mul, Int.mul_comm s a, Int.mul_comm x a, Int.mul_comm y a]
  exact share_lin (s := s) ha ht h1 h2 (Int.mul_nonneg hb ps) (Int.mul_nonneg hc ps) rfl fun h => by rw [h, Int.zero_mul, Int.zero_mul]; exact ⟨rfl, rfl⟩
theorem shares_ok {v0 v1 v2 s0 s1 s2 : Int} (v0p : 0 ≤ v0) (v1p : 0 ≤ v1) (v2p : 0 ≤ v2) (p0 : 0 ≤ s0) (p1 : 0 ≤ s1) (p2 : 0 ≤ s2) (hv : 0 < v0 + v1 + v2) (W : W6 v0 v1 v2 s0 s1 s2) :
    (0 ≤ ((s0 + s1 + s2) * v0).fdiv (v0 + v1 + v2) ∧ ((s0 + s1 + s2) * v0).fdiv (v0 + v1 + v2) ≤ s0) ∧ (0 ≤ ((s0 + s1 + s2) * v1).fdiv (v0 + v1 + v2) ∧ ((s0 + s1 + s2) * v1).fdiv (v0 + v1 + v2) ≤ s1) ∧ (0 ≤ ((s0 + s1 + s2) * v2).fdiv (v0 + v1 + v2) ∧ ((s0 + s1 + s2) * v2).fdiv (v0 + v1 + v2) ≤ s2) := by
  have hh : 0 ≤ s0 + s1 + s2 := Int.add_nonneg (Int.add_nonneg p0 p1) p2
  have e1 : v0 + v1 + v2 = v1 + v0 + v2 := by rw [Int.add_comm v0 v1]
  have e2 : v0 + v1 + v2 = v2 + v0 + v1 := by rw [Int.add_comm (v0 + v1) v2, Int.add_assoc v2 v0 v1]
  have f1 : s0 + s1 + s2 = s1 + s0 + s2 := by rw [Int.add_comm s0 s1]
  have f2 : s0 + s1 + s2 = s2 + s0 + s1 := by rw [Int.add_comm (s0 + s1) s2, Int.add_assoc s2 s0 s1]
  exact ⟨share_one rfl v0p v1p v2p p0 hv W.a10 W.a20 rfl hh, share_one f1 v1p v0p v2p p1 (e1 ▸ hv) W.a01 W.a21 e1 hh, share_one f2 v2p v0p v1p p2 (e2 ▸ hv) W.a02 W.a12 e2 hh⟩
theorem due_eq {a v s : Int} (hv : 1 ≤ v) (h1 : v * s ≤ a) (h2 : a < v * s + v) : a.fdiv v = s := by
  rw [Int.fdiv_eq_ediv_of_nonneg _ (by omega)]
  have e1 := Int.le_ediv_of_mul_le (show 0 < v by omega) (by rw [Int.mul_comm]; exact h1 : s * v ≤ a)
  have e2 : a / v < s + 1 := Int.ediv_lt_of_lt_mul (show 0 < v by omega) (by rw [Int.mul_comm, mul_s]; exact h2)
  omega
structure DueLater (rest whole s : Int) : Prop where
  a : rest ≠ 0 → whole = s
  b : rest = 0 → 0 < whole → whole - 1 = s
  c : rest = 0 → ¬ 0 < whole → whole = s
theorem dueK_le {k l rest whole s : Int} (h : ¬ k > l) (e : whole = s) : DueK k l rest whole s := ⟨fun _ => e, fun _ => e, fun g => absurd g h, fun _ _ => e⟩
theorem dueK_gt {k l rest whole s : Int} (h : k > l) (D : DueLater rest whole s) : DueK k l rest whole s := ⟨fun g => absurd h g, D.a, fun _ => D.b, D.c⟩
theorem due_later {a v s : Int} (hv : 1 ≤ v) (hv2 : v < 256) (ha : 0 ≤ a) (hs : 0 ≤ s) (ha8 : a < 8 * v) (h1 : a ≤ v * s + v) (h2 : s = 0 ∨ v * s < a) : DueLater (restOf a v) (a.fdiv v) s := by
  have hr := (bits_facts ha ha8 hv hv2).2.2.2.2.2.2
  rw [Int.fmod_eq_emod_of_nonneg _ (by omega)] at hr
  rw [Int.fdiv_eq_ediv_of_nonneg _ (by omega)]
  have k1 := Int.emod_add_mul_ediv a v
  have k2 := Int.emod_nonneg a (show v ≠ 0 by omega)
  have k3 := Int.emod_lt_of_pos a (show 0 < v by omega)
  have q0 : 0 ≤ a / v := Int.ediv_nonneg ha (by omega)
  generalize hq : a / v = q at *
  generalize a % v = r at *
  have mono : ∀ x y : Int, x ≤ y → v * x ≤ v * y := fun x y h => Int.mul_le_mul_of_nonneg_left h (by omega)
  have l1 : q = s ∨ s + 1 ≤ q ∨ q + 1 ≤ s := by omega
  refine ⟨fun hn => ?_, fun hz hp => ?_, fun hz hp => ?_⟩
  · have hr' : ¬ r = 0 := fun h => hn (hr.mpr h)
    rcases l1 with h | h | h
    · exact h
    · have := mono _ _ h; rw [mul_s] at this; omega
    · have := mono _ _ h; rw [mul_s] at this; rcases h2 with h2 | h2 <;> omega
  · have hr' : r = 0 := hr.mp hz
    rcases l1 with h | h | h
    · subst h; rcases h2 with h2 | h2 <;> omega
    · by_cases h3 : q = s + 1
      · omega
      · have := mono (s + 2) q (by omega)
        rw [show v * (s + 2) = v * s + v + v by rw [show s + 2 = s + 1 + 1 by omega, mul_s, mul_s]] at this
        omega
    · have := mono _ _ h; rw [mul_s] at this; rcases h2 with h2 | h2 <;> omega
  · have hr' : r = 0 := hr.mp hz
    have hq0 : q = 0 := by omega
    rw [hq0] at k1 ⊢
    rcases h2 with h2 | h2
    · exact h2.symm
    · have := mono 0 s hs; omega
/-- parties a and b (sa, sb seats) join against c (sc seats): both x seats, c y seats -/
theorem join_split {s t u x y : Int} (h : x + y = s + t + u) : x = s + t ∨ x = s + t + 1 ∨ (x + 1 ≤ s + t ∧ u + 1 ≤ y) ∨ (s + t + 1 + 1 ≤ x ∧ y + 1 + 1 ≤ u) := by omega
section
variable {a b c sa sb sc x y : Int}
theorem few (ap : 0 ≤ a + b) (cp : 0 ≤ c) (h : x + 1 ≤ sa + sb) (hy : sc + 1 ≤ y) : c * x + c ≤ c * sa + c * sb ∧ (a * sc + b * sc) + (a + b) ≤ (a + b) * y := by
  have m1 := Int.mul_le_mul_of_nonneg_left hy ap
  have m2 := Int.mul_le_mul_of_nonneg_left h cp
  rw [mul_s, Int.mul_add] at m2
  rw [mul_s, Int.add_mul] at m1
  exact ⟨m2, m1⟩
theorem many (ap : 0 ≤ a + b) (cp : 0 ≤ c) (h : sa + sb + 1 + 1 ≤ x) (hy : y + 1 + 1 ≤ sc) : c * sa + c * sb + c + c ≤ c * x ∧ (a + b) * y + (a + b) + (a + b) ≤ a * sc + b * sc := by
  have m1 := Int.mul_le_mul_of_nonneg_left hy ap
  have m2 := Int.mul_le_mul_of_nonneg_left h cp
  rw [mul_s, mul_s, Int.mul_add] at m2
  rw [mul_s, mul_s, Int.add_mul _ _ sc] at m1
  exact ⟨m2, m1⟩
theorem few_ab (ap : 0 ≤ a + b) (cp : 0 ≤ c) (h : x + 1 ≤ sa + sb) (hy : sc + 1 ≤ y) (w1 : c * sa ≤ a * sc + a) (w2 : c * sb ≤ b * sc + b) (g : (a + b) * y < c * x + c) : False := by
  obtain ⟨m1, m2⟩ := few ap cp h hy
  clear h hy ap cp
  omega
theorem few_c (ap : 0 ≤ a + b) (cp : 0 ≤ c) (h : x + 1 ≤ sa + sb) (hy : sc + 1 ≤ y) (w : c * sa + c * sb < a * sc + a + (b * sc + b)) (g : (a + b) * y ≤ c * x + c) : False := by
  obtain ⟨m1, m2⟩ := few ap cp h hy
  clear h hy ap cp
  omega
theorem many_ab (ap : 0 ≤ a + b) (cp : 0 ≤ c) (h : sa + sb + 1 + 1 ≤ x) (hy : y + 1 + 1 ≤ sc) (w1 : a * sc < c * sa + c) (w2 : b * sc ≤ c * sb + c) (g : c * x ≤ (a + b) * y + (a + b)) : False := by
  obtain ⟨m1, m2⟩ := many ap cp h hy
  clear h hy cp
  omega
theorem many_c (ap : 0 ≤ a + b) (cp : 0 ≤ c) (h : sa + sb + 1 + 1 ≤ x) (hy : y + 1 + 1 ≤ sc) (w1 : a * sc ≤ c * sa + c) (w2 : b * sc ≤ c * sb + c) (g : c * x < (a + b) * y + (a + b)) : False := by
  obtain ⟨m1, m2⟩ := many ap cp h hy
  clear h hy cp
  omega
theorem ne_of_one {a b : Int} (h : 0 ≤ a) (e : a + 1 ≤ b) : ¬ b = 0 := by omega
theorem ne_of_two {a b : Int} (h : 0 ≤ a) (e : a + 1 + 1 ≤ b) : ¬ b = 0 := by omega
theorem ne_of_sum {a b c : Int} (h : 0 ≤ a) (h' : 0 ≤ b) (e : a + b + 1 + 1 ≤ c) : ¬ c = 0 := by omega
end
theorem join01 {v0 v1 v2 s0 s1 s2 x y : Int} (v0p : 0 ≤ v0) (v1p : 0 ≤ v1) (v2p : 0 ≤ v2) (p0 : 0 ≤ s0) (p1 : 0 ≤ s1) (p2 : 0 ≤ s2) (q0 : 0 ≤ x) (q1 : 0 ≤ y) (W : W6 v0 v1 v2 s0 s1 s2) (hsum : x + y = s0 + s1 + s2)
    (g1 : x = 0 ∨ v2 * x ≤ (v0 + v1) * y + (v0 + v1)) (g2 : y = 0 ∨ (v0 + v1) * y < v2 * x + v2) : x = s0 + s1 ∨ x = s0 + s1 + 1 := by
  rcases join_split hsum with h | h | ⟨h, hy⟩ | ⟨h, hy⟩
  · exact .inl h
  · exact .inr h
  · exact (few_ab (Int.add_nonneg v0p v1p) v2p h hy W.a02 W.a12 (g2.resolve_left (ne_of_one p2 hy))).elim
  · exact (many_ab (Int.add_nonneg v0p v1p) v2p h hy (W.b20.resolve_left (ne_of_two q1 hy)) W.a21 (g1.resolve_left (ne_of_sum p0 p1 h))).elim
theorem join02 {v0 v1 v2 s0 s1 s2 x y : Int} (v0p : 0 ≤ v0) (v1p : 0 ≤ v1) (v2p : 0 ≤ v2) (p0 : 0 ≤ s0) (p1 : 0 ≤ s1) (p2 : 0 ≤ s2) (q0 : 0 ≤ x) (q1 : 0 ≤ y) (W : W6 v0 v1 v2 s0 s1 s2) (hsum : x + y = s0 + s1 + s2)
    (g1 : x = 0 ∨ v1 * x ≤ (v0 + v2) * y + (v0 + v2)) (g2 : y = 0 ∨ (v0 + v2) * y < v1 * x + v1) : x = s0 + s2 ∨ x = s0 + s2 + 1 := by
  rcases join_split (hsum.trans (Int.add_right_comm _ _ _)) with h | h | ⟨h, hy⟩ | ⟨h, hy⟩
  · exact .inl h
  · exact .inr h
  · exact (few_ab (Int.add_nonneg v0p v2p) v1p h hy W.a01 W.a21 (g2.resolve_left (ne_of_one p1 hy))).elim
  · exact (many_ab (Int.add_nonneg v0p v2p) v1p h hy (W.b10.resolve_left (ne_of_two q1 hy)) W.a12 (g1.resolve_left (ne_of_sum p0 p2 h))).elim
theorem join12 {v0 v1 v2 s0 s1 s2 x y : Int} (v0p : 0 ≤ v0) (v1p : 0 ≤ v1) (v2p : 0 ≤ v2) (p0 : 0 ≤ s0) (p1 : 0 ≤ s1) (p2 : 0 ≤ s2) (q0 : 0 ≤ x) (q1 : 0 ≤ y) (W : W6 v0 v1 v2 s0 s1 s2) (hsum : x + y = s0 + s1 + s2)
    (g1 : x = 0 ∨ (v1 + v2) * x ≤ v0 * y + v0) (g2 : y = 0 ∨ v0 * y < (v1 + v2) * x + (v1 + v2)) : y = s1 + s2 ∨ y = s1 + s2 + 1 := by
  have e : y + x = s1 + s2 + s0 := by rw [Int.add_comm y x, hsum, Int.add_assoc, Int.add_comm s0]
  rcases join_split e with h | h | ⟨h, hy⟩ | ⟨h, hy⟩
  · exact .inl h
  · exact .inr h
  · refine (few_c (Int.add_nonneg v1p v2p) v0p h hy ?_ (g1.resolve_left (ne_of_one p0 hy))).elim
    rcases W.b10 with z | z
    · rw [z, Int.zero_add] at h
      exact Int.add_lt_add_of_le_of_lt W.a10 (W.b20.resolve_left (ne_of_one q1 h))
    · exact Int.add_lt_add_of_lt_of_le z W.a20
  · exact (many_c (Int.add_nonneg v1p v2p) v0p h hy W.a01 W.a02 (g2.resolve_left (ne_of_sum p1 p2 h))).elim
end

section
/-- what the deal hands on: the votes are in bounds, the seats are dealt by the rule, l got the last one -/
structure Fair (v0 v1 v2 house : Int) (s0 s1 s2 : Nat) (l : Int) : Prop where
  r0 : 0 ≤ v0 ∧ v0 ≤ 80
  r1 : 0 ≤ v1 ∧ v1 ≤ 80
  r2 : 0 ≤ v2 ∧ v2 ≤ 80
  tot : 1 ≤ v0 + v1 + v2 ∧ v0 + v1 + v2 ≤ 160
  hh : 4 ≤ house ∧ house ≤ 7
  sum : ((s0 + s1 + s2 : Nat) : Int) = house
  W : W6 v0 v1 v2 s0 s1 s2
  last : Last3 v0 v1 v2 s0 s1 s2 l
theorem fair_of {v0 v1 v2 house l : Int} {s0 s1 s2 : Nat} (r0 : 0 ≤ v0 ∧ v0 ≤ 80) (r1 : 0 ≤ v1 ∧ v1 ≤ 80) (r2 : 0 ≤ v2 ∧ v2 ≤ 80) (tot : 1 ≤ v0 + v1 + v2 ∧ v0 + v1 + v2 ≤ 160) (hh : 4 ≤ house ∧ house ≤ 7) (I : Inv3 v0 v1 v2 s0 s1 s2 l house.toNat) : Fair v0 v1 v2 house s0 s1 s2 l := by
  obtain ⟨i1, i2, i3⟩ := I
  refine ⟨r0, r1, r2, tot, hh, by omega, w6_of r0.1 r1.1 r2.1 i2, ?_⟩
  rcases i3 with h | h
  · omega
  · exact h
abbrev seatAt (s0 s1 s2 : Nat) (l : Int) : Int := pick3 s0 s1 s2 l
theorem nn (a : Int) (s : Nat) (h : 0 ≤ a) : 0 ≤ a * (s : Int) := Int.mul_nonneg h (Int.natCast_nonneg s)
theorem q_lt {x h v r : Int} (hv : 1 ≤ v) (e : x * h ≤ v * r + v) (hr : r ≤ 6) : x * h < 8 * v := by
  have := Int.mul_le_mul_of_nonneg_left hr (show 0 ≤ v by omega)
  omega
theorem q_self {v h : Int} (hv : 1 ≤ v) (hr : h ≤ 7) : v * h < 8 * v := by
  have := Int.mul_le_mul_of_nonneg_left hr (show 0 ≤ v by omega)
  omega
theorem win_pos {v x y h r q : Int} (hv : 0 ≤ v) (hx : 0 ≤ x) (hy : 0 ≤ y) (hh : 1 ≤ h) (e1 : x * h ≤ v * r + v) (e2 : y * h ≤ v * q + v) (ht : 1 ≤ v + x + y) : 1 ≤ v := by
  by_cases c : v = 0
  · subst c
    have m1 := Int.mul_le_mul_of_nonneg_left hh hx
    have m2 := Int.mul_le_mul_of_nonneg_left hh hy
    rw [Int.zero_mul] at e1 e2
    omega
  · omega
theorem room3 {a b c : Nat} {house : Int} (hs : ((a + b + c : Nat) : Int) = house) (hh : 4 ≤ house ∧ house ≤ 7) (g : 1 ≤ a) : 1 ≤ (a : Int) ∧ (a : Int) ≤ 7 ∧ (b : Int) ≤ 6 ∧ (c : Int) ≤ 6 := by omega
theorem dueK3 {v0 v1 v2 held vl l s0 s1 s2 : Int} (D0 : DueK 0 l (restOf (v0 * held) vl) ((v0 * held).fdiv vl) s0) (D1 : DueK 1 l (restOf (v1 * held) vl) ((v1 * held).fdiv vl) s1) (D2 : DueK 2 l (restOf (v2 * held) vl) ((v2 * held).fdiv vl) s2) :
    ∀ i : Nat, i < 3 → DueK (0 + (i : Int)) l (restOf (at3 v0 v1 v2 i * held) vl) ((at3 v0 v1 v2 i * held).fdiv vl) (at3 s0 s1 s2 i) := by
  intro i hi
  rcases i with _ | _ | _ | i
  · exact D0
  · exact D1
  · exact D2
  · omega
/-- an earlier party's seats, exactly -/
theorem due_early {x v : Int} {h s : Nat} (hv : 1 ≤ v) (hx : 0 ≤ x) (g : 1 ≤ h) (l1 : s = 0 ∨ x * (h : Int) ≥ v * (s : Int)) (b : (h : Int) = 0 ∨ x * h < v * s + v) : (x * (h : Int)).fdiv v = s := by
  refine due_eq hv ?_ ?_
  · rcases l1 with h0 | h0
    · rw [h0, Int.natCast_zero, Int.mul_zero]; exact nn x h hx
    · exact h0
  · rcases b with h0 | h0
    · omega
    · exact h0
theorem due_next {x v : Int} {h s : Nat} (hv : 1 ≤ v) (h80 : v ≤ 80) (hx : 0 ≤ x) (q : x * h < 8 * v) (a : x * (h : Int) ≤ v * s + v) (l : s = 0 ∨ x * (h : Int) > v * (s : Int)) : DueLater (restOf (x * h) v) ((x * (h : Int)).fdiv v) s :=
  due_later hv (Int.lt_of_le_of_lt h80 (by decide)) (nn x h hx) (Int.natCast_nonneg s) q a (l.imp (fun e => by rw [e]; rfl) id)
theorem due_any {lv : Addr} {v0 v1 v2 house l : Int} {s0 s1 s2 n : Nat} {t0 t1 t2 t3 t4 : Tok} (I : Fair v0 v1 v2 house s0 s1 s2 l) :
    Tel w p loose mean mg mb 129 4 [(lv, listOf #[.int v0 t0, .int v1 t1, .int v2 t2] n)] [.ref lv, .int (seatAt s0 s1 s2 l) t3, .int l t4] (One fun o => ∃ k t u v, o = listOf #[.int s0 t, .int s1 u, .int s2 v] k) := by
  have r0 := I.r0
  have r1 := I.r1
  have r2 := I.r2
  have W := I.W
  rcases I.last.any with rfl | rfl | rfl
  · obtain ⟨g, l1, l2⟩ := I.last.l0 rfl
    obtain ⟨g1, g7, gb, gc⟩ := room3 I.sum I.hh g
    have hv := win_pos r0.1 r1.1 r2.1 g1 W.a01 W.a02 I.tot.1
    have qb := q_lt hv W.a01 gb
    have qc := q_lt hv W.a02 gc
    exact due (.inl rfl) ⟨hv, r0.2⟩ ⟨Int.natCast_nonneg s0, g7⟩ (all3 ⟨r0, nn _ _ r0.1, q_self hv g7⟩ ⟨r1, nn _ _ r1.1, qb⟩ ⟨r2, nn _ _ r2.1, qc⟩)
      (dueK3 (dueK_le (by decide) (due_eq hv (Int.le_refl _) (Int.lt_add_of_pos_right _ hv))) (dueK_gt (by decide) (due_next hv r0.2 r1.1 qb W.a01 l1)) (dueK_gt (by decide) (due_next hv r0.2 r2.1 qc W.a02 l2)))
  · obtain ⟨g, l1, l2⟩ := I.last.l1 rfl
    obtain ⟨g1, g7, gb, gc⟩ := room3 (a := s1) (b := s0) (c := s2) (by rw [Nat.add_comm s1 s0]; exact I.sum) I.hh g
    have hv := win_pos r1.1 r0.1 r2.1 g1 W.a10 W.a12 (by rw [Int.add_comm v1 v0]; exact I.tot.1)
    have qb := q_lt hv W.a10 gb
    have qc := q_lt hv W.a12 gc
    exact due (.inr (.inl rfl)) ⟨hv, r1.2⟩ ⟨Int.natCast_nonneg s1, g7⟩ (all3 ⟨r0, nn _ _ r0.1, qb⟩ ⟨r1, nn _ _ r1.1, q_self hv g7⟩ ⟨r2, nn _ _ r2.1, qc⟩)
      (dueK3 (dueK_le (by decide) (due_early hv r0.1 g l1 W.b10)) (dueK_le (by decide) (due_eq hv (Int.le_refl _) (Int.lt_add_of_pos_right _ hv))) (dueK_gt (by decide) (due_next hv r1.2 r2.1 qc W.a12 l2)))
  · obtain ⟨g, l1, l2⟩ := I.last.l2 rfl
    obtain ⟨g1, g7, gb, gc⟩ := room3 (a := s2) (b := s0) (c := s1) (by rw [Nat.add_comm s2 s0, Nat.add_right_comm]; exact I.sum) I.hh g
    have hv := win_pos r2.1 r0.1 r1.1 g1 W.a20 W.a21 (by rw [Int.add_comm v2 v0, Int.add_right_comm]; exact I.tot.1)
    have qb := q_lt hv W.a20 gb
    have qc := q_lt hv W.a21 gc
    exact due (.inr (.inr rfl)) ⟨hv, r2.2⟩ ⟨Int.natCast_nonneg s2, g7⟩ (all3 ⟨r0, nn _ _ r0.1, qb⟩ ⟨r1, nn _ _ r1.1, qc⟩ ⟨r2, nn _ _ r2.1, q_self hv g7⟩)
      (dueK3 (dueK_le (by decide) (due_early hv r0.1 g l1 W.b20)) (dueK_le (by decide) (due_early hv r1.1 g l2 W.b21)) (dueK_le (by decide) (due_eq hv (Int.le_refl _) (Int.lt_add_of_pos_right _ hv))))
theorem best_any {lv ls : Addr} {v0 v1 v2 house l : Int} {s0 s1 s2 n ns : Nat} {t0 t1 t2 t3 t4 t5 t6 : Tok} (I : Fair v0 v1 v2 house s0 s1 s2 l) :
    Tel w p loose mean mg mb 115 4 [(lv, listOf #[.int v0 t0, .int v1 t1, .int v2 t2] n), (ls, listOf #[.int s0 t3, .int s1 t4, .int s2 t5] ns)] [.ref lv, .ref ls, .int house t6] (Bare fun v => v = .bool true) := by
  have hh := I.hh
  have hs := I.sum
  refine best I.r0 I.r1 I.r2 I.hh I.sum rfl rfl (offer_price I.r0.1 I.r1.1 I.r2.1 (by omega) (by omega) (by omega) (by omega) I.W) fun x y hxy => ?_
  exact best_all I.r0.1 I.r1.1 I.r2.1 (by omega) (by omega) (by omega) (by omega) I.W (by omega) (by omega) (by omega) (by omega)
inductive SharesOut (s0 s1 s2 : Nat) (o : Obj) : Prop
  | mk (k : Nat) (t u v : Tok) (a0 a1 a2 : Int) (h0 : 0 ≤ a0 ∧ a0 ≤ (s0 : Int)) (h1 : 0 ≤ a1 ∧ a1 ≤ (s1 : Int)) (h2 : 0 ≤ a2 ∧ a2 ≤ (s2 : Int)) (e : o = listOf #[.int a0 t, .int a1 u, .int a2 v] k)
theorem shares_any {lv : Addr} {v0 v1 v2 house l : Int} {s0 s1 s2 n : Nat} {t0 t1 t2 t3 : Tok} (I : Fair v0 v1 v2 house s0 s1 s2 l) :
    Tel w p loose mean mg mb 134 5 [(lv, listOf #[.int v0 t0, .int v1 t1, .int v2 t2] n)] [.ref lv, .int house t3] (One (SharesOut s0 s1 s2)) := by
  obtain ⟨r0, r1, r2, tot, hh, hs, W, L⟩ := I
  have key := shares_ok r0.1 r1.1 r2.1 (s0 := s0) (s1 := s1) (s2 := s2) (by omega) (by omega) (by omega) (by omega) W
  rw [show (s0 : Int) + s1 + s2 = house by omega] at key
  have up : ∀ {v : Int}, 0 ≤ v → v ≤ v0 + v1 + v2 → 0 ≤ house * v ∧ house * v < 8 * (v0 + v1 + v2) := fun {v} h1 h2 => by
    have e1 := Int.mul_nonneg (show 0 ≤ house by omega) h1
    have e2 : house * v ≤ 7 * v := Int.mul_le_mul_of_nonneg_right hh.2 h1
    omega
  have hP := all3 (P := fun x => (0 ≤ x ∧ x ≤ 80) ∧ 0 ≤ house * x ∧ house * x < 8 * (v0 + v1 + v2)) ⟨r0, up r0.1 (by omega)⟩ ⟨r1, up r1.1 (by omega)⟩ ⟨r2, up r2.1 (by omega)⟩
  intro rest dp un gd cn cs a ccd cl outer A₀ base h₀ L' m s Q E B F X N S T hk hd hu hret
  refine shares tot hh hP rest dp un gd cn cs a ccd cl outer A₀ base h₀ L' m s Q E B F X N S T hk hd hu fun v tl h' tk' ho => hret v tl h' tk' ?_
  obtain ⟨x, o, ⟨k, t, u, v', ho⟩, hv, ht⟩ := ho
  exact ⟨x, o, ⟨k, t, u, v', _, _, _, key.1, key.2.1, key.2.2, ho⟩, hv, ht⟩
theorem nat_pos (n : Nat) : 0 ≤ (n : Int) := Int.natCast_nonneg n
theorem two_sum {x y s0 s1 s2 : Nat} {house : Int} (g : x + y = house.toNat) (hs : ((s0 + s1 + s2 : Nat) : Int) = house) : (x : Int) + y = s0 + s1 + s2 := by subst hs; omega
theorem join_end {x y s t u : Nat} {house : Int} (hh : 4 ≤ house ∧ house ≤ 7) (hs : ((s + t + u : Nat) : Int) = house) (g : (x : Int) + y = s + t + u) (h : (x : Int) = s + t ∨ (x : Int) = s + t + 1) : (x = s + t ∨ x = s + t + 1) ∧ x ≤ 7 := by omega
theorem eq0_int {x : Nat} {P : Prop} (h : x = 0 ∨ P) : (x : Int) = 0 ∨ P := h.imp (fun e => by rw [e]; rfl) id
theorem joinL01 {v0 v1 v2 house l : Int} {s0 s1 s2 : Nat} (I : Fair v0 v1 v2 house s0 s1 s2 l) : JoinL (v0 + v1) v2 house (s0 + s1) := by
  refine ⟨fun x y ⟨g0, g1, g2⟩ => ?_⟩
  simp only [Ahead, Level, mul_s] at g1 g2
  have e := two_sum g0 I.sum
  exact join_end I.hh I.sum e (join01 I.r0.1 I.r1.1 I.r2.1 (nat_pos _) (nat_pos _) (nat_pos _) (nat_pos _) (nat_pos _) I.W e (eq0_int g1) (eq0_int g2))
theorem joinL02 {v0 v1 v2 house l : Int} {s0 s1 s2 : Nat} (I : Fair v0 v1 v2 house s0 s1 s2 l) : JoinL (v0 + v2) v1 house (s0 + s2) := by
  refine ⟨fun x y ⟨g0, g1, g2⟩ => ?_⟩
  simp only [Ahead, Level, mul_s] at g1 g2
  have e := two_sum g0 I.sum
  have hs := I.sum
  rw [Nat.add_right_comm] at hs
  have e' := two_sum g0 hs
  exact join_end I.hh hs e' (join02 I.r0.1 I.r1.1 I.r2.1 (nat_pos _) (nat_pos _) (nat_pos _) (nat_pos _) (nat_pos _) I.W e (eq0_int g1) (eq0_int g2))
theorem joinR12 {v0 v1 v2 house l : Int} {s0 s1 s2 : Nat} (I : Fair v0 v1 v2 house s0 s1 s2 l) : JoinR v0 (v1 + v2) house (s1 + s2) := by
  refine ⟨fun x y ⟨g0, g1, g2⟩ => ?_⟩
  simp only [Ahead, Level, mul_s] at g1 g2
  have e := two_sum g0 I.sum
  have hs : ((s1 + s2 + s0 : Nat) : Int) = house := by rw [Nat.add_comm (s1 + s2) s0, ← Nat.add_assoc]; exact I.sum
  have e' := two_sum (x := y) (y := x) ((Nat.add_comm y x).trans g0) hs
  exact join_end I.hh hs e' (join12 I.r0.1 I.r1.1 I.r2.1 (nat_pos _) (nat_pos _) (nat_pos _) (nat_pos _) (nat_pos _) I.W e (eq0_int g1) (eq0_int g2))
end

section
/-- as Tel, for a def that reads the script -/
def TelL (w : World) (p : Program) (loose : List Str) (mean : ExcName → Option Value) (mg mb : Str → Option Value) (f : Addr) (nd : Nat) (sc : Addr) (xs : List Value) (vs : List Value) (Out : Value → List (Addr × Obj) → Prop) : Prop :=
  ∀ (rest : List (Addr × Obj)) (dp un : Nat) (gd : Option (List Code)) (cn : Str) (cs : Scope) (a : Addr) (ccd : Value) (cl : List (Str × Addr)) (outer : List Env) (A₀ : Around) (base h₀ : Heap) (L : Addr) (m : Str → Option Value) (s : Shared) (Q E : Value → Shared → Prop),
    Below A₀ base outer h₀ → Fr h₀ L s.heap m → (hd.heap_39 w.params).In h₀ → News h₀ L s.heap rest → SubL [] rest → Top p loose mean mg mb h₀ → cs.kind = .function → dp + nd < recursionLimit → un + 8 * nd < cLine → h₀.IsList sc xs.toArray →
    Ret Out rest h₀ L m s Q →
    wpAny (model PySem.Challenge.rw_sh0018_01.row.prog w) (ktrTop dp un gd cn cs L a ccd cl outer) (call (.ref f) vs) Q E s
theorem ints_pick {vs : List Value} {ns : List Int} (h : IntsAre vs ns) : ∀ {α : Type} (l : List α) (f : α → Option Value), (∀ a ∈ l, ∀ v, f a = some v → v ∈ vs) → ∃ ms, IntsAre (l.filterMap f) ms := by
  intro α l f hf
  induction l with
  | nil => exact ⟨[], .nil⟩
  | cons a r ih =>
    obtain ⟨ms, hm⟩ := ih fun b hb v e => hf b (List.mem_cons_of_mem _ hb) v e
    cases e : f a with
    | none => exact ⟨ms, by rw [List.filterMap_cons, e]; exact hm⟩
    | some v =>
      have hv := hf a (List.mem_cons_self ..) v e
      have : ∃ n t, v = .int n t := by
        clear hm ih hf e
        induction h with
        | nil => cases hv
        | cons n t _ ih' =>
          rcases List.mem_cons.mp hv with rfl | hv
          · exact ⟨n, t, rfl⟩
          · exact ih' hv
      obtain ⟨n, t, rfl⟩ := this
      exact ⟨n :: ms, by rw [List.filterMap_cons, e]; exact .cons n t hm⟩
section
variable {prog : Program} {A : Around} {E : Value → Shared → Prop} {s : Shared} {h₀ : Heap} {L l : Addr} {m : Str → Option Value} {value slice : PySem.Expr} {vs : List Value} {ns : List Int} {Q : Value → Shared → Prop}
theorem slice3_mine {vl vu vk : Value} {lo hi st : Option Int} {ops : List Value} (F : Fr h₀ L s.heap m) (N : News h₀ L s.heap news) (hl : s.heap.IsList l vs.toArray) (hi' : IntsAre vs ns) (hn : ns.length ≤ 63) (pl : IsPart vl lo) (pu : IsPart vu hi) (pk : IsPart vk st) (h0 : st ≠ some 0)
    (h : ∀ D ws ms h', Fr h₀ L h' m → News h₀ L h' ((D, listOf (List.toArray ws) 0) :: news) → (∀ p ∈ news, p.1 < D) → IntsAre ws ms → ms.length ≤ 63 → Q (.ref D) { s with heap := h' })
    (hs : subscripted slice false (.ref l) (.ref s.heap.objs.size) = operate ops (getItem (.ref l) (.ref s.heap.objs.size))) (ht : ∀ r, letTemporaryGo value (.ref l) r = pure ()) :
    wpAny (model prog w) A (subscriptTail value slice (.ref l) (.ref s.heap.objs.size)) Q E { s with heap := s.heap.push { cls := .type "slice", data := .fields #[vl, vu, vk] } } := by
  have hlen := hi'.length
  refine kmk_slice3_lit F N hl pl pu pk h0 rfl (fun D h' F' N' l1 => ?_) hs ht (by rw [List.size_toArray, sizeLine_eq]; omega)
  obtain ⟨ms, hm⟩ := ints_pick hi' (sliceRange (sliceBounds lo hi st vs.toArray.size).1 (sliceBounds lo hi st vs.toArray.size).2.1 (sliceBounds lo hi st vs.toArray.size).2.2) (vs.toArray[·]?) (fun a _ v e => by
    have := Array.mem_of_getElem? e
    simpa using this)
  refine h D _ ms h' F' N' l1 hm ?_
  have q := slicePick_size_le vs.toArray lo hi st
  have e2 : (slicePick vs.toArray lo hi st).size = ms.length := by unfold slicePick; rw [List.size_toArray]; exact hm.length
  have e3 : vs.toArray.size = vs.length := by simp
  omega
end
inductive IntEnd (h₀ : Heap) (L : Addr) (m : Str → Option Value) (s : Shared) (all : List (Addr × Obj)) (v : Value) (s' : Shared) : Prop
  | mk (h' : Heap) (tk : Nat) (k : Int) (t : Tok) (e1 : v = .int k t) (e2 : s' = { s with heap := h', toks := tk }) (F : Fr h₀ L h' m) (N : News h₀ L h' all)
structure JInts (ax : Addr) (ws : List Value) (nw0 : List (Addr × Obj)) (i : Nat) (ys : List Value) (nw : List (Addr × Obj)) : Prop where
  same : nw = nw0
  num : ∃ ns, IntsAre ys ns ∧ ns.length = i
theorem ints_get {vs : List Value} {ns : List Int} (h : IntsAre vs ns) {i : Nat} {v : Value} (e : vs[i]? = some v) : ∃ k t, v = .int k t := by
  have hm := List.mem_of_getElem? e
  clear e
  induction h with
  | nil => cases hm
  | cons n t _ ih =>
    rcases List.mem_cons.mp hm with rfl | hm
    · exact ⟨n, t, rfl⟩
    · exact ih hm
theorem ints_src {prog : Program} {A : Around} {s₁ : Shared} {h₀ : Heap} {L ax : Addr} {m : Str → Option Value} {env : Env} {elt : PySem.Expr} {x : Str} {scope : Scope} {cl : List (Str × Addr)} {ws : List Value} {ms : List Int} {Q : Value → Shared → Prop}
    (hh : A.handled = none) (F : Fr h₀ L s₁.heap m) (N : News h₀ L s₁.heap news) (hm : (ax, listOf (List.toArray ws) 0) ∈ news) (hi : IntsAre ws ms) (hn : ms.length ≤ 63)
    (step : ∀ I oI C oC D ys m₂ h tk k t (E' : Value → Shared → Prop), LCg.NsObj oC m₂ → m₂ x = some (.int k t) → Fr h₀ L h m → News h₀ L h ((I, oI) :: (C, oC) :: (D, LCg.lst ys) :: news) →
      wpAny (model prog w) A (eval elt (compEnvC scope cl C env)) (IntEnd h₀ L m s₁ ((I, oI) :: (C, oC) :: (D, LCg.lst ys) :: news)) E' { s₁ with heap := h, toks := tk })
    (fin : ∀ D ys ns h tk, Fr h₀ L h m → News h₀ L h ((D, LCg.lst ys) :: news) → LCg.Off1 D news → IntsAre ys ns → Q (.ref D) { s₁ with heap := h, toks := tk }) :
    LCg.CompSrc prog w A h₀ L m env elt x scope cl (fun s₂ => LCg.FinE h₀ L m s₂ Q) (.ref ax) s₁ := by
  have hlen := hi.length
  refine LCg.CompSrc.ledger hh F N hm (by rw [List.size_toArray, sizeLine_eq]; omega) fun g => ?_
  refine C2.comp_ind (J := JInts ax ws news) (fun ys nw j => ?_) (fun i ys nw hlt j v I oI C oC D m₂ h tk E' hv hC hx F' N' off ne => ?_) _ 0 [] news (Nat.zero_add _) ⟨rfl, [], .nil, rfl⟩
  · obtain ⟨rfl, ns, h1, h2⟩ := j
    intro D h tk F' N' o1
    exact fin D ys ns h tk F' N' o1 h1
  · obtain ⟨rfl, ns, h1, h2⟩ := j
    obtain ⟨k, t, rfl⟩ := ints_get hi (by simpa using hv)
    refine wpAny_mono (step I oI C oC D ys m₂ h tk k t E' hC hx F' N') (fun y s' ⟨h', tk', k', t', e1, e2, F2, N2⟩ => ?_) fun _ _ e => e
    subst e1
    subst e2
    exact ⟨h', tk', nw, rfl, F2, N2, off, .inr ⟨_, hm, rfl, _, rfl⟩, rfl, ns ++ [k'], snoc_ints h1 k' t', by rw [List.length_append, List.length_singleton, h2]⟩
theorem sum_mine {prog : Program} {A : Around} {E : Value → Shared → Prop} {s : Shared} {h₀ : Heap} {L l : Addr} {m : Str → Option Value} {ys : List Value} {ns : List Int} {Q : Value → Shared → Prop} (F : Fr h₀ L s.heap m) {q : Addr × Obj} (N : News h₀ L s.heap ((l, LCg.lst ys) :: q :: news)) (hi : IntsAre ys ns) (hh : A.handled = none)
    (h : ∀ k h' tk t', Fr h₀ L h' m → News h₀ L h' news → Q (.int k t') { s with heap := h', toks := tk }) : wpAny (model prog w) A (call (.builtin "sum") [.ref l]) Q E s :=
  LSm.sum_ints F N hh ⟨_, (N _ (.head _)).1, rfl, _, rfl⟩ hi fun h' tk t' F' N' => h _ h' tk t' F' fun p hp => N' p (.tail _ (.tail _ hp))
theorem item_some {prog : Program} {A : Around} {E : Value → Shared → Prop} {s : Shared} {h₀ : Heap} {L l : Addr} {value slice : PySem.Expr} {vs : List Value} {ns : List Int} {n : Nat} {k : Int} {u : Tok} {Q : Value → Shared → Prop} (N : News h₀ L s.heap news) (hm : (l, listOf vs.toArray n) ∈ news) (hi : IntsAre vs ns) (h0 : 0 ≤ k) (h1 : k < vs.length) (hn : vs.length ≤ 63) (h : ∀ x t, Q (.int x t) s)
    (hs : subscripted slice false (.ref l) (.int k u) = operate [.ref l, .int k u] (getItem (.ref l) (.int k u))) : wpAny (model prog w) A (subscriptTail value slice (.ref l) (.int k u)) Q E s := by
  have hlt : k.toNat < vs.length := by omega
  obtain ⟨x, t, e⟩ := ints_get hi (List.getElem?_eq_getElem hlt)
  exact item_mine N hm h0 (by omega) (by rw [List.getElem?_eq_getElem hlt, e]) (h x t) hs
structure JCell (nw0 : List (Addr × Obj)) (i : Nat) (ys : List Value) (nw : List (Addr × Obj)) : Prop where
  same : nw = nw0
  num : ∃ ns, IntsAre ys ns ∧ ns.length = i ∧ ∀ x ∈ ns, 0 ≤ x ∧ x < 32
theorem cells_end {nw0 nw : List (Addr × Obj)} {i tk : Nat} {ys : List Value} {h₀ h : Heap} {L I C D : Addr} {oI oC : Obj} {m : Str → Option Value} {s : Shared} {x : Int} {t : Tok} (F : Fr h₀ L h m) (N : News h₀ L h ((I, oI) :: (C, oC) :: (D, LCg.lst ys) :: nw)) (off : LCg.Off3 I C D nw) (J : JCell nw0 i ys nw) :
    LCg.CompEnd h₀ L m s I oI C oC D (LCg.lst ys) (fun _ => True) (fun y nw' => JCell nw0 (i + 1) (ys ++ [y]) nw') (.int (x.fmod 32) t) { s with heap := h, toks := tk } := by
  obtain ⟨e, ns, h1, h2, h3⟩ := J
  refine ⟨h, tk, nw, rfl, F, N, off, trivial, e, ns ++ [x.fmod 32], snoc_ints h1 _ t, by rw [List.length_append, List.length_singleton, h2], fun y hy => ?_⟩
  rcases List.mem_append.mp hy with hy | hy
  · exact h3 y hy
  · rw [List.mem_singleton.mp hy]
    exact ⟨Int.fmod_nonneg_of_pos _ (by decide), Int.fmod_lt_of_pos _ (by decide)⟩
theorem six {α : Type} {l : List α} (h : l.length = 6) : ∃ a b c d e f, l = [a, b, c, d, e, f] := by
  obtain ⟨a, l, rfl⟩ := List.exists_cons_of_length_eq_add_one h
  obtain ⟨b, l, rfl⟩ := List.exists_cons_of_length_eq_add_one (Nat.succ.inj h)
  obtain ⟨c, l, rfl⟩ := List.exists_cons_of_length_eq_add_one (Nat.succ.inj (Nat.succ.inj h))
  obtain ⟨d, l, rfl⟩ := List.exists_cons_of_length_eq_add_one (Nat.succ.inj (Nat.succ.inj (Nat.succ.inj h)))
  obtain ⟨e, l, rfl⟩ := List.exists_cons_of_length_eq_add_one (Nat.succ.inj (Nat.succ.inj (Nat.succ.inj (Nat.succ.inj h))))
  obtain ⟨f, l, rfl⟩ := List.exists_cons_of_length_eq_add_one (Nat.succ.inj (Nat.succ.inj (Nat.succ.inj (Nat.succ.inj (Nat.succ.inj h)))))
  exact ⟨a, b, c, d, e, f, by rw [List.length_eq_zero_iff.mp (Nat.succ.inj (Nat.succ.inj (Nat.succ.inj (Nat.succ.inj (Nat.succ.inj (Nat.succ.inj h))))))]⟩
theorem ints_toks {ys : List Value} {ns : List Int} (h : IntsAre ys ns) : ∃ ts : List Tok, ts.length = ns.length ∧ ys = List.zipWith Value.int ns ts := by
  induction h with
  | nil => exact ⟨[], rfl, rfl⟩
  | cons n t _ ih =>
    obtain ⟨ts, h1, h2⟩ := ih
    exact ⟨t :: ts, congrArg Nat.succ h1, by rw [h2]; rfl⟩
inductive SixOut (o : Obj) : Prop
  | mk (k : Nat) (c0 c1 c2 c3 c4 c5 : Int) (t0 t1 t2 t3 t4 t5 : Tok) (b0 : 0 ≤ c0 ∧ c0 < 32) (b1 : 0 ≤ c1 ∧ c1 < 32) (b2 : 0 ≤ c2 ∧ c2 < 32) (b3 : 0 ≤ c3 ∧ c3 < 32) (b4 : 0 ≤ c4 ∧ c4 < 32) (b5 : 0 ≤ c5 ∧ c5 < 32) (e : o = listOf #[.int c0 t0, .int c1 t1, .int c2 t2, .int c3 t3, .int c4 t4, .int c5 t5] k)
theorem six_ints {ys : List Value} {ns : List Int} (h : IntsAre ys ns) (hl : ns.length = 6) (hb : ∀ x ∈ ns, 0 ≤ x ∧ x < 32) : SixOut (LCg.lst ys) := by
  obtain ⟨ts, hts, rfl⟩ := ints_toks h
  obtain ⟨t0, t1, t2, t3, t4, t5, rfl⟩ := six (hts.trans hl)
  obtain ⟨c0, c1, c2, c3, c4, c5, rfl⟩ := six hl
  exact ⟨6, c0, c1, c2, c3, c4, c5, t0, t1, t2, t3, t4, t5, hb _ (by simp), hb _ (by simp), hb _ (by simp), hb _ (by simp), hb _ (by simp), hb _ (by simp), rfl⟩
def Hold8 (P : Prop) : Prop := P
theorem hold8 {P : Prop} (h : Hold8 P) : P := h
theorem unhold8 {P : Prop} (h : P) : Hold8 P := h
local macro_rules | `(tactic| walk_at "CompSrc") => `(tactic| refine hold8 ?_)
local macro_rules | `(tactic| walk_at "CompEnd") => `(tactic| refine hold8 ?_)
local macro_rules | `(tactic| walk_at "subscriptTail Name Name ref int") => `(tactic| (k_here; k_dflt (refine' item_some ?N ?m ?i ?a ?b ?c ?_ ?s; (case N => k_asm); (case m => k_mem); (case i => exact .cons _ _ (.cons _ _ (.cons _ _ (.cons _ _ (.cons _ _ (.cons _ _ .nil)))))); (case a => omega); (case b => (simp only [List.length_cons, List.length_nil]; omega)); (case c => (simp only [List.length_cons, List.length_nil]; omega)); (case s => with_unfolding_all rfl)); intro x' t'))
local macro_rules | `(tactic| walk_at "subscriptTail Name Slice ref ref") => `(tactic| (k_here; (with_reducible show wpAny _ _ (subscriptTail _ (PySem.Expr.Slice _ _ (some _) _) (Value.ref _) (Value.ref _)) _ _ _); k_dflt (refine' slice3_mine ?F ?N ?l ?i ?n ?p9 ?q9 ?k9 ?o ?_ ?s ?t; (case F => k_asm); (case N => k_asm); (case l => exact Fr.lst (by k_asm) (by assumption)); (case i => assumption); (case n => assumption); (case p9 => kmk_part); (case q9 => kmk_part); (case k9 => kmk_part); (case o => decide); (case s => with_unfolding_all rfl); (case t => kmk_pure)); intro D' ws' ms' h' F' N' l1 hI' hL'; (try k_lt l1); (try k_sweep)))
local macro_rules | `(tactic| walk_at "eval ListComp") => `(tactic| (k_here; k_dflt (refine LCg.ListComp_U (F₀ := by k_asm) (by with_unfolding_all rfl) (by decide) (by rfl) (by decide) (by rfl) ?_)))
local macro_rules | `(tactic| walk_at "CompSrc") => `(tactic| (k_here; k_dflt (refine' ints_src ?h0 ?F ?N ?m ?i ?n ?_ ?_; (case h0 => rfl); (case F => k_asm); (case N => k_asm); (case m => k_mem); (case i => assumption); (case n => assumption)); rotate_left; intro D' y' n' h' tk' F' N' o1' i1'; (try k_sweep); rotate_right; intro I' oI' C' oC' D' y' m' h' tk' k' t' E' hC' hx' F' N'))
local macro_rules | `(tactic| walk_at "IntEnd") => `(tactic| k_dflt (refine' ⟨_, _, _, _, rfl, rfl, ?F, ?N⟩; (case F => k_asm); (case N => k_asm)))
local macro_rules | `(tactic| walk_at "call builtin:sum") => `(tactic| (k_here; (with_reducible show wpAny _ _ (call (Value.builtin _) [Value.ref _]) _ _ _); k_dflt (refine' sum_mine ?k1 ?k2 ?k4 ?k5 ?_; (case k1 => k_asm); (case k2 => k_asm); (case k4 => assumption); (case k5 => with_unfolding_all rfl)); intro s' h' tk' t' F' N'; (try k_sweep)))
theorem cells {sc : Addr} {vs : List Value} {ns : List Int} (hI : IntsAre vs ns) (hn : ns.length ≤ 63) :
    TelL w p loose mean mg mb 83 1 sc vs [.ref sc] (One SixOut) := by
  w_top off
  unfold TelL
  k_fill
  intro rest9 dp9 un9 gd9 cn9 cs9 ad9 ccd9 cl9 ou9 A9 base9 hh9 L9 m9 s9 Q9 E9 B9 F9 X9 N9 S9 T9 hk9 hd9 hu9 hIL9 hret
  refine wpAny_call ?_
  k_dflt (refine' code_cells ?k1 ?k2 ?k3 ?k4 ?kS ?k5 ?kA ?kF ?kK ?k6 ?k7 ?k8 ?k9 ?kB ?kD ?_ ?c2 ?c3 ?c4; (case kA => exact rfl); (case kF => exact rfl); (case kK => assumption); (case k1 => k_asm); (case k2 => k_asm); (case k3 => k_asm); (case k4 => exact N9); (case kS => exact S9); (case k5 => k_asm); (case k6 => k_is); (case k7 => k_is); (case k8 => ktr_room); (case k9 => exact BindsTo.of_eq rfl); (case kB => exact rfl); (case kD => decide +kernel); (case c2 => exact rfl); (case c3 => exact rfl); (case c4 => exact rfl); k_whole; intro g9 L' h' tk' cells' FG' F' N' Y' R9 B' X' T' l1; (try k_lt l1); k_cells Y'; (try simp only [List.cons_append, List.nil_append] at N'); (try dsimp only); (try k_lift B'); (try k_fold))
  have hIg := Fr.lst FG' hIL9
  k_steps
  refine unhold8 ?_
  refine LCg.CompSrc.range (by rfl) (by k_asm) (by k_asm) (by assumption) (by first | decide | rfl) (by first | rfl | decide) (n := 6) (by first | size_fits | exact Nat.le_of_ble_eq_true rfl) ?_
  intro g'
  refine C2.comp_ind (J := JCell _) ?cfin ?cstep _ 0 [] _ (Nat.zero_add _) ⟨rfl, [], .nil, rfl, fun x hx => (nomatch hx)⟩
  case cstep =>
    rintro i ys nw hi ⟨rfl, hnum⟩ v I oI C oC D m₂ h tk E' ⟨t9, rfl⟩ hC hx F' N' off ne
    have hi0 : (0 : Int) ≤ 0 + (i : Int) ∧ 0 + (i : Int) < 6 := by omega
    k_steps
    refine unhold8 ?_
    exact cells_end (by k_asm) (by k_asm) off ⟨rfl, hnum⟩
  rintro ys nw ⟨rfl, ns9, hn1, hn2, hn3⟩
  unfold LCg.FinE
  intro D h tk F' N' o1
  (try dsimp only)
  k_steps
  (refine' Ret.one hret ?F ?N ?l ?o; (case F => k_asm); (case N => (refine' comb N9 S9 R9 ?Fk ?Nk ?Sk; (case Fk => assumption); (case Nk => assumption); (case Sk => k_subL))); (case l => (refine' combA N9 S9 R9 ?Nm ?Sm ?Am; (case Nm => assumption); (case Sm => k_subL); (case Am => first | (simp only [Apart, OffA, and_true]; done) | (simp only [Apart, OffA, and_true]; (repeat' apply And.intro) <;> ktr_rel)))); (case o => exact six_ints hn1 hn2 hn3))
end

section
open PySem.Spec PySem.Calls
namespace C3
abbrev tupOf (its : Array Value) (k : Nat) : Obj := { cls := .type "tuple", data := .seq its k }
section
variable {prog : Program} {A : Around} {E : Value → Shared → Prop} {s : Shared} {h₀ : Heap} {L : Addr} {m : Str → Option Value} {env : Env} {elt iter : PySem.Expr} {x : Str} {px : Pos} {scope : Scope} {pos : Pos} {cl : List (Str × Addr)}
theorem fenv_cell {Q : Env → Shared → Prop} (hcf : ∀ n, cellsFrom n scope.names cl = (x, n) :: cl) (hpc : ∀ h, pushCells h scope.names = h.push { cls := .type "cell", data := .cell none })
    (hQ : Q { scope := scope, locals := s.heap.objs.size, globals := env.globals, cells := (x, s.heap.objs.size + 1) :: cl, qual := env.qual, func := none, code := env.code, frame := env.frame, builtins := env.builtins }
      { s with heap := (s.heap.push { cls := .type "dict", data := .dict #[] }).push { cls := .type "cell", data := .cell none } }) :
    wpAny (model prog w) A (newFunctionEnv scope env.globals cl [] env.qual none .none (some env)) Q E s := by
  simp only [newFunctionEnv, Option.isSome_some, if_true]
  refine wpAny_bind (wpAny_alloc ?_)
  refine wpAny_bind (wpAny_layCells _ (fun name kind cells => by cases hkc : kind == NameKind.cell <;> simp [hkc]) _ _ _ _ ?_)
  rw [hcf, hpc]
  refine wpAny_bind ?_
  rw [List.forIn_nil]
  refine wpAny_pure (wpAny_pure ?_)
  rw [show ({ s with heap := s.heap.push { cls := .type "dict", data := .dict #[] } } : Shared).heap.objs.size = s.heap.objs.size + 1 from Heap.size_push ..]
  exact hQ
/-- the loop's state -/
inductive TupI (h₀ : Heap) (L : Addr) (m : Str → Option Value) (s : Shared) (K I C D ax : Addr) (its : Array Value) (J : Nat → List Value → List (Addr × Obj) → Prop) (k : Nat) (s' : Shared) : Prop
  | mk (h' : Heap) (tk i : Nat) (ys : List Value) (m' : Str → Option Value) (nw : List (Addr × Obj)) (v₀ : Option Value) (e : s' = { s with heap := h', toks := tk }) (hi : i ≤ its.size) (hk : k = its.size + 1 - i) (hI : h'.IsTupleIter I ax i ∧ h'.IsTuple ax its) (F : Fr h₀ L h' m) (hn : h'.Ns C m') (hc : h'.IsCell K v₀) (N : News h₀ L h' ((D, LCg.lst ys) :: nw))
      (off : ∀ p ∈ nw, p.1 ≠ K ∧ p.1 ≠ I ∧ p.1 ≠ C ∧ p.1 ≠ D) (hJ : J i ys nw)
theorem block3 {s₂ : Shared} {I ax : Addr} {its : Array Value} {kk : Nat} {news : List (Addr × Obj)} {J : Nat → List Value → List (Addr × Obj) → Prop} {RR : Value → Addr → Result → Shared → Prop}
    (hh : A.handled = none) (hax : ax ≠ I) (hcf : ∀ n, cellsFrom n scope.names cl = (x, n) :: cl) (hpc : ∀ h, pushCells h scope.names = h.push { cls := .type "cell", data := .cell none }) (hkind : scope.kind = .function)
    (hxc : ∀ K C, (compEnvC scope ((x, K) :: cl) C env).kindOf x = some .cell) (hst : s₂.heap.IsTupleIter I ax 0 ∧ s₂.heap.IsTuple ax its) (F : Fr h₀ L s₂.heap m) (N : News h₀ L s₂.heap news) (hIL : L ≠ I) (hI₀ : h₀.get? I = none) (off : ∀ p ∈ news, p.1 ≠ I)
    (hsz : its.size ≤ sizeLine) (hS : ∀ i ys nw, J i ys nw → (ax, tupOf its kk) ∈ nw) (hJl : ∀ i ys nw, J i ys nw → ys.length = i) (hJ0 : J 0 [] news)
    (step : ∀ i v K oK I oI C oC D m₂ h tk ys nw (E' : Value → Shared → Prop), its[i]? = some v → J i ys nw → oK.data = .cell (some v) → LCg.NsObj oC m₂ → Fr h₀ L h m → News h₀ L h ((K, oK) :: (I, oI) :: (C, oC) :: (D, LCg.lst ys) :: nw) →
      (∀ p ∈ nw, p.1 ≠ K ∧ p.1 ≠ I ∧ p.1 ≠ C ∧ p.1 ≠ D) → C2.Ne4 K I C D → wpAny (model prog w) A (eval elt (compEnvC scope ((x, K) :: cl) C env)) (C2.InEnd h₀ L m s₂ K oK I oI C oC D ys (J (i + 1))) E' { s₂ with heap := h, toks := tk })
    (hRR : ∀ D C h tk m' ys nw, Fr h₀ L h m → News h₀ L h ((D, LCg.lst ys) :: nw) → (∀ p ∈ nw, p.1 ≠ D) → h.Ns C m' → h₀.get? C = none → h₀.get? D = none → C ≠ L → D ≠ L → C ≠ D → (∀ p ∈ nw, p.1 ≠ C) → J its.size ys nw → RR (.ref D) C (.ok .next) { s₂ with heap := h, toks := tk }) :
    wpAny (model prog w) A (newList []) (fun acc s₃ => wpAny (model prog w) A (newFunctionEnv scope env.globals cl [] env.qual none .none (some env)) (fun cenv s₄ =>
      codeAny (model prog w) A (.compStart (.ListComp elt [⟨.Name x px, iter, [], 0⟩] scope pos) 0 (.ref I) acc { cenv with scope := relabel scope env }) (RR acc cenv.locals) s₄) E s₃) E s₂ := by
  refine wpAny_newObj_type (fenv_cell hcf hpc ?_)
  dsimp only
  generalize hH2 : s₂.heap.push { cls := .type "list", dict := none, data := .seq ([] : List Value).toArray } = H2
  have hC : H2.objs.size = s₂.heap.objs.size + 1 := by rw [← hH2, Heap.size_push]
  generalize hH3 : H2.push { cls := .type "dict", data := .dict #[] } = H3
  have hK : H3.objs.size = H2.objs.size + 1 := by rw [← hH3, Heap.size_push]
  generalize hH4 : H3.push { cls := .type "cell", data := .cell none } = h₁
  have u1 : ∀ b o, s₂.heap.get? b = some o → H2.get? b = some o := fun b o e => hH2 ▸ Heap.get?_push_of_some _ e
  have u2 : ∀ b o, H2.get? b = some o → H3.get? b = some o := fun b o e => hH3 ▸ Heap.get?_push_of_some _ e
  have u3 : ∀ b o, H3.get? b = some o → h₁.get? b = some o := fun b o e => hH4 ▸ Heap.get?_push_of_some _ e
  have old : ∀ b o, s₂.heap.get? b = some o → h₁.get? b = some o := fun b o e => u3 _ _ (u2 _ _ (u1 _ _ e))
  have hacc : h₁.get? s₂.heap.objs.size = some (LCg.lst []) := u3 _ _ (u2 _ _ (hH2 ▸ Heap.get?_push_size _ rfl))
  have hns₁ : h₁.Ns H2.objs.size (fun _ => none) := by
    have := Heap.Ns.new H2 (.type "dict")
    rw [hH3] at this
    exact this.keeps u3
  have hcell₁ : h₁.IsCell H3.objs.size none := ⟨_, hH4 ▸ Heap.get?_push_size _ rfl, rfl⟩
  have fresh : ∀ a, s₂.heap.objs.size ≤ a → s₂.heap.get? a = none := fun a ha => by
    cases e : s₂.heap.get? a with
    | none => rfl
    | some o' => exact absurd (Heap.lt_size e) (Nat.not_lt.mpr ha)
  have fresh₀ : ∀ a, s₂.heap.objs.size ≤ a → h₀.get? a = none := fun a ha => by
    cases e : h₀.get? a with
    | none => rfl
    | some o' => have := F.keep a o' e; rw [fresh a ha] at this; cases this
  have hIlt : I < s₂.heap.objs.size := by obtain ⟨o, e, _⟩ := hst.1; exact Heap.lt_size e
  have hLlt : L < s₂.heap.objs.size := F.ns.lt
  have hnl : ∀ p ∈ news, p.1 < s₂.heap.objs.size := fun p hp => Heap.lt_size (N p hp).1
  have hD₀ : h₀.get? s₂.heap.objs.size = none := fresh₀ _ (Nat.le_refl _)
  have hC₀ : h₀.get? H2.objs.size = none := fresh₀ _ (by rw [hC]; exact Nat.le_succ _)
  have hK₀ : h₀.get? H3.objs.size = none := fresh₀ _ (by rw [hK, hC]; exact Nat.le_trans (Nat.le_succ _) (Nat.le_succ _))
  rw [← hK]
  have st₁ : h₁.IsTupleIter I ax 0 ∧ h₁.IsTuple ax its := ⟨by obtain ⟨o, e, r⟩ := hst.1; exact ⟨o, old _ _ e, r⟩, by obtain ⟨o, e, r⟩ := hst.2; exact ⟨o, old _ _ e, r⟩⟩
  have F₁ : Fr h₀ L h₁ m := F.keeps old
  have N₁ : News h₀ L h₁ news := N.grown old
  clear hst
  generalize hD : s₂.heap.objs.size = D at *
  generalize hCC : H2.objs.size = C at *
  generalize hKK : H3.objs.size = K at *
  have lt1 : ∀ {a : Nat}, a < D → a ≠ C ∧ a ≠ K := fun {a} h => by rw [hK, hC]; exact ⟨Nat.ne_of_lt (Nat.lt_succ_of_lt h), Nat.ne_of_lt (Nat.lt_succ_of_lt (Nat.lt_succ_of_lt h))⟩
  have hDL : D ≠ L := (Nat.ne_of_lt hLlt).symm
  have hCL : C ≠ L := (lt1 hLlt).1.symm
  have hKL : K ≠ L := (lt1 hLlt).2.symm
  have hID : I ≠ D := Nat.ne_of_lt hIlt
  have hIC : I ≠ C := (lt1 hIlt).1
  have hIK : I ≠ K := (lt1 hIlt).2
  have hCD : C ≠ D := by rw [hC]; exact (Nat.ne_of_lt (Nat.lt_succ_self _)).symm
  have hKC : K ≠ C := by rw [hK]; exact (Nat.ne_of_lt (Nat.lt_succ_self _)).symm
  have hKD : K ≠ D := by rw [hK, hC]; exact (Nat.ne_of_lt (Nat.lt_succ_of_lt (Nat.lt_succ_self _))).symm
  have off₀ : ∀ p ∈ news, p.1 ≠ K ∧ p.1 ≠ I ∧ p.1 ≠ C ∧ p.1 ≠ D := fun p hp => ⟨(lt1 (hnl p hp)).2, off p hp, (lt1 (hnl p hp)).1, Nat.ne_of_lt (hnl p hp)⟩
  let W := Walks.tuple (prog := prog) (w := w) hh I ax hax its
  have loop : ∀ s₃ : Shared, s₃ = { s₂ with heap := h₁ } →
      codeAny (model prog w) A (.compLoop (.ListComp elt [⟨.Name x px, iter, [], 0⟩] scope pos) 0 (.ref I) (.ref D) (compEnvC scope ((x, K) :: cl) C env)) (RR (.ref D) C) s₃ := by
    rintro s₃ rfl
    refine codeAny_compLoop_tests
      (TupI h₀ L m s₂ K I C D ax its J) ?_ (its.size + 1) ⟨h₁, _, 0, [], _, news, none, rfl, Nat.zero_le _, rfl, st₁, F₁, hns₁, hcell₁, fun p hp => ?_, off₀, hJ0⟩
    · rintro k s' ⟨h', tk, i, ys, m', nw, v₀, rfl, hi, rfl, hst', F', hn', hc', N', off', hJ⟩
      by_cases hlt : i < its.size
      · refine W.item i _ _ _ hlt hst' fun v h₂ tk₂ hPv hst₂ hk₂ => ?_
        have hc₂ : h₂.IsCell K v₀ := by obtain ⟨o, e, r⟩ := hc'; exact ⟨o, hk₂ _ _ (by simpa using Ne.symm hIK) e, r⟩
        refine wpAny_assign_Name (wpAny_storeName_cell (by simp [compEnvC, relabel, hkind]) (hxc K C) (by simp [compEnvC]) hc₂ fun h₃ hc₃ hs₃ => ?_)
        refine wpAny_tests_nil ?_
        simp only [if_true]
        obtain ⟨oK, heK, hdK⟩ := hc₃
        have hst₃ : h₃.IsTupleIter I ax (i + 1) ∧ h₃.IsTuple ax its := by
          have z := off' _ (hS _ _ _ hJ)
          exact ⟨by obtain ⟨o, e, r⟩ := hst₂.1; exact ⟨o, hs₃.extBut _ _ hIK e, r⟩, by obtain ⟨o, e, r⟩ := hst₂.2; exact ⟨o, hs₃.extBut _ _ z.1 e, r⟩⟩
        obtain ⟨oI, heI, hrI⟩ := hst₃.1
        have hn₃ : h₃.Ns C m' := (hn'.at' fun o e => hk₂ _ o (by simpa using Ne.symm hIC) e).at' fun o e => hs₃.extBut _ _ (Ne.symm hKC) e
        obtain ⟨oC, heC, hoC⟩ := LCg.ns_obj hn₃
        have F₃ : Fr h₀ L h₃ m := (LCg.fr_but F' hk₂ hIL hI₀).change hs₃ hKL hK₀
        have N₂ : News h₀ L h₂ ((D, LCg.lst ys) :: nw) := LCg.news_but N' hk₂ fun p hp => by
          rcases List.mem_cons.mp hp with rfl | hp
          · exact Ne.symm hID
          · exact (off' p hp).2.1
        have N₃ : News h₀ L h₃ ((K, oK) :: (I, oI) :: (C, oC) :: (D, LCg.lst ys) :: nw) := fun p hp => by
          rcases List.mem_cons.mp hp with rfl | hp
          · exact ⟨heK, hKL, hK₀⟩
          · rcases List.mem_cons.mp hp with rfl | hp
            · exact ⟨heI, Ne.symm hIL, hI₀⟩
            · rcases List.mem_cons.mp hp with rfl | hp
              · exact ⟨heC, hCL, hC₀⟩
              · have z := N₂ p hp
                refine ⟨hs₃.extBut _ _ ?_ z.1, z.2⟩
                rcases List.mem_cons.mp hp with rfl | hp
                · exact Ne.symm hKD
                · exact (off' p hp).1
        refine wpAny_mono (step i v K oK I oI C oC D _ h₃ _ ys nw _ hPv hJ hdK hoC F₃ N₃ off' ⟨Ne.symm hIK, hKC, hKD, hIC, hID, hCD⟩) (fun y s₄ h₄ => ?_) fun _ _ e => e
        obtain ⟨h₄, tk₄, nw₄, rfl, F₄, N₄, off₄, J₄⟩ := h₄
        have zK := (N₄ _ (.head _)).1
        have zI := (N₄ _ (.tail _ (.head _))).1
        have zC := (N₄ _ (.tail _ (.tail _ (.head _)))).1
        have zD := (N₄ _ (.tail _ (.tail _ (.tail _ (.head _))))).1
        have zT := N₄ _ (.tail _ (.tail _ (.tail _ (.tail _ (hS _ _ _ J₄)))))
        have hyl := hJl _ _ _ hJ
        refine append_at (hsz := by show ys.toArray.size ≤ sizeLine; rw [List.size_toArray, hyl]; exact Nat.le_trans hi hsz) zD fun h₅ hs₅ hD₅ => ?_
        refine ⟨its.size + 1 - (i + 1), by omega, h₅, tk₄, i + 1, ys ++ [y], _, nw₄, some v, rfl, hlt, rfl, ⟨⟨oI, hs₅.extBut _ _ hID zI, hrI⟩, ⟨_, hs₅.extBut _ _ (off₄ _ (hS _ _ _ J₄)).2.2.2 zT.1, rfl, _, rfl⟩⟩, F₄.change hs₅ hDL hD₀, (hoC.ns zC).sameBut hs₅ hCD, ⟨oK, hs₅.extBut _ _ hKD zK, hdK⟩, fun p hp => ?_, off₄, J₄⟩
        rcases List.mem_cons.mp hp with rfl | hp
        · exact ⟨hD₅.trans (congrArg some (LCg.lst_snoc ys y)), hDL, hD₀⟩
        · have z := N₄ p (.tail _ (.tail _ (.tail _ (.tail _ hp))))
          exact ⟨hs₅.extBut _ _ (off₄ p hp).2.2.2 z.1, z.2⟩
      · obtain rfl : i = its.size := Nat.le_antisymm hi (Nat.not_lt.mp hlt)
        refine W.done _ _ _ hst' fun h₂ tk₂ hk₂ => ?_
        exact hRR _ _ h₂ tk₂ _ ys nw (LCg.fr_but F' hk₂ hIL hI₀) (LCg.news_but N' hk₂ fun p hp => by
          rcases List.mem_cons.mp hp with rfl | hp
          · exact Ne.symm hID
          · exact (off' p hp).2.1) (fun p hp => (off' p hp).2.2.2) (hn'.at' fun o e => hk₂ _ o (by simpa using Ne.symm hIC) e) hC₀ hD₀ hCL hDL hCD (fun p hp => (off' p hp).2.2.1) hJ
    · rcases List.mem_cons.mp hp with rfl | hp
      · exact ⟨hacc, hDL, hD₀⟩
      · exact N₁ p hp
  exact codeAny_compStart_list (loop _ rfl) (W.self 0 _ _ _ st₁ (loop _ rfl))
def TupSrc (h₀ : Heap) (L : Addr) (m : Str → Option Value) (s : Shared) (news : List (Addr × Obj)) (P : Array Value → Prop) (xv : Value) (s₁ : Shared) : Prop :=
  ∃ its ax kk h tk, P its ∧ xv = .ref ax ∧ s₁ = { s with heap := h, toks := tk } ∧ Fr h₀ L h m ∧ News h₀ L h ((ax, tupOf its kk) :: news) ∧ (∀ p ∈ news, p.1 ≠ ax)
theorem ListComp_3 {P : Array Value → Prop} {news : List (Addr × Obj)} {J : Array Value → Addr → Nat → Nat → List Value → List (Addr × Obj) → Prop} {Q : Value → Shared → Prop} (_ : Fr h₀ L s.heap m) (_ : News h₀ L s.heap news)
    (hh : A.handled = none) (hclos : closureFor scope env = pure cl) (hcf : ∀ n, cellsFrom n scope.names cl = (x, n) :: cl) (hpc : ∀ h, pushCells h scope.names = h.push { cls := .type "cell", data := .cell none }) (hkind : scope.kind = .function)
    (hnames : ∀ y ∈ scope.names, y.2 = .local → scope.names.lookup y.1 = some .local) (hxc : ∀ K C, (compEnvC scope ((x, K) :: cl) C env).kindOf x = some .cell)
    (h : wpAny (model prog w) A (eval iter env) (TupSrc h₀ L m s news P) E s)
    (hsz : ∀ its, P its → its.size ≤ sizeLine) (hS : ∀ its ax kk i ys nw, J its ax kk i ys nw → (ax, tupOf its kk) ∈ nw) (hJl : ∀ its ax kk i ys nw, J its ax kk i ys nw → ys.length = i) (hJ0 : ∀ its ax kk, P its → (∀ p ∈ news, p.1 ≠ ax) → J its ax kk 0 [] ((ax, tupOf its kk) :: news))
    (step : ∀ its ax kk i v K oK I oI C oC D m₂ h tk ys nw (E' : Value → Shared → Prop), P its → its[i]? = some v → J its ax kk i ys nw → oK.data = .cell (some v) → LCg.NsObj oC m₂ → Fr h₀ L h m → News h₀ L h ((K, oK) :: (I, oI) :: (C, oC) :: (D, LCg.lst ys) :: nw) →
      (∀ p ∈ nw, p.1 ≠ K ∧ p.1 ≠ I ∧ p.1 ≠ C ∧ p.1 ≠ D) → C2.Ne4 K I C D → wpAny (model prog w) A (eval elt (compEnvC scope ((x, K) :: cl) C env)) (C2.InEnd h₀ L m s K oK I oI C oC D ys (J its ax kk (i + 1))) E' { s with heap := h, toks := tk })
    (fin : ∀ its ax kk D h tk ys nw, P its → J its ax kk its.size ys nw → Fr h₀ L h m → News h₀ L h ((D, LCg.lst ys) :: nw) → (∀ p ∈ nw, p.1 ≠ D) → Q (.ref D) { s with heap := h, toks := tk })
    (hs : ∀ x, foldedSetIterable iter env x = pure x := by intro _; rfl) :
    wpAny (model prog w) A (eval (.ListComp elt [⟨.Name x px, iter, [], 0⟩] scope pos) env) Q E s := by
  rw [eval_ListComp]
  refine wpAny_comprehension_free (use := none) rfl hs hclos hkind hnames (wpAny_mono h (fun xv s₁ h₁ => ?_) fun _ _ e => e)
  obtain ⟨its, ax, kk, h1, tk1, hP, rfl, rfl, F, N, o1⟩ := h₁
  have hT : h1.IsTuple ax its := ⟨_, (N _ (.head _)).1, rfl, _, rfl⟩
  have hlt : ax < h1.objs.size := Heap.lt_size (N _ (.head _)).1
  refine wpAny_pyIter_tuple hT ?_
  have up : ∀ b o, h1.get? b = some o → (h1.push { cls := .type "tuple_iterator", data := .fields #[.ref ax, .int 0 0] }).get? b = some o := fun b o e => Heap.get?_push_of_some _ e
  refine block3 (J := J its ax kk) (kk := kk) hh (Nat.ne_of_lt hlt) hcf hpc hkind hxc ⟨⟨_, Heap.get?_push_size _ rfl, rfl, rfl⟩, by obtain ⟨o, e, r⟩ := hT; exact ⟨o, up _ _ e, r⟩⟩ (F.keeps up) (N.grown up) (Nat.ne_of_lt F.ns.lt) (next_is_new F) (fun p hp => Nat.ne_of_lt (Heap.lt_size (N p hp).1)) (hsz its hP) (hS its ax kk) (hJl its ax kk) (hJ0 its ax kk hP o1)
    (fun i v K oK I oI C oC D m₂ h tk ys nw E' => step its ax kk i v K oK I oI C oC D m₂ h tk ys nw E' hP) ?_
  intro D C h' tk m' ys nw F' N' o2 hn hC₀ hD₀ hCL hDL hCD offC hJ
  refine ⟨m', hn, fun h'' hs'' => fin its ax kk D h'' tk ys nw hP hJ (F'.change hs'' hCL hC₀) (fun p hp => ?_) o2⟩
  refine ⟨hs''.extBut _ _ ?_ (N' p hp).1, (N' p hp).2⟩
  rcases List.mem_cons.mp hp with rfl | hp
  · exact Ne.symm hCD
  · exact offC p hp
end
end C3
end

section
theorem telL_use {rest : List (Addr × Obj)} {f : Addr} {nd : Nat} {sc : Addr} {xs vs : List Value} {Out : Value → List (Addr × Obj) → Prop} {dp un : Nat} {gd : Option (List Code)} {cn : Str} {cs : Scope} {a : Addr} {ccd : Value} {cl : List (Str × Addr)} {outer : List Env} {A₀ : Around} {base h₀ : Heap} {L : Addr} {m : Str → Option Value} {s : Shared} {Q E : Value → Shared → Prop}
    (B : Below A₀ base outer h₀) (F : Fr h₀ L s.heap m) (X : (hd.heap_39 w.params).In h₀) (N : News h₀ L s.heap rest) (T : Top p loose mean mg mb h₀) (hk : cs.kind = .function)
    (C : TelL w p loose mean mg mb f nd sc xs vs Out) (hd : dp + nd < recursionLimit) (hu : un + 8 * nd < cLine) (hl : h₀.IsList sc xs.toArray) (ret : Ret Out rest h₀ L m s Q) :
    wpAny (model PySem.Challenge.rw_sh0018_01.row.prog w) (ktrTop dp un gd cn cs L a ccd cl outer) (call (.ref f) vs) Q E s := C _ _ _ _ _ _ _ _ _ _ _ _ _ _ _ _ _ _ B F X N trivial T hk hd hu hl ret
def Hold (P : Prop) : Prop := P
theorem hold {P : Prop} (h : Hold P) : P := h
theorem unhold {P : Prop} (h : P) : Hold P := h
theorem sixty {n : Nat} (h : ¬ ((63 : Nat) : Int) < (n : Int)) : n ≤ 63 := by omega
def Cols : Prop := True
def Turns : Prop := True
theorem turns_mark : Turns := trivial
theorem sum_is {prog : Program} {A : Around} {E : Value → Shared → Prop} {s : Shared} {h₀ : Heap} {L l : Addr} {m : Str → Option Value} {ys : List Value} {ns : List Int} {q : Addr × Obj} {X : Int} {Q : Value → Shared → Prop} (F : Fr h₀ L s.heap m) (N : News h₀ L s.heap ((l, LCg.lst ys) :: q :: news)) (hi : IntsAre ys ns) (hX : ns.sum = X) (hh : A.handled = none)
    (h : ∀ h' tk t', Fr h₀ L h' m → News h₀ L h' news → Q (.int X t') { s with heap := h', toks := tk }) : wpAny (model prog w) A (call (.builtin "sum") [.ref l]) Q E s := by
  subst hX
  exact LSm.sum_ints F N hh ⟨_, (N _ (.head _)).1, rfl, _, rfl⟩ hi fun h' tk t' F' N' => h h' tk t' F' fun p hp => N' p (.tail _ (.tail _ hp))
structure JCol (cols : List Int) (nw0 : List (Addr × Obj)) (its : Array Value) (ax : Addr) (kk : Nat) (i : Nat) (ys : List Value) (nw : List (Addr × Obj)) : Prop where
  same : nw = (ax, C3.tupOf its kk) :: nw0
  le : i ≤ cols.length
  num : IntsAre ys (cols.take i)
theorem col_end {cols : List Int} {its : Array Value} {nw0 nw : List (Addr × Obj)} {ax : Addr} {kk i tk : Nat} {ys : List Value} {h₀ h : Heap} {L K I C D : Addr} {oK oI oC : Obj} {m : Str → Option Value} {s : Shared} {X : Int} {t : Tok} (F : Fr h₀ L h m)
    (N : News h₀ L h ((K, oK) :: (I, oI) :: (C, oC) :: (D, LCg.lst ys) :: nw)) (off : ∀ p ∈ nw, p.1 ≠ K ∧ p.1 ≠ I ∧ p.1 ≠ C ∧ p.1 ≠ D) (J : JCol cols nw0 its ax kk i ys nw) (hX : cols[i]? = some X) :
    C2.InEnd h₀ L m s K oK I oI C oC D ys (JCol cols nw0 its ax kk (i + 1)) (.int X t) { s with heap := h, toks := tk } := by
  refine ⟨h, tk, nw, rfl, F, N, off, J.same, ?_, ?_⟩
  · exact (List.getElem?_eq_some_iff.mp hX).1
  · rw [take_snoc hX]
    exact snoc_ints J.num X t
theorem tup_end {P : Array Value → Prop} {its : Array Value} {h₀ h : Heap} {L ax : Addr} {m : Str → Option Value} {s : Shared} {news : List (Addr × Obj)} {kk tk : Nat} (F : Fr h₀ L h m) (N : News h₀ L h ((ax, C3.tupOf its kk) :: news)) (o : ∀ p ∈ news, p.1 ≠ ax) (hP : P its) : C3.TupSrc h₀ L m s news P (.ref ax) { s with heap := h, toks := tk } :=
  ⟨its, ax, kk, h, tk, hP, rfl, rfl, F, N, o⟩
def col5 (c0 c1 c2 c3 c4 k : Int) : Int := partOf c0 k + partOf c1 k + partOf c2 k + partOf c3 k + partOf c4 k
theorem votes5 {lc : Addr} {c0 c1 c2 c3 c4 : Int} {n : Nat} {t0 t1 t2 t3 t4 : Tok} (h0 : 0 ≤ c0 ∧ c0 < 32) (h1 : 0 ≤ c1 ∧ c1 < 32) (h2 : 0 ≤ c2 ∧ c2 < 32) (h3 : 0 ≤ c3 ∧ c3 < 32) (h4 : 0 ≤ c4 ∧ c4 < 32) :
    Tel w p loose mean mg mb 88 3 [(lc, listOf #[.int c0 t0, .int c1 t1, .int c2 t2, .int c3 t3, .int c4 t4] n)] [.ref lc] (One fun o => ∃ k t u v, o = listOf #[.int (col5 c0 c1 c2 c3 c4 0) t, .int (col5 c0 c1 c2 c3 c4 8) u, .int (col5 c0 c1 c2 c3 c4 16) v] k) := votes h0 h1 h2 h3 h4
theorem col5_sum (c0 c1 c2 c3 c4 k : Int) : ([c0, c1, c2, c3, c4].map fun c => partOf c k).sum = col5 c0 c1 c2 c3 c4 k := by
  unfold col5
  simp only [List.map_cons, List.map_nil, List.sum_cons, List.sum_nil]
  omega
inductive Corners (its : Array Value) : Prop
  | mk (a b c : Tok) (e : its = #[.int 0 a, .int 8 b, .int 16 c])
inductive CornerAt (c0 c1 c2 c3 c4 : Int) (i : Nat) (v : Value) : Prop
  | mk (k : Int) (t : Tok) (hk : 0 ≤ k ∧ k ≤ 16) (e : v = .int k t) (hc : [col5 c0 c1 c2 c3 c4 0, col5 c0 c1 c2 c3 c4 8, col5 c0 c1 c2 c3 c4 16][i]? = some (col5 c0 c1 c2 c3 c4 k))
theorem corner_at {its : Array Value} (h : Corners its) {i : Nat} {v : Value} (e : its[i]? = some v) (c0 c1 c2 c3 c4 : Int) : CornerAt c0 c1 c2 c3 c4 i v := by
  obtain ⟨a, b, c, rfl⟩ := h
  rcases i with _ | _ | _ | i
  · simp at e; exact ⟨0, a, by omega, e.symm, rfl⟩
  · simp at e; exact ⟨8, b, by omega, e.symm, rfl⟩
  · simp at e; exact ⟨16, c, by omega, e.symm, rfl⟩
  · simp at e
theorem five16 {a b c d e : Int} (h0 : 0 ≤ a ∧ a ≤ 16) (h1 : 0 ≤ b ∧ b ≤ 16) (h2 : 0 ≤ c ∧ c ≤ 16) (h3 : 0 ≤ d ∧ d ≤ 16) (h4 : 0 ≤ e ∧ e ≤ 16) : 0 ≤ a + b + c + d + e ∧ a + b + c + d + e ≤ 80 := by omega
theorem five32 {a b c d e a' b' c' d' e' a'' b'' c'' d'' e'' : Int} (h0 : 4 ≤ a + a' + a'' ∧ a + a' + a'' ≤ 32) (h1 : 4 ≤ b + b' + b'' ∧ b + b' + b'' ≤ 32) (h2 : 4 ≤ c + c' + c'' ∧ c + c' + c'' ≤ 32) (h3 : 4 ≤ d + d' + d'' ∧ d + d' + d'' ≤ 32) (h4 : 4 ≤ e + e' + e'' ∧ e + e' + e'' ≤ 32) :
    1 ≤ (a + b + c + d + e) + (a' + b' + c' + d' + e') + (a'' + b'' + c'' + d'' + e'') ∧ (a + b + c + d + e) + (a' + b' + c' + d' + e') + (a'' + b'' + c'' + d'' + e'') ≤ 160 := by omega
theorem col5_bnd {c0 c1 c2 c3 c4 : Int} (h0 : 0 ≤ c0 ∧ c0 < 32) (h1 : 0 ≤ c1 ∧ c1 < 32) (h2 : 0 ≤ c2 ∧ c2 < 32) (h3 : 0 ≤ c3 ∧ c3 < 32) (h4 : 0 ≤ c4 ∧ c4 < 32) :
    (0 ≤ col5 c0 c1 c2 c3 c4 0 ∧ col5 c0 c1 c2 c3 c4 0 ≤ 80) ∧ (0 ≤ col5 c0 c1 c2 c3 c4 8 ∧ col5 c0 c1 c2 c3 c4 8 ≤ 80) ∧ (0 ≤ col5 c0 c1 c2 c3 c4 16 ∧ col5 c0 c1 c2 c3 c4 16 ≤ 80) ∧
      (1 ≤ col5 c0 c1 c2 c3 c4 0 + col5 c0 c1 c2 c3 c4 8 + col5 c0 c1 c2 c3 c4 16 ∧ col5 c0 c1 c2 c3 c4 0 + col5 c0 c1 c2 c3 c4 8 + col5 c0 c1 c2 c3 c4 16 ≤ 160) := by
  have p0 := part_bnd c0 h0.1 h0.2
  have p1 := part_bnd c1 h1.1 h1.2
  have p2 := part_bnd c2 h2.1 h2.2
  have p3 := part_bnd c3 h3.1 h3.2
  have p4 := part_bnd c4 h4.1 h4.2
  exact ⟨five16 p0.1 p1.1 p2.1 p3.1 p4.1, five16 p0.2.1 p1.2.1 p2.2.1 p3.2.1 p4.2.1, five16 p0.2.2.1 p1.2.2.1 p2.2.2.1 p3.2.2.1 p4.2.2.1, five32 p0.2.2.2 p1.2.2.2 p2.2.2.2 p3.2.2.2 p4.2.2.2⟩
theorem house_bnd (c : Int) : 4 ≤ 4 + c.fmod 4 ∧ 4 + c.fmod 4 ≤ 7 := by
  have h1 := Int.fmod_nonneg_of_pos c (show (0 : Int) < 4 by decide)
  have h2 := Int.fmod_lt_of_pos c (show (0 : Int) < 4 by decide)
  omega
theorem keep6 {h₀ h : Heap} {L : Addr} {a b c d e f q x y z : Addr × Obj} (N : News h₀ L h [a, b, c, d, e, f, q, x, y, z]) (ap : Apart [a, b] [c, d, e, f, q, x, y, z]) : News h₀ L h [a, b, e, x, y, z] ∧ Apart [a] [e, x, y, z] ∧ Apart [b] [e, x, y, z] := by
  obtain ⟨⟨_, _, a1, _, _, a2, a3, a4, _⟩, ⟨_, _, b1, _, _, b2, b3, b4, _⟩, _⟩ := ap
  refine ⟨fun p hp => N p ?_, ⟨⟨a1, a2, a3, a4, trivial⟩, trivial⟩, ⟨⟨b1, b2, b3, b4, trivial⟩, trivial⟩⟩
  simp only [List.mem_cons, List.not_mem_nil, or_false] at hp ⊢
  rcases hp with h | h | h | h | h | h <;> simp [h]
end

section
local macro_rules | `(tactic| walk_at "call ref") => `(tactic| (k_here; (first | (with_reducible show wpAny _ _ (call (Value.ref 83) _) _ _ _) | (with_reducible show wpAny _ _ (call (Value.ref 88) _) _ _ _) | (with_reducible show wpAny _ _ (call (Value.ref 100) _) _ _ _)); refine hold ?_))
local macro_rules | `(tactic| walk_at "call ref") => `(tactic| (k_here; (with_reducible show wpAny _ _ (call (Value.ref 105) _) _ _ _); k_dflt (refine' tel_use (seats ?a1 ?a2) ?_); (case a1 => assumption); (case a2 => assumption); (refine' Ret.one4 ?_); intro x' k' t0' t1' t2' h' tk' F' N' l1; (try dsimp only); (try k_fold); (try k_sweep)))
local macro_rules | `(tactic| walk_at "call ref") => `(tactic| (k_here; (with_reducible show wpAny _ _ (call (Value.ref 115) _) _ _ _); k_dflt (refine' tel_use (best_any ?a1) ?_); (case a1 => assumption); (refine' Ret.of0 ?_); intro h' tk' F' N'; (try dsimp only); (try k_fold); (try k_sweep)))
local macro_rules | `(tactic| walk_at "call ref") => `(tactic| (k_here; (with_reducible show wpAny _ _ (call (Value.ref 129) _) _ _ _); k_dflt (refine' tel_use (due_any ?a1) ?_); (case a1 => assumption); (refine' Ret.one4 ?_); intro x' k' t0' t1' t2' h' tk' F' N' l1; (try dsimp only); (try k_fold); (try k_sweep)))
local macro_rules | `(tactic| walk_at "call ref") => `(tactic| (k_here; (with_reducible show wpAny _ _ (call (Value.ref 134) _) _ _ _); k_dflt (refine' tel_use (shares_any ?a1) ?_); (case a1 => assumption); (refine' Ret.oneO ?_); intro x' o' h' tk' ho' F' N' l1; (obtain ⟨k', t0', t1', t2', a0', a1', a2', ha0', ha1', ha2', ho'⟩ := ho'); (subst ho'); (try dsimp only); (try k_fold); (try k_sweep)))
local macro_rules | `(tactic| walk_at "call ref") => `(tactic| (k_here; (first
  | ((with_reducible show wpAny _ _ (call (Value.ref 141) [_, _, _, Value.int 0 _, Value.int 1 _]) _ _ _); k_dflt (refine' tel_use (joined01 ?a1 ?a2 ?a3 ?a4 ?a5 (joinL01 hI)) ?_))
  | ((with_reducible show wpAny _ _ (call (Value.ref 141) [_, _, _, Value.int 0 _, Value.int 2 _]) _ _ _); k_dflt (refine' tel_use (joined02 ?a1 ?a2 ?a3 ?a4 ?a5 (joinL02 hI)) ?_))
  | ((with_reducible show wpAny _ _ (call (Value.ref 141) [_, _, _, Value.int 1 _, Value.int 2 _]) _ _ _); k_dflt (refine' tel_use (joined12 ?a1 ?a2 ?a3 ?a4 ?a5 (joinR12 hI)) ?_))); (case a1 => assumption); (case a2 => assumption); (case a3 => assumption); (case a4 => assumption); (case a5 => assumption); (refine' Ret.of0 ?_); intro h' tk' F' N'; (try dsimp only); (try k_fold); (try k_sweep)))
local macro_rules | `(tactic| walk_at "subscriptTail Name Name ref int") => `(tactic| (k_here; (with_reducible show wpAny _ _ (subscriptTail _ _ (Value.ref _) (Value.int _ _)) _ _ _); k_dflt (refine' item_pick ?N ?m ?l ?_ ?s; (case N => k_asm); (case m => k_mem); (case l => assumption); (case s => intro _; with_unfolding_all rfl)); intro t'))
local macro_rules | `(tactic| walk_at "call ref") => `(tactic| (k_here; (with_reducible show wpAny _ _ (call (Value.ref 95) _) _ _ _); k_dflt (refine' tel_use (part ?a1 ?a2) ?_); (case a1 => assumption); (case a2 => assumption); (refine' Ret.of1 ?_); intro t' h' tk' F' N'; (try dsimp only); (try k_fold); (try k_sweep)))
local macro_rules | `(tactic| walk_at "eval ListComp") => `(tactic| (k_here; (with_reducible show wpAny _ _ (eval (PySem.Expr.ListComp (PySem.Expr.Call (PySem.Expr.Name _ _) _ _ _) _ _ _) (compEnvC _ _ _ _)) _ _ _); k_dflt (refine LCg.ListComp_U (F₀ := by k_asm) (by with_unfolding_all rfl) (by decide) (by rfl) (by decide) (by rfl) ?_)))
local macro_rules | `(tactic| walk_at "IntIs") => `(tactic| k_dflt (refine' ⟨_, _, _, rfl, rfl, ?F, ?N⟩; (case F => k_asm); (case N => k_asm)))
local macro_rules | `(tactic| walk_at "CompSrc") => `(tactic| ((have mk8 : Cols := by assumption); clear mk8; refine hold ?_))
local macro_rules | `(tactic| walk_at "call builtin:sum") => `(tactic| (k_here; (with_reducible show wpAny _ _ (call (Value.builtin _) [Value.ref _]) _ _ _); k_dflt (refine' sum_is ?k1 ?k2 ?k4 ?kX ?k5 ?_; (case k1 => k_asm); (case k2 => k_asm); (case k4 => assumption); (case kX => exact col5_sum _ _ _ _ _ _); (case k5 => with_unfolding_all rfl)); intro h' tk' t' F' N'; (try k_sweep)))
local macro_rules | `(tactic| k_qdec) => `(tactic| skip)
theorem law_go : PySem.Challenge.rw_sh0018_01.Holds := hd (by
  w_top off
  k_go0
  (all_goals try k_fold)
  k_steps
  refine unhold ?_
  refine' telL_use ?k1 ?k2 ?k3 ?k4 ?k5 ?kK (cells ?i ?n) ?kd ?ku ?kl ?_
  (case k1 => k_asm)
  (case k2 => k_asm)
  (case k3 => k_asm)
  (case k4 => k_asm)
  (case k5 => k_asm)
  (case kK => first | exact rfl | assumption)
  (case kl => first | assumption | exact Fr.lst (by k_asm) (by assumption))
  (case i => assumption)
  (case n => exact sixty (by assumption))
  (case kd => ktr_room)
  (case ku => ktr_units)
  refine' Ret.oneO ?_
  intro lc o' h' tk' ho' F' N' l1
  obtain ⟨kc, c0, c1, c2, c3, c4, c5, u0, u1, u2, u3, u4, u5, b0, b1, b2, b3, b4, b5, ho'⟩ := ho'
  subst ho'
  (try simp only [List.cons_append, List.nil_append] at N')
  (try dsimp only)
  (try k_fold)
  k_steps
  refine unhold ?_
  refine' tel_use (votes5 b0 b1 b2 b3 b4) ?_
  refine' Ret.one4 ?_
  intro lv kv w0 w1 w2 h' tk' F' N' l1
  (try dsimp only)
  (try k_fold)
  k_steps
  with_reducible rename Fr _ _ _ _ => F0
  with_reducible rename News _ _ _ _ => N0
  refine' C3.ListComp_3 (P := Corners) (J := JCol [col5 c0 c1 c2 c3 c4 0, col5 c0 c1 c2 c3 c4 8, col5 c0 c1 c2 c3 c4 16] ?nw) (news := ?nw) F0 N0 ?hh ?hclos ?hcf ?hpc ?hkind ?hnames ?hxc ?h ?hsz ?hS ?hJl ?hJ0 ?step ?fin
  case hh => rfl
  case hclos => with_unfolding_all rfl
  case hcf => intro n; with_unfolding_all rfl
  case hpc => intro h; with_unfolding_all rfl
  case hkind => rfl
  case hnames => decide
  case hxc => intro _ _; with_unfolding_all rfl
  case h =>
    k_steps
    exact tup_end (by k_asm) (by k_asm) (by k_all) ⟨_, _, _, rfl⟩
  case hsz => rintro its ⟨_, _, _, rfl⟩; exact Nat.le_of_ble_eq_true rfl
  case hS => intro its ax kk i ys nw hJ; rw [hJ.same]; exact .head _
  case hJl => intro its ax kk i ys nw hJ; have h1 := hJ.num.length; have h2 := hJ.le; rw [List.length_take] at h1; omega
  case hJ0 => intro its ax kk hP o; exact ⟨rfl, Nat.zero_le _, .nil⟩
  case step =>
    intro its ax kk i v K oK I oI C oC D m₂ h tk ys nw E' hP hv hJ hK hC F' N' off ne
    obtain ⟨k, tcor, hk, rfl, hcol⟩ := corner_at hP hv c0 c1 c2 c3 c4
    have hsame := hJ.same
    subst hsame
    have hcols : Cols := trivial
    k_steps
    refine unhold ?_
    clear hcols
    refine' ints_map (ws := [_, _, _, _, _]) (cs := [c0, c1, c2, c3, c4]) (fun c => partOf c k) ?ah ?aF ?aN ?am ?ai ?an ?_ ?_
    case ah => rfl
    case aF => k_asm
    case aN => k_asm
    case am => k_mem
    case ai => exact .cons _ _ (.cons _ _ (.cons _ _ (.cons _ _ (.cons _ _ .nil))))
    case an => exact Nat.le_of_ble_eq_true rfl
    · intro I2 oI2 C2 oC2 D2 ys2 m2 h2 tk2 c t2 E2 hc hC2 hx2 F' N'
      have hb : 0 ≤ c ∧ c < 32 := by
        simp only [List.mem_cons, List.not_mem_nil, or_false] at hc
        rcases hc with rfl | rfl | rfl | rfl | rfl <;> assumption
      clear hc
      k_steps
    · intro D2 ys2 h2 tk2 F' N' _ hi2
      (try dsimp only)
      k_steps
      exact col_end (by k_asm) (by k_asm) off hJ hcol
  intro its ax kk D h tk ys nw hP hJ F' N' o1
  have hsame := hJ.same
  subst hsame
  obtain ⟨ta, tb, tc, rfl⟩ := hP
  obtain ⟨y0, y1, y2, rfl⟩ := ints3 (by simpa using hJ.num)
  clear hJ
  (try dsimp only)
  k_steps
  refine unhold ?_
  obtain ⟨r0, r1, r2, rt⟩ := col5_bnd b0 b1 b2 b3 b4
  have hh := house_bnd c5
  refine' tel_use (deal3 ⟨r0.1, Int.le_trans r0.2 (by decide)⟩ ⟨r1.1, Int.le_trans r1.2 (by decide)⟩ ⟨r2.1, Int.le_trans r2.2 (by decide)⟩ hh) ?_
  intro v' tl' h' tk' ho' F' N' l1
  obtain ⟨tp, rl, s0, s1, s2, l, lt, x0, x1, x2, kr, inv, e1, e2⟩ := ho'
  subst e1
  subst e2
  have hI := fair_of r0 r1 r2 rt hh inv
  have hs7 : s0 + s1 + s2 ≤ 7 := by have := hI.sum; omega
  have hl := hI.last.any
  have hsum := hI.sum
  clear inv
  (try simp only [List.cons_append, List.nil_append] at N')
  (try dsimp only)
  (try k_fold)
  obtain ⟨N6, apA, apB⟩ := keep6 N' l1
  clear N' l1
  have hturns : Turns := turns_mark
  k_steps)
end

end Mine

set_option maxRecDepth 100000 in
set_option maxHeartbeats 8000000 in
theorem PySem.Challenge.cw_sh0018_01_holds : PySem.Challenge.rw_sh0018_01.Holds := by
  exact Mine.law_go
