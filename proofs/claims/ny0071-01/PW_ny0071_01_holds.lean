import PyProof.Rows.All
import Wide.All
import OpenK.AllK
import Wide.FinOn
import PySem.Challenge.RW_ny0071_01
set_option Elab.async false
set_option maxRecDepth 100000
set_option maxHeartbeats 8000000
section
open PySem PySem.W PyProof.Rows
namespace Mine
open_top hd for PySem.Challenge.rw_ny0071_01
end Mine
end
section
open PySem PySem.W PySem.Calls PyProof.Rows
set_option maxRecDepth 100000
set_option maxHeartbeats 8000000
namespace Mine
theorem enterK {prog : Program} {w : World} {A : Around} {s : Shared} {K : Frag} {p : Program} {loose : List Str} {mg mb : Str → Option Value} {Q E : Value → Shared → Prop}
    {name qual : Str} {params : Arguments} {body : List Stmt} {scope : Scope} {dV kV doc pm cdv ct oc : Value} {an od : Option Addr} {osl : Array (Option Value)} {f : Addr} {pos : List Value} {kw : List (Str × Value)} {binds : List (Str × Value)}
    (X : K.In s.heap) (T : TopRead p loose mg mb s.heap)
    (ho : K.lookup f = some ⟨oc, od, .func (fnOf name qual params body scope dV kV doc pm an cdv ct), osl⟩) (hcd : codeIn K cdv qual = true) (hroom : A.depth < recursionLimit)
    (hbind : BindsTo s (fnOf name qual params body scope dV kV doc pm an cdv ct) ⟨pos, kw⟩ binds) (hloc : ∀ y ∈ binds, scope.names.lookup y.1 = some .local)
    (h : ∀ h₁, Fr s.heap s.heap.objs.size h₁ (fun y => binds.reverse.lookup y) → News s.heap s.heap.objs.size h₁ [] →
      wpAny (model prog w) (A.deeper (envOf qual scope s.heap.objs.size f cdv)) (execs body (envOf qual scope s.heap.objs.size f cdv))
        (fun fl s' => Q (match fl with | .ret v => v | _ => .none) s') (fun _ _ => False) { s with heap := h₁, toks := s.toks + binds.length })
    (hco : scope.isCoroutine = false) (hgen : scope.isGenerator = false) (hk : scope.kind = .function)
    (hcell : ∀ x ∈ scope.names, x.2 ≠ .cell) : wpAny (model prog w) A (call (.ref f) pos kw) Q E s := by
  refine wpAny_call (codeAny_call_def (fd := fnOf name qual params body scope dV kV doc pm an cdv ct) (body := body) (binds := binds) hroom (X _ _ ho) rfl T.nolimit (codeRec_of X hcd) rfl hbind hcell hloc (fun h₁ hns hk₁ => ?_) hco hgen hk)
  exact wpAny_mono (h h₁ ⟨hns, hk₁, Nat.le_refl _⟩ News.nil) (fun fl s' q => q) fun _ _ x => x.elim
theorem enterC {prog : Program} {w : World} {A : Around} {s : Shared} {K : Frag} {p : Program} {loose : List Str} {mg mb : Str → Option Value} {Q E : Value → Shared → Prop}
    {name qual : Str} {params : Arguments} {body : List Stmt} {scope : Scope} {dV kV doc pm cdv ct oc : Value} {an od : Option Addr} {osl : Array (Option Value)} {f : Addr} {pos : List Value} {kw : List (Str × Value)} {binds : List (Str × Value)}
    (X : K.In s.heap) (T : TopRead p loose mg mb s.heap)
    (ho : K.lookup f = some ⟨oc, od, .func (fnOf name qual params body scope dV kV doc pm an cdv ct), osl⟩) (hcd : codeIn K cdv qual = true) (hroom : A.depth < recursionLimit)
    (hbind : BindsTo s (fnOf name qual params body scope dV kV doc pm an cdv ct) ⟨pos, kw⟩ binds)
    (hkind : (binds.all fun y => scope.names.lookup y.1 == some .local || scope.names.lookup y.1 == some .cell) = true)
    (hnd : ((cellsFrom 0 scope.names []).map (·.1)).Nodup)
    (h : ∀ L h₁ tk cells, L = s.heap.objs.size → Fr s.heap L h₁ (bindL (envOfC qual scope L f cdv).kindOf binds fun _ => none) → News s.heap L h₁ (cells ++ []) →
      CellsAre (bindC (envOfC qual scope L f cdv).kindOf binds fun _ => none) (cellsFrom (L + 1) scope.names []) cells →
      wpAny (model prog w) (A.deeper (envOfC qual scope L f cdv)) (execs body (envOfC qual scope L f cdv))
        (fun fl s' => Q (match fl with | .ret v => v | _ => .none) s') (fun _ _ => False) { s with heap := h₁, toks := tk })
    (hco : scope.isCoroutine = false) (hgen : scope.isGenerator = false) (hk : scope.kind = .function) : wpAny (model prog w) A (call (.ref f) pos kw) Q E s := by
  refine wpAny_call (codeAny_call_function hroom (X _ _ ho) rfl hco hgen rfl (codeRec_of X hcd) (hbind _ _ _ _ ?_))
  refine wpAny_newFunctionEnv_cells hk (kindsX hkind _) fun env' he s' x => ?_
  subst he
  refine ⟨T.nolimit.keeps x.toInCall.keep, codeAny_func ?_⟩
  obtain ⟨h₁, tk, rfl, _⟩ := x.done
  obtain ⟨cells, NC, Y⟩ := Cl.news (h₀ := s.heap) (Nat.le_refl _) fun n c hm => ⟨x.cell n c (lookup_of_mem_nodup (cellsFrom_names scope.names 0 (s.heap.objs.size + 1) [] [] rfl ▸ hnd) hm), x.above n c hm⟩
  exact wpAny_mono (h _ h₁ tk cells rfl ⟨x.toInCall.ns, x.toInCall.keep, Nat.le_refl _⟩ (by rw [List.append_nil]; exact NC) Y) (fun fl s' q => q) fun _ _ x => x.elim
section
variable {h₀ : Heap} {s : Shared} {news : List (Addr × Obj)}
theorem hide_keeps (hk : ∀ b o, h₀.get? b = some o → s.heap.get? b = some o) (N : ∀ p ∈ news, s.heap.get? p.1 = some p.2 ∧ h₀.get? p.1 = none) : ∀ b o, h₀.get? b = some o → (hideAll s.heap (news.map (·.1))).get? b = some o := fun b o e =>
  hideAll_get _ (hk b o e) fun q => by
    obtain ⟨p, hp, rfl⟩ := List.mem_map.mp q
    rw [(N p hp).2] at e; cases e
theorem hide_news {h₁ : Heap} {L : Addr} (hk₁ : ∀ b o, s.heap.get? b = some o → h₁.get? b = some o) (hL : s.heap.objs.size ≤ L) (N : ∀ p ∈ news, s.heap.get? p.1 = some p.2 ∧ h₀.get? p.1 = none) : News (hideAll s.heap (news.map (·.1))) L h₁ news := fun p hp =>
  ⟨hk₁ _ _ (N p hp).1, Nat.ne_of_lt (Nat.lt_of_lt_of_le (Heap.lt_size (N p hp).1) hL), hideAll_none _ (List.mem_map_of_mem hp)⟩
/-- what stood stands: the hidden by the ledger, the rest by the frame -/
theorem hide_back {h' : Heap} {L : Addr} {m : Str → Option Value} {news' : List (Addr × Obj)} (F : Fr (hideAll s.heap (news.map (·.1))) L h' m) (N' : News (hideAll s.heap (news.map (·.1))) L h' news') (sub : ∀ p ∈ news, p ∈ news') (N : ∀ p ∈ news, s.heap.get? p.1 = some p.2 ∧ h₀.get? p.1 = none) :
    ∀ b o, s.heap.get? b = some o → h'.get? b = some o := fun b o e => by
  by_cases q : b ∈ news.map (·.1)
  · obtain ⟨p, hp, rfl⟩ := List.mem_map.mp q
    rw [(N p hp).1] at e; cases e
    exact (N' p (sub p hp)).1
  · exact F.keep b o (hideAll_get _ e q)
/-- the same but for what the ledger has changed -/
theorem hide_back_but {h' : Heap} {L : Addr} {m : Str → Option Value} {M : List Addr} {news' : List (Addr × Obj)} (F : Fr (hideAll s.heap (news.map (·.1))) L h' m) (N' : News (hideAll s.heap (news.map (·.1))) L h' news') (sub : ∀ p ∈ news, p.1 ∉ M → p ∈ news') (N : ∀ p ∈ news, s.heap.get? p.1 = some p.2 ∧ h₀.get? p.1 = none) :
    ∀ b o, b ∉ M → s.heap.get? b = some o → h'.get? b = some o := fun b o hM e => by
  by_cases q : b ∈ news.map (·.1)
  · obtain ⟨p, hp, rfl⟩ := List.mem_map.mp q
    rw [(N p hp).1] at e; cases e
    exact (N' p (sub p hp hM)).1
  · exact F.keep b o (hideAll_get _ e q)
end
theorem enterN {prog : Program} {w : World} {A : Around} {s : Shared} {K : Frag} {p : Program} {loose : List Str} {mg mb : Str → Option Value} {Q E : Value → Shared → Prop} {h₀ : Heap} {news : List (Addr × Obj)}
    {name qual : Str} {params : Arguments} {body : List Stmt} {scope : Scope} {dV kV doc pm cdv ct oc : Value} {an od : Option Addr} {osl : Array (Option Value)} {f : Addr} {pos : List Value} {kw : List (Str × Value)} {binds : List (Str × Value)}
    (hk : ∀ b o, h₀.get? b = some o → s.heap.get? b = some o) (X : K.In h₀) (T : TopRead p loose mg mb h₀) (N : ∀ p ∈ news, s.heap.get? p.1 = some p.2 ∧ h₀.get? p.1 = none)
    (ho : K.lookup f = some ⟨oc, od, .func (fnOf name qual params body scope dV kV doc pm an cdv ct), osl⟩) (hcd : codeIn K cdv qual = true) (hroom : A.depth < recursionLimit)
    (hbind : BindsTo s (fnOf name qual params body scope dV kV doc pm an cdv ct) ⟨pos, kw⟩ binds) (hloc : ∀ y ∈ binds, scope.names.lookup y.1 = some .local)
    (h : ∀ g L h₁, g = hideAll s.heap (news.map (·.1)) → L = s.heap.objs.size → K.In g → TopRead p loose mg mb g → Fr g L h₁ (fun y => binds.reverse.lookup y) → News g L h₁ news →
      wpAny (model prog w) (A.deeper (envOf qual scope L f cdv)) (execs body (envOf qual scope L f cdv))
        (fun fl s' => Q (match fl with | .ret v => v | _ => .none) s') (fun _ _ => False) { s with heap := h₁, toks := s.toks + binds.length })
    (hco : scope.isCoroutine = false) (hgen : scope.isGenerator = false) (hkd : scope.kind = .function)
    (hcell : ∀ x ∈ scope.names, x.2 ≠ .cell) : wpAny (model prog w) A (call (.ref f) pos kw) Q E s := by
  refine wpAny_call (codeAny_call_def (fd := fnOf name qual params body scope dV kV doc pm an cdv ct) (body := body) (binds := binds) hroom (hk _ _ (X _ _ ho)) rfl (T.nolimit.keeps hk) (codeRec_of (X.keeps hk) hcd) rfl hbind hcell hloc (fun h₁ hns hk₁ => ?_) hco hgen hkd)
  exact wpAny_mono (h _ _ h₁ rfl rfl (X.keeps (hide_keeps hk N)) (T.keeps (hide_keeps hk N)) ⟨hns, fun b o e => hk₁ b o (of_hideAll _ e), Nat.le_of_eq (hideAll_size _ _)⟩ (hide_news hk₁ (Nat.le_refl _) N)) (fun fl s' q => q) fun _ _ x => x.elim
theorem enterNC {prog : Program} {w : World} {A : Around} {s : Shared} {K : Frag} {p : Program} {loose : List Str} {mg mb : Str → Option Value} {Q E : Value → Shared → Prop} {h₀ : Heap} {news : List (Addr × Obj)}
    {name qual : Str} {params : Arguments} {body : List Stmt} {scope : Scope} {dV kV doc pm cdv ct oc : Value} {an od : Option Addr} {osl : Array (Option Value)} {f : Addr} {pos : List Value} {kw : List (Str × Value)} {binds : List (Str × Value)}
    (hk : ∀ b o, h₀.get? b = some o → s.heap.get? b = some o) (X : K.In h₀) (T : TopRead p loose mg mb h₀) (N : ∀ p ∈ news, s.heap.get? p.1 = some p.2 ∧ h₀.get? p.1 = none)
    (ho : K.lookup f = some ⟨oc, od, .func (fnOf name qual params body scope dV kV doc pm an cdv ct), osl⟩) (hcd : codeIn K cdv qual = true) (hroom : A.depth < recursionLimit)
    (hbind : BindsTo s (fnOf name qual params body scope dV kV doc pm an cdv ct) ⟨pos, kw⟩ binds)
    (hkind : (binds.all fun y => scope.names.lookup y.1 == some .local || scope.names.lookup y.1 == some .cell) = true)
    (hnd : ((cellsFrom 0 scope.names []).map (·.1)).Nodup)
    (h : ∀ g L h₁ tk cells, g = hideAll s.heap (news.map (·.1)) → L = s.heap.objs.size → K.In g → TopRead p loose mg mb g → Fr g L h₁ (bindL (envOfC qual scope L f cdv).kindOf binds fun _ => none) → News g L h₁ (cells ++ news) →
      CellsAre (bindC (envOfC qual scope L f cdv).kindOf binds fun _ => none) (cellsFrom (L + 1) scope.names []) cells → (∀ p ∈ news, p.1 < L) →
      wpAny (model prog w) (A.deeper (envOfC qual scope L f cdv)) (execs body (envOfC qual scope L f cdv))
        (fun fl s' => Q (match fl with | .ret v => v | _ => .none) s') (fun _ _ => False) { s with heap := h₁, toks := tk })
    (hco : scope.isCoroutine = false) (hgen : scope.isGenerator = false) (hkd : scope.kind = .function) : wpAny (model prog w) A (call (.ref f) pos kw) Q E s := by
  refine wpAny_call (codeAny_call_function hroom (hk _ _ (X _ _ ho)) rfl hco hgen rfl (codeRec_of (X.keeps hk) hcd) (hbind _ _ _ _ ?_))
  refine wpAny_newFunctionEnv_cells hkd (kindsX hkind _) fun env' he s' x => ?_
  subst he
  refine ⟨(T.nolimit.keeps hk).keeps x.toInCall.keep, codeAny_func ?_⟩
  obtain ⟨h₁, tk, rfl, _⟩ := x.done
  have hk₁ := x.toInCall.keep
  obtain ⟨cells, NC, Y⟩ := Cl.news (h₀ := s.heap) (Nat.le_refl _) fun n c hm => ⟨x.cell n c (lookup_of_mem_nodup (cellsFrom_names scope.names 0 (s.heap.objs.size + 1) [] [] rfl ▸ hnd) hm), x.above n c hm⟩
  refine wpAny_mono (h _ _ h₁ tk cells rfl rfl (X.keeps (hide_keeps hk N)) (T.keeps (hide_keeps hk N)) ⟨x.toInCall.ns, fun b o e => hk₁ b o (of_hideAll _ e), Nat.le_of_eq (hideAll_size _ _)⟩ (fun p hp => ?_) Y (fun p hp => Heap.lt_size (N p hp).1)) (fun fl s' q => q) fun _ _ x => x.elim
  rcases List.mem_append.mp hp with hp | hp
  · refine ⟨(NC p hp).1, (NC p hp).2.1, ?_⟩
    cases q : (hideAll s.heap (news.map (·.1))).get? p.1 with
    | none => rfl
    | some o => have := of_hideAll _ q; rw [(NC p hp).2.2] at this; cases this
  · exact hide_news hk₁ (Nat.le_refl _) N p hp
/-- a def whose binding makes objects (a star, two stars) -/
theorem enterG {prog : Program} {w : World} {A : Around} {s : Shared} {K : Frag} {p : Program} {loose : List Str} {mg mb : Str → Option Value} {Q E : Value → Shared → Prop}
    {name qual : Str} {params : Arguments} {body : List Stmt} {scope : Scope} {dV kV doc pm cdv ct oc : Value} {an od : Option Addr} {osl : Array (Option Value)} {f : Addr} {pos : List Value} {kw : List (Str × Value)} {binds : List (Str × Value)} {hb : Heap}
    (X : K.In s.heap) (T : TopRead p loose mg mb s.heap)
    (ho : K.lookup f = some ⟨oc, od, .func (fnOf name qual params body scope dV kV doc pm an cdv ct), osl⟩) (hcd : codeIn K cdv qual = true) (hroom : A.depth < recursionLimit)
    (hkb : ∀ b o, s.heap.get? b = some o → hb.get? b = some o)
    (hbind : ∀ (Q' : List (Str × Value) → Shared → Prop) (E' : Value → Shared → Prop), Q' binds { s with heap := hb } → wpAny (model prog w) A.in1 (bindArgs (fnOf name qual params body scope dV kV doc pm an cdv ct) ⟨pos, kw⟩) Q' E' s)
    (hloc : ∀ y ∈ binds, scope.names.lookup y.1 = some .local)
    (h : ∀ L h₁, L = hb.objs.size → (∀ b o, hb.get? b = some o → h₁.get? b = some o) → h₁.Ns L (fun y => binds.reverse.lookup y) →
      wpAny (model prog w) (A.deeper (envOf qual scope L f cdv)) (execs body (envOf qual scope L f cdv))
        (fun fl s' => Q (match fl with | .ret v => v | _ => .none) s') (fun _ _ => False) { s with heap := h₁, toks := s.toks + binds.length })
    (hco : scope.isCoroutine = false) (hgen : scope.isGenerator = false) (hkd : scope.kind = .function)
    (hcell : ∀ x ∈ scope.names, x.2 ≠ .cell) : wpAny (model prog w) A (call (.ref f) pos kw) Q E s := by
  refine wpAny_call (codeAny_call_function hroom (X _ _ ho) rfl hco hgen rfl (codeRec_of X hcd) (hbind _ _ ?_))
  refine wpAny_newFunctionEnv hcell hloc (fun h₁ hns hsb => ⟨(T.nolimit.keeps hkb).fresh _ hsb, codeAny_func ?_⟩) hkd
  exact wpAny_mono (h _ h₁ rfl (fun b o e => hsb.extBut b o (Nat.ne_of_lt (Heap.lt_size e)) (Heap.get?_push_of_some _ e)) hns) (fun fl s' q => q) fun _ _ x => x.elim
theorem truthy_empty {prog : Program} {w : World} {A : Around} {s : Shared} {E : Value → Shared → Prop} {Q : Bool → Shared → Prop} {d : Addr} {n : Nat} (hd : (d == sysModules) = false) (ho : s.heap.get? d = some (dictOf [] n))
    (h : Q false { s with toks := s.toks + 1 + 1 }) : wpAny (model prog w) A (truthy (.ref d)) Q E s :=
  wpAny_truthy_dict (knd := strKind prog w) (kvs := []) hd ⟨_, _, _, ho, ⟨rfl, rfl, rfl⟩, rfl, by intro e he; simp at he, by constructor, by simp⟩ (by decide) h
end Mine
end
section
open PySem PySem.W PySem.Calls PyProof.Rows
set_option maxRecDepth 100000
set_option maxHeartbeats 4000000
namespace Mine
open LCg (lst lst_snoc)
theorem barrier {p : Prop} (h : p) : p := h
theorem nameQ {α : Type} {M : Model} {A : Around} {tr : Sem α} {Q : α → Shared → Prop} {E : Value → Shared → Prop} {s : Shared} (h : ∀ Q' : α → Shared → Prop, (∀ v s', Q v s' → Q' v s') → wpAny M A tr Q' E s) : wpAny M A tr Q E s :=
  h Q fun _ _ x => x
theorem reset {α : Type} {M : Model} {A : Around} {tr : Sem α} {Q : α → Shared → Prop} {E : Value → Shared → Prop} (s₀ : Shared) {h : Heap} {tk : Tok} (k : ∀ tk, wpAny M A tr Q E { s₀ with heap := h, toks := tk }) : wpAny M A tr Q E { s₀ with heap := h, toks := tk } := k tk
noncomputable abbrev NoE : Value → Shared → Prop := fun _ _ => False
section
variable {prog : Program} {w : World} {A : Around} {E : Value → Shared → Prop} {R : Result → Shared → Prop} {s : Shared}
theorem ofNoE {α : Type} {M : Model} {t : Sem α} {Q : α → Shared → Prop} (h : wpAny M A t Q NoE s) : wpAny M A t Q E s := wpAny_mono h (fun _ _ q => q) fun _ _ x => x.elim
theorem comp_any {elt target iter : Expr} {ifs : List Expr} {scope : Scope} {pos : Pos} {it acc : Value} {env : Env} (I : Nat → Shared → Prop)
    (turn : ∀ n s, I n s → wpAny (model prog w) A (pyNext it) (fun r s₁ => match r with
      | none => R (.ok .next) s₁
      | some v => wpAny (model prog w) A (letOwnedTupleGo target it v) (fun _ s₁' => wpAny (model prog w) A (assign target env v) (fun _ s₂ =>
          wpAny (model prog w) A (forIn ifs true fun c r => if r = true then do let ok ← isTrue c env (eval c env); pure (ForInStep.yield ok) else pure (ForInStep.yield r)) (fun ok s₃ =>
            if ok = true then wpAny (model prog w) A (eval elt env) (fun x s₄ =>
              wpAny (model prog w) A (call (.builtin "list.append") [acc, x]) (fun _ s₅ => ∃ m, m < n ∧ I m s₅) NoE s₄) NoE s₃
            else ∃ m, m < n ∧ I m s₃) NoE s₂) NoE s₁') NoE s₁) NoE s)
    (n : Nat) (h : I n s) :
    codeAny (model prog w) A (.compLoop (.ListComp elt [⟨target, iter, ifs, 0⟩] scope pos) 0 it acc env) R s := by
  refine codeAny_loop rfl I (fun n s hI => ?_) n h
  show wpAny _ A ((compTurn (.ListComp elt [⟨target, iter, ifs, 0⟩] scope pos) 0 it acc env).onRaise (fun x => do noteFrame x env; theTreesLotGoes x)) _ _ s
  refine wpAny_noted ?_
  rw [compTurn_list]
  refine wpAny_bind (wpAny_standAt (wpAny_bind (wpAny_mono (turn n s hI) (fun r s₁ h₁ => ?_) fun _ _ h' => h'.elim)))
  cases r with
  | none => exact wpAny_pure h₁
  | some v =>
    refine wpAny_bind (wpAny_mono h₁ (fun _ s₁' h₁' => ?_) fun _ _ h' => h'.elim)
    refine wpAny_bind (wpAny_mono h₁' (fun _ s₂ h₂ => wpAny_bind (wpAny_mono h₂ (fun ok s₃ h₃ => ?_) fun _ _ h' => h'.elim)) fun _ _ h' => h'.elim)
    cases ok with
    | false => exact wpAny_pure ⟨rfl, h₃⟩
    | true =>
      exact wpAny_bind (wpAny_bind (wpAny_mono h₃ (fun x s₄ h₄ => wpAny_bind (wpAny_mono h₄ (fun _ s₅ h₅ => wpAny_pure (wpAny_pure ⟨rfl, h₅⟩)) fun _ _ h' => h'.elim)) fun _ _ h' => h'.elim))
end
/-- a heap keeps what another has, but at M -/
noncomputable def Kp (M : List Addr) (h h' : Heap) : Prop := ∀ b o, b ∉ M → h.get? b = some o → h'.get? b = some o
theorem Kp.refl {M : List Addr} {h : Heap} : Kp M h h := fun _ _ _ e => e
theorem Kp.trans {M : List Addr} {h h' h'' : Heap} (a : Kp M h h') (b : Kp M h' h'') : Kp M h h'' := fun c o hc e => b c o hc (a c o hc e)
theorem Kp.of {M : List Addr} {h h' : Heap} (a : ∀ b o, h.get? b = some o → h'.get? b = some o) : Kp M h h' := fun c o _ e => a c o e
theorem Kp.all {h h' : Heap} (a : Kp [] h h') : ∀ b o, h.get? b = some o → h'.get? b = some o := fun b o e => a b o (by simp) e
theorem Kp.mono {M M' : List Addr} {h h' : Heap} (a : Kp M h h') (m : ∀ b ∈ M, b ∈ M') : Kp M' h h' := fun b o hb e => a b o (fun q => hb (m b q)) e
noncomputable abbrev testsOf (ifs : List Expr) (env : Env) : Sem Bool := forIn ifs true fun c r => if r = true then do let ok ← isTrue c env (eval c env); pure (ForInStep.yield ok) else pure (ForInStep.yield r)
section
variable {prog : Program} {w : World} {A : Around} {E : Value → Shared → Prop} {env : Env}
theorem lc_core {elt target iter : Expr} {ifs : List Expr} {scope : Scope} {cl : List (Str × Addr)} {pos : Pos} {s₂ : Shared} {I : Addr} {fp : List Addr} {n : Nat} {P : Nat → Value → Prop} {St : Nat → Heap → Prop} {M : List Addr}
    {RR : Value → Addr → Result → Shared → Prop} (J : Nat → List Value → Shared → Prop) (Bd : Value → (Str → Option Value) → Prop)
    (W : Walks prog w A I fp [I] n P St) (hsz : n ≤ sizeLine) (hcell : ∀ y ∈ scope.names, y.2 ≠ .cell) (hkind : scope.kind = .function)
    (hst : St 0 s₂.heap) (hfp : ∀ b ∈ fp, b < s₂.heap.objs.size) (hM : ∀ b ∈ M, b < s₂.heap.objs.size ∧ b ∉ fp)
    (hbind : ∀ i v C m' s (Q : Unit → Shared → Prop), P i v → St (i + 1) s.heap → s₂.heap.objs.size < C → s.heap.Ns C m' → Kp (I :: M) s₂.heap s.heap →
      (∀ h' tk m'', Kp [C] s.heap h' → h'.Ns C m'' → Bd v m'' → Q () { s with heap := h', toks := tk }) →
      wpAny (model prog w) A (letOwnedTupleGo target (.ref I) v) (fun _ s₁ => wpAny (model prog w) A (assign target (compEnvC scope cl C env) v) Q NoE s₁) NoE s)
    (hJ : ∀ i ys s h' tk, J i ys s → (∀ b o, b < s₂.heap.objs.size → b ≠ I → s.heap.get? b = some o → h'.get? b = some o) → J i ys { s with heap := h', toks := tk })
    (h0 : J 0 [] s₂)
    (turn : ∀ i ys v C m₂ s, P i v → i < n → ys.length ≤ i → J i ys s → s₂.heap.objs.size < C → s.heap.Ns C m₂ → Bd v m₂ → Kp (I :: M) s₂.heap s.heap →
      wpAny (model prog w) A (testsOf ifs (compEnvC scope cl C env)) (fun ok s' => if ok = true then
          wpAny (model prog w) A (eval elt (compEnvC scope cl C env)) (fun y s'' => Kp M s.heap s''.heap ∧ J (i + 1) (ys ++ [y]) s'') NoE s'
        else Kp M s.heap s'.heap ∧ J (i + 1) ys s') NoE s)
    (hRR : ∀ D C m' ys s, J n ys s → s.heap.Ns C m' → s₂.heap.objs.size ≤ D → s₂.heap.objs.size < C → D ≠ C → s.heap.get? D = some (lst ys) → Kp (I :: M) s₂.heap s.heap → RR (.ref D) C (.ok .next) s) :
    wpAny (model prog w) A (newList []) (fun acc s₃ => wpAny (model prog w) A (newFunctionEnv scope env.globals cl [] env.qual none .none (some env)) (fun cenv s₄ =>
      codeAny (model prog w) A (.compStart (.ListComp elt [⟨target, iter, ifs, 0⟩] scope pos) 0 (.ref I) acc { cenv with scope := relabel scope env }) (RR acc cenv.locals) s₄) E s₃) E s₂ := by
  refine wpAny_newObj_type (wpAny_newFunctionEnv hcell (by intro y hy; simp at hy) (fun h₁ hns₁ hsb₁ => ?_) hkind)
  dsimp only at hns₁ hsb₁ ⊢
  generalize hH2 : s₂.heap.push { cls := .type "list", dict := none, data := .seq ([] : List Value).toArray } = H2 at hns₁ hsb₁ ⊢
  revert H2
  refine barrier ?_
  intro H2 hH2 hns₁ hsb₁
  have hC : H2.objs.size = s₂.heap.objs.size + 1 := by rw [← hH2, Heap.size_push]
  have hDC : s₂.heap.objs.size ≠ H2.objs.size := by rw [hC]; exact Nat.ne_of_lt (Nat.lt_succ_self _)
  have hCl : s₂.heap.objs.size < H2.objs.size := by rw [hC]; exact Nat.lt_succ_self _
  have below : ∀ b, b < s₂.heap.objs.size → b ≠ H2.objs.size ∧ b ≠ s₂.heap.objs.size := fun b hb => ⟨by rw [hC]; exact Nat.ne_of_lt (Nat.lt_succ_of_lt hb), Nat.ne_of_lt hb⟩
  have hIf : I ∈ fp := W.sub I (List.mem_singleton.mpr rfl)
  have hIlt : I < s₂.heap.objs.size := hfp I hIf
  have old : ∀ b o, s₂.heap.get? b = some o → h₁.get? b = some o := fun b o e => hsb₁.extBut b o (below b (Heap.lt_size e)).1 (Heap.get?_push_of_some _ (hH2 ▸ Heap.get?_push_of_some _ e))
  have hacc : h₁.get? s₂.heap.objs.size = some (lst []) := hsb₁.extBut _ _ hDC (Heap.get?_push_of_some _ (hH2 ▸ Heap.get?_push_size _ rfl))
  have hst₁ : St 0 h₁ := W.frame _ _ _ hst fun b _ o e => old b o e
  have loop : ∀ s₃ : Shared, s₃ = { s₂ with heap := h₁, toks := s₂.toks + ([] : List (Str × Value)).length } →
      codeAny (model prog w) A (.compLoop (.ListComp elt [⟨target, iter, ifs, 0⟩] scope pos) 0 (.ref I) (.ref s₂.heap.objs.size) (compEnvC scope cl H2.objs.size env))
        (RR (.ref s₂.heap.objs.size) H2.objs.size) s₃ := by
    rintro s₃ rfl
    refine comp_any
      (fun k s' => ∃ i ys m', i ≤ n ∧ k = n + 1 - i ∧ ys.length ≤ i ∧ St i s'.heap ∧ s'.heap.Ns H2.objs.size m' ∧ s'.heap.get? s₂.heap.objs.size = some (lst ys) ∧ Kp (I :: M) s₂.heap s'.heap ∧ J i ys s') ?_ (n + 1)
      ⟨0, [], _, Nat.zero_le _, rfl, Nat.le_refl _, hst₁, hns₁, hacc, Kp.of old, hJ 0 [] s₂ h₁ _ h0 fun b o _ _ e => old b o e⟩
    rintro k s' ⟨i, ys, m', hi, rfl, hyl, hst', hn', hD', hK', J'⟩
    by_cases hlt : i < n
    · refine W.item i _ _ _ hlt hst' fun v h₂ tk₂ hPv hst₂ hk₂ => ?_
      have hK₂ : Kp (I :: M) s₂.heap h₂ := fun b o hb e => hk₂ b o (fun q => hb (by rw [List.mem_singleton.mp q]; exact List.mem_cons_self)) (hK' b o hb e)
      have hn₂ : h₂.Ns H2.objs.size m' := hn'.at' fun o e => hk₂ _ o (by simpa using Ne.symm (below I hIlt).1) e
      have hD₂ : h₂.get? s₂.heap.objs.size = some (lst ys) := hk₂ _ _ (by simpa using Ne.symm (below I hIlt).2) hD'
      refine hbind i v H2.objs.size m' { s' with heap := h₂, toks := tk₂ } _ hPv hst₂ hCl hn₂ hK₂ fun h₃ tk₃ m₃ hk₃ hn₃ hb₃ => ?_
      have hK₃ : Kp (I :: M) s₂.heap h₃ := fun b o hb e => hk₃ b o (by simpa using (below b (Heap.lt_size e)).1) (hK₂ b o hb e)
      have hD₃ : h₃.get? s₂.heap.objs.size = some (lst ys) := hk₃ _ _ (by simpa using hDC) hD₂
      have hst₃ : St (i + 1) h₃ := W.frame _ _ _ hst₂ fun b hb o e => hk₃ b o (by simpa using (below b (hfp b hb)).1) e
      have J₃ : J i ys { s' with heap := h₃, toks := tk₃ } := hJ i ys s' h₃ tk₃ J' fun b o hb hbI e => hk₃ b o (by simpa using (below b hb).1) (hk₂ b o (by simpa using hbI) e)
      have next : ∀ (ys' : List Value) (u : Shared), ys'.length ≤ i + 1 → (∀ b o, b ∉ M → b ≠ s₂.heap.objs.size → h₃.get? b = some o → u.heap.get? b = some o) → J (i + 1) ys' u → u.heap.get? s₂.heap.objs.size = some (lst ys') →
          ∃ m, m < n + 1 - i ∧ ∃ i ys m', i ≤ n ∧ m = n + 1 - i ∧ ys.length ≤ i ∧ St i u.heap ∧ u.heap.Ns H2.objs.size m' ∧ u.heap.get? s₂.heap.objs.size = some (lst ys) ∧ Kp (I :: M) s₂.heap u.heap ∧ J i ys u := by
        intro ys' u hl hk hJ' hD
        refine ⟨n + 1 - (i + 1), by omega, i + 1, ys', m₃, hlt, rfl, hl, W.frame _ _ _ hst₃ fun b hb o e => hk b o (fun q => (hM b q).2 hb) (below b (hfp b hb)).2 e, hn₃.at' fun o e => hk _ o (fun q => absurd (hM _ q).1 (Nat.not_lt.mpr (Nat.le_of_lt hCl))) (Ne.symm hDC) e, hD, fun b o hb e => hk b o (fun q => hb (List.mem_cons_of_mem _ q)) (below b (Heap.lt_size e)).2 (hK₃ b o hb e), hJ'⟩
      refine wpAny_mono (turn i ys v H2.objs.size m₃ _ hPv hlt hyl J₃ hCl hn₃ hb₃ hK₃) (fun ok s₄ h₄ => ?_) fun _ _ e => e
      have hDM : s₂.heap.objs.size ∉ M := fun q => Nat.lt_irrefl _ (hM _ q).1
      cases ok with
      | true =>
        simp only [if_true] at h₄ ⊢
        refine wpAny_mono h₄ (fun y s₅ h₅ => ?_) fun _ _ e => e
        obtain ⟨hk₅, J₅⟩ := h₅
        refine append_at (hsz := by show ys.toArray.size ≤ sizeLine; rw [List.size_toArray]; omega) (hk₅ _ _ hDM hD₃) fun h₆ hs₆ hD₆ => ?_
        exact next (ys ++ [y]) _ (by simp; omega) (fun b o hb hbD e => hs₆.extBut b o hbD (hk₅ b o hb e)) (hJ _ _ s₅ h₆ s₅.toks J₅ fun b o hb _ e => hs₆.extBut b o (below b hb).2 e) (hD₆.trans (congrArg some (lst_snoc ys y)))
      | false =>
        simp only [Bool.false_eq_true, if_false] at h₄ ⊢
        exact next ys s₄ (by omega) (fun b o hb _ e => h₄.1 b o hb e) h₄.2 (h₄.1 _ _ hDM hD₃)
    · obtain rfl : i = n := Nat.le_antisymm hi (Nat.not_lt.mp hlt)
      refine W.done _ _ _ hst' fun h₂ tk₂ hk₂ => ?_
      refine hRR _ _ m' ys _ (hJ _ _ s' h₂ tk₂ J' fun b o _ hbI e => hk₂ b o (by simpa using hbI) e) (hn'.at' fun o e => hk₂ _ o (by simpa using Ne.symm (below I hIlt).1) e) (Nat.le_refl _) hCl hDC (hk₂ _ _ (by simpa using Ne.symm (below I hIlt).2) hD') ?_
      exact fun b o hb e => hk₂ b o (fun q => hb (by rw [List.mem_singleton.mp q]; exact List.mem_cons_self)) (hK' b o hb e)
  exact codeAny_compStart_list (loop _ rfl) (W.self 0 _ _ _ hst₁ (loop _ rfl))
end
end Mine
end
section
open PySem PySem.W PySem.Calls PyProof.Rows
set_option maxRecDepth 100000
set_option maxHeartbeats 4000000
namespace Mine
open LCg (lst lst_snoc)
noncomputable abbrev upd (m : Str → Option Value) (y : Str) (v : Value) : Str → Option Value := fun z => if z = y then some v else m z
section
variable {prog : Program} {w : World} {A : Around} {E : Value → Shared → Prop} {env : Env} {s₁ : Shared}
/-- the source is a list; the target any; how it is bound: hbind -/
theorem lc_list {elt target iter : Expr} {ifs : List Expr} {scope : Scope} {cl : List (Str × Addr)} {pos : Pos} {ax : Addr} {its : Array Value} {M : List Addr}
    {RR : Value → Addr → Result → Shared → Prop} (J : Nat → List Value → Shared → Prop) (Bd : Value → (Str → Option Value) → Prop)
    (hcell : ∀ y ∈ scope.names, y.2 ≠ .cell) (hkind : scope.kind = .function) (hh : A.handled = none)
    (hl : s₁.heap.IsList ax its) (hax : ax ∉ M) (hM : ∀ b ∈ M, b < s₁.heap.objs.size) (hsz : its.size ≤ sizeLine)
    (hbind : ∀ v C m' s I l j (Q : Unit → Shared → Prop), v ∈ its → s₁.heap.objs.size < C → s.heap.Ns C m' → Kp M s₁.heap s.heap → s.heap.IsListIter I l j →
      (∀ h' tk m'', Kp [C] s.heap h' → h'.Ns C m'' → Bd v m'' → Q () { s with heap := h', toks := tk }) →
      wpAny (model prog w) A (letOwnedTupleGo target (.ref I) v) (fun _ s₁ => wpAny (model prog w) A (assign target (compEnvC scope cl C env) v) Q NoE s₁) NoE s)
    (hJ : ∀ i ys s h' tk, J i ys s → (∀ b o, b < s₁.heap.objs.size → s.heap.get? b = some o → h'.get? b = some o) → J i ys { s with heap := h', toks := tk })
    (h0 : J 0 [] s₁)
    (turn : ∀ i ys v C m₂ s, its[i]? = some v → ys.length ≤ i → J i ys s → s₁.heap.objs.size < C → s.heap.Ns C m₂ → Bd v m₂ → Kp M s₁.heap s.heap →
      wpAny (model prog w) A (testsOf ifs (compEnvC scope cl C env)) (fun ok s' => if ok = true then
          wpAny (model prog w) A (eval elt (compEnvC scope cl C env)) (fun y s'' => Kp M s.heap s''.heap ∧ J (i + 1) (ys ++ [y]) s'') NoE s'
        else Kp M s.heap s'.heap ∧ J (i + 1) ys s') NoE s)
    (hRR : ∀ D C m' ys s, J its.size ys s → s.heap.Ns C m' → s₁.heap.objs.size < D → s₁.heap.objs.size < C → D ≠ C → s.heap.get? D = some (lst ys) → Kp M s₁.heap s.heap → RR (.ref D) C (.ok .next) s) :
    wpAny (model prog w) A (pyIter (.ref ax)) (fun it s₂ => wpAny (model prog w) A (newList []) (fun acc s₃ => wpAny (model prog w) A (newFunctionEnv scope env.globals cl [] env.qual none .none (some env)) (fun cenv s₄ =>
      codeAny (model prog w) A (.compStart (.ListComp elt [⟨target, iter, ifs, 0⟩] scope pos) 0 it acc { cenv with scope := relabel scope env }) (RR acc cenv.locals) s₄) E s₃) E s₂) E s₁ := by
  have hlt : ax < s₁.heap.objs.size := by obtain ⟨_, e, _⟩ := hl; exact Heap.lt_size e
  refine wpAny_pyIter_list hl ?_
  have up : ∀ b o, s₁.heap.get? b = some o → (s₁.heap.push { cls := .type "list_iterator", data := .fields #[.ref ax, .int 0 0] }).get? b = some o := fun b o e => Heap.get?_push_of_some _ e
  have hs2 : (s₁.heap.push { cls := .type "list_iterator", data := .fields #[.ref ax, .int 0 0] }).objs.size = s₁.heap.objs.size + 1 := Heap.size_push ..
  have down : ∀ {h : Heap}, Kp (s₁.heap.objs.size :: M) (s₁.heap.push { cls := .type "list_iterator", data := .fields #[.ref ax, .int 0 0] }) h → Kp M s₁.heap h := fun k b o hb e =>
    k b o (fun q => by rcases List.mem_cons.mp q with q | q; exact absurd (Heap.lt_size e) (q ▸ Nat.lt_irrefl _); exact hb q) (up b o e)
  refine lc_core (M := M) J Bd (Walks.list hh s₁.heap.objs.size ax (Nat.ne_of_lt hlt) its) hsz hcell hkind ⟨⟨_, Heap.get?_push_size _ rfl, rfl, rfl⟩, hl.push _⟩ ?_ ?_ ?_ ?_ ?_ ?_ ?_
  · intro b hb
    show b < (s₁.heap.push _).objs.size
    rw [hs2]
    rcases List.mem_cons.mp hb with rfl | hb
    · exact Nat.lt_succ_self _
    · rw [List.mem_singleton.mp hb]; exact Nat.lt_succ_of_lt hlt
  · intro b hb
    refine ⟨by show b < (s₁.heap.push _).objs.size; rw [hs2]; exact Nat.lt_succ_of_lt (hM b hb), fun q => ?_⟩
    rcases List.mem_cons.mp q with q | q
    · exact absurd (hM b hb) (q ▸ Nat.lt_irrefl _)
    · exact hax (List.mem_singleton.mp q ▸ hb)
  · intro i v C m' s Q hP hst hC hn hk hQ
    have hC' : s₁.heap.objs.size + 1 < C := by rw [← hs2]; exact hC
    exact hbind v C m' s _ _ _ Q (Array.mem_of_getElem? hP) (Nat.lt_of_succ_lt hC') hn (down hk) hst.1 hQ
  · exact fun i ys s h' tk j k => hJ i ys s h' tk j fun b o hb e => k b o (by show b < (s₁.heap.push _).objs.size; rw [hs2]; exact Nat.lt_succ_of_lt hb) (Nat.ne_of_lt hb) e
  · exact hJ 0 [] s₁ _ s₁.toks h0 fun b o _ e => up b o e
  · intro i ys v C m₂ s hP hi hy hj hC hn hb hk
    have hC' : s₁.heap.objs.size + 1 < C := by rw [← hs2]; exact hC
    exact turn i ys v C m₂ s hP hy hj (Nat.lt_of_succ_lt hC') hn hb (down hk)
  · intro D C m' ys s hj hn hD hC hDC hg hk
    have hC' : s₁.heap.objs.size + 1 < C := by rw [← hs2]; exact hC
    have hD' : s₁.heap.objs.size + 1 ≤ D := by rw [← hs2]; exact hD
    exact hRR D C m' ys s hj hn hD' (Nat.lt_of_succ_lt hC') hDC hg (down hk)
theorem bind_name {x : Str} {px : Pos} {scope : Scope} {cl : List (Str × Addr)} {v : Value} {C : Addr} {m' : Str → Option Value} {s : Shared} {it : Value} {Q : Unit → Shared → Prop}
    (hkind : scope.kind = .function) (hx : scope.names.lookup x = some .local) (hn : s.heap.Ns C m')
    (hQ : ∀ h' tk m'', Kp [C] s.heap h' → h'.Ns C m'' → m'' x = some v → Q () { s with heap := h', toks := tk }) :
    wpAny (model prog w) A (letOwnedTupleGo (.Name x px) it v) (fun _ s₁ => wpAny (model prog w) A (assign (.Name x px) (compEnvC scope cl C env) v) Q NoE s₁) NoE s := by
  refine wpAny_of_eq (rfl : letOwnedTupleGo (.Name x px) it v = pure ()) ?_
  refine wpAny_assign_Name (wpAny_storeName_local (lookup_relabel_local hx) hn (fun h₂ hn₂ hs₂ => ?_) (by simp [compEnvC, relabel, hkind]))
  exact hQ h₂ _ _ (fun b o hb e => hs₂.extBut b o (fun q => hb (List.mem_singleton.mpr q)) e) hn₂ (by simp)
theorem bind_pair {x x₂ : Str} {px px₂ tp : Pos} {tk : Nat} {scope : Scope} {cl : List (Str × Addr)} {t : Addr} {v₁ v₂ : Value} {C I l : Addr} {j : Nat} {m' : Str → Option Value} {s : Shared} {Q : Unit → Shared → Prop}
    (hh : A.handled = none) (hkind : scope.kind = .function) (hx : scope.names.lookup x = some .local) (hx₂ : scope.names.lookup x₂ = some .local) (hxx : x ≠ x₂) (hn : s.heap.Ns C m')
    (hLi : s.heap.IsListIter I l j) (ht : IsTup s.heap t #[v₁, v₂])
    (hQ : ∀ h' tk m'', Kp [C] s.heap h' → h'.Ns C m'' → m'' x = some v₁ ∧ m'' x₂ = some v₂ → Q () { s with heap := h', toks := tk }) :
    wpAny (model prog w) A (letOwnedTupleGo (.Tuple [.Name x px, .Name x₂ px₂] tk tp) (.ref I) (.ref t)) (fun _ s₁ => wpAny (model prog w) A (assign (.Tuple [.Name x px, .Name x₂ px₂] tk tp) (compEnvC scope cl C env) (.ref t)) Q NoE s₁) NoE s := by
  refine wpAny_letOwnedTupleGo_listiter hLi ?_
  refine assign_Tuple_tuple hh ht rfl rfl fun h₅ he => ?_
  have he' : ∀ b o, s.heap.get? b = some o → h₅.get? b = some o := fun b o e => he b o (Nat.ne_of_lt (Heap.lt_size e)) e
  refine assignInOrder_cons (wpAny_assign_Name (wpAny_storeName_local (lookup_relabel_local hx) (hn.at' fun o e => he' _ o e) (fun h₆ hn₆ hs₆ => ?_) (by simp [compEnvC, relabel, hkind])))
  refine assignInOrder_cons (wpAny_assign_Name (wpAny_storeName_local (lookup_relabel_local hx₂) hn₆ (fun h₃ hn₃ hs₃ => ?_) (by simp [compEnvC, relabel, hkind])))
  refine assignInOrder_nil ?_
  exact hQ h₃ _ _ (fun b o hb e => hs₃.extBut b o (fun q => hb (List.mem_singleton.mpr q)) (hs₆.extBut b o (fun q => hb (List.mem_singleton.mpr q)) (he' b o e))) hn₃ ⟨by simp [hxx], by simp⟩
/-- [elt for x in l if ..] over a list that stands -/
theorem lc_name {elt iter : Expr} {x : Str} {px : Pos} {ifs : List Expr} {scope : Scope} {cl : List (Str × Addr)} {pos : Pos} {ax : Addr} {its : Array Value} {M : List Addr} {Q : Value → Shared → Prop}
    (J : Nat → List Value → Shared → Prop)
    (hcell : ∀ y ∈ scope.names, y.2 ≠ .cell) (hkind : scope.kind = .function) (hx : scope.names.lookup x = some .local) (hh : A.handled = none)
    (hl : s₁.heap.IsList ax its) (hax : ax ∉ M) (hM : ∀ b ∈ M, b < s₁.heap.objs.size) (hsz : its.size ≤ sizeLine)
    (hJ : ∀ i ys s h' tk, J i ys s → (∀ b o, b < s₁.heap.objs.size → s.heap.get? b = some o → h'.get? b = some o) → J i ys { s with heap := h', toks := tk })
    (h0 : J 0 [] s₁)
    (turn : ∀ i ys v C m₂ s, its[i]? = some v → ys.length ≤ i → J i ys s → s₁.heap.objs.size < C → s.heap.Ns C m₂ → m₂ x = some v → Kp M s₁.heap s.heap →
      wpAny (model prog w) A (testsOf ifs (compEnvC scope cl C env)) (fun ok s' => if ok = true then
          wpAny (model prog w) A (eval elt (compEnvC scope cl C env)) (fun y s'' => Kp M s.heap s''.heap ∧ J (i + 1) (ys ++ [y]) s'') NoE s'
        else Kp M s.heap s'.heap ∧ J (i + 1) ys s') NoE s)
    (fin : ∀ D ys s, J its.size ys s → s₁.heap.objs.size < D → s.heap.get? D = some (lst ys) → Kp M s₁.heap s.heap → Q (.ref D) s) :
    wpAny (model prog w) A (pyIter (.ref ax)) (fun it s₂ => wpAny (model prog w) A (newList []) (fun acc s₃ => wpAny (model prog w) A (newFunctionEnv scope env.globals cl [] env.qual none .none (some env)) (fun cenv s₄ =>
      codeAny (model prog w) A (.compStart (.ListComp elt [⟨.Name x px, iter, ifs, 0⟩] scope pos) 0 it acc { cenv with scope := relabel scope env }) (compPost (model prog w) A E none Q acc cenv.locals) s₄) E s₃) E s₂) E s₁ := by
  refine lc_list (RR := fun acc C => compPost (model prog w) A E none Q acc C) J (fun v m => m x = some v) hcell hkind hh hl hax hM hsz (fun v C m' s I l j Q _ _ hn _ _ hQ => bind_name hkind hx hn hQ) hJ h0 turn ?_
  intro D C m' ys s hj hn hD hC hDC hg hk
  refine ⟨m', hn, fun h' hs' => ?_⟩
  exact fin D ys _ (hJ _ _ s h' s.toks hj fun b o hb e => hs'.extBut b o (Nat.ne_of_lt (Nat.lt_trans hb hC)) e) hD (hs'.extBut _ _ hDC hg) fun b o hb e => hs'.extBut b o (Nat.ne_of_lt (Nat.lt_trans (Heap.lt_size e) hC)) (hk b o hb e)
theorem lc_pair {elt iter : Expr} {x x₂ : Str} {px px₂ tp : Pos} {tk : Nat} {ifs : List Expr} {scope : Scope} {cl : List (Str × Addr)} {pos : Pos} {ax : Addr} {its : Array Value} {M : List Addr} {Q : Value → Shared → Prop}
    (J : Nat → List Value → Shared → Prop)
    (hcell : ∀ y ∈ scope.names, y.2 ≠ .cell) (hkind : scope.kind = .function) (hx : scope.names.lookup x = some .local) (hx₂ : scope.names.lookup x₂ = some .local) (hxx : x ≠ x₂) (hh : A.handled = none)
    (hl : s₁.heap.IsList ax its) (hax : ax ∉ M) (hM : ∀ b ∈ M, b < s₁.heap.objs.size) (hsz : its.size ≤ sizeLine)
    (hT : ∀ v ∈ its, ∃ t v₁ v₂, v = .ref t ∧ IsTup s₁.heap t #[v₁, v₂] ∧ t ∉ M)
    (hJ : ∀ i ys s h' tk, J i ys s → (∀ b o, b < s₁.heap.objs.size → s.heap.get? b = some o → h'.get? b = some o) → J i ys { s with heap := h', toks := tk })
    (h0 : J 0 [] s₁)
    (turn : ∀ i ys t v₁ v₂ C m₂ s, its[i]? = some (.ref t) → IsTup s₁.heap t #[v₁, v₂] → ys.length ≤ i → J i ys s → s₁.heap.objs.size < C → s.heap.Ns C m₂ → m₂ x = some v₁ → m₂ x₂ = some v₂ → Kp M s₁.heap s.heap →
      wpAny (model prog w) A (testsOf ifs (compEnvC scope cl C env)) (fun ok s' => if ok = true then
          wpAny (model prog w) A (eval elt (compEnvC scope cl C env)) (fun y s'' => Kp M s.heap s''.heap ∧ J (i + 1) (ys ++ [y]) s'') NoE s'
        else Kp M s.heap s'.heap ∧ J (i + 1) ys s') NoE s)
    (fin : ∀ D ys s, J its.size ys s → s₁.heap.objs.size < D → s.heap.get? D = some (lst ys) → Kp M s₁.heap s.heap → Q (.ref D) s) :
    wpAny (model prog w) A (pyIter (.ref ax)) (fun it s₂ => wpAny (model prog w) A (newList []) (fun acc s₃ => wpAny (model prog w) A (newFunctionEnv scope env.globals cl [] env.qual none .none (some env)) (fun cenv s₄ =>
      codeAny (model prog w) A (.compStart (.ListComp elt [⟨.Tuple [.Name x px, .Name x₂ px₂] tk tp, iter, ifs, 0⟩] scope pos) 0 it acc { cenv with scope := relabel scope env }) (compPost (model prog w) A E none Q acc cenv.locals) s₄) E s₃) E s₂) E s₁ := by
  have tupUp : ∀ {t : Addr} {a : Array Value} {h : Heap}, t ∉ M → IsTup s₁.heap t a → Kp M s₁.heap h → IsTup h t a := fun ht x k => by
    obtain ⟨o, ho, r⟩ := x; exact ⟨o, k _ _ ht ho, r⟩
  refine lc_list (RR := fun acc C => compPost (model prog w) A E none Q acc C) J (fun v m => ∃ t v₁ v₂, v = .ref t ∧ IsTup s₁.heap t #[v₁, v₂] ∧ m x = some v₁ ∧ m x₂ = some v₂) hcell hkind hh hl hax hM hsz (fun v C m' s I l j Q hv _ hn hk hI hQ => ?_) hJ h0 ?_ ?_
  · obtain ⟨t, v₁, v₂, rfl, ht, htM⟩ := hT v hv
    exact bind_pair hh hkind hx hx₂ hxx hn hI (tupUp htM ht hk) fun h' tk m'' k n b => hQ h' tk m'' k n ⟨t, v₁, v₂, rfl, ht, b.1, b.2⟩
  · rintro i ys v C m₂ s hv hy hj hC hn ⟨t, v₁, v₂, rfl, ht, b1, b2⟩ hk
    exact turn i ys t v₁ v₂ C m₂ s hv ht hy hj hC hn b1 b2 hk
  intro D C m' ys s hj hn hD hC hDC hg hk
  refine ⟨m', hn, fun h' hs' => ?_⟩
  exact fin D ys _ (hJ _ _ s h' s.toks hj fun b o hb e => hs'.extBut b o (Nat.ne_of_lt (Nat.lt_trans hb hC)) e) hD (hs'.extBut _ _ hDC hg) fun b o hb e => hs'.extBut b o (Nat.ne_of_lt (Nat.lt_trans (Heap.lt_size e) hC)) (hk b o hb e)
/-- y = [elt for x in l if ..] -/
theorem lc_nameA {elt iter : Expr} {x y : Str} {px py : Pos} {ifs : List Expr} {scope : Scope} {cl : List (Str × Addr)} {pos : Pos} {ax : Addr} {its : Array Value} {M : List Addr} {m : Str → Option Value} {Q : Value → Shared → Prop}
    (J : Nat → List Value → Shared → Prop)
    (hcell : ∀ y ∈ scope.names, y.2 ≠ .cell) (hkind : scope.kind = .function) (hx : scope.names.lookup x = some .local) (hh : A.handled = none)
    (hy : env.kindOf y = some .local) (hp : (env.scope.kind == .class || (env.scope.kind == .module && env.locals != env.globals)) = false)
    (hl : s₁.heap.IsList ax its) (hax : ax ∉ M) (hM : ∀ b ∈ M, b < s₁.heap.objs.size) (hsz : its.size ≤ sizeLine) (hL : s₁.heap.Ns env.locals m) (hLM : env.locals ∉ M)
    (hJ : ∀ i ys s h' tk, J i ys s → (∀ b o, b < s₁.heap.objs.size → s.heap.get? b = some o → h'.get? b = some o) → J i ys { s with heap := h', toks := tk })
    (h0 : J 0 [] s₁)
    (turn : ∀ i ys v C m₂ s, its[i]? = some v → ys.length ≤ i → J i ys s → s₁.heap.objs.size < C → s.heap.Ns C m₂ → m₂ x = some v → Kp M s₁.heap s.heap →
      wpAny (model prog w) A (testsOf ifs (compEnvC scope cl C env)) (fun ok s' => if ok = true then
          wpAny (model prog w) A (eval elt (compEnvC scope cl C env)) (fun y s'' => Kp M s.heap s''.heap ∧ J (i + 1) (ys ++ [y]) s'') NoE s'
        else Kp M s.heap s'.heap ∧ J (i + 1) ys s') NoE s)
    (fin : ∀ D ys s h' tk, J its.size ys s → s₁.heap.objs.size < D → h'.get? D = some (lst ys) → Kp M s₁.heap s.heap → (∀ b o, b < s₁.heap.objs.size → b ≠ env.locals → s.heap.get? b = some o → h'.get? b = some o) → h'.Ns env.locals (upd m y (.ref D)) → Q .none { s with heap := h', toks := tk }) :
    wpAny (model prog w) A (pyIter (.ref ax)) (fun it s₂ => wpAny (model prog w) A (newList []) (fun acc s₃ => wpAny (model prog w) A (newFunctionEnv scope env.globals cl [] env.qual none .none (some env)) (fun cenv s₄ =>
      codeAny (model prog w) A (.compStart (.ListComp elt [⟨.Name x px, iter, ifs, 0⟩] scope pos) 0 it acc { cenv with scope := relabel scope env }) (compPost (model prog w) A E (some (assign (.Name y py) env)) Q acc cenv.locals) s₄) E s₃) E s₂) E s₁ := by
  refine lc_list (RR := fun acc C => compPost (model prog w) A E (some (assign (.Name y py) env)) Q acc C) J (fun v m => m x = some v) hcell hkind hh hl hax hM hsz (fun v C m' s I l j Q _ _ hn _ _ hQ => bind_name hkind hx hn hQ) hJ h0 turn ?_
  intro D C m' ys s hj hn hD hC hDC hg hk
  have hLlt : env.locals < s₁.heap.objs.size := hL.lt
  show wpAny _ A (assign (.Name y py) env (.ref D)) _ _ _
  refine wpAny_assign_Name (wpAny_storeName_local hy (hL.at' fun o e => hk _ o hLM e) (fun h₂ hn₂ hs₂ => ?_) hp)
  refine ⟨m', hn.sameBut hs₂ (Ne.symm (Nat.ne_of_lt (Nat.lt_trans hLlt hC))), fun h'' hs'' => ?_⟩
  refine fin D ys s h'' _ hj hD (hs''.extBut _ _ hDC (hs₂.extBut _ _ (Ne.symm (Nat.ne_of_lt (Nat.lt_trans hLlt hD))) hg)) hk (fun b o hb hbL e => hs''.extBut _ _ (Nat.ne_of_lt (Nat.lt_trans hb hC)) (hs₂.extBut _ _ hbL e)) (hn₂.at' fun o e => hs''.extBut _ _ (Nat.ne_of_lt (Nat.lt_trans hLlt hC)) e)
/-- [elt for x in range(n)] -/
theorem lc_range {elt iter : Expr} {x : Str} {px : Pos} {ifs : List Expr} {scope : Scope} {cl : List (Str × Addr)} {pos : Pos} {r : Addr} {a b : Int} {t u v : Tok} {n : Nat} {M : List Addr} {Q : Value → Shared → Prop}
    (J : Nat → List Value → Shared → Prop)
    (hcell : ∀ y ∈ scope.names, y.2 ≠ .cell) (hkind : scope.kind = .function) (hx : scope.names.lookup x = some .local) (hh : A.handled = none)
    (hr : IsRange s₁.heap r a b 1 t u v) (hsm : Builtin.Range.small a b 1 = true) (hn : Builtin.Range.rangeSize a b 1 = ((n : Nat) : Int)) (hM : ∀ b ∈ M, b < s₁.heap.objs.size) (hsz : n ≤ sizeLine)
    (hJ : ∀ i ys s h' tk, J i ys s → (∀ b o, b < s₁.heap.objs.size → s.heap.get? b = some o → h'.get? b = some o) → J i ys { s with heap := h', toks := tk })
    (h0 : J 0 [] s₁)
    (turn : ∀ i ys t C m₂ s, i < n → ys.length ≤ i → J i ys s → s₁.heap.objs.size < C → s.heap.Ns C m₂ → m₂ x = some (.int (a + (i : Int)) t) → Kp M s₁.heap s.heap →
      wpAny (model prog w) A (testsOf ifs (compEnvC scope cl C env)) (fun ok s' => if ok = true then
          wpAny (model prog w) A (eval elt (compEnvC scope cl C env)) (fun y s'' => Kp M s.heap s''.heap ∧ J (i + 1) (ys ++ [y]) s'') NoE s'
        else Kp M s.heap s'.heap ∧ J (i + 1) ys s') NoE s)
    (fin : ∀ D ys s, J n ys s → s₁.heap.objs.size < D → s.heap.get? D = some (lst ys) → Kp M s₁.heap s.heap → Q (.ref D) s) :
    wpAny (model prog w) A (pyIter (.ref r)) (fun it s₂ => wpAny (model prog w) A (newList []) (fun acc s₃ => wpAny (model prog w) A (newFunctionEnv scope env.globals cl [] env.qual none .none (some env)) (fun cenv s₄ =>
      codeAny (model prog w) A (.compStart (.ListComp elt [⟨.Name x px, iter, ifs, 0⟩] scope pos) 0 it acc { cenv with scope := relabel scope env }) (compPost (model prog w) A E none Q acc cenv.locals) s₄) E s₃) E s₂) E s₁ := by
  refine wpAny_pyIter_range hr hsm ?_
  generalize hH : s₁.heap.push _ = H
  revert H
  refine barrier ?_
  intro H hH
  have up : ∀ b o, s₁.heap.get? b = some o → H.get? b = some o := fun b o e => hH ▸ Heap.get?_push_of_some _ e
  have hs2 : H.objs.size = s₁.heap.objs.size + 1 := hH ▸ Heap.size_push ..
  have down : ∀ {h : Heap}, Kp (s₁.heap.objs.size :: M) H h → Kp M s₁.heap h := fun k b o hb e =>
    k b o (fun q => by rcases List.mem_cons.mp q with q | q; exact absurd (Heap.lt_size e) (q ▸ Nat.lt_irrefl _); exact hb q) (up b o e)
  refine lc_core (M := M) (RR := fun acc C => compPost (model prog w) A E none Q acc C) J (fun v m => m x = some v) (LCg.range_walks hh a n) hsz hcell hkind (by show IsRangeIter H _ _ _ _; subst hH; rw [hn]; simpa using Heap.get?_push_size _ rfl) ?_ ?_ ?_ ?_ ?_ ?_ ?_
  · intro b hb
    rw [List.mem_singleton.mp hb]
    show s₁.heap.objs.size < H.objs.size
    rw [hs2]; exact Nat.lt_succ_self _
  · intro b hb
    exact ⟨by show b < H.objs.size; rw [hs2]; exact Nat.lt_succ_of_lt (hM b hb), fun q => absurd (hM b hb) ((List.mem_singleton.mp q) ▸ Nat.lt_irrefl _)⟩
  · intro i v C m' s Q hP hst hC hn hk hQ
    exact bind_name hkind hx hn hQ
  · exact fun i ys s h' tk j k => hJ i ys s h' tk j fun b o hb e => k b o (by show b < H.objs.size; rw [hs2]; exact Nat.lt_succ_of_lt hb) (Nat.ne_of_lt hb) e
  · exact hJ 0 [] s₁ _ s₁.toks h0 fun b o _ e => up b o e
  · intro i ys v C m₂ s hP hi hy hj hC hn hb hk
    obtain ⟨t, rfl⟩ := hP
    have hC' : s₁.heap.objs.size + 1 < C := by rw [← hs2]; exact hC
    exact turn i ys t C m₂ s hi hy hj (Nat.lt_of_succ_lt hC') hn hb (down hk)
  · intro D C m' ys s hj hn hD hC hDC hg hk
    have hC' : s₁.heap.objs.size + 1 < C := by rw [← hs2]; exact hC
    have hD' : s₁.heap.objs.size + 1 ≤ D := by rw [← hs2]; exact hD
    refine ⟨m', hn, fun h' hs' => ?_⟩
    exact fin D ys _ (hJ _ _ s h' s.toks hj fun b o hb e => hs'.extBut b o (Nat.ne_of_lt (Nat.lt_trans hb (Nat.lt_of_succ_lt hC'))) e) hD' (hs'.extBut _ _ hDC hg) fun b o hb e => hs'.extBut b o (Nat.ne_of_lt (Nat.lt_trans (Heap.lt_size e) (Nat.lt_of_succ_lt hC'))) (down hk b o hb e)
/-- what is left of a comprehension when its source is evaluated -/
noncomputable def CompAt (prog : Program) (w : World) (A : Around) (env : Env) (elt target iter : Expr) (ifs : List Expr) (scope : Scope) (cl : List (Str × Addr)) (pos : Pos) (use : Option (Value → Sem Unit)) (Q E : Value → Shared → Prop) (xv : Value) (s₁ : Shared) : Prop :=
  wpAny (model prog w) A (pyIter xv) (fun it s₂ => wpAny (model prog w) A (newList []) (fun acc s₃ => wpAny (model prog w) A (newFunctionEnv scope env.globals cl [] env.qual none .none (some env)) (fun cenv s₄ =>
      codeAny (model prog w) A (.compStart (.ListComp elt [⟨target, iter, ifs, 0⟩] scope pos) 0 it acc { cenv with scope := relabel scope env }) (compPost (model prog w) A E use Q acc cenv.locals) s₄) E s₃) E s₂) E s₁
theorem lc_eval {elt target iter : Expr} {ifs : List Expr} {scope : Scope} {cl : List (Str × Addr)} {pos : Pos} {Q : Value → Shared → Prop} {s : Shared}
    (hclos : closureFor scope env = pure cl) (hkind : scope.kind = .function) (hnames : ∀ x ∈ scope.names, x.2 = .local → scope.names.lookup x.1 = some .local)
    (h : wpAny (model prog w) A (eval iter env) (fun x s₁ => CompAt prog w A env elt target iter ifs scope cl pos none Q E x s₁) E s)
    (hs : ∀ x, foldedSetIterable iter env x = pure x := by intro _; rfl) :
    wpAny (model prog w) A (eval (.ListComp elt [⟨target, iter, ifs, 0⟩] scope pos) env) Q E s := by
  rw [eval_ListComp]
  exact wpAny_comprehension_free (use := none) rfl hs hclos hkind hnames h
theorem lc_assign {elt target iter : Expr} {ifs : List Expr} {y : Str} {py spos : Pos} {scope : Scope} {cl : List (Str × Addr)} {pos : Pos} {Q : Flow → Shared → Prop} {s : Shared}
    (hsw : swapsWith (.ListComp elt [⟨target, iter, ifs, 0⟩] scope pos) (some (.Name y py)) spos.line env = pure true)
    (hclos : closureFor scope env = pure cl) (hkind : scope.kind = .function) (hnames : ∀ x ∈ scope.names, x.2 = .local → scope.names.lookup x.1 = some .local)
    (h : wpAny (model prog w) A (eval iter env) (fun x s₁ => CompAt prog w A env elt target iter ifs scope cl pos (some (assign (.Name y py) env)) (fun _ s' => Q .next s') E x s₁) E s)
    (hs : ∀ x, foldedSetIterable iter env x = pure x := by intro _; rfl) :
    wpAny (model prog w) A (exec (.Assign [.Name y py] (.ListComp elt [⟨target, iter, ifs, 0⟩] scope pos) spos) env) Q E s := by
  rw [exec_Assign_Name_used _ _ _ _ hsw]
  refine wpAny_bind (wpAny_standAt (wpAny_bind ?_))
  show wpAny _ A (do let _ ← comprehension (.ListComp elt [⟨target, iter, ifs, 0⟩] scope pos) scope env _ (newList []) false (eval iter env) (some (assign (.Name y py) env))) _ _ s
  exact wpAny_bind (wpAny_mono (wpAny_comprehension_free (use := some (assign (.Name y py) env)) (Q := fun _ s' => Q .next s') rfl hs hclos hkind hnames h) (fun _ s' hq => wpAny_pure (wpAny_pure hq)) fun _ _ e => e)
end
end Mine
end
section
open PySem PySem.W PySem.Calls PyProof.Rows
set_option maxRecDepth 100000
set_option maxHeartbeats 4000000
namespace Mine
section
variable {prog : Program} {w : World} {A : Around} {E : Value → Shared → Prop} {env : Env} {s₁ : Shared} {Q : Flow → Shared → Prop}
noncomputable def Turn (I : Nat → Shared → Prop) (n : Nat) (s : Shared) : Prop := ∃ m, m < n ∧ I m s
theorem Turn.intro {I : Nat → Shared → Prop} {n m : Nat} {s : Shared} (h : m < n) (i : I m s) : Turn I n s := ⟨m, h, i⟩
theorem while_rule {test : Expr} {body : List Stmt} {pos : Pos} (I : Nat → Shared → Prop) (n : Nat) (h : I n s₁)
    (turn : ∀ n s, I n s → wpAny (model prog w) A (isTrue test env (eval test env)) (fun b s₂ =>
        if b then wpAny (model prog w) A (execs body env) (fun f s₃ => match f with
            | .next | .cont => Turn I n s₃
            | .brk => Q .next s₃
            | .ret v => Q (.ret v) s₃) NoE s₂
        else Q .next s₂) NoE s) :
    wpAny (model prog w) A (exec (.While test body [] pos) env) Q E s₁ := by
  refine wpAny_While (codeAny_whileLoop I (fun n s hI => ?_) n h)
  refine wpAny_mono (turn n s hI) (fun b s₂ h₂ => ?_) fun _ _ x => x.elim
  cases b with
  | true =>
    simp only [if_true] at h₂ ⊢
    refine wpAny_mono h₂ (fun f s₃ h₃ => ?_) fun _ _ x => x.elim
    cases f with
    | next => exact h₃
    | cont => exact h₃
    | brk => exact h₃
    | ret v => exact h₃
  | false =>
    simp only [Bool.false_eq_true, if_false] at h₂ ⊢
    exact wpAny_execs_nil h₂
theorem for_core {target : Expr} {body : List Stmt} {s₂ : Shared} {I : Addr} {fp : List Addr} {n : Nat} {P : Nat → Value → Prop} {St : Nat → Heap → Prop} {M : List Addr} {m₀ : Str → Option Value} {R : Result → Shared → Prop}
    (J : Nat → (Str → Option Value) → Shared → Prop) (Bd : (Str → Option Value) → Value → (Str → Option Value) → Prop)
    (W : Walks prog w A I fp [I] n P St) (hst : St 0 s₂.heap) (hfp : ∀ b ∈ fp, b ∉ M ∧ b ≠ env.locals)
    (hbind : ∀ i v m s (Q : Unit → Shared → Prop), P i v → St (i + 1) s.heap → s.heap.Ns env.locals m → Kp (I :: env.locals :: M) s₂.heap s.heap →
      (∀ h' tk m'', Kp [env.locals] s.heap h' → h'.Ns env.locals m'' → Bd m v m'' → Q () { s with heap := h', toks := tk }) →
      wpAny (model prog w) A (letOwnedTupleGo target (.ref I) v) (fun _ s₁ => wpAny (model prog w) A (assign target env v) Q NoE s₁) NoE s)
    (hJ : ∀ i m s h' tk, J i m s → (∀ b o, b ≠ I → b ≠ env.locals → s.heap.get? b = some o → h'.get? b = some o) → J i m { s with heap := h', toks := tk })
    (hL : s₂.heap.Ns env.locals m₀) (h0 : J 0 m₀ s₂)
    (turn : ∀ i m v m₂ s, P i v → i < n → J i m s → s.heap.Ns env.locals m₂ → Bd m v m₂ → Kp (I :: env.locals :: M) s₂.heap s.heap →
      wpAny (model prog w) A (execs body env) (fun f s' => match f with
        | .next | .cont => ∃ m', s'.heap.Ns env.locals m' ∧ Kp (env.locals :: M) s.heap s'.heap ∧ J (i + 1) m' s'
        | .brk => R (.ok .next) s'
        | .ret v => R (.ok (.ret v)) s') NoE s)
    (done : ∀ m s, J n m s → s.heap.Ns env.locals m → Kp (I :: env.locals :: M) s₂.heap s.heap → R (.ok .next) s) :
    codeAny (model prog w) A (.forLoop target (.ref I) body [] env) R s₂ := by
  have hIf : I ∈ fp := W.sub I (List.mem_singleton.mpr rfl)
  have hIL : I ≠ env.locals := (hfp I hIf).2
  refine codeAny_forLoop_any
    (fun k s' => ∃ i m', i ≤ n ∧ k = n + 1 - i ∧ St i s'.heap ∧ s'.heap.Ns env.locals m' ∧ Kp (I :: env.locals :: M) s₂.heap s'.heap ∧ J i m' s') ?_ (n + 1)
    ⟨0, m₀, Nat.zero_le _, rfl, hst, hL, Kp.refl, h0⟩
  rintro k s' ⟨i, m', hi, rfl, hst', hn', hK', J'⟩
  by_cases hlt : i < n
  · refine W.item i _ _ _ hlt hst' fun v h₂ tk₂ hPv hst₂ hk₂ => ?_
    have hK₂ : Kp (I :: env.locals :: M) s₂.heap h₂ := fun b o hb e => hk₂ b o (fun q => hb (by rw [List.mem_singleton.mp q]; exact List.mem_cons_self)) (hK' b o hb e)
    have hn₂ : h₂.Ns env.locals m' := hn'.at' fun o e => hk₂ _ o (by simpa using Ne.symm hIL) e
    refine wpAny_mono (hbind i v m' { s' with heap := h₂, toks := tk₂ } (fun _ s₄ => wpAny (model prog w) A (execs body env) (fun f s' => match f with
        | .next | .cont => ∃ m, m < n + 1 - i ∧ ∃ i m', i ≤ n ∧ m = n + 1 - i ∧ St i s'.heap ∧ s'.heap.Ns env.locals m' ∧ Kp (I :: env.locals :: M) s₂.heap s'.heap ∧ J i m' s'
        | .brk => R (.ok .next) s'
        | .ret v => R (.ok (.ret v)) s') NoE s₄) hPv hst₂ hn₂ hK₂ fun h₃ tk₃ m₃ hk₃ hn₃ hb₃ => ?_) (fun _ s₄ h₄ => ?_) fun _ _ x => x.elim
    · have hK₃ : Kp (I :: env.locals :: M) s₂.heap h₃ := fun b o hb e => hk₃ b o (by intro q; exact hb (List.mem_cons_of_mem _ (by rw [List.mem_singleton.mp q]; exact List.mem_cons_self))) (hK₂ b o hb e)
      have hst₃ : St (i + 1) h₃ := W.frame _ _ _ hst₂ fun b hb o e => hk₃ b o (by simpa using (hfp b hb).2) e
      have J₃ : J i m' { s' with heap := h₃, toks := tk₃ } := hJ i m' s' h₃ tk₃ J' fun b o hbI hbL e => hk₃ b o (by simpa using hbL) (hk₂ b o (by simpa using hbI) e)
      refine wpAny_mono (turn i m' v m₃ _ hPv hlt J₃ hn₃ hb₃ hK₃) (fun f s₅ h₅ => ?_) fun _ _ e => e
      have fin : (∃ m', s₅.heap.Ns env.locals m' ∧ Kp (env.locals :: M) h₃ s₅.heap ∧ J (i + 1) m' s₅) → ∃ m, m < n + 1 - i ∧ ∃ i m', i ≤ n ∧ m = n + 1 - i ∧ St i s₅.heap ∧ s₅.heap.Ns env.locals m' ∧ Kp (I :: env.locals :: M) s₂.heap s₅.heap ∧ J i m' s₅ := by
        rintro ⟨m₅, hn₅, hk₅, J₅⟩
        refine ⟨n + 1 - (i + 1), by omega, i + 1, m₅, hlt, rfl, W.frame _ _ _ hst₃ fun b hb o e => hk₅ b o (fun q => ?_) e, hn₅, fun b o hb e => hk₅ b o (fun q => hb (List.mem_cons_of_mem _ q)) (hK₃ b o hb e), J₅⟩
        rcases List.mem_cons.mp q with q | q
        · exact (hfp b hb).2 q
        · exact (hfp b hb).1 q
      cases f with
      | next => exact fin h₅
      | cont => exact fin h₅
      | brk => exact h₅
      | ret v => exact h₅
    · refine wpAny_mono h₄ (fun _ s₅ h₅ => ?_) fun _ _ x => x.elim
      refine wpAny_mono h₅ (fun f s₆ h₆ => ?_) fun _ _ x => x.elim
      cases f with
      | next => exact h₆
      | cont => exact h₆
      | brk => exact h₆
      | ret v => exact h₆
  · obtain rfl : i = n := Nat.le_antisymm hi (Nat.not_lt.mp hlt)
    refine W.done _ _ _ hst' fun h₂ tk₂ hk₂ => wpAny_execs_nil ?_
    refine done m' _ (hJ _ _ s' h₂ tk₂ J' fun b o hbI _ e => hk₂ b o (by simpa using hbI) e) (hn'.at' fun o e => hk₂ _ o (by simpa using Ne.symm hIL) e) ?_
    exact fun b o hb e => hk₂ b o (fun q => hb (by rw [List.mem_singleton.mp q]; exact List.mem_cons_self)) (hK' b o hb e)
theorem for_list {target : Expr} {body : List Stmt} {ax : Addr} {its : Array Value} {M : List Addr} {m₀ : Str → Option Value} {R : Result → Shared → Prop}
    (J : Nat → (Str → Option Value) → Shared → Prop) (Bd : (Str → Option Value) → Value → (Str → Option Value) → Prop)
    (hh : A.handled = none) (hl : s₁.heap.IsList ax its) (hax : ax ∉ M) (haL : ax ≠ env.locals) (hM : ∀ b ∈ M, b < s₁.heap.objs.size)
    (hbind : ∀ v m s I l j (Q : Unit → Shared → Prop), v ∈ its → s.heap.Ns env.locals m → Kp (env.locals :: M) s₁.heap s.heap → s.heap.IsListIter I l j →
      (∀ h' tk m'', Kp [env.locals] s.heap h' → h'.Ns env.locals m'' → Bd m v m'' → Q () { s with heap := h', toks := tk }) →
      wpAny (model prog w) A (letOwnedTupleGo target (.ref I) v) (fun _ s₁ => wpAny (model prog w) A (assign target env v) Q NoE s₁) NoE s)
    (hJ : ∀ i m s h' tk, J i m s → (∀ b o, b ≠ s₁.heap.objs.size → b ≠ env.locals → s.heap.get? b = some o → h'.get? b = some o) → J i m { s with heap := h', toks := tk })
    (hL : s₁.heap.Ns env.locals m₀) (h0 : J 0 m₀ s₁)
    (turn : ∀ i m v m₂ s, its[i]? = some v → J i m s → s.heap.Ns env.locals m₂ → Bd m v m₂ → Kp (env.locals :: M) s₁.heap s.heap →
      wpAny (model prog w) A (execs body env) (fun f s' => match f with
        | .next | .cont => ∃ m', s'.heap.Ns env.locals m' ∧ Kp (env.locals :: M) s.heap s'.heap ∧ J (i + 1) m' s'
        | .brk => R (.ok .next) s'
        | .ret v => R (.ok (.ret v)) s') NoE s)
    (done : ∀ m s, J its.size m s → s.heap.Ns env.locals m → Kp (env.locals :: M) s₁.heap s.heap → R (.ok .next) s) :
    wpAny (model prog w) A (pyIter (.ref ax)) (fun it s₂ => codeAny (model prog w) A (.forLoop target it body [] env) R s₂) E s₁ := by
  have hlt : ax < s₁.heap.objs.size := by obtain ⟨_, e, _⟩ := hl; exact Heap.lt_size e
  have hLlt : env.locals < s₁.heap.objs.size := hL.lt
  refine wpAny_pyIter_list hl ?_
  generalize hH : s₁.heap.push _ = H
  revert H
  refine barrier ?_
  intro H hH
  have up : ∀ b o, s₁.heap.get? b = some o → H.get? b = some o := fun b o e => hH ▸ Heap.get?_push_of_some _ e
  have hI : H.get? s₁.heap.objs.size = some { cls := .type "list_iterator", data := .fields #[.ref ax, .int 0 0] } := hH ▸ Heap.get?_push_size _ rfl
  have down : ∀ {h : Heap}, Kp (s₁.heap.objs.size :: env.locals :: M) H h → Kp (env.locals :: M) s₁.heap h := fun k b o hb e =>
    k b o (fun q => by rcases List.mem_cons.mp q with q | q; exact absurd (Heap.lt_size e) (q ▸ Nat.lt_irrefl _); exact hb q) (up b o e)
  refine for_core (M := M) (P := fun i v => its[i]? = some v) (n := its.size) J Bd (Walks.list hh s₁.heap.objs.size ax (Nat.ne_of_lt hlt) its) ⟨⟨_, hI, rfl, rfl⟩, hl.at fun o e => up _ o e⟩ ?_ ?_ ?_ (hL.at' fun o e => up _ o e) (hJ 0 m₀ s₁ H s₁.toks h0 fun b o _ _ e => up b o e) ?_ ?_
  · intro b hb
    rcases List.mem_cons.mp hb with rfl | hb
    · exact ⟨fun q => absurd (hM _ q) (Nat.lt_irrefl _), Ne.symm (Nat.ne_of_lt hLlt)⟩
    · rw [List.mem_singleton.mp hb]; exact ⟨hax, haL⟩
  · intro i v m s Q hP hst hn hk hQ
    exact hbind v m s _ _ _ Q (Array.mem_of_getElem? hP) hn (down hk) hst.1 hQ
  · exact hJ
  · exact fun i m v m₂ s hP _ hj hn hb hk => turn i m v m₂ s hP hj hn hb (down hk)
  · exact fun m s hj hn hk => done m s hj hn (down hk)
theorem fbind_name {x : Str} {px : Pos} {v it : Value} {m : Str → Option Value} {s : Shared} {Q : Unit → Shared → Prop} (hx : env.kindOf x = some .local) (hp : (env.scope.kind == .class || (env.scope.kind == .module && env.locals != env.globals)) = false) (hn : s.heap.Ns env.locals m)
    (hQ : ∀ h' tk m'', Kp [env.locals] s.heap h' → h'.Ns env.locals m'' → m'' = upd m x v → Q () { s with heap := h', toks := tk }) :
    wpAny (model prog w) A (letOwnedTupleGo (.Name x px) it v) (fun _ s₁ => wpAny (model prog w) A (assign (.Name x px) env v) Q NoE s₁) NoE s := by
  refine wpAny_of_eq (rfl : letOwnedTupleGo (.Name x px) it v = pure ()) ?_
  refine wpAny_assign_Name (wpAny_storeName_local hx hn (fun h₂ hn₂ hs₂ => ?_) hp)
  exact hQ h₂ _ _ (fun b o hb e => hs₂.extBut b o (fun q => hb (List.mem_singleton.mpr q)) e) hn₂ rfl
theorem for_name {x : Str} {px : Pos} {body : List Stmt} {ax : Addr} {its : Array Value} {M : List Addr} {m₀ : Str → Option Value} {R : Result → Shared → Prop}
    (J : Nat → (Str → Option Value) → Shared → Prop)
    (hh : A.handled = none) (hx : env.kindOf x = some .local) (hp : (env.scope.kind == .class || (env.scope.kind == .module && env.locals != env.globals)) = false)
    (hl : s₁.heap.IsList ax its) (hax : ax ∉ M) (haL : ax ≠ env.locals) (hM : ∀ b ∈ M, b < s₁.heap.objs.size)
    (hJ : ∀ i m s h' tk, J i m s → (∀ b o, b ≠ s₁.heap.objs.size → b ≠ env.locals → s.heap.get? b = some o → h'.get? b = some o) → J i m { s with heap := h', toks := tk })
    (hL : s₁.heap.Ns env.locals m₀) (h0 : J 0 m₀ s₁)
    (turn : ∀ i m v s, its[i]? = some v → J i m s → s.heap.Ns env.locals (upd m x v) → Kp (env.locals :: M) s₁.heap s.heap →
      wpAny (model prog w) A (execs body env) (fun f s' => match f with
        | .next | .cont => ∃ m', s'.heap.Ns env.locals m' ∧ Kp (env.locals :: M) s.heap s'.heap ∧ J (i + 1) m' s'
        | .brk => R (.ok .next) s'
        | .ret v => R (.ok (.ret v)) s') NoE s)
    (done : ∀ m s, J its.size m s → s.heap.Ns env.locals m → Kp (env.locals :: M) s₁.heap s.heap → R (.ok .next) s) :
    wpAny (model prog w) A (pyIter (.ref ax)) (fun it s₂ => codeAny (model prog w) A (.forLoop (.Name x px) it body [] env) R s₂) E s₁ :=
  for_list J (fun m v m₂ => m₂ = upd m x v) hh hl hax haL hM (fun v m s I l j Q _ hn _ _ hQ => fbind_name hx hp hn hQ) hJ hL h0 (fun i m v m₂ s hv hj hn hb hk => by subst hb; exact turn i m v s hv hj hn hk) done
noncomputable def ForAt (prog : Program) (w : World) (A : Around) (env : Env) (target : Expr) (body : List Stmt) (Q : Flow → Shared → Prop) (E : Value → Shared → Prop) (xv : Value) (s₁ : Shared) : Prop :=
  wpAny (model prog w) A (pyIter xv) (fun it s₂ => codeAny (model prog w) A (.forLoop target it body [] env) (fun r s' => match r with | .ok f => Q f s' | .error e => cameBackBy (model prog w) A env E e s') s₂) E s₁
theorem for_exec {target iter : Expr} {body : List Stmt} {pos : Pos} {s : Shared} (h : wpAny (model prog w) A (eval iter env) (fun x s₁ => ForAt prog w A env target body Q E x s₁) E s)
    (hs : ∀ x, foldedSetIterable iter env x = pure x := by intro _; rfl) : wpAny (model prog w) A (exec (.For target iter body [] pos) env) Q E s := wpAny_For h hs
end
end Mine
end
section
open PySem PySem.W PySem.Calls PyProof.Rows
set_option maxRecDepth 100000
set_option maxHeartbeats 4000000
namespace Mine
section
variable {prog : Program} {w : World} {A : Around} {E : Value → Shared → Prop} {env : Env} {s₁ : Shared} {Q : Flow → Shared → Prop}
theorem for_core2 {target : Expr} {body : List Stmt} {s₂ : Shared} {I : Addr} {fp : List Addr} {n : Nat} {P : Nat → Value → Prop} {St : Nat → Heap → Prop} {M B : List Addr} {m₀ : Str → Option Value} {R : Result → Shared → Prop}
    (J : Nat → (Str → Option Value) → Shared → Prop) (Bd : (Str → Option Value) → Value → (Str → Option Value) → Heap → Prop) (Cv : Heap → Prop)
    (hCv : ∀ h h', Cv h → (∀ b o, b ≠ I → h.get? b = some o → h'.get? b = some o) → Cv h') (hC0 : Cv s₂.heap)
    (W : Walks prog w A I fp [I] n P St) (hst : St 0 s₂.heap) (hfp : ∀ b ∈ fp, b ∉ M ∧ b ≠ env.locals) (hB : ∀ b ∈ B, b ∈ M)
    (hbind : ∀ i v m s (Q : Unit → Shared → Prop), P i v → St (i + 1) s.heap → s.heap.Ns env.locals m → Kp (I :: env.locals :: M) s₂.heap s.heap → Cv s.heap →
      (∀ h' tk m'', Kp (env.locals :: B) s.heap h' → h'.Ns env.locals m'' → Bd m v m'' h' → Q () { s with heap := h', toks := tk }) →
      wpAny (model prog w) A (letOwnedTupleGo target (.ref I) v) (fun _ s₁ => wpAny (model prog w) A (assign target env v) Q NoE s₁) NoE s)
    (hJ : ∀ i m s h' tk, J i m s → (∀ b o, b ≠ I → b ≠ env.locals → b ∉ B → s.heap.get? b = some o → h'.get? b = some o) → J i m { s with heap := h', toks := tk })
    (hL : s₂.heap.Ns env.locals m₀) (h0 : J 0 m₀ s₂)
    (turn : ∀ i m v m₂ s, P i v → i < n → St (i + 1) s.heap → J i m s → s.heap.Ns env.locals m₂ → Bd m v m₂ s.heap → Kp (I :: env.locals :: M) s₂.heap s.heap →
      wpAny (model prog w) A (execs body env) (fun f s' => match f with
        | .next | .cont => ∃ m', s'.heap.Ns env.locals m' ∧ Kp (env.locals :: M) s.heap s'.heap ∧ Cv s'.heap ∧ J (i + 1) m' s'
        | .brk => R (.ok .next) s'
        | .ret v => R (.ok (.ret v)) s') NoE s)
    (done : ∀ m s, J n m s → s.heap.Ns env.locals m → Kp (I :: env.locals :: M) s₂.heap s.heap → R (.ok .next) s) :
    codeAny (model prog w) A (.forLoop target (.ref I) body [] env) R s₂ := by
  have hIf : I ∈ fp := W.sub I (List.mem_singleton.mpr rfl)
  have hIL : I ≠ env.locals := (hfp I hIf).2
  refine codeAny_forLoop_any
    (fun k s' => ∃ i m', i ≤ n ∧ k = n + 1 - i ∧ St i s'.heap ∧ s'.heap.Ns env.locals m' ∧ Kp (I :: env.locals :: M) s₂.heap s'.heap ∧ Cv s'.heap ∧ J i m' s') ?_ (n + 1)
    ⟨0, m₀, Nat.zero_le _, rfl, hst, hL, Kp.refl, hC0, h0⟩
  rintro k s' ⟨i, m', hi, rfl, hst', hn', hK', C', J'⟩
  by_cases hlt : i < n
  · refine W.item i _ _ _ hlt hst' fun v h₂ tk₂ hPv hst₂ hk₂ => ?_
    have hK₂ : Kp (I :: env.locals :: M) s₂.heap h₂ := fun b o hb e => hk₂ b o (fun q => hb (by rw [List.mem_singleton.mp q]; exact List.mem_cons_self)) (hK' b o hb e)
    have hn₂ : h₂.Ns env.locals m' := hn'.at' fun o e => hk₂ _ o (by simpa using Ne.symm hIL) e
    refine wpAny_mono (hbind i v m' { s' with heap := h₂, toks := tk₂ } (fun _ s₄ => wpAny (model prog w) A (execs body env) (fun f s' => match f with
        | .next | .cont => ∃ m, m < n + 1 - i ∧ ∃ i m', i ≤ n ∧ m = n + 1 - i ∧ St i s'.heap ∧ s'.heap.Ns env.locals m' ∧ Kp (I :: env.locals :: M) s₂.heap s'.heap ∧ Cv s'.heap ∧ J i m' s'
        | .brk => R (.ok .next) s'
        | .ret v => R (.ok (.ret v)) s') NoE s₄) hPv hst₂ hn₂ hK₂ (hCv _ _ C' fun b o hb e => hk₂ b o (by simpa using hb) e) fun h₃ tk₃ m₃ hk₃ hn₃ hb₃ => ?_) (fun _ s₄ h₄ => ?_) fun _ _ x => x.elim
    · have hK₃ : Kp (I :: env.locals :: M) s₂.heap h₃ := fun b o hb e => hk₃ b o (fun q => hb (List.mem_cons_of_mem _ ((List.mem_cons.mp q).elim (fun q => by rw [q]; exact List.mem_cons_self) (fun q => List.mem_cons_of_mem _ (hB b q))))) (hK₂ b o hb e)
      have hst₃ : St (i + 1) h₃ := W.frame _ _ _ hst₂ fun b hb o e => hk₃ b o (fun q => (List.mem_cons.mp q).elim (hfp b hb).2 fun q => (hfp b hb).1 (hB b q)) e
      have J₃ : J i m' { s' with heap := h₃, toks := tk₃ } := hJ i m' s' h₃ tk₃ J' fun b o hbI hbL hbB e => hk₃ b o (fun q => (List.mem_cons.mp q).elim hbL hbB) (hk₂ b o (by simpa using hbI) e)
      refine wpAny_mono (turn i m' v m₃ _ hPv hlt hst₃ J₃ hn₃ hb₃ hK₃) (fun f s₅ h₅ => ?_) fun _ _ e => e
      have fin : (∃ m', s₅.heap.Ns env.locals m' ∧ Kp (env.locals :: M) h₃ s₅.heap ∧ Cv s₅.heap ∧ J (i + 1) m' s₅) → ∃ m, m < n + 1 - i ∧ ∃ i m', i ≤ n ∧ m = n + 1 - i ∧ St i s₅.heap ∧ s₅.heap.Ns env.locals m' ∧ Kp (I :: env.locals :: M) s₂.heap s₅.heap ∧ Cv s₅.heap ∧ J i m' s₅ := by
        rintro ⟨m₅, hn₅, hk₅, C₅, J₅⟩
        refine ⟨n + 1 - (i + 1), by omega, i + 1, m₅, hlt, rfl, W.frame _ _ _ hst₃ fun b hb o e => hk₅ b o (fun q => ?_) e, hn₅, fun b o hb e => hk₅ b o (fun q => hb (List.mem_cons_of_mem _ q)) (hK₃ b o hb e), C₅, J₅⟩
        rcases List.mem_cons.mp q with q | q
        · exact (hfp b hb).2 q
        · exact (hfp b hb).1 q
      cases f with
      | next => exact fin h₅
      | cont => exact fin h₅
      | brk => exact h₅
      | ret v => exact h₅
    · refine wpAny_mono h₄ (fun _ s₅ h₅ => ?_) fun _ _ x => x.elim
      refine wpAny_mono h₅ (fun f s₆ h₆ => ?_) fun _ _ x => x.elim
      cases f with
      | next => exact h₆
      | cont => exact h₆
      | brk => exact h₆
      | ret v => exact h₆
  · obtain rfl : i = n := Nat.le_antisymm hi (Nat.not_lt.mp hlt)
    refine W.done _ _ _ hst' fun h₂ tk₂ hk₂ => wpAny_execs_nil ?_
    refine done m' _ (hJ _ _ s' h₂ tk₂ J' fun b o hbI _ _ e => hk₂ b o (by simpa using hbI) e) (hn'.at' fun o e => hk₂ _ o (by simpa using Ne.symm hIL) e) ?_
    exact fun b o hb e => hk₂ b o (fun q => hb (by rw [List.mem_singleton.mp q]; exact List.mem_cons_self)) (hK' b o hb e)
theorem for_list2 {target : Expr} {body : List Stmt} {ax : Addr} {its : Array Value} {M B : List Addr} {m₀ : Str → Option Value} {R : Result → Shared → Prop}
    (J : Nat → (Str → Option Value) → Shared → Prop) (Bd : (Str → Option Value) → Value → (Str → Option Value) → Heap → Prop) (Cv : Heap → Prop)
    (hCv : ∀ h h', Cv h → (∀ b o, b ≠ s₁.heap.objs.size → h.get? b = some o → h'.get? b = some o) → Cv h') (hC0 : Cv s₁.heap)
    (hh : A.handled = none) (hl : s₁.heap.IsList ax its) (hax : ax ∉ M) (haL : ax ≠ env.locals) (hM : ∀ b ∈ M, b < s₁.heap.objs.size) (hB : ∀ b ∈ B, b ∈ M)
    (hbind : ∀ v m s I l j (Q : Unit → Shared → Prop), v ∈ its → s.heap.Ns env.locals m → Kp (env.locals :: M) s₁.heap s.heap → s.heap.IsListIter I l j → Cv s.heap →
      (∀ h' tk m'', Kp (env.locals :: B) s.heap h' → h'.Ns env.locals m'' → Bd m v m'' h' → Q () { s with heap := h', toks := tk }) →
      wpAny (model prog w) A (letOwnedTupleGo target (.ref I) v) (fun _ s₁ => wpAny (model prog w) A (assign target env v) Q NoE s₁) NoE s)
    (hJ : ∀ i m s h' tk, J i m s → (∀ b o, b ≠ s₁.heap.objs.size → b ≠ env.locals → b ∉ B → s.heap.get? b = some o → h'.get? b = some o) → J i m { s with heap := h', toks := tk })
    (hL : s₁.heap.Ns env.locals m₀) (h0 : J 0 m₀ s₁)
    (turn : ∀ i m v m₂ s, its[i]? = some v → (∃ o, s.heap.get? s₁.heap.objs.size = some o) → J i m s → s.heap.Ns env.locals m₂ → Bd m v m₂ s.heap → Kp (env.locals :: M) s₁.heap s.heap →
      wpAny (model prog w) A (execs body env) (fun f s' => match f with
        | .next | .cont => ∃ m', s'.heap.Ns env.locals m' ∧ Kp (env.locals :: M) s.heap s'.heap ∧ Cv s'.heap ∧ J (i + 1) m' s'
        | .brk => R (.ok .next) s'
        | .ret v => R (.ok (.ret v)) s') NoE s)
    (done : ∀ m s, J its.size m s → s.heap.Ns env.locals m → Kp (env.locals :: M) s₁.heap s.heap → R (.ok .next) s) :
    wpAny (model prog w) A (pyIter (.ref ax)) (fun it s₂ => codeAny (model prog w) A (.forLoop target it body [] env) R s₂) E s₁ := by
  have hlt : ax < s₁.heap.objs.size := by obtain ⟨_, e, _⟩ := hl; exact Heap.lt_size e
  have hLlt : env.locals < s₁.heap.objs.size := hL.lt
  refine wpAny_pyIter_list hl ?_
  generalize hH : s₁.heap.push _ = H
  revert H
  refine barrier ?_
  intro H hH
  have up : ∀ b o, s₁.heap.get? b = some o → H.get? b = some o := fun b o e => hH ▸ Heap.get?_push_of_some _ e
  have hI : H.get? s₁.heap.objs.size = some { cls := .type "list_iterator", data := .fields #[.ref ax, .int 0 0] } := hH ▸ Heap.get?_push_size _ rfl
  have down : ∀ {h : Heap}, Kp (s₁.heap.objs.size :: env.locals :: M) H h → Kp (env.locals :: M) s₁.heap h := fun k b o hb e =>
    k b o (fun q => by rcases List.mem_cons.mp q with q | q; exact absurd (Heap.lt_size e) (q ▸ Nat.lt_irrefl _); exact hb q) (up b o e)
  refine for_core2 (M := M) (B := B) (P := fun i v => its[i]? = some v) (n := its.size) J Bd Cv hCv (hCv _ _ hC0 fun b o _ e => up b o e) (Walks.list hh s₁.heap.objs.size ax (Nat.ne_of_lt hlt) its) ⟨⟨_, hI, rfl, rfl⟩, hl.at fun o e => up _ o e⟩ ?_ hB ?_ ?_ (hL.at' fun o e => up _ o e) (hJ 0 m₀ s₁ H s₁.toks h0 fun b o _ _ _ e => up b o e) ?_ ?_
  · intro b hb
    rcases List.mem_cons.mp hb with rfl | hb
    · exact ⟨fun q => absurd (hM _ q) (Nat.lt_irrefl _), Ne.symm (Nat.ne_of_lt hLlt)⟩
    · rw [List.mem_singleton.mp hb]; exact ⟨hax, haL⟩
  · intro i v m s Q hP hst hn hk hc hQ
    exact hbind v m s _ _ _ Q (Array.mem_of_getElem? hP) hn (down hk) hst.1 hc hQ
  · exact hJ
  · exact fun i m v m₂ s hP _ hst hj hn hb hk => turn i m v m₂ s hP (let ⟨⟨o, e, _⟩, _⟩ := hst; ⟨o, e⟩) hj hn hb (down hk)
  · exact fun m s hj hn hk => done m s hj hn (down hk)
theorem for_list3 {target : Expr} {body : List Stmt} {ax : Addr} {its : Array Value} {B : List Addr} {m₀ : Str → Option Value} {R : Result → Shared → Prop}
    (J : Nat → (Str → Option Value) → Shared → Prop) (Bd : (Str → Option Value) → Value → (Str → Option Value) → Heap → Prop) (Cv : Heap → Prop)
    (hCv : ∀ h h', Cv h → (∀ b o, b ≠ s₁.heap.objs.size → h.get? b = some o → h'.get? b = some o) → Cv h') (hC0 : Cv s₁.heap)
    (hh : A.handled = none) (hl : s₁.heap.IsList ax its) (haL : ax ≠ env.locals) (haB : ax ∉ B) (hIB : s₁.heap.objs.size ∉ B)
    (hbind : ∀ i v m s I l j (Q : Unit → Shared → Prop), its[i]? = some v → s.heap.Ns env.locals m → J i m s → s.heap.IsListIter I l j → Cv s.heap →
      (∀ h' tk m'', Kp (env.locals :: B) s.heap h' → h'.Ns env.locals m'' → Bd m v m'' h' → Q () { s with heap := h', toks := tk }) →
      wpAny (model prog w) A (letOwnedTupleGo target (.ref I) v) (fun _ s₁ => wpAny (model prog w) A (assign target env v) Q NoE s₁) NoE s)
    (hJ : ∀ i m s h' tk, J i m s → (∀ b o, b ≠ s₁.heap.objs.size → b ≠ env.locals → b ∉ B → s.heap.get? b = some o → h'.get? b = some o) → J i m { s with heap := h', toks := tk })
    (hL : s₁.heap.Ns env.locals m₀) (h0 : J 0 m₀ s₁)
    (turn : ∀ i m v m₂ s, its[i]? = some v → (∃ o, s.heap.get? s₁.heap.objs.size = some o) → J i m s → s.heap.Ns env.locals m₂ → Bd m v m₂ s.heap →
      wpAny (model prog w) A (execs body env) (fun f s' => match f with
        | .next | .cont => ∃ m', s'.heap.Ns env.locals m' ∧ (∀ b o, b = s₁.heap.objs.size ∨ b = ax → s.heap.get? b = some o → s'.heap.get? b = some o) ∧ Cv s'.heap ∧ J (i + 1) m' s'
        | .brk => R (.ok .next) s'
        | .ret v => R (.ok (.ret v)) s') NoE s)
    (done : ∀ m s, J its.size m s → s.heap.Ns env.locals m → R (.ok .next) s) :
    wpAny (model prog w) A (pyIter (.ref ax)) (fun it s₂ => codeAny (model prog w) A (.forLoop target it body [] env) R s₂) E s₁ := by
  have hlt : ax < s₁.heap.objs.size := by obtain ⟨_, e, _⟩ := hl; exact Heap.lt_size e
  have hLlt : env.locals < s₁.heap.objs.size := hL.lt
  refine wpAny_pyIter_list hl ?_
  generalize hH : s₁.heap.push _ = H
  revert H
  refine barrier ?_
  intro H hH
  have up : ∀ b o, s₁.heap.get? b = some o → H.get? b = some o := fun b o e => hH ▸ Heap.get?_push_of_some _ e
  have hI : H.get? s₁.heap.objs.size = some { cls := .type "list_iterator", data := .fields #[.ref ax, .int 0 0] } := hH ▸ Heap.get?_push_size _ rfl
  generalize hIe : s₁.heap.objs.size = I at *
  have W := Walks.list (prog := prog) (w := w) (A := A) hh I ax (Nat.ne_of_lt hlt) its
  have hfpL : ∀ b ∈ [I, ax], b ≠ env.locals := by
    intro b hb
    simp only [List.mem_cons, List.not_mem_nil, or_false] at hb
    rcases hb with rfl | rfl
    · exact Nat.ne_of_gt hLlt
    · exact haL
  have hfpB : ∀ b ∈ [I, ax], b ∉ B := by
    intro b hb
    simp only [List.mem_cons, List.not_mem_nil, or_false] at hb
    rcases hb with rfl | rfl
    · exact hIB
    · exact haB
  have hIL : I ≠ env.locals := Nat.ne_of_gt hLlt
  refine codeAny_forLoop_any
    (fun k s' => ∃ i m', i ≤ its.size ∧ k = its.size + 1 - i ∧ (s'.heap.IsListIter I ax i ∧ s'.heap.IsList ax its) ∧ s'.heap.Ns env.locals m' ∧ Cv s'.heap ∧ J i m' s') ?_ (its.size + 1)
    ⟨0, m₀, Nat.zero_le _, rfl, ⟨⟨_, hI, rfl, rfl⟩, hl.at fun o e => up _ o e⟩, hL.at' fun o e => up _ o e, hCv _ _ hC0 fun b o _ e => up b o e, hJ 0 m₀ s₁ H s₁.toks h0 fun b o _ _ _ e => up b o e⟩
  rintro k s' ⟨i, m', hi, rfl, hst', hn', C', J'⟩
  by_cases hlt : i < its.size
  · refine W.item i _ _ _ hlt hst' fun v h₂ tk₂ hPv hst₂ hk₂ => ?_
    have hk₂' : ∀ b o, b ≠ I → s'.heap.get? b = some o → h₂.get? b = some o := fun b o hb e => hk₂ b o (by simpa using hb) e
    have hn₂ : h₂.Ns env.locals m' := hn'.at' fun o e => hk₂' _ o (Ne.symm hIL) e
    have C₂ := hCv _ _ C' hk₂'
    have J₂ : J i m' { s' with heap := h₂, toks := tk₂ } := hJ i m' s' h₂ tk₂ J' fun b o hbI _ _ e => hk₂' b o hbI e
    refine wpAny_mono (hbind i v m' { s' with heap := h₂, toks := tk₂ } I ax (i + 1) (fun _ s₄ => wpAny (model prog w) A (execs body env) (fun f s' => match f with
        | .next | .cont => ∃ m, m < its.size + 1 - i ∧ ∃ i m', i ≤ its.size ∧ m = its.size + 1 - i ∧ (s'.heap.IsListIter I ax i ∧ s'.heap.IsList ax its) ∧ s'.heap.Ns env.locals m' ∧ Cv s'.heap ∧ J i m' s'
        | .brk => R (.ok .next) s'
        | .ret v => R (.ok (.ret v)) s') NoE s₄) hPv hn₂ J₂ hst₂.1 C₂ fun h₃ tk₃ m₃ hk₃ hn₃ hb₃ => ?_) (fun _ s₄ h₄ => ?_) fun _ _ x => x.elim
    · have hst₃ : h₃.IsListIter I ax (i + 1) ∧ h₃.IsList ax its := W.frame _ _ _ hst₂ fun b hb o e => hk₃ b o (fun q => (List.mem_cons.mp q).elim (hfpL b hb) (hfpB b hb)) e
      have J₃ : J i m' { s' with heap := h₃, toks := tk₃ } := hJ i m' { s' with heap := h₂, toks := tk₂ } h₃ tk₃ J₂ fun b o hbI hbL hbB e => hk₃ b o (fun q => (List.mem_cons.mp q).elim hbL hbB) e
      refine wpAny_mono (turn i m' v m₃ _ hPv (let ⟨o, e, _⟩ := hst₃.1; ⟨o, e⟩) J₃ hn₃ hb₃) (fun f s₅ h₅ => ?_) fun _ _ e => e
      have fin : (∃ m', s₅.heap.Ns env.locals m' ∧ (∀ b o, b = I ∨ b = ax → h₃.get? b = some o → s₅.heap.get? b = some o) ∧ Cv s₅.heap ∧ J (i + 1) m' s₅) → ∃ m, m < its.size + 1 - i ∧ ∃ i m', i ≤ its.size ∧ m = its.size + 1 - i ∧ (s₅.heap.IsListIter I ax i ∧ s₅.heap.IsList ax its) ∧ s₅.heap.Ns env.locals m' ∧ Cv s₅.heap ∧ J i m' s₅ := by
        rintro ⟨m₅, hn₅, hk₅, C₅, J₅⟩
        refine ⟨its.size + 1 - (i + 1), by omega, i + 1, m₅, hlt, rfl, W.frame _ _ _ hst₃ fun b hb o e => hk₅ b o ?_ e, hn₅, C₅, J₅⟩
        simpa using hb
      cases f with
      | next => exact fin h₅
      | cont => exact fin h₅
      | brk => exact h₅
      | ret v => exact h₅
    · refine wpAny_mono h₄ (fun _ s₅ h₅ => ?_) fun _ _ x => x.elim
      refine wpAny_mono h₅ (fun f s₆ h₆ => ?_) fun _ _ x => x.elim
      cases f with
      | next => exact h₆
      | cont => exact h₆
      | brk => exact h₆
      | ret v => exact h₆
  · obtain rfl : i = its.size := Nat.le_antisymm hi (Nat.not_lt.mp hlt)
    refine W.done _ _ _ hst' fun h₂ tk₂ hk₂ => wpAny_execs_nil ?_
    have hk₂' : ∀ b o, b ≠ I → s'.heap.get? b = some o → h₂.get? b = some o := fun b o hb e => hk₂ b o (by simpa using hb) e
    exact done m' _ (hJ _ _ s' h₂ tk₂ J' fun b o hbI _ _ e => hk₂' b o hbI e) (hn'.at' fun o e => hk₂' _ o (Ne.symm hIL) e)
theorem fbind_cell {x x₂ : Str} {px px₂ tp : Pos} {tk : Nat} {t c : Addr} {v₁ v₂ : Value} {I l : Addr} {j : Nat} {m : Str → Option Value} {v₀ : Option Value} {s : Shared} {Q : Unit → Shared → Prop}
    (hh : A.handled = none) (hkind : env.scope.kind = .function) (hx : env.kindOf x = some .cell) (hc : env.cells.lookup x = some c) (hx₂ : env.kindOf x₂ = some .local) (hp : (env.scope.kind == .class || (env.scope.kind == .module && env.locals != env.globals)) = false)
    (hcl : c ≠ env.locals) (hn : s.heap.Ns env.locals m) (hv : s.heap.IsCell c v₀) (hLi : s.heap.IsListIter I l j) (ht : IsTup s.heap t #[v₁, v₂])
    (hQ : ∀ h' tk, Kp [env.locals, c] s.heap h' → h'.Ns env.locals (upd m x₂ v₂) → h'.IsCell c (some v₁) → Q () { s with heap := h', toks := tk }) :
    wpAny (model prog w) A (letOwnedTupleGo (.Tuple [.Name x px, .Name x₂ px₂] tk tp) (.ref I) (.ref t)) (fun _ s₁ => wpAny (model prog w) A (assign (.Tuple [.Name x px, .Name x₂ px₂] tk tp) env (.ref t)) Q NoE s₁) NoE s := by
  refine wpAny_letOwnedTupleGo_listiter hLi ?_
  refine assign_Tuple_tuple hh ht rfl rfl fun h₅ he => ?_
  have he' : ∀ b o, s.heap.get? b = some o → h₅.get? b = some o := fun b o e => he b o (Nat.ne_of_lt (Heap.lt_size e)) e
  refine assignInOrder_cons (wpAny_assign_Name (wpAny_storeName_cell hkind hx hc (hv.keeps he') (fun h₆ hv₆ hs₆ => ?_)))
  refine assignInOrder_cons (wpAny_assign_Name (wpAny_storeName_local hx₂ ((hn.at' fun o e => he' _ o e).sameBut hs₆ (Ne.symm hcl)) (fun h₃ hn₃ hs₃ => ?_) hp))
  refine assignInOrder_nil ?_
  refine hQ h₃ _ (fun b o hb e => ?_) hn₃ (hv₆.sameBut hs₃ hcl)
  simp only [List.mem_cons, List.not_mem_nil, or_false, not_or] at hb
  exact hs₃.extBut b o hb.1 (hs₆.extBut b o hb.2 (he' b o e))
end
end Mine
end
section
open PySem PySem.W PySem.Calls PyProof.Rows
set_option maxRecDepth 100000
set_option maxHeartbeats 4000000
namespace Mine
open LCg (lst lst_snoc)
noncomputable def tab : List Str := [Str.ofString "Linux", Str.ofString "unknown", Str.ofString "5.4", Str.ofString " x86 ", Str.ofString "a/b", Str.ofString "(c)", Str.ofString "", Str.ofString "x86 64", Str.ofString "--", Str.ofString "ununknownknown", Str.ofString ":5;4\\\""]
noncomputable def rowI (x : Int) (k : Nat) : Nat := (Int.fmod (Int.fdiv x (11 ^ k)) 11).toNat
noncomputable def rowT (x : Int) (k : Nat) : Str := tab.getD (rowI x k) Str.empty
theorem fr_kp {h₀ h h' : Heap} {L : Addr} {m : Str → Option Value} (F : Fr h₀ L h m) (k : Kp [] h h') : Fr h₀ L h' m := F.keeps k.all
theorem news_kp {h₀ h h' : Heap} {L : Addr} {news : List (Addr × Obj)} (N : News h₀ L h news) (k : Kp [] h h') : News h₀ L h' news := N.grown k.all
theorem news_comp {h₀ h h' : Heap} {L C : Addr} {m m₂ : Str → Option Value} {news : List (Addr × Obj)} (F : Fr h₀ L h m) (N : News h₀ L h news) (k : Kp [] h h') (hn : h'.Ns C m₂) (hC : h.objs.size < C) :
    ∃ oC, LCg.NsObj oC m₂ ∧ News h₀ L h' ((C, oC) :: news) := by
  obtain ⟨oC, e, r⟩ := LCg.ns_obj hn
  refine ⟨oC, r, fun p hp => ?_⟩
  rcases List.mem_cons.mp hp with rfl | hp
  · refine ⟨e, Ne.symm (Nat.ne_of_lt (Nat.lt_trans F.ns.lt hC)), ?_⟩
    cases q : h₀.get? C with
    | none => rfl
    | some o => exact absurd (Nat.lt_trans (Heap.lt_size (F.keep _ _ q)) hC) (Nat.lt_irrefl _)
  · exact ⟨k.all _ _ (N p hp).1, (N p hp).2⟩
theorem strs_get {v : Value} : ∀ {vs : List Value} {ss : List Str} {i : Nat}, StrsAre vs ss → vs[i]? = some v → ∃ r t, v = .str r t ∧ ss[i]? = some r
  | _, _, _, .nil, h => by simp at h
  | _, _, 0, .cons y t _, h => by simp at h; exact ⟨y, t, h.symm, by simp⟩
  | _, _, i + 1, .cons y t r, h => by
    have h' := by simpa using h
    obtain ⟨r', t', e, q⟩ := strs_get (i := i) r h'
    exact ⟨r', t', e, by simpa using q⟩
theorem strs_snoc {y : Str} {t : Tok} : ∀ {vs : List Value} {ss : List Str}, StrsAre vs ss → StrsAre (vs ++ [.str y t]) (ss ++ [y])
  | _, _, .nil => .cons y t .nil
  | _, _, .cons z u r => .cons z u (strs_snoc r)
theorem strs_len : ∀ {vs : List Value} {ss : List Str}, StrsAre vs ss → vs.length = ss.length
  | _, _, .nil => rfl
  | _, _, .cons _ _ r => by simp [strs_len r]
theorem list_of_get {h : Heap} {D : Addr} {its : Array Value} {n : Nat} (e : h.get? D = some { cls := .type "list", data := .seq its n }) : h.IsList D its := ⟨_, e, rfl, n, rfl⟩
theorem news_add {h₀ h h' : Heap} {L D : Addr} {m : Str → Option Value} {o : Obj} {news : List (Addr × Obj)} (F : Fr h₀ L h m) (N : News h₀ L h news) (k : Kp [] h h') (hD : h.objs.size ≤ D) (hg : h'.get? D = some o) :
    News h₀ L h' ((D, o) :: news) := by
  intro p hp
  rcases List.mem_cons.mp hp with rfl | hp
  · refine ⟨hg, Ne.symm (Nat.ne_of_lt (Nat.lt_of_lt_of_le F.ns.lt hD)), ?_⟩
    cases q : h₀.get? D with
    | none => rfl
    | some o => exact absurd (Nat.lt_of_lt_of_le (Heap.lt_size (F.keep _ _ q)) hD) (Nat.lt_irrefl _)
  · exact ⟨k.all _ _ (N p hp).1, (N p hp).2⟩
noncomputable def rows3 (x : Int) : List Str := [rowT x 0, rowT x 1, rowT x 2]
noncomputable def parts (l : List Str) : List Str := (l.filter fun t => t != Str.ofString "").map Txt.strip
theorem parts_snoc {l : List Str} {i : Nat} {r : Str} (h : l[i]? = some r) : parts (l.take (i + 1)) = parts (l.take i) ++ (if r != Str.ofString "" then [Txt.strip r] else []) := by
  unfold parts
  rw [List.take_add_one, h, List.filter_append, List.map_append]
  by_cases q : (r != Str.ofString "") = true <;> simp [q]
theorem tab_len : ∀ t ∈ tab, t.length ≤ 14 := by decide +kernel
theorem rowT_mem (x : Int) (k : Nat) : rowT x k ∈ tab := by
  unfold rowT
  have h1 := Int.fmod_nonneg_of_pos (Int.fdiv x (11 ^ k)) (by decide : (0 : Int) < 11)
  have h2 := Int.fmod_lt_of_pos (Int.fdiv x (11 ^ k)) (by decide : (0 : Int) < 11)
  have h3 : rowI x k < tab.length := by
    show rowI x k < 11
    unfold rowI; omega
  rw [List.getD_eq_getElem?_getD, List.getElem?_eq_getElem h3]
  exact List.getElem_mem h3
theorem rows3_mem {x : Int} {r : Str} (h : r ∈ rows3 x) : r ∈ tab := by
  simp only [rows3, List.mem_cons, List.not_mem_nil, or_false] at h
  rcases h with rfl | rfl | rfl <;> exact rowT_mem x _
theorem tab_strip : ∀ t ∈ tab, (Txt.strip t).length ≤ 14 := by decide +kernel
theorem rows3_get {x : Int} {i : Nat} {r : Str} (h : (rows3 x)[i]? = some r) : r ∈ tab := rows3_mem (List.mem_of_getElem? h)
theorem parts_small : ∀ {l : List Str}, (∀ t ∈ l, t ∈ tab) → ((parts l).map (·.length)).sum ≤ l.length * 14 ∧ (parts l).length ≤ l.length
  | [], _ => by simp [parts]
  | r :: l, h => by
    have ih := parts_small (l := l) fun t ht => h t (List.mem_cons_of_mem _ ht)
    have h1 := tab_strip r (h r List.mem_cons_self)
    unfold parts at ih ⊢
    by_cases q : (r != Str.ofString "") = true
    · simp only [List.filter_cons, q, if_true, List.map_cons, List.sum_cons, List.length_cons]; omega
    · rw [List.filter_cons_of_neg (by exact q)]; simp only [List.length_cons]; omega
noncomputable def Cut (P : Prop) : Prop := P
theorem Cut.mk {P : Prop} (h : P) : Cut P := h
theorem fr_congr {h₀ h : Heap} {L : Addr} {m m' : Str → Option Value} (F : Fr h₀ L h m) (e : ∀ y, m y = m' y) : Fr h₀ L h m' := by
  have : m = m' := funext e
  rw [← this]; exact F
/-- the sign that a text's first sign stands for -/
noncomputable def sgn (signs : Str) : Str := if (Txt.item signs 0 == Str.ofString " ") = true then Str.ofString "_" else
  if (Builtin.Str.occurrences (Str.ofString "/\\:;\"()") (Txt.item signs 0) 0 (Str.ofString "/\\:;\"()").length 1).isEmpty = true then Txt.item signs 0 else Str.ofString "-"
noncomputable def stepN (signs name : Str) : Str × Str := if (Txt.slice signs none (some 7) == Str.ofString "unknown") = true then (Txt.slice signs (some 7) none, name)
  else (Txt.slice signs (some 1) none, if (sgn signs == Str.ofString "-") = true then (if (Txt.slice name (some (-1)) none == Str.ofString "-") = true then name else name ++ sgn signs) else name ++ sgn signs)
noncomputable def nmGo : Nat → Str → Str → Str
  | 0, _, name => name
  | k + 1, signs, name => if signs = Str.ofString "" then name else nmGo k (stepN signs name).1 (stepN signs name).2
noncomputable def signs0 (l : List Str) : Str := Txt.join (Str.ofString "-") (parts l)
noncomputable def lawNm (x : Int) : Str := Txt.rstripChars (nmGo 100 (signs0 (rows3 x)) (Str.ofString "")) (Str.ofString "-")
theorem sgn_len {signs : Str} : (sgn signs).length = 1 := by
  unfold sgn
  split
  · decide +kernel
  · split
    · rfl
    · decide +kernel
theorem nmGo_empty (k : Nat) (name : Str) : nmGo k (Str.ofString "") name = name := by
  cases k with
  | zero => rfl
  | succ k => simp [nmGo]
theorem len_pos {signs : Str} (hs : signs ≠ Str.ofString "") : 0 < signs.length := by
  rcases Nat.eq_zero_or_pos signs.length with q | q
  · exact absurd (by cases signs; rename_i c; have : c = #[] := Array.eq_empty_of_size_eq_zero q; subst this; decide +kernel) hs
  · exact q
theorem slice_from (x : Str) (k : Nat) (h : k ≤ x.length) : Txt.slice x (some (k : Int)) none = ⟨(x.cps.toList.drop k).toArray⟩ := by
  have e := StrLaws.sliceText_from (x := x) (i := (k : Int)) ⟨by omega, by simp only [Str.length] at h; simp; omega⟩
  have e2 : Txt.slice x (some (k : Int)) none = StrLaws.sliceText x (some (k : Int)) none := rfl
  rw [e2, e, Int.toNat_natCast]
  congr 2
  rw [List.take_of_length_le]
  simp
theorem slice_from_len (x : Str) (k : Nat) (h : k ≤ x.length) : (Txt.slice x (some (k : Int)) none).length = x.length - k := by
  rw [slice_from x k h]; simp [Str.length]
theorem slice7 {x : Str} (h : (Txt.slice x none (some 7) == Str.ofString "unknown") = true) : 7 ≤ x.length := by
  have h1 := Txt.slice_le x none (some 7)
  rw [eq_of_beq h] at h1
  exact Nat.le_trans (by decide +kernel) h1
theorem join_len (l : List Str) : (Txt.join (Str.ofString "-") l).length ≤ (l.map (·.length)).sum + l.length := by
  have h := StrLaws.join_length_le (Str.ofString "-") l
  have e : (Str.ofString "-").length = 1 := by decide +kernel
  rw [e, Nat.mul_one] at h
  show (Builtin.Str.glued (Str.ofString "-") l).length ≤ _
  rw [StrLaws.glued_eq_join]
  exact h
theorem stepN_len {signs name : Str} (hs : signs ≠ Str.ofString "") : (stepN signs name).1.length < signs.length ∧ (stepN signs name).1.length + (stepN signs name).2.length ≤ signs.length + name.length := by
  have hp := len_pos hs
  have h1 := slice_from_len signs 1 hp
  have e1 : ((1 : Nat) : Int) = 1 := rfl
  rw [e1] at h1
  unfold stepN
  by_cases q : (Txt.slice signs none (some 7) == Str.ofString "unknown") = true
  · have h7 := slice7 q
    have h2 := slice_from_len signs 7 h7
    have e7 : ((7 : Nat) : Int) = 7 := rfl
    rw [e7] at h2
    simp only [q, if_true]; omega
  · have hl := sgn_len (signs := signs)
    simp only [q]
    simp only [Bool.false_eq_true, if_false]
    split
    · split
      · omega
      · rw [Str.length_append]; omega
    · rw [Str.length_append]; omega
theorem signs0_len (x : Int) : (signs0 (rows3 x)).length ≤ 45 := by
  have h1 := join_len (parts (rows3 x))
  have h2 := parts_small (l := rows3 x) fun t ht => rows3_mem ht
  have h3 : (rows3 x).length = 3 := rfl
  unfold signs0
  omega
theorem news_new {h₀ h h' : Heap} {L D : Addr} {m : Str → Option Value} {o : Obj} {news : List (Addr × Obj)} (F : Fr h₀ L h m) (N : News h₀ L h news) (k : Kp [] h h') (hD : h.get? D = none) (hg : h'.get? D = some o) :
    News h₀ L h' ((D, o) :: news) := by
  intro p hp
  rcases List.mem_cons.mp hp with rfl | hp
  · refine ⟨hg, fun e => ?_, ?_⟩
    · obtain ⟨oL, _, _, e2, _⟩ := F.ns
      rw [← e] at e2; rw [hD] at e2; cases e2
    · cases q : h₀.get? D with
      | none => rfl
      | some o => have := F.keep _ _ q; rw [hD] at this; cases this
  · exact ⟨k.all _ _ (N p hp).1, (N p hp).2⟩
/-- normpath of what lies below /opt -/
noncomputable def npF (nm : Str) : Str := if nm.length = 0 then Str.ofString "/opt" else Str.ofString "/opt/" ++ nm
theorem npF_join (nm : Str) (h : nm.length ≠ 0) : Str.ofString "/" ++ Txt.join (Str.ofString "/") [Str.ofString "opt", nm] = npF nm := by
  unfold npF
  rw [if_neg h]
  show Str.ofString "/" ++ Builtin.Str.glued (Str.ofString "/") [Str.ofString "opt", nm] = _
  rw [StrLaws.glued_eq_join]
  show Str.ofString "/" ++ (Str.ofString "opt" ++ Str.ofString "/" ++ nm) = _
  rw [← Str.append_assoc, ← Str.append_assoc]
  congr 1
theorem join_len2 (l : List Str) : (Txt.join (Str.ofString "/") l).length ≤ (l.map (·.length)).sum + l.length := by
  have h := StrLaws.join_length_le (Str.ofString "/") l
  have e : (Str.ofString "/").length = 1 := by decide +kernel
  rw [e, Nat.mul_one] at h
  show (Builtin.Str.glued (Str.ofString "/") l).length ≤ _
  rw [StrLaws.glued_eq_join]
  exact h
theorem fr_kpM {h₀ h h' : Heap} {L : Addr} {m : Str → Option Value} {M : List Addr} (F : Fr h₀ L h m) (k : Kp M h h') (hL : L ∉ M) (h0 : ∀ b ∈ M, h₀.get? b = none) : Fr h₀ L h' m :=
  ⟨F.ns.at' fun o e => k _ o hL e, fun b o e => k b o (fun q => by rw [h0 b q] at e; cases e) (F.keep b o e), F.above⟩
theorem news_kpM {h₀ h h' : Heap} {L : Addr} {news : List (Addr × Obj)} {M : List Addr} (N : News h₀ L h news) (k : Kp M h h') (hn : ∀ p ∈ news, p.1 ∉ M) : News h₀ L h' news :=
  fun p hp => ⟨k _ _ (hn p hp) (N p hp).1, (N p hp).2⟩
theorem joinOk_small {sep : Str} {l : List Str} (h : (l.map (·.length)).sum + l.length * sep.length ≤ 16777216) : JoinOk sep l = true := by
  unfold JoinOk
  rw [StrLaws.joinTotal, Bool.not_eq_true']
  unfold Builtin.Str.tooLong sizeLine
  exact decide_eq_false (by omega)
end Mine
end
section
open PySem PySem.W PySem.Calls PyProof.Rows
set_option maxRecDepth 100000
set_option maxHeartbeats 4000000
namespace Mine
open Sem (wp)
theorem owner_filter : Manifest.owners.lookup (String.ofList ['r', 'e', 't', 'l', 'i', 'f'].reverse) = some Manifest.sig_filter := by kernel_rfl
theorem slot_filter_next : Slot "filter" "__next__" "filter.__next__" :=
  .of (owner := "filter") (n := "__next__") (by rw [typeLookup_type, builtinLookup_eq_fast]; kernel_rfl) (by decide +kernel) (by decide +kernel) (by decide +kernel)
    (by first | exact .inl (by decide +kernel) | exact .inr (by decide +kernel)) (by rw [isSubtype_type]; kernel_rfl)
theorem args_filter_next (a : Value) : argsOk "filter.__next__" ⟨[a], []⟩ := by
  unfold argsOk; rw [signature?_of (id := "filter.__next__") (n := ['_', '_', 't', 'x', 'e', 'n', '_', '_']) (o := ['r', 'e', 't', 'l', 'i', 'f']) (by kernel_rfl) owner_filter]; kernel_rfl
theorem entry_filter_next : entryFor table "filter.__next__" = some Builtin.«filter.__next__» := entryFor_of_tree (by kernel_rfl)
theorem slot_filter_iter : Slot "filter" "__iter__" "filter.__iter__" :=
  .of (owner := "filter") (n := "__iter__") (by rw [typeLookup_type, builtinLookup_eq_fast]; kernel_rfl) (by decide +kernel) (by decide +kernel) (by decide +kernel)
    (by first | exact .inl (by decide +kernel) | exact .inr (by decide +kernel)) (by rw [isSubtype_type]; kernel_rfl)
theorem args_filter_iter (a : Value) : argsOk "filter.__iter__" ⟨[a], []⟩ := by
  unfold argsOk; rw [signature?_of (id := "filter.__iter__") (n := ['_', '_', 'r', 'e', 't', 'i', '_', '_']) (o := ['r', 'e', 't', 'l', 'i', 'f']) (by kernel_rfl) owner_filter]; kernel_rfl
theorem entry_filter_iter : entryFor table "filter.__iter__" = some Builtin.«dict_keyiterator.__iter__» :=
  entryFor_alias (id' := "dict_keyiterator.__iter__") (by kernel_rfl) (by first | rfl | decide +kernel | (unfold String.splitOn; simp +decide [String.splitOnAux])) (by decide +kernel) (by kernel_rfl)
theorem slot_filter_init : Slot "filter" "__init__" "object.__init__" :=
  .of (owner := "object") (n := "__init__") (by rw [typeLookup_type, builtinLookup_eq_fast]; kernel_rfl) (by decide +kernel) (by decide +kernel) (by decide +kernel)
    (by first | exact .inl (by decide +kernel) | exact .inr (by decide +kernel)) (by rw [isSubtype_type]; kernel_rfl)
theorem mro_filter : mroOf (.type "filter") = pure [.type "filter", .type "object"] := by rw [mroOf_type]; kernel_rfl
theorem lookup_filter_new : typeLookup (.type "filter") "__new__" = pure (some (.builtin "filter.__new__")) := by rw [typeLookup_type, builtinLookup_eq_fast]; kernel_rfl
theorem called_filter : TypeCalled "filter" "filter.__new__" "object.__init__" :=
  ⟨by decide +kernel, by decide +kernel, ⟨_, _, mro_filter⟩, madeBy_type mro_filter lookup_filter_new (by decide +kernel), by decide +kernel, by rw [isSubtype_type]; kernel_rfl, slot_filter_init⟩
theorem typeCall_filter (a b : Value) : checkTypeCall "filter" ⟨[a, b], []⟩ = pure () := by kernel_rfl
theorem newCall_filter (a b : Value) : checkBuiltinCall "filter.__new__" ⟨[.type "filter", a, b], []⟩ = pure () := by kernel_rfl
theorem entry_filter_new : entryFor table "filter.__new__" = some Builtin.«filter.__new__» := entryFor_of_tree (by kernel_rfl)
theorem sub_filter : isSubtype (.type "filter") (.type "filter") = pure true := by rw [isSubtype_type]; kernel_rfl
noncomputable abbrev IsFilt (h : Heap) (z it : Addr) : Prop := h.get? z = some { cls := .type "filter", dict := none, data := .fields #[.builtin "len", .ref it], slots := #[] }
theorem meets_filter_new (f : Value) (t : Addr) (items : Array Value) :
    Meets (Builtin.«filter.__new__» ⟨[.type "filter", f, .ref t], []⟩) (fun _ R s => s.heap.IsTuple t items ∧
      R (.ok (.ret (.ref (s.heap.objs.size + 1)))) { s with heap := (s.heap.push { cls := .type "tuple_iterator", data := .fields #[.ref t, .int 0 0] }).push { cls := .type "filter", data := .fields #[f, .ref s.heap.objs.size] } }) :=
  .of_wp fun prog w A R s h => by
    obtain ⟨hp, g, d, tk, os⟩ := s; obtain ⟨hl1, h⟩ := h
    have hsub := sub_filter
    have hL1 : Heap.IsTuple (Shared.heap ⟨hp, g, d, tk, os⟩) t items := hl1
    have e : (hp.push { cls := .type "tuple_iterator", data := .fields #[.ref t, .int 0 0] }).objs.size = hp.objs.size + 1 := Heap.size_push ..
    wp_walk using wpAny_pyIter_tuple hL1
    rw [e]
    exact ⟨_, rfl, h⟩
section
variable {prog : Program} {w : World} {A : Around} {E : Value → Shared → Prop} {s : Shared}
theorem call_filter {f : Value} {t : Addr} {items : Array Value} {Q : Value → Shared → Prop} (hl : s.heap.IsTuple t items)
    (h : Q (.ref (s.heap.objs.size + 1)) { s with heap := (s.heap.push { cls := .type "tuple_iterator", data := .fields #[.ref t, .int 0 0] }).push { cls := .type "filter", data := .fields #[f, .ref s.heap.objs.size] } }) :
    wpAny (model prog w) A (call (.type "filter") [f, .ref t]) Q E s := by
  have e : (s.heap.push { cls := .type "tuple_iterator", data := .fields #[.ref t, .int 0 0] }).objs.size = s.heap.objs.size + 1 := Heap.size_push ..
  have g : ((s.heap.push { cls := .type "tuple_iterator", data := .fields #[.ref t, .int 0 0] }).push { cls := .type "filter", data := .fields #[f, .ref s.heap.objs.size] }).get? (s.heap.objs.size + 1) = some { cls := .type "filter", data := .fields #[f, .ref s.heap.objs.size] } := by
    rw [← e]
    exact Heap.get?_push_size _ rfl
  exact callType_new called_filter (by decide) (typeCall_filter _ _) (newCall_filter _ _) (fun obj => F.args_object_init_3 obj _ _) entry_filter_new
    (meets_filter_new f t items) ⟨hl, ⟨_, g, rfl⟩, h⟩
/-- the next item of a tuple's iterator, as it is called -/
theorem tup_next {it t : Addr} {i : Nat} {items : Array Value} {x : Value} {Q : Option Value → Shared → Prop} (hit : s.heap.IsTupleIter it t i)
    (ht : s.heap.IsTuple t items) (hx : items[i]? = some x)
    (hQ : ∀ h', h'.IsTupleIter it t (i + 1) → Heap.SameBut it s.heap h' → Q (some x) { s with heap := h' }) :
    wpAny (model prog w) A (callSpecial? (.ref it) "__next__") Q E s := by
  obtain ⟨o, ho, hc, hd⟩ := id hit
  obtain ⟨ol, hol, _, nl, hdl⟩ := ht
  refine wpAny_callSpecial?_slot (name := Str.ofString "__next__") hit.typeIs F.slot_tuple_iterator_next
    (wpAny_call_entry F.slot_tuple_iterator_next hit.typeIs F.entry_tuple_iterator_next ?_ (F.args_tuple_iterator_next_1 _))
  show wpAny _ _ (field (.ref it) 0 >>= _) _ _ s
  refine wpAny_bind (wpAny_field ho hd (x := .ref t) rfl ?_)
  show wpAny _ _ (if (Value.ref t == Value.none) = true then _ else _) _ _ s
  rw [if_neg (show ¬ ((Value.ref t == Value.none) = true) from Bool.false_ne_true)]
  show wpAny _ _ (field (.ref it) 1 >>= _) _ _ s
  refine wpAny_bind (wpAny_field ho hd (x := .int i 0) rfl ?_)
  show wpAny _ _ (seqItems? (.ref t) >>= _) _ _ s
  refine wpAny_bind (wpAny_seqItems hol hdl ?_)
  simp only [Int.toNat_natCast, hx]
  refine wpAny_bind (wpAny_setField ho hd (by simp) (wpAny_pure ⟨x, rfl, hQ _ ?_ (Heap.SameBut.update ..)⟩))
  exact ⟨_, Heap.get?_update_self _ ho (Obj.isFreed_of_fields (Obj.data_mapFields hd _)), (Obj.cls_mapFields ..).trans hc, by
    rw [Obj.data_mapFields hd]; simp [rawInt]⟩
theorem tup_end {it t : Addr} {i : Nat} {items : Array Value} {Q : Option Value → Shared → Prop} (hh : A.handled = none)
    (hit : s.heap.IsTupleIter it t i) (ht : s.heap.IsTuple t items) (hx : items[i]? = none)
    (hE : ∀ h' e, Heap.ExtBut it s.heap h' → (∃ o, h'.get? e = some o ∧ o.cls = .type "StopIteration") → E (.ref e) { s with heap := h' }) :
    wpAny (model prog w) A (callSpecial? (.ref it) "__next__") Q E s := by
  obtain ⟨o, ho, hc, hd⟩ := id hit
  obtain ⟨ol, hol, _, nl, hdl⟩ := ht
  refine wpAny_callSpecial?_slot (name := Str.ofString "__next__") hit.typeIs F.slot_tuple_iterator_next
    (wpAny_call_entry F.slot_tuple_iterator_next hit.typeIs F.entry_tuple_iterator_next ?_ (F.args_tuple_iterator_next_1 _))
  show wpAny _ _ (field (.ref it) 0 >>= _) _ _ s
  refine wpAny_bind (wpAny_field ho hd (x := .ref t) rfl ?_)
  show wpAny _ _ (if (Value.ref t == Value.none) = true then _ else _) _ _ s
  rw [if_neg (show ¬ ((Value.ref t == Value.none) = true) from Bool.false_ne_true)]
  show wpAny _ _ (field (.ref it) 1 >>= _) _ _ s
  refine wpAny_bind (wpAny_field ho hd (x := .int i 0) rfl ?_)
  show wpAny _ _ (seqItems? (.ref t) >>= _) _ _ s
  refine wpAny_bind (wpAny_seqItems hol hdl ?_)
  simp only [Int.toNat_natCast, hx]
  refine wpAny_bind (wpAny_rule (wpAny_bind (wpAny_setField ho hd (by simp) ?_)))
  show wpAny _ _ (newExc (.type "StopIteration") [] >>= _) _ _ _
  refine wpAny_bind ?_
  simp only [newExc, newTuple]
  refine wpAny_bind (wpAny_newObj_type ?_ (by size_fits))
  refine wpAny_bind (m := firstArgMember _ _) (wpAny_of_eq (a := Value.none) (by first | rfl | (simp only [firstArgMember]; rfl)) ?_)
  refine wpAny_newObj_type ?_ (by size_fits)
  simp only [raiseNew]
  refine wpAny_bind (wpAny_handled ?_)
  rw [show A.in1.handled = none from hh]
  refine wpAny_bind (wpAny_pure (wpAny_throw ?_))
  exact hE _ _ (((Heap.SameBut.update ..).extBut.push _).push _) ⟨_, Heap.get?_push_size _ rfl, rfl⟩
noncomputable def keepV : Value → Bool
  | .str x _ => x.length != 0
  | _ => false
structure FiltAt (h : Heap) (z it t : Addr) (items : Array Value) (j : Nat) : Prop where
  fz : IsFilt h z it
  fi : h.IsTupleIter it t j
  ft : h.IsTuple t items
/-- one turn of filter(len, ..)'s next -/
theorem filt_turn {z it t : Addr} {items : Array Value} {j : Nat} {x : Str} {u : Tok} {Q : Fin → Shared → Prop} (hzi : z ≠ it) (hti : t ≠ it) (st : FiltAt s.heap z it t items j) (hx : items[j]? = some (.str x u)) (hlen : x.length ≤ 1048576)
    (hQ : ∀ h' tk, FiltAt h' z it t items (j + 1) → Kp [it] s.heap h' → Q (if keepV (.str x u) = true then .done (.ret (.str x u)) else .again (.builtin "filter.__next__" ⟨[.ref z], []⟩)) { s with heap := h', toks := tk }) :
    wpAny (model prog w) A (Builtin.«filter.__next__» ⟨[.ref z], []⟩) Q E s := by
  show wpAny _ _ (field (.ref z) 0 >>= _) _ _ s
  refine wpAny_bind (wpAny_field st.fz rfl (x := .builtin "len") rfl ?_)
  show wpAny _ _ (field (.ref z) 1 >>= _) _ _ s
  refine wpAny_bind (wpAny_field st.fz rfl (x := .ref it) rfl ?_)
  refine wpAny_bind (tup_next st.fi st.ft hx fun h' hi' hs' => ?_)
  have hk : Kp [it] s.heap h' := fun b o hb e => hs'.extBut b o (by simpa using hb) e
  refine wpAny_bind (wpAny_holding ?_)
  show wpAny _ _ (call (.builtin "len") [.str x u] >>= fun good => holding [good] (truthy good)) _ _ _
  refine wpAny_bind (P.len_str (by omega) ?_)
  refine wpAny_holding (P.truthy_int ?_)
  have q := hQ h' (s.toks + 1 + 1) ⟨hk _ _ (by simpa using hzi) st.fz, hi', st.ft.at fun o e => hk _ o (by simpa using hti) e⟩ hk
  have e : ((x.length : Int) != 0) = keepV (.str x u) := by
    show _ = (x.length != 0)
    by_cases h : x.length = 0
    · rw [h]; rfl
    · have h1 : (x.length != 0) = true := by simpa using h
      have h2 : ((x.length : Int) != 0) = true := by simp; omega
      rw [h1, h2]
  rw [e]
  cases hk2 : keepV (.str x u) with
  | true => rw [hk2] at q; exact wpAny_pure q
  | false => rw [hk2] at q; exact wpAny_pure q
theorem filt_code {z it t : Addr} {items : Array Value} {R : Result → Shared → Prop} (hh : A.handled = none) (hzi : z ≠ it) (hti : t ≠ it) (hs : ∀ v ∈ items, ∃ x u, v = .str x u ∧ x.length ≤ 1048576) :
    ∀ (k j : Nat) (s : Shared), items.size - j = k → FiltAt s.heap z it t items j →
      (∀ j' v h' tk, j ≤ j' → items[j']? = some v → keepV v = true → (∀ i v, j ≤ i → i < j' → items[i]? = some v → keepV v = false) → FiltAt h' z it t items (j' + 1) → Kp [it] s.heap h' → R (.ok (.ret v)) { s with heap := h', toks := tk }) →
      ((∀ i v, j ≤ i → items[i]? = some v → keepV v = false) → ∀ e h' tk, (∃ o, h'.get? e = some o ∧ o.cls = .type "StopIteration") → Kp [it] s.heap h' → R (.error (.ref e)) { s with heap := h', toks := tk }) →
      wpAny (model prog w) A.in1 (Builtin.«filter.__next__» ⟨[.ref z], []⟩) (fun fin s' => match fin with | .done f => R (.ok f) s' | .again c' => c'.quiet = true ∧ codeAny (model prog w) A c' R s') (fun e s' => R (.error e) s') s := by
  intro k
  induction k with
  | zero =>
    intro j s hk st _ hend
    have hnone : items[j]? = none := Array.getElem?_eq_none (by omega)
    show wpAny _ _ (field (.ref z) 0 >>= _) _ _ s
    refine wpAny_bind (wpAny_field st.fz rfl (x := .builtin "len") rfl ?_)
    show wpAny _ _ (field (.ref z) 1 >>= _) _ _ s
    refine wpAny_bind (wpAny_field st.fz rfl (x := .ref it) rfl ?_)
    refine wpAny_bind (tup_end hh st.fi st.ft hnone fun h' e hx he => ?_)
    refine hend (fun i v hi hv => ?_) e h' s.toks he fun b o hb e => hx b o (by simpa using hb) e
    rw [Array.getElem?_eq_none (by omega)] at hv; cases hv
  | succ k ih =>
    intro j s hk st hfound hend
    have hj : j < items.size := by omega
    obtain ⟨x, u, ex, hl⟩ := hs items[j] (Array.getElem_mem hj)
    have hx : items[j]? = some (.str x u) := by rw [Array.getElem?_eq_getElem hj, ex]
    refine filt_turn hzi hti st hx hl fun h' tk st' hk' => ?_
    cases hkv : keepV (.str x u) with
    | true =>
      simp only [if_true]
      exact hfound j _ h' tk (Nat.le_refl _) hx hkv (fun i v h1 h2 _ => absurd h1 (by omega)) st' hk'
    | false =>
      simp only [Bool.false_eq_true, if_false]
      refine ⟨plainId_quiet slot_filter_next.plain _, codeAny_builtin entry_filter_next ?_⟩
      rw [Around.under_plainId slot_filter_next.plain _]
      refine ih (j + 1) { s with heap := h', toks := tk } (by omega) st' (fun j' v h'' tk' h1 h2 h3 h4 h5 h6 => ?_) fun h1 e h'' tk' he hk'' => ?_
      · refine hfound j' v h'' tk' (by omega) h2 h3 (fun i v hi1 hi2 hv => ?_) h5 (hk'.trans h6)
        by_cases q : i = j
        · subst q; rw [hx] at hv; cases hv; exact hkv
        · exact h4 i v (by omega) hi2 hv
      · refine hend (fun i v hi hv => ?_) e h'' tk' he (hk'.trans hk'')
        by_cases q : i = j
        · subst q; rw [hx] at hv; cases hv; exact hkv
        · exact h1 i v (by omega) hv
theorem filt_call {z it t : Addr} {items : Array Value} {R : Result → Shared → Prop} {j : Nat} (hh : A.handled = none) (hzi : z ≠ it) (hti : t ≠ it) (hs : ∀ v ∈ items, ∃ x u, v = .str x u ∧ x.length ≤ 1048576) (st : FiltAt s.heap z it t items j)
    (hfound : ∀ j' v h' tk, j ≤ j' → items[j']? = some v → keepV v = true → (∀ i v, j ≤ i → i < j' → items[i]? = some v → keepV v = false) → FiltAt h' z it t items (j' + 1) → Kp [it] s.heap h' → R (.ok (.ret v)) { s with heap := h', toks := tk })
    (hend : (∀ i v, j ≤ i → items[i]? = some v → keepV v = false) → ∀ e h' tk, (∃ o, h'.get? e = some o ∧ o.cls = .type "StopIteration") → Kp [it] s.heap h' → R (.error (.ref e)) { s with heap := h', toks := tk }) :
    codeAny (model prog w) A (.call (.builtin "filter.__next__") ⟨[.ref z], []⟩) R s :=
  codeAny_call_builtin slot_filter_next.plain entry_filter_next (slot_filter_next.check _ _ _ _ _ _ _ _ ⟨_, st.fz, rfl⟩ (args_filter_next _) (filt_code (R := R) hh hzi hti hs _ j s rfl st hfound hend))
theorem filt_next {z it t : Addr} {items : Array Value} {Q : Option Value → Shared → Prop} {j : Nat} (hh : A.handled = none) (hzi : z ≠ it) (hti : t ≠ it) (hs : ∀ v ∈ items, ∃ x u, v = .str x u ∧ x.length ≤ 1048576) (st : FiltAt s.heap z it t items j)
    (hfound : ∀ j' v h' tk, j ≤ j' → items[j']? = some v → keepV v = true → (∀ i v, j ≤ i → i < j' → items[i]? = some v → keepV v = false) → FiltAt h' z it t items (j' + 1) → Kp [it] s.heap h' → Q (some v) { s with heap := h', toks := tk })
    (hend : (∀ i v, j ≤ i → items[i]? = some v → keepV v = false) → ∀ h' tk, Kp [it] s.heap h' → Q none { s with heap := h', toks := tk }) :
    wpAny (model prog w) A (pyNext (.ref z)) Q E s := by
  have hT : s.TypeIs (.ref z) "filter" := ⟨_, st.fz, rfl⟩
  unfold pyNext
  refine wpAny_bind (wpAny_attempt (wpAny_callSpecial?_slot (name := Str.ofString "__next__") hT slot_filter_next
    (wpAny_call (filt_call hh hzi hti hs st (fun j' v h' tk h1 h2 h3 h4 h5 h6 => ?_) fun h1 e h' tk he hk => ?_))))
  · exact wpAny_pure (hfound j' v h' tk h1 h2 h3 h4 h5 h6)
  · obtain ⟨o, ho, hc⟩ := he
    refine wpAny_bind (wpAny_isInstance (T := "StopIteration") (b := true) ⟨o, ho, hc⟩ isSubtype_stop ?_)
    exact wpAny_pure (hend h1 h' tk hk)
theorem drop_none {l : List Value} : ∀ {j : Nat}, (∀ i v, j ≤ i → l[i]? = some v → keepV v = false) → (l.drop j).filter keepV = [] := by
  intro j h
  rw [List.filter_eq_nil_iff]
  intro v hv
  obtain ⟨i, hi, rfl⟩ := List.getElem_of_mem hv
  rw [List.getElem_drop]
  have := h (j + i) _ (by omega) (List.getElem?_eq_getElem (by simpa using (by simpa using hi : i < l.length - j) |> fun h => by omega))
  simp [this]
theorem drop_found {l : List Value} {v : Value} : ∀ (k j j' : Nat), j' - j = k → j ≤ j' → l[j']? = some v → keepV v = true → (∀ i v, j ≤ i → i < j' → l[i]? = some v → keepV v = false) → (l.drop j).filter keepV = v :: (l.drop (j' + 1)).filter keepV := by
  intro k
  induction k with
  | zero =>
    intro j j' hk hle hv hkv _
    obtain rfl : j = j' := by omega
    have hj : j < l.length := (List.getElem?_eq_some_iff.mp hv).1
    have e : l[j] = v := (List.getElem?_eq_some_iff.mp hv).2
    rw [List.drop_eq_getElem_cons hj, List.filter_cons, e, hkv]; rfl
  | succ k ih =>
    intro j j' hk hle hv hkv hno
    have hj' : j' < l.length := (List.getElem?_eq_some_iff.mp hv).1
    have hj : j < l.length := by omega
    have h1 := hno j l[j] (Nat.le_refl _) (by omega) (List.getElem?_eq_getElem hj)
    rw [List.drop_eq_getElem_cons hj, List.filter_cons, h1]
    simp only [Bool.false_eq_true, if_false]
    exact ih (j + 1) j' (by omega) (by omega) hv hkv fun i v h1 h2 => hno i v (by omega) h2
theorem filtWalks {z it t : Addr} {items : Array Value} (hh : A.handled = none) (hzi : z ≠ it) (hti : t ≠ it) (hs : ∀ v ∈ items, ∃ x u, v = .str x u ∧ x.length ≤ 1048576) :
    Walks prog w A z [z, it, t] [it] (items.toList.filter keepV).length (fun i v => (items.toList.filter keepV)[i]? = some v)
      (fun i h => ∃ j, FiltAt h z it t items j ∧ (items.toList.drop j).filter keepV = (items.toList.filter keepV).drop i) where
  sub := fun b hb => by simp at hb; simp [hb]
  frame := fun i h h' st hk => by
    obtain ⟨j, st, e⟩ := st
    exact ⟨j, ⟨hk z (by simp) _ st.fz, st.fi.at fun o e => hk it (by simp) o e, st.ft.at fun o e => hk t (by simp) o e⟩, e⟩
  item := fun i s Q E hi st hQ => by
    obtain ⟨j, st, e⟩ := st
    rw [List.drop_eq_getElem_cons hi] at e
    refine filt_next hh hzi hti hs st (fun j' v h' tk h1 h2 h3 h4 h5 h6 => ?_) fun h1 h' tk hk => ?_
    · have q := drop_found (l := items.toList) _ j j' rfl h1 (by simpa using h2) h3 fun i v a b c => h4 i v a b (by simpa using c)
      rw [e] at q
      injection q with q1 q2
      exact hQ v h' tk (by rw [List.getElem?_eq_getElem hi, q1]) ⟨j' + 1, h5, q2.symm⟩ h6
    · have q := drop_none (l := items.toList) (j := j) fun i v a b => h1 i v a (by simpa using b)
      rw [e] at q; cases q
  done := fun s Q E st hQ => by
    obtain ⟨j, st, e⟩ := st
    rw [List.drop_length] at e
    refine filt_next hh hzi hti hs st (fun j' v h' tk h1 h2 h3 h4 h5 h6 => ?_) fun h1 h' tk hk => hQ h' tk hk
    have q := drop_found (l := items.toList) _ j j' rfl h1 (by simpa using h2) h3 fun i v a b c => h4 i v a b (by simpa using c)
    rw [e] at q; cases q
  self := fun i s Q E st hQ => by
    obtain ⟨j, st, e⟩ := st
    have hT : s.TypeIs (.ref z) "filter" := ⟨_, st.fz, rfl⟩
    refine wpAny_pyIter_slot hT slot_filter_iter (wpAny_call_entry slot_filter_iter hT entry_filter_iter ?_ (args_filter_iter _))
    show wpAny _ _ (ret (.ref z)) _ _ s
    exact wpAny_pure ⟨_, rfl, "filter", _, hT, slot_filter_next.lookup, hQ⟩
end
end Mine
end
section
open PySem PySem.W PySem.Calls PyProof.Rows
set_option maxRecDepth 100000
set_option maxHeartbeats 4000000
namespace Mine
open Sem (wp)
/-- the table of a code: what it holds at a place, or nothing there yet -/
structure TabOk (h : Heap) (c P : Addr) (ps : Array Value) : Prop where
  code : h.IsCode c P ps
  tab : h.TableAt c P ps
theorem TabOk.kp {h h' : Heap} {c P : Addr} {ps : Array Value} {M : List Addr} (x : TabOk h c P ps) (k : Kp M h h') (hc : c ∉ M) (hP : P ∉ M) : TabOk h' c P ps := by
  obtain ⟨⟨o, vs, file, tf, flags, tg, inF, text, tt, op, a, r1, r2, r3, r4, r5, r6, b, r⟩, ⟨⟨oc, vc, a', r'⟩, t'⟩⟩ := x
  exact ⟨⟨o, vs, file, tf, flags, tg, inF, text, tt, op, k _ _ hc a, r1, r2, r3, r4, r5, r6, k _ _ hP b, r⟩, ⟨⟨oc, vc, k _ _ hc a', r'⟩, k _ _ hP t'⟩⟩
section
variable {prog : Program} {w : World} {A : Around} {E : Value → Shared → Prop}
/-- the code of a generator expression: made at the first run, found again afterwards -/
theorem gen_code {env : Env} {c P : Addr} {ps : Array Value} {pos : Pos} {qualname : Str} {scope : Scope} {s : Shared} {Q : Value → Shared → Prop} (hc : env.code = .ref c) (x : TabOk s.heap c P ps) (hv : ∀ v, codeAmong pos ps.toList = some v → True)
    (hQ : ∀ code h' tk ps', TabOk h' c P ps' → Kp [P] s.heap h' → s.heap.objs.size ≤ h'.objs.size → Q code { s with heap := h', toks := tk }) :
    wpAny (model prog w) A (genexprCode env pos qualname scope) Q E s := by
  cases hf : codeAmong pos ps.toList with
  | some v => exact wpAny_genexprCode_hit hc x.code hf (hQ v s.heap s.toks ps x Kp.refl (Nat.le_refl _))
  | none =>
    refine wpAny_genexprCodeX hc x.code x.tab hf fun c' h' tk hx h1 h2 hcode _ htab _ => hQ _ h' tk _ ⟨hcode, htab⟩ (fun b o hb e => hx b o (by simpa using hb) e) (Nat.le_of_lt (Nat.lt_of_le_of_lt h1 h2))
noncomputable def GenX (prog : Program) (w : World) (A : Around) (a : Addr) (wr : List Addr) (n : Nat) (F : Nat → Value → Prop) (s : Shared) : Prop :=
  ∃ fp g St, WalksS prog w A.in4 a fp wr (GenOnlyQ g) n F St ∧ St 0 s ∧ (∀ i s', St i s' → s'.TypeIs (.ref a) "generator") ∧ a ∈ fp ∧ (∀ b ∈ fp, b < s.heap.objs.size)
theorem passing_all (n : Nat) : passing (fun _ => true) n 0 = List.range n := by simp [passing]
theorem gen_filter {env : Env} {elt iter : Expr} {x : Str} {px : Pos} {scope : Scope} {cl : List (Str × Addr)} {pos : Pos} {Q : Value → Shared → Prop} {s : Shared} {c P bm : Addr} {ob : Obj} {mg : Str → Option Value} {f : Str → Str}
    (hh : A.handled = none) (hco : scope.isCoroutine = false) (hclos : closureFor scope env = pure cl) (hcell : ∀ y ∈ scope.names, y.2 ≠ .cell) (h0 : scope.names.lookup (".0" : Str) = some NameKind.local)
    (hx : scope.names.lookup x = some .local) (hkind : scope.kind = .function) (hroom : A.depth < recursionLimit) (hcode : env.code = .ref c)
    (hg : env.globals = mainGlobals)
    (helt : ∀ (A' : Around) (E' : Value → Shared → Prop) r u code bi C m₂ (s₂ : Shared), r.length ≤ 1048576 → s₂.heap.Ns C m₂ → m₂ x = some (.str r u) →
      wpAny (model prog w) A' (eval elt (genEnv scope cl C code bi env)) (fun y s₃ => (∃ u', y = .str (f r) u') ∧ Keeps s₂ s₃) E' s₂)
    (h : wpAny (model prog w) A (eval iter env) (fun xv s₁ => ∃ z it t items ps, xv = .ref z ∧ FiltAt s₁.heap z it t items 0 ∧ z ≠ it ∧ t ≠ it ∧ (∀ v ∈ items, ∃ r u, v = .str r u ∧ r.length ≤ 1048576) ∧ TabOk s₁.heap c P ps ∧ P ∉ [z, it, t] ∧
      BMod s₁.heap mainGlobals mg bm ob ∧ bm ≠ P ∧ mainGlobals ≠ P ∧ cStatics ≠ P ∧ cStatics ≠ it ∧ s₁.heap.NoLimit ∧
      (∀ a C s₅ ps', GenX prog w A a [C, it] (items.toList.filter keepV).length (fun j y => ∃ r u u', (items.toList.filter keepV)[j]? = some (.str r u) ∧ y = .str (f r) u') s₅ → s₁.heap.objs.size ≤ C → Kp [P] s₁.heap s₅.heap → s₅.os = s₁.os → (AllBare s₁.gens → AllBare s₅.gens) → TabOk s₅.heap c P ps' → Q (.ref a) s₅)) E s)
    (hs : ∀ x, genFold iter env x = pure x) :
    wpAny (model prog w) A (eval (.GeneratorExp elt [⟨.Name x px, iter, [], 0⟩] scope pos) env) Q E s := by
  refine wpAny_GeneratorExp_walksQD hh hco hclos hcell h0 hx hkind hroom (wpAny_mono h (fun xv s₁ h₁ => ?_) fun _ _ e => e) hs
  obtain ⟨z, it, t, items, ps, rfl, st, hzi, hti, hstr, htab, hPn, hB, hbm, hmP, hcP, hcit, hlim, hQ⟩ := h₁
  have W := fun (A' : Around) (hA : A'.handled = none) => filtWalks (prog := prog) (w := w) (A := A') (z := z) (it := it) (t := t) (items := items) hA hzi hti hstr
  refine (W A hh).self 0 s₁ _ _ ⟨0, st, by simp⟩ ⟨hlim, ?_⟩
  refine gen_code hcode htab (fun _ _ => trivial) fun code h₃ tk₃ ps' htab₃ hk₃ hsz₃ => ?_
  have hlim₃ : h₃.NoLimit := by
    obtain ⟨mc, hn, hnn⟩ := hlim
    exact ⟨mc, hn.at' fun o e => hk₃ _ o (by simpa using hcP) e, hnn⟩
  rw [hg]
  refine wpAny_builtinsFor (hB.ns.at' fun o e => hk₃ _ o (by simpa using hmP) e) hB.name hB.ne (hk₃ _ _ (by simpa using hbm) hB.obj) hB.cls hB.dict hB.data ?_
  have st₃ : FiltAt h₃ z it t items 0 := ⟨hk₃ _ _ (fun q => hPn (by rw [← List.mem_singleton.mp q]; simp)) st.fz, st.fi.at fun o e => hk₃ _ o (fun q => hPn (by rw [← List.mem_singleton.mp q]; simp)) e, st.ft.at fun o e => hk₃ _ o (fun q => hPn (by rw [← List.mem_singleton.mp q]; simp)) e⟩
  refine ⟨z, [z, it, t], [it], (items.toList.filter keepV).length, _, _, (fun _ => true), (fun i y => ∃ r u u', (items.toList.filter keepV)[i]? = some (.str r u) ∧ y = .str (f r) u'), rfl, W, ⟨0, st₃, by simp⟩, ?_, hlim₃, by simpa using hcit, ?_, ?_⟩
  · intro b hb
    simp only [List.mem_cons, List.not_mem_nil, or_false] at hb
    rcases hb with rfl | rfl | rfl
    · exact Heap.lt_size st₃.fz
    · obtain ⟨_, e, _⟩ := st₃.fi; exact Heap.lt_size e
    · obtain ⟨_, e, _⟩ := st₃.ft; exact Heap.lt_size e
  · intro href hhref
    refine ⟨fun A' E' i v s₂ m₂ hA _ _ hP hn hm hk => wpAny_tests_nil ⟨rfl, _, _, rfl, fun _ _ e => e⟩, fun A' E' i v s₂ m₂ hA _ _ hP _ hn hm hk => ?_⟩
    have hP' : (items.toList.filter keepV)[i]? = some v := hP
    have hmem : v ∈ items := by
      have := List.mem_of_getElem? hP'
      exact Array.mem_toList_iff.mp (List.mem_filter.mp this).1
    obtain ⟨r, u, rfl, hl⟩ := hstr v hmem
    refine wpAny_mono (helt A' E' r u code _ _ m₂ s₂ hl hn hm) (fun y s₃ h₃ => ?_) fun _ _ e => e
    obtain ⟨⟨u', rfl⟩, hk⟩ := h₃
    exact ⟨⟨r, u, u', hP', rfl⟩, hk⟩
  · intro a h₅ tk gs hbare haC hsz hk₅ W₅ hst₅
    rw [passing_all, List.length_range] at W₅
    refine hQ a _ _ ps' ⟨_, _, _, W₅.imp (fun i v hv => ?_), hst₅, ?_, List.mem_cons_self, ?_⟩ hsz₃ (hk₃.trans (Kp.of hk₅)) rfl (fun hb => ?_) (htab₃.kp (M := []) (Kp.of hk₅) (by simp) (by simp))
    · obtain ⟨j, hj, r, u, u', e1, e2⟩ := hv
      have : j = i := by
        rw [List.getElem?_range] at hj
        · exact (Option.some.inj hj).symm
        · exact (List.getElem?_eq_some_iff.mp hj).1 |> fun h => by simpa using h
      subst this
      exact ⟨r, u, u', e1, e2⟩
    · intro i s' hs'
      obtain ⟨⟨o, nm, qn, ho, hc, _⟩, _⟩ := hs'
      exact ⟨o, ho, hc⟩
    · intro b hb
      show b < h₅.objs.size
      rw [hsz]
      rcases List.mem_cons.mp hb with rfl | hb
      · exact Nat.lt_succ_self _
      · rcases List.mem_cons.mp hb with rfl | hb
        · exact Nat.lt_succ_of_lt haC
        · exact Nat.lt_trans (Nat.lt_trans (List.mem_range.mp hb) haC) (Nat.lt_succ_self _)
    · intro y hy
      rcases Array.mem_push.mp hy with hy | rfl
      · exact hb y hy
      · exact hbare
theorem join_genX {a : Addr} {wr : List Addr} {n : Nat} {F : Nat → Value → Prop} {s : Shared} {sep : Str} {t : Tok} {texts : List Str} {Q : Value → Shared → Prop} (X : GenX prog w A a wr n F s) (G : AllBare s.gens)
    (hn : n = texts.length) (hF : ∀ j v, F j v → ∃ r u, texts[j]? = some r ∧ v = .str r u) (hok : JoinOk sep texts = true)
    (hQ : ∀ t' s', Kp wr s.heap s'.heap → s'.os = s.os → AllBare s'.gens → Q (.str (Txt.join sep texts) t') s')
    (hsz : n ≤ sizeLine) : wpAny (model prog w) A (call (.builtin "str.join") [.str sep t, .ref a]) Q E s := by
  obtain ⟨fp, g, St, W, hst, hT, ha, hfp⟩ := X
  have W := W.in4_2
  refine SC.joinGen W hT hst hfp ha (fun j v hv => let ⟨r, u, _, e⟩ := hF j v hv; ⟨r, u, e⟩) (fun s' lt hm hacc => ?_) hsz
  have hl : lt.map (·.1) = texts := by
    apply List.ext_getElem?
    intro j
    have hsz : lt.length = n := by simpa [strValues] using hacc.1
    by_cases hj : j < n
    · have hj' : j < lt.length := hsz ▸ hj
      obtain ⟨r, u, e, hv⟩ := hF j _ (hacc.2 j (.str lt[j].1 lt[j].2) (by simp [strValues, List.getElem?_eq_getElem hj']))
      injection hv with h1 _
      rw [e]
      simp [List.getElem?_eq_getElem hj', h1]
    · rw [List.getElem?_eq_none (by simpa [hsz] using Nat.le_of_not_lt hj), List.getElem?_eq_none (by omega)]
  rw [hl]
  have hG : AllBare s'.gens := G.movedS hm
  exact ⟨hok, fun t' k => hQ t' { s' with toks := k } (fun b o hb e => hm.heap b o hb e) hm.os hG⟩
end
theorem keep_eq (y : Str) (t : Tok) : keepV (.str y t) = (y != Str.ofString "") := by
  show (y.length != 0) = _
  by_cases h : y = Str.ofString ""
  · subst h; decide +kernel
  · have h1 := len_pos h
    have h2 : (y != Str.ofString "") = true := by simpa using h
    rw [h2]; simp; omega
theorem strs_kept : ∀ {vs : List Value} {ss : List Str}, StrsAre vs ss → StrsAre (vs.filter keepV) (ss.filter fun t => t != Str.ofString "")
  | _, _, .nil => .nil
  | _, _, .cons y t r => by
    have ih := strs_kept r
    rw [List.filter_cons, List.filter_cons, keep_eq]
    cases q : (y != Str.ofString "") with
    | true => exact .cons y t ih
    | false => exact ih
theorem kept_get {vs : List Value} {ss : List Str} {j : Nat} {r : Str} {u : Tok} (h : StrsAre vs ss) (e : (vs.filter keepV)[j]? = some (.str r u)) : (parts ss)[j]? = some (Txt.strip r) := by
  obtain ⟨r', t', e1, e2⟩ := strs_get (strs_kept h) e
  cases e1
  unfold parts
  rw [List.getElem?_map, e2]; rfl
theorem kept_len {vs : List Value} {ss : List Str} (h : StrsAre vs ss) : (vs.filter keepV).length = (parts ss).length := by
  rw [strs_len (strs_kept h)]; unfold parts; rw [List.length_map]
theorem parts_small2 : ∀ {l : List Str}, (∀ t ∈ l, t.length ≤ 14) → ((parts l).map (·.length)).sum ≤ l.length * 14 ∧ (parts l).length ≤ l.length
  | [], _ => by simp [parts]
  | r :: l, h => by
    have ih := parts_small2 (l := l) fun t ht => h t (List.mem_cons_of_mem _ ht)
    have h1 : (Txt.strip r).length ≤ 14 := Nat.le_trans (len_strip r) (h r List.mem_cons_self)
    unfold parts at ih ⊢
    by_cases q : (r != Str.ofString "") = true
    · simp only [List.filter_cons, q, if_true, List.map_cons, List.sum_cons, List.length_cons]; omega
    · rw [List.filter_cons_of_neg (by exact q)]; simp only [List.length_cons]; omega
theorem signs0_len2 {a b c : Str} (ha : a.length ≤ 14) (hb : b.length ≤ 14) (hc : c.length ≤ 14) : (signs0 [a, b, c]).length ≤ 45 := by
  have h1 := join_len (parts [a, b, c])
  have h2 := parts_small2 (l := [a, b, c]) fun t ht => by
    simp only [List.mem_cons, List.not_mem_nil, or_false] at ht
    rcases ht with rfl | rfl | rfl <;> assumption
  have h3 : [a, b, c].length = 3 := rfl
  unfold signs0
  omega
noncomputable def TokAt (s : Shared) (P : Prop) : Prop := 1 ≤ s.toks → P
theorem execs_tok {M : Model} {A : Around} {env : Env} {st : Stmt} {rest : List Stmt} {Q : Flow → Shared → Prop} {E : Value → Shared → Prop} {s : Shared} (hn : 1 ≤ s.toks)
    (h : wpAny M A (exec st env) (fun f s' => TokAt s' (match f with | .next => wpAny M A (execs rest env) Q E s' | f => Q f s')) E s) : wpAny M A (execs (st :: rest) env) Q E s :=
  wpAny_execs_cons (wpAny_with_toks (n := 1) hn (wpAny_mono h (fun _ _ x => x) fun _ _ e _ => e))
theorem TokAt.gen {M : Model} {A : Around} {t : Sem Flow} {Q : Flow → Shared → Prop} {E : Value → Shared → Prop} {h g d o} {e : Nat} (k : ∀ tk, 1 ≤ tk → wpAny M A t Q E ⟨h, g, d, tk, o⟩) : TokAt ⟨h, g, d, e, o⟩ (wpAny M A t Q E ⟨h, g, d, e, o⟩) := fun he => k e he
end Mine
end
section
open PySem PySem.W PySem.Calls PyProof.Rows
set_option maxRecDepth 100000
set_option maxHeartbeats 4000000
namespace Mine
open Builtin Builtin.Str StrLaws
/-- replace on lists: a number of signs still to be skipped, then the text -/
noncomputable def repS (y z : List Nat) : Nat → List Nat → List Nat
  | _, [] => []
  | k + 1, _ :: r => repS y z k r
  | 0, c :: r => if y.isPrefixOf (c :: r) then z ++ repS y z (y.length - 1) r else c :: repS y z 0 r
noncomputable abbrev condC (x y : Str) (f i : Nat) : Prop := (f ≤ i ∧ i + y.length ≤ x.length) ∧ subAt x y i = true
noncomputable def cutsFrom (x y : Str) : Nat → Nat → Nat → List Nat
  | _, 0, _ => []
  | i, m + 1, f => if condC x y f i then i :: cutsFrom x y (i + 1) m (i + y.length) else cutsFrom x y (i + 1) m f
theorem occ_cuts (x y : Str) (limit : Nat) : ∀ (m i : Nat) (arr : Array Nat) (f : Nat), arr.size ≤ i → i + m ≤ limit →
    (forIn (List.range' i m) (arr, f) (occBody x y x.length limit)).run.fst.toList = arr.toList ++ cutsFrom x y i m f
  | 0, i, arr, f, _, _ => by simp [cutsFrom]
  | m + 1, i, arr, f, h1, h2 => by
    rw [List.range'_succ, List.forIn_cons]
    unfold occBody
    by_cases hc : condC x y f i
    · have c1 : ((arr.size < limit ∧ f ≤ i) ∧ i + y.length ≤ x.length) ∧ subAt x y i = true := ⟨⟨⟨by omega, hc.1.1⟩, hc.1.2⟩, hc.2⟩
      rw [if_pos c1]
      have ih := occ_cuts x y limit m (i + 1) (arr.push i) (i + y.length) (by simp; omega) (by omega)
      show (forIn (List.range' (i + 1) m) (arr.push i, i + y.length) (occBody x y x.length limit)).run.fst.toList = _
      rw [ih, cutsFrom, if_pos hc]
      simp
    · have c2 : ¬ (((arr.size < limit ∧ f ≤ i) ∧ i + y.length ≤ x.length) ∧ subAt x y i = true) := fun h => hc ⟨⟨h.1.1.2, h.1.2⟩, h.2⟩
      rw [if_neg c2]
      have ih := occ_cuts x y limit m (i + 1) arr f (by omega) (by omega)
      show (forIn (List.range' (i + 1) m) (arr, f) (occBody x y x.length limit)).run.fst.toList = _
      rw [ih, cutsFrom, if_neg hc]
theorem occ_cuts0 (x y : Str) : occurrences x y 0 x.length (x.length + 1) = cutsFrom x y 0 (x.length + 1) 0 := by
  rw [occ_eq]
  have h := occ_cuts x y (x.length + 1) (x.length + 1) 0 #[] 0 (by simp) (by omega)
  simpa using h
theorem prefix_iff (x y : Str) (i : Nat) (hy : 0 < y.length) : (i + y.length ≤ x.length ∧ subAt x y i = true) ↔ y.cps.toList.isPrefixOf (x.cps.toList.drop i) = true := by
  rw [subAt_eq, List.isPrefixOf_iff_prefix, List.prefix_iff_eq_take, beq_iff_eq]
  have e : y.cps.toList.length = y.length := by simp [Str.length]
  rw [e]
  constructor
  · intro h; exact h.2.symm
  · intro h
    refine ⟨?_, h.symm⟩
    have h2 := congrArg List.length h
    rw [e, List.length_take, List.length_drop] at h2
    have e2 : x.cps.toList.length = x.length := by simp [Str.length]
    omega
theorem join_cons (z p : Str) (x : Str) (w a : Nat) (cuts : List Nat) : (Str.join z (p :: partsFrom x w a cuts)).cps.toList = p.cps.toList ++ z.cps.toList ++ (Str.join z (partsFrom x w a cuts)).cps.toList := by
  obtain ⟨q, r, e⟩ := partsFrom_ne x w a cuts
  rw [e]
  show (p ++ z ++ Str.join z (q :: r)).cps.toList = _
  rw [Str.cps_append, Str.cps_append]; simp
theorem pr_le {i L : Nat} (h : i + 0 = L + 1) : L ≤ i := by omega
theorem pr_succ {i m L : Nat} (h : i + (m + 1) = L) : i + 1 + m = L := by omega
theorem pr_lt {i y L n : Nat} (h : i + y ≤ L) (hy : 0 < y) (e : n = L) : i < n := by omega
theorem pr_d0 {i y : Nat} (hy : 0 < y) : i + 1 - (i + y) = 0 := by omega
theorem pr_d1 {i y n : Nat} (e : n = y) : i + y - (i + 1) = n - 1 := by omega
theorem pr_e0 {f i : Nat} (h : ¬ f ≤ i) : f - i = f - i - 1 + 1 := by omega
theorem pr_e1 {f i k : Nat} (h : f - i = k + 1) : f - (i + 1) = k := by omega
theorem parts_rep (x y z : Str) (hy : 0 < y.length) : ∀ (m i f : Nat), i + m = x.length + 1 → f ≤ x.length →
    (Str.join z (partsFrom x y.length f (cutsFrom x y i m f))).cps.toList = (x.cps.toList.drop f).take (i - f) ++ repS y.cps.toList z.cps.toList (f - i) (x.cps.toList.drop i)
  | 0, i, f, hi, hf => by
    have e2 : x.cps.toList.length = x.length := by simp [Str.length]
    show (strSub x f x.length).cps.toList = _
    rw [strSub_toList, List.drop_of_length_le (by rw [e2]; exact pr_le hi : x.cps.toList.length ≤ i)]
    have : repS y.cps.toList z.cps.toList (f - i) [] = [] := by cases f - i <;> rfl
    rw [this, List.append_nil, List.take_of_length_le (by rw [List.length_drop, e2]; first | exact Nat.le_refl _ | exact Nat.sub_le_sub_right (pr_le hi) f), List.take_of_length_le (by rw [List.length_drop, e2]; first | exact Nat.le_refl _ | exact Nat.sub_le_sub_right (pr_le hi) f)]
  | m + 1, i, f, hi, hf => by
    have e2 : x.cps.toList.length = x.length := by simp [Str.length]
    have ey : y.cps.toList.length = y.length := by simp [Str.length]
    rw [cutsFrom]
    by_cases hc : condC x y f i
    · rw [if_pos hc]
      obtain ⟨⟨h1, h2⟩, h3⟩ := hc
      have ih := parts_rep x y z hy m (i + 1) (i + y.length) (pr_succ hi) h2
      show (Str.join z (strSub x f i :: partsFrom x y.length (i + y.length) _)).cps.toList = _
      rw [join_cons, ih, strSub_toList]
      have hp := (prefix_iff x y i hy).mp ⟨h2, h3⟩
      have hd : x.cps.toList.drop i = x.cps.toList[i]'(pr_lt h2 hy e2) :: x.cps.toList.drop (i + 1) := List.drop_eq_getElem_cons (pr_lt h2 hy e2)
      have z0 : f - i = 0 := Nat.sub_eq_zero_of_le h1
      rw [z0, hd, repS, if_pos (by rw [← hd]; exact hp), show i + 1 - (i + y.length) = 0 from pr_d0 hy, List.take_zero, List.nil_append, show i + y.length - (i + 1) = y.cps.toList.length - 1 from pr_d1 ey]
      simp
    · rw [if_neg hc]
      have ih := parts_rep x y z hy m (i + 1) f (pr_succ hi) hf
      rw [ih]
      by_cases hin : i < x.length
      · have hlt : i < x.cps.toList.length := by rw [e2]; exact hin
        have hd : x.cps.toList.drop i = x.cps.toList[i]'hlt :: x.cps.toList.drop (i + 1) := List.drop_eq_getElem_cons hlt
        by_cases hfi : f ≤ i
        · have hnp : ¬ (y.cps.toList.isPrefixOf (x.cps.toList.drop i) = true) := fun q => by
            have := (prefix_iff x y i hy).mpr q
            exact hc ⟨⟨hfi, this.1⟩, this.2⟩
          have z0 : f - i = 0 := Nat.sub_eq_zero_of_le hfi
          have z1 : f - (i + 1) = 0 := Nat.sub_eq_zero_of_le (Nat.le_succ_of_le hfi)
          rw [z0, z1, hd, repS, if_neg (by rw [← hd]; exact hnp), show i + 1 - f = (i - f) + 1 from Nat.succ_sub hfi]
          have ht : (x.cps.toList.drop f).take (i - f + 1) = (x.cps.toList.drop f).take (i - f) ++ [x.cps.toList[i]'hlt] := by
            rw [List.take_add_one, List.getElem?_drop, show f + (i - f) = i from Nat.add_sub_cancel' hfi, List.getElem?_eq_getElem hlt]; rfl
          rw [ht]; simp
        · obtain ⟨k, hk⟩ : ∃ k, f - i = k + 1 := ⟨f - i - 1, pr_e0 hfi⟩
          rw [hk, hd, repS, show i + 1 - f = 0 from Nat.sub_eq_zero_of_le (Nat.not_le.mp hfi), show i - f = 0 from Nat.sub_eq_zero_of_le (Nat.le_of_lt (Nat.not_le.mp hfi)), show f - (i + 1) = k from pr_e1 hk]
      · have hle : x.cps.toList.length ≤ i := by rw [e2]; exact Nat.not_lt.mp hin
        have hd : x.cps.toList.drop i = [] := List.drop_of_length_le hle
        have hd1 : x.cps.toList.drop (i + 1) = [] := List.drop_of_length_le (Nat.le_succ_of_le hle)
        have r0 : ∀ k, repS y.cps.toList z.cps.toList k [] = [] := fun k => by cases k <;> rfl
        rw [hd, hd1, r0, r0, List.append_nil, List.append_nil, List.take_of_length_le (by rw [List.length_drop]; first | exact Nat.sub_le_sub_right hle f | exact Nat.sub_le_sub_right (Nat.le_succ_of_le hle) f), List.take_of_length_le (by rw [List.length_drop]; first | exact Nat.sub_le_sub_right hle f | exact Nat.sub_le_sub_right (Nat.le_succ_of_le hle) f)]
theorem replace_rep (x y z : Str) (hy : 0 < y.length) : (Txt.replace x y z).cps.toList = repS y.cps.toList z.cps.toList 0 x.cps.toList := by
  have h := parts_rep x y z hy (x.length + 1) 0 0 (by omega) (by omega)
  have e2 : x.cps.toList.length = x.length := by simp [Str.length]
  simp only [Nat.sub_self, List.drop_zero, List.take_zero, List.nil_append] at h
  unfold Txt.replace
  rw [occ_cuts0]
  have hyl : (y.length == 0 && z.length == 0) = false := by
    have : (y.length == 0) = false := by simpa using Nat.ne_of_gt hy
    rw [this]; rfl
  rw [hyl, Bool.or_false]
  cases hcuts : cutsFrom x y 0 (x.length + 1) 0 with
  | nil =>
    rw [hcuts] at h
    simp only [List.isEmpty_nil, if_true]
    have h' : (strSub x 0 x.length).cps.toList = _ := h
    rw [sub_whole] at h'
    exact h'
  | cons c r =>
    rw [hcuts] at h
    simp only [List.isEmpty_cons, Bool.false_eq_true, if_false]
    rw [partsBetween_eq, glued_eq_join]
    exact h
end Mine
end
section
open PySem PySem.W PySem.Calls PyProof.Rows
set_option maxRecDepth 100000
set_option maxHeartbeats 4000000
namespace Mine
open Builtin Builtin.Str StrLaws
theorem prefix_len {y l : List Nat} (h : y.isPrefixOf l = true) : y.length ≤ l.length := (List.isPrefixOf_iff_prefix.mp h).length_le
theorem repS_len {y z : List Nat} (hy : 0 < y.length) (hz : z.length ≤ y.length) : ∀ (l : List Nat) (k : Nat), k ≤ l.length → (repS y z k l).length + k ≤ l.length
  | [], k, hk => by simp at hk; subst hk; simp [repS]
  | c :: r, 0, _ => by
    rw [repS]
    split
    · rename_i h
      have hp := prefix_len h
      simp only [List.length_cons] at hp
      have ih := repS_len hy hz r (y.length - 1) (by omega)
      simp only [List.length_append, List.length_cons]; omega
    · have ih := repS_len hy hz r 0 (Nat.zero_le _)
      simp only [List.length_cons]; omega
  | c :: r, k + 1, hk => by
    rw [repS]
    simp only [List.length_cons] at hk ⊢
    have ih := repS_len hy hz r k (by omega)
    omega
theorem repS_same {y z : List Nat} (hz : z.length < y.length) : ∀ (l : List Nat), repS y z 0 l = l ∨ (repS y z 0 l).length < l.length
  | [] => .inl rfl
  | c :: r => by
    rw [repS]
    split
    · rename_i h
      have hp := prefix_len h
      simp only [List.length_cons] at hp
      have ih := repS_len (y := y) (z := z) (by omega) (by omega) r (y.length - 1) (by omega)
      right
      simp only [List.length_append, List.length_cons]; omega
    · rcases repS_same hz r with e | e
      · left; rw [e]
      · right; simp only [List.length_cons]; omega
theorem str_ext {a b : Str} (h : a.cps.toList = b.cps.toList) : a = b := by
  cases a; cases b; congr; exact Array.toList_inj.mp h
theorem str_len (a : Str) : a.cps.toList.length = a.length := by simp [Str.length]
theorem replace_len (x y z : Str) (hy : 0 < y.length) (hz : z.length ≤ y.length) : (Txt.replace x y z).length ≤ x.length := by
  have h := replace_rep x y z hy
  have l := repS_len (y := y.cps.toList) (z := z.cps.toList) (by rw [str_len]; exact hy) (by rw [str_len, str_len]; exact hz) x.cps.toList 0 (Nat.zero_le _)
  rw [← h, str_len, str_len] at l
  exact l
theorem replace_same (x y z : Str) (hz : z.length < y.length) : Txt.replace x y z = x ∨ (Txt.replace x y z).length < x.length := by
  have h := replace_rep x y z (by omega)
  rcases repS_same (y := y.cps.toList) (z := z.cps.toList) (by rw [str_len, str_len]; exact hz) x.cps.toList with e | e
  · left; exact str_ext (h.trans e)
  · right; rw [← h, str_len, str_len] at e; exact e
/-- the nine replaces of _platform -/
noncomputable def reps : List (Str × Str) := [(Str.ofString " ", Str.ofString "_"), (Str.ofString "/", Str.ofString "-"), (Str.ofString "\\", Str.ofString "-"), (Str.ofString ":", Str.ofString "-"), (Str.ofString ";", Str.ofString "-"), (Str.ofString "\"", Str.ofString "-"), (Str.ofString "(", Str.ofString "-"), (Str.ofString ")", Str.ofString "-"), (Str.ofString "unknown", Str.ofString "")]
noncomputable def platA (x : Str) : Str := reps.foldl (fun p q => Txt.replace p q.1 q.2) x
noncomputable def fixN : Nat → Str → Str
  | 0, p => p
  | k + 1, p => if Txt.replace p (Str.ofString "--") (Str.ofString "-") = p then p else fixN k (Txt.replace p (Str.ofString "--") (Str.ofString "-"))
noncomputable def dropN : Nat → Str → Str
  | 0, p => p
  | k + 1, p => if p.length ≠ 0 ∧ (Txt.item p (-1) == Str.ofString "-") = true then dropN k (Txt.slice p none (some (-1))) else p
noncomputable def platT (l : List Str) : Str := dropN 100 (fixN 100 (platA (signs0 l)))
section
variable {prog : Program} {w : World} {A : Around} {E : Value → Shared → Prop} {Q : Value → Shared → Prop} {s : Shared}
theorem rep_step {x y z : Str} {t : Tok} {n : Nat} (hn : 1 ≤ n) (hyz : (y == z) = false) (hx : x.length ≤ 45) (hy : 0 < y.length) (hz : z.length ≤ y.length) (hz14 : z.length ≤ 14)
    (hq : ∀ x' t' k, x' = Txt.replace x y z → x'.length ≤ x.length → x'.length ≤ 45 → Q (.str x' t') { s with toks := k }) : wpAny (model prog w) A (call (.builtin "str.replace") [.str x t, .str y n, .str z (n + 1)]) Q E s :=
  SC.replaceW (Nat.ne_of_gt hn) (Nat.succ_ne_zero n) (Nat.ne_of_lt (Nat.lt_succ_self n)) hyz (by omega) hz14 fun t' k => hq _ t' k rfl (replace_len x y z hy hz) (Nat.le_trans (replace_len x y z hy hz) hx)
theorem while_tok {env : Env} {Q : Flow → Shared → Prop} {test : Expr} {body : List Stmt} {pos : Pos} (I : Nat → Shared → Prop) (n : Nat) (h : I n s) (hI : ∀ n s, I n s → 1 ≤ s.toks)
    (turn : ∀ n s, I n s → wpAny (model prog w) A (isTrue test env (eval test env)) (fun b s₂ =>
        if b then wpAny (model prog w) A (execs body env) (fun f s₃ => TokAt s₃ (match f with
            | .next | .cont => Turn I n s₃
            | .brk => Q .next s₃
            | .ret v => Q (.ret v) s₃)) NoE s₂
        else TokAt s₂ (Q .next s₂)) NoE s) :
    wpAny (model prog w) A (exec (.While test body [] pos) env) Q E s := by
  refine while_rule I n h fun n s hn => wpAny_with_toks (n := 1) (hI n s hn) (wpAny_mono (turn n s hn) (fun b s₂ h₂ ht => ?_) fun _ _ x => x.elim)
  cases b with
  | true =>
    simp only [if_true] at h₂ ⊢
    exact wpAny_with_toks (n := 1) ht (wpAny_mono h₂ (fun f s₃ h₃ ht₃ => h₃ ht₃) fun _ _ x => x.elim)
  | false =>
    simp only [Bool.false_eq_true, if_false] at h₂ ⊢
    exact h₂ ht
end
end Mine
end
section
open PySem PySem.W PySem.Calls PyProof.Rows
set_option maxRecDepth 100000
set_option maxHeartbeats 4000000
namespace Mine
open Builtin Builtin.Str StrLaws
noncomputable def tr (c : Nat) : Nat := if c = 32 then 95 else if c ∈ [47, 92, 58, 59, 34, 40, 41] then 45 else c
noncomputable def unk : List Nat := [117, 110, 107, 110, 111, 119, 110]
noncomputable def colL : Bool → List Nat → List Nat
  | _, [] => []
  | b, c :: r => if c = 45 then (if b then colL true r else 45 :: colL true r) else c :: colL false r
noncomputable def rsL (l : List Nat) : List Nat := (l.reverse.dropWhile (· == 45)).reverse
noncomputable def nmL (l : List Nat) : List Nat := rsL (colL false (repS unk [] 0 (l.map tr)))
theorem unk_eq : (Str.ofString "unknown").cps.toList = unk := by decide +kernel
theorem repS_nil (y z : List Nat) (k : Nat) : repS y z k [] = [] := by cases k <;> rfl
theorem repS_skip (y z : List Nat) : ∀ (l : List Nat) (k : Nat), repS y z k l = repS y z 0 (l.drop k)
  | [], k => by rw [List.drop_nil, repS_nil, repS_nil]
  | c :: r, 0 => rfl
  | c :: r, k + 1 => by rw [repS, List.drop_succ_cons, repS_skip y z r k]
theorem unk_ge : ∀ c ∈ unk, 97 ≤ c := by decide
theorem tr_lo : ∀ d ∈ [47, 92, 58, 59, 34, 40, 41], d < 97 := by decide
theorem iff_lo {a b c : Nat} (ha : a < 97) (hb : b < 97) (hc : 97 ≤ c) : (a = c ↔ b = c) := ⟨fun h => absurd (h ▸ ha) (Nat.not_lt.mpr hc), fun h => absurd (h ▸ hb) (Nat.not_lt.mpr hc)⟩
theorem tr_unk (d : Nat) : ∀ c ∈ unk, (tr d = c ↔ d = c) := by
  intro c hc
  have hc := unk_ge c hc
  unfold tr
  by_cases h1 : d = 32
  · rw [if_pos h1, h1]; exact iff_lo (by decide) (by decide) hc
  · rw [if_neg h1]
    by_cases h2 : d ∈ [47, 92, 58, 59, 34, 40, 41]
    · rw [if_pos h2]; exact iff_lo (by decide) (tr_lo d h2) hc
    · rw [if_neg h2]
theorem prefix_tr : ∀ (y l : List Nat), (∀ c ∈ y, ∀ d, (tr d = c ↔ d = c)) → y.isPrefixOf (l.map tr) = y.isPrefixOf l
  | [], l, _ => by simp [List.isPrefixOf]
  | c :: y, [], _ => by simp [List.isPrefixOf]
  | c :: y, d :: l, h => by
    have ih := prefix_tr y l fun c hc => h c (List.mem_cons_of_mem _ hc)
    have h1 := h c (List.mem_cons_self) d
    rw [List.map_cons, List.isPrefixOf, List.isPrefixOf, ih]
    congr 1
    by_cases q : d = c
    · rw [h1.mpr q, q]
    · have q' : ¬ tr d = c := fun e => q (h1.mp e)
      rw [beq_eq_false_iff_ne.mpr (Ne.symm q), beq_eq_false_iff_ne.mpr (Ne.symm q')]
theorem str_mk (x : Str) : x = ⟨x.cps.toList.toArray⟩ := by cases x; rfl
theorem slice7_iff (x : Str) : (Txt.slice x none (some 7) == Str.ofString "unknown") = unk.isPrefixOf x.cps.toList := by
  rw [Bool.eq_iff_iff, beq_iff_eq, List.isPrefixOf_iff_prefix, List.prefix_iff_eq_take]
  have hl : unk.length = 7 := rfl
  rw [hl]
  by_cases h : 7 ≤ x.length
  · have e : Txt.slice x none (some 7) = ⟨(x.cps.toList.take 7).toArray⟩ := by
      have := StrLaws.sliceText_to (x := x) (j := 7) ⟨by decide, by rw [str_len]; omega⟩
      exact this
    rw [e]
    constructor
    · intro q
      have := congrArg (fun s : Str => s.cps.toList) q
      dsimp only at this
      rw [unk_eq] at this
      exact this.symm
    · intro q
      apply str_ext
      rw [unk_eq]
      exact q.symm
  · constructor
    · intro q
      exact absurd (slice7 (beq_iff_eq.mpr q)) h
    · intro q
      have := congrArg List.length q
      rw [List.length_take, str_len] at this
      simp only [unk, List.length_cons, List.length_nil] at this
      omega
theorem item0 {x : Str} {c : Nat} {r : List Nat} (h : x.cps.toList = c :: r) : Txt.item x 0 = ⟨#[c]⟩ := by
  have e : x.cps[(0 : Int).toNat]? = some c := by
    rw [← Array.getElem?_toList, h]; rfl
  have := StrLaws.at_nonneg (x := x) (i := 0) (n := c) (by decide) e
  unfold Txt.item Txt.charAt
  rw [this]; rfl
theorem one_beq (c : Nat) (y : Str) (d : Nat) (hy : y.cps.toList = [d]) : ((⟨#[c]⟩ : Str) == y) = decide (c = d) := by
  rw [Bool.eq_iff_iff, beq_iff_eq, decide_eq_true_iff]
  constructor
  · intro q
    have := congrArg (fun s : Str => s.cps.toList) q
    dsimp only at this
    rw [hy] at this
    simpa using this
  · intro q
    subst q
    apply str_ext
    rw [hy]
theorem sgn_tr {x : Str} {c : Nat} {r : List Nat} (h : x.cps.toList = c :: r) : (sgn x).cps.toList = [tr c] := by
  unfold sgn
  rw [item0 h, one_beq c _ 32 (by decide +kernel)]
  unfold tr
  by_cases h1 : c = 32
  · rw [if_pos (by simpa using h1), if_pos h1]; decide +kernel
  · rw [if_neg (by simpa using h1), if_neg h1]
    have hf := found_one (Str.ofString "/\\:;\"()") c
    have hc : (Str.ofString "/\\:;\"()").cps.toList = [47, 92, 58, 59, 34, 40, 41] := by decide +kernel
    rw [hc] at hf
    by_cases h2 : c ∈ [47, 92, 58, 59, 34, 40, 41]
    · rw [if_pos h2]
      rw [if_neg]
      · decide +kernel
      · intro q
        rw [q, decide_eq_true h2] at hf
        cases hf
    · rw [if_neg h2, if_pos]
      rw [decide_eq_false h2] at hf
      simpa using hf
noncomputable def endsD (l : List Nat) : Bool := l.getLast? == some 45
theorem last_iff (x : Str) : (Txt.slice x (some (-1)) none == Str.ofString "-") = endsD x.cps.toList := by
  by_cases h : x.length = 0
  · have : x = Str.ofString "" := by
      have hn : x.cps.toList = [] := List.eq_nil_of_length_eq_zero (by rw [str_len]; exact h)
      apply str_ext
      rw [hn]
      decide +kernel
    subst this; decide +kernel
  · have e : Txt.slice x (some (-1)) none = _ := StrLaws.sliceText_from_neg (x := x) (i := -1) (by decide) (by omega)
    rw [e]
    have hl := str_len x
    obtain ⟨l', c, hc⟩ : ∃ l' c, x.cps.toList = l' ++ [c] := by
      rcases List.eq_nil_or_concat x.cps.toList with q | ⟨l', c, q⟩
      · rw [q] at hl; simp at hl; omega
      · exact ⟨l', c, by rw [q, List.concat_eq_append]⟩
    have hl2 : x.length = l'.length + 1 := by rw [← hl, hc]; simp
    rw [hc, show ((-1 : Int) + (x.length : Int)).toNat = l'.length by omega, List.drop_left]
    have e3 : (([c].take (((l' ++ [c]).length : Int) - (-1 + (x.length : Int))).toNat).toArray) = #[c] := by
      rw [show (((l' ++ [c]).length : Int) - (-1 + (x.length : Int))).toNat = 1 by simp only [List.length_append, List.length_cons, List.length_nil]; omega]
      rfl
    rw [e3, one_beq c _ 45 (by decide +kernel)]
    unfold endsD
    rw [List.getLast?_append]
    simp
    by_cases q : c = 45 <;> simp [q]
theorem slice_drop (x : Str) (k : Nat) (h : k ≤ x.length) : (Txt.slice x (some (k : Int)) none).cps.toList = x.cps.toList.drop k := by
  rw [slice_from x k h]
theorem str_nil {x : Str} (h : x.cps.toList = []) : x = Str.ofString "" := by
  apply str_ext; rw [h]; decide +kernel
theorem endsD_snoc (l : List Nat) (c : Nat) : endsD (l ++ [c]) = decide (c = 45) := by
  unfold endsD
  rw [List.getLast?_append]
  simp
  by_cases q : c = 45 <;> simp [q]
theorem nmGo_list : ∀ (k : Nat) (signs name : Str), signs.length ≤ k →
    (nmGo k signs name).cps.toList = name.cps.toList ++ colL (endsD name.cps.toList) (repS unk [] 0 (signs.cps.toList.map tr))
  | 0, signs, name, h => by
    have : signs.cps.toList = [] := List.eq_nil_of_length_eq_zero (by rw [str_len]; omega)
    rw [this, nmGo]; simp [repS, colL]
  | k + 1, signs, name, h => by
    rw [nmGo]
    cases hs : signs.cps.toList with
    | nil =>
      rw [if_pos (str_nil hs)]; simp [repS, colL]
    | cons c r =>
      have hne : signs ≠ Str.ofString "" := fun q => by
        rw [q] at hs
        have : (Str.ofString "").cps.toList = [] := by decide +kernel
        rw [this] at hs; cases hs
      rw [if_neg hne]
      have hlt := (stepN_len (name := name) hne).1
      rw [nmGo_list k _ _ (by omega)]
      have hp := slice7_iff signs
      rw [hs] at hp
      have hlen : signs.length = r.length + 1 := by rw [← str_len, hs]; rfl
      rw [List.map_cons, repS, ← List.map_cons, prefix_tr unk (c :: r) fun c hc d => tr_unk d c hc]
      unfold stepN
      rw [hp]
      by_cases q : unk.isPrefixOf (c :: r) = true
      · rw [if_pos q, if_pos q]
        have h7 : 7 ≤ signs.length := by
          have := prefix_len q
          rw [hlen]; exact this
        have e7 : (Txt.slice signs (some 7) none).cps.toList = signs.cps.toList.drop 7 := slice_drop signs 7 h7
        dsimp only
        rw [e7, hs, List.drop_succ_cons, List.nil_append, repS_skip unk [] (r.map tr) (unk.length - 1), List.map_drop]
        rfl
      · rw [if_neg q, if_neg q]
        have e1 : (Txt.slice signs (some 1) none).cps.toList = signs.cps.toList.drop 1 := slice_drop signs 1 (by omega)
        dsimp only
        rw [e1, hs, List.drop_succ_cons, List.drop_zero]
        have hsg := sgn_tr hs
        have hsg' : sgn signs = ⟨#[tr c]⟩ := str_ext hsg
        rw [last_iff, hsg', one_beq (tr c) _ 45 (by decide +kernel)]
        have ha : (name ++ (⟨#[tr c]⟩ : Str)).cps.toList = name.cps.toList ++ [tr c] := by rw [Str.cps_append]; simp
        rw [colL]
        by_cases h45 : tr c = 45
        · rw [if_pos (by simpa using h45), if_pos h45]
          by_cases he : endsD name.cps.toList = true
          · rw [if_pos he, if_pos he, he]
          · rw [if_neg he, if_neg he, ha, endsD_snoc, h45]
            simp
        · rw [if_neg (by simpa using h45), if_neg h45, ha, endsD_snoc, decide_eq_false h45]
          simp
theorem repS_one (a b : Nat) : ∀ l : List Nat, repS [a] [b] 0 l = l.map fun c => if c = a then b else c
  | [] => rfl
  | c :: r => by
    have ih := repS_one a b r
    rw [repS, List.map_cons]
    by_cases q : c = a
    · subst q
      simp [List.isPrefixOf, ih]
    · have q' : ¬ a = c := fun e => q e.symm
      simp [List.isPrefixOf, ih, q, q']
noncomputable def t1 (a b c : Nat) : Nat := if c = a then b else c
theorem tr_comp (c : Nat) : t1 41 45 (t1 40 45 (t1 34 45 (t1 59 45 (t1 58 45 (t1 92 45 (t1 47 45 (t1 32 95 c))))))) = tr c := by
  unfold tr
  by_cases h0 : c = 32
  · subst h0; decide
  by_cases h1 : c = 47
  · subst h1; decide
  by_cases h2 : c = 92
  · subst h2; decide
  by_cases h3 : c = 58
  · subst h3; decide
  by_cases h4 : c = 59
  · subst h4; decide
  by_cases h5 : c = 34
  · subst h5; decide
  by_cases h6 : c = 40
  · subst h6; decide
  by_cases h7 : c = 41
  · subst h7; decide
  simp [t1, h0, h1, h2, h3, h4, h5, h6, h7]
theorem rep_one (x y z : Str) (a b : Nat) (hy : y.cps.toList = [a]) (hz : z.cps.toList = [b]) : (Txt.replace x y z).cps.toList = x.cps.toList.map (t1 a b) := by
  rw [replace_rep x y z (by rw [← str_len, hy]; exact Nat.zero_lt_one), hy, hz, repS_one]; rfl
theorem platA_list (x : Str) : (platA x).cps.toList = repS unk [] 0 (x.cps.toList.map tr) := by
  unfold platA reps
  simp only [List.foldl_cons, List.foldl_nil]
  rw [replace_rep _ _ _ (by decide +kernel), unk_eq]
  rw [rep_one _ _ _ 41 45 (by decide +kernel) (by decide +kernel)]
  rw [rep_one _ _ _ 40 45 (by decide +kernel) (by decide +kernel)]
  rw [rep_one _ _ _ 34 45 (by decide +kernel) (by decide +kernel)]
  rw [rep_one _ _ _ 59 45 (by decide +kernel) (by decide +kernel)]
  rw [rep_one _ _ _ 58 45 (by decide +kernel) (by decide +kernel)]
  rw [rep_one _ _ _ 92 45 (by decide +kernel) (by decide +kernel)]
  rw [rep_one _ _ _ 47 45 (by decide +kernel) (by decide +kernel)]
  rw [rep_one _ _ _ 32 95 (by decide +kernel) (by decide +kernel)]
  have e : (Str.ofString "").cps.toList = [] := by decide +kernel
  rw [e]
  simp only [List.map_map]
  congr 1
  apply List.map_congr_left
  intro c _
  exact tr_comp c
noncomputable abbrev dd : List Nat := [45, 45]
theorem col_rep : ∀ (n : Nat) (l : List Nat) (b : Bool), l.length ≤ n → colL b (repS dd [45] 0 l) = colL b l
  | _, [], b, _ => rfl
  | 0, c :: r, b, h => by simp at h
  | n + 1, c :: r, b, h => by
    rw [repS]
    by_cases q : dd.isPrefixOf (c :: r) = true
    · rw [if_pos q]
      cases r with
      | nil => simp [List.isPrefixOf] at q
      | cons d r' =>
        simp only [List.isPrefixOf, Bool.and_true, Bool.and_eq_true, beq_iff_eq] at q
        obtain ⟨rfl, rfl⟩ := q
        simp only [List.length_cons] at h
        rw [show dd.length - 1 = 1 from rfl, repS_skip, List.drop_succ_cons, List.drop_zero]
        have ih := col_rep n r' true (by omega)
        rw [List.singleton_append, colL, colL, ih]
        simp only [if_true]
        rw [colL]
        simp
    · rw [if_neg q]
      simp only [List.length_cons] at h
      rw [colL, colL, col_rep n r true (by omega), col_rep n r false (by omega)]
theorem col_fix : ∀ (l : List Nat) (b : Bool), repS dd [45] 0 l = l → (b = true → l.head? ≠ some 45) → colL b l = l
  | [], _, _, _ => rfl
  | c :: r, b, h, hb => by
    rw [repS] at h
    by_cases q : dd.isPrefixOf (c :: r) = true
    · rw [if_pos q] at h
      have hp := prefix_len q
      have := congrArg List.length h
      have h2 := repS_len (y := dd) (z := [45]) (by decide) (by decide) r (dd.length - 1) (by simpa using hp)
      simp only [List.length_append, List.length_cons, List.length_nil] at this h2
      omega
    · rw [if_neg q] at h
      have hr : repS dd [45] 0 r = r := (List.cons.inj h).2
      rw [colL]
      by_cases h45 : c = 45
      · have hbf : b = false := by
          cases b with
          | false => rfl
          | true => exact absurd (by rw [h45]; rfl) (hb rfl)
        subst h45; subst hbf
        rw [if_pos rfl]
        simp only [Bool.false_eq_true, if_false]
        rw [col_fix r true hr (fun _ e => q ?_)]
        cases r with
        | nil => cases e
        | cons d r' =>
          simp only [List.head?_cons, Option.some.injEq] at e
          subst e; rfl
      · rw [if_neg h45, col_fix r false hr (fun e => by cases e)]
theorem dd_eq : (Str.ofString "--").cps.toList = dd := by decide +kernel
theorem d_eq : (Str.ofString "-").cps.toList = [45] := by decide +kernel
theorem fix_step (p : Str) : (Txt.replace p (Str.ofString "--") (Str.ofString "-")).cps.toList = repS dd [45] 0 p.cps.toList := by
  rw [replace_rep _ _ _ (by decide +kernel), dd_eq, d_eq]
theorem fixN_list : ∀ (k : Nat) (p : Str), p.length ≤ k → (fixN k p).cps.toList = colL false p.cps.toList
  | 0, p, h => by
    have : p.cps.toList = [] := List.eq_nil_of_length_eq_zero (by rw [str_len]; omega)
    rw [fixN, this]; rfl
  | k + 1, p, h => by
    rw [fixN]
    by_cases q : Txt.replace p (Str.ofString "--") (Str.ofString "-") = p
    · rw [if_pos q]
      have e := fix_step p
      rw [q] at e
      exact (col_fix _ _ e.symm (fun e => by cases e)).symm
    · rw [if_neg q]
      rcases replace_same p (Str.ofString "--") (Str.ofString "-") (by decide +kernel) with e | e
      · exact absurd e q
      · rw [fixN_list k _ (by omega), fix_step, col_rep _ _ _ (Nat.le_refl _)]
theorem rsL_snoc (l : List Nat) (c : Nat) : rsL (l ++ [c]) = if c = 45 then rsL l else l ++ [c] := by
  unfold rsL
  rw [List.reverse_append, List.reverse_cons, List.reverse_nil, List.nil_append, List.cons_append, List.nil_append, List.dropWhile_cons]
  by_cases q : c = 45
  · simp [q]
  · simp [q]
theorem snoc_of (p : Str) (h : p.length ≠ 0) : ∃ l c, p.cps.toList = l ++ [c] := by
  rcases List.eq_nil_or_concat p.cps.toList with q | ⟨l, c, q⟩
  · have := str_len p; rw [q] at this; exact absurd this.symm h
  · exact ⟨l, c, by rw [q, List.concat_eq_append]⟩
theorem item_last {p : Str} {l : List Nat} {c : Nat} (h : p.cps.toList = l ++ [c]) : Txt.item p (-1) = ⟨#[c]⟩ := by
  have hl := str_len p
  rw [h, List.length_append, List.length_cons, List.length_nil] at hl
  have e : p.cps[((-1 : Int) + (p.length : Int)).toNat]? = some c := by
    rw [← Array.getElem?_toList, h, show ((-1 : Int) + (p.length : Int)).toNat = l.length by omega]; simp
  have := StrLaws.at_neg (x := p) (i := -1) (n := c) (by decide) (by omega) e
  unfold Txt.item Txt.charAt
  rw [this]; rfl
theorem slice_butlast {p : Str} {l : List Nat} {c : Nat} (h : p.cps.toList = l ++ [c]) : Txt.slice p none (some (-1)) = ⟨l.toArray⟩ := by
  have hl := str_len p
  rw [h, List.length_append, List.length_cons, List.length_nil] at hl
  have e : Txt.slice p none (some (-1)) = _ := StrLaws.sliceText_to_neg (x := p) (j := -1) (by decide) (by omega)
  rw [e, h, List.drop_zero, show ((-1 : Int) + (p.length : Int) - 0).toNat = l.length by omega, List.take_left]
theorem dropN_list : ∀ (k : Nat) (p : Str), p.length ≤ k → (dropN k p).cps.toList = rsL p.cps.toList
  | 0, p, h => by
    have : p.cps.toList = [] := List.eq_nil_of_length_eq_zero (by rw [str_len]; omega)
    rw [dropN, this]; rfl
  | k + 1, p, h => by
    rw [dropN]
    by_cases h0 : p.length = 0
    · have : p.cps.toList = [] := List.eq_nil_of_length_eq_zero (by rw [str_len]; omega)
      rw [if_neg (fun q => q.1 h0), this]; rfl
    · obtain ⟨l, c, hc⟩ := snoc_of p h0
      have hl := str_len p
      rw [hc, List.length_append, List.length_cons, List.length_nil] at hl
      rw [item_last hc, one_beq c _ 45 d_eq, slice_butlast hc, hc, rsL_snoc]
      by_cases q : c = 45
      · rw [if_pos ⟨h0, by simpa using q⟩, if_pos q, dropN_list k _ (by simp only [Str.length, List.size_toArray]; omega)]
      · rw [if_neg (fun r => q (by simpa using r.2)), if_neg q, hc]
theorem rstrip_list (x : Str) : (Txt.rstripChars x (Str.ofString "-")).cps.toList = rsL x.cps.toList := by
  unfold Txt.rstripChars
  rw [PyProof.Rows.stripBy_eq]
  have e1 : stripLo (Str.ofString "-").cps.contains false x = 0 := rfl
  rw [e1, strSub_toList, List.drop_zero, Nat.sub_zero]
  have e2 : stripHi (Str.ofString "-").cps.contains true x 0 = x.length - (x.cps.toList.reverse.takeWhile (· == 45)).length := by
    unfold stripHi
    rw [List.drop_zero]
    simp only [if_true]
    congr 3
    funext c
    have : (Str.ofString "-").cps = #[45] := by decide +kernel
    rw [this]
    simp
    by_cases q : c = 45 <;> simp [q]
  rw [e2]
  unfold rsL
  have h := List.takeWhile_append_dropWhile (p := fun c : Nat => c == 45) (l := x.cps.toList.reverse)
  generalize hA : List.takeWhile (fun c : Nat => c == 45) x.cps.toList.reverse = A at h ⊢
  generalize hB : List.dropWhile (fun c : Nat => c == 45) x.cps.toList.reverse = B at h ⊢
  have h2 : x.cps.toList = B.reverse ++ A.reverse := by rw [← List.reverse_append, h, List.reverse_reverse]
  have hl := str_len x
  rw [h2, List.length_append, List.length_reverse, List.length_reverse] at hl
  rw [h2, show x.length - A.length = B.reverse.length by rw [List.length_reverse]; omega, List.take_left]
theorem colL_len : ∀ (l : List Nat) (b : Bool), (colL b l).length ≤ l.length
  | [], _ => Nat.le_refl _
  | c :: r, b => by
    have h1 := colL_len r true
    have h2 := colL_len r false
    rw [colL]
    split
    · split
      · simp only [List.length_cons]; omega
      · simp only [List.length_cons]; omega
    · simp only [List.length_cons]; omega
theorem plat_list (l : List Str) (h : (signs0 l).length ≤ 100) : (platT l).cps.toList = nmL (signs0 l).cps.toList := by
  unfold platT
  have hA := platA_list (signs0 l)
  have l1 : (platA (signs0 l)).length ≤ (signs0 l).length := by
    rw [← str_len, hA, ← str_len]
    have := repS_len (y := unk) (z := []) (by decide) (by decide) ((signs0 l).cps.toList.map tr) 0 (Nat.zero_le _)
    rw [List.length_map] at this
    omega
  have hF := fixN_list 100 (platA (signs0 l)) (by omega)
  have l2 : (fixN 100 (platA (signs0 l))).length ≤ 100 := by
    rw [← str_len, hF]
    have := colL_len (platA (signs0 l)).cps.toList false
    rw [str_len] at this
    omega
  rw [dropN_list 100 _ l2, hF, hA]; rfl
theorem law_list (x : Int) : (lawNm x).cps.toList = nmL (signs0 (rows3 x)).cps.toList := by
  unfold lawNm
  have h := signs0_len x
  have e : (Str.ofString "").cps.toList = [] := by decide +kernel
  rw [rstrip_list, nmGo_list 100 _ _ (by omega), e, List.nil_append]; rfl
theorem plat_law (x : Int) : platT (rows3 x) = lawNm x := str_ext ((plat_list _ (Nat.le_trans (signs0_len x) (by decide))).trans (law_list x).symm)
end Mine
end
section
open PySem PySem.W PySem.Calls PyProof.Rows
set_option maxRecDepth 100000
set_option maxHeartbeats 4000000
namespace Mine
open Sem (wp)
theorem slot_set_iter' : Slot "set" "__iter__" "set.__iter__" :=
  .of (owner := "set") (n := "__iter__") (by rw [typeLookup_type, builtinLookup_eq_fast]; kernel_rfl) (by decide +kernel) (by decide +kernel) (by decide +kernel)
    (by first | exact .inl (by decide +kernel) | exact .inr (by decide +kernel)) (by rw [isSubtype_type]; kernel_rfl)
theorem args_set_iter' (a : Value) : argsOk "set.__iter__" ⟨[a], []⟩ := by
  unfold argsOk; rw [signature?_of (id := "set.__iter__") (n := ['_', '_', 'r', 'e', 't', 'i', '_', '_']) (o := ['t', 'e', 's']) (by kernel_rfl) F.owner_set]; kernel_rfl
theorem entry_set_iter' : entryFor table "set.__iter__" = some Builtin.«frozenset.__iter__» :=
  entryFor_alias (id' := "frozenset.__iter__") (by kernel_rfl) (by first | rfl | decide +kernel | (unfold String.splitOn; simp +decide [String.splitOnAux])) (by decide +kernel) (by kernel_rfl)
theorem owner_seti : Manifest.owners.lookup (String.ofList ['r', 'o', 't', 'a', 'r', 'e', 't', 'i', '_', 't', 'e', 's'].reverse) = some Manifest.sig_set_iterator := by kernel_rfl
theorem slot_seti_next : Slot "set_iterator" "__next__" "set_iterator.__next__" :=
  .of (owner := "set_iterator") (n := "__next__") (by rw [typeLookup_type, builtinLookup_eq_fast]; kernel_rfl) (by decide +kernel) (by decide +kernel) (by decide +kernel)
    (by first | exact .inl (by decide +kernel) | exact .inr (by decide +kernel)) (by rw [isSubtype_type]; kernel_rfl)
theorem args_seti_next (a : Value) : argsOk "set_iterator.__next__" ⟨[a], []⟩ := by
  unfold argsOk; rw [signature?_of (id := "set_iterator.__next__") (n := ['_', '_', 't', 'x', 'e', 'n', '_', '_']) (o := ['r', 'o', 't', 'a', 'r', 'e', 't', 'i', '_', 't', 'e', 's']) (by kernel_rfl) owner_seti]; kernel_rfl
theorem entry_seti_next : entryFor table "set_iterator.__next__" = some Builtin.«set_iterator.__next__» := entryFor_of_tree (by kernel_rfl)
section
variable {prog : Program} {w : World} {A : Around} {E : Value → Shared → Prop} {s : Shared} {S : Addr} {led : Bool}
noncomputable abbrev setEmpty (led : Bool) : Obj := { cls := .type "set", data := .set #[] 0 (SetTable.fresh 0 0 led) }
theorem fits_fresh : (SetTable.fresh 0 0 led).fits (#[] : Array (Int × Value)).size = true := by cases led <;> rfl
theorem walk_set {Q : Array (Int × Value) → Shared → Prop} (hS : s.heap.get? S = some (setEmpty led)) (h : Q #[] s) : wpAny (model prog w) A (setWalk S) Q E s := by
  have hn := fits_fresh (led := led)
  unfold setWalk setsByText
  refine wpAny_bind (wpAny_setState_of hS rfl hn ?_)
  refine wpAny_bind (wpAny_bind (wpAny_askSetting (wpAny_pure ?_)))
  dsimp only
  cases (model prog w).w.params.followText "set-order" with
  | true =>
    simp only [if_true]
    exact wpAny_bind (wpAny_askSetting (wpAny_pure h))
  | false => cases led <;> exact wpAny_of_eq (a := #[]) rfl h
theorem setNext_empty {Q : Option (Value × Nat) → Shared → Prop} (hS : s.heap.get? S = some (setEmpty led)) (h : Q none s) : wpAny (model prog w) A (setNext S 0 0 0) Q E s := by
  have hn := fits_fresh (led := led)
  unfold setNext setsByText
  refine wpAny_bind (wpAny_setState_of hS rfl hn ?_)
  refine wpAny_bind (wpAny_bind (wpAny_askSetting (wpAny_pure ?_)))
  dsimp only
  cases (model prog w).w.params.followText "set-order" with
  | true =>
    simp only [if_true]
    show wpAny _ _ (setWalk S >>= _) _ _ _
    exact wpAny_bind (walk_set hS (wpAny_pure h))
  | false => cases led <;> exact wpAny_of_eq (a := none) rfl h
theorem iter_set {Q : Value → Shared → Prop} (hS : s.heap.get? S = some (setEmpty led))
    (hQ : Q (.ref s.heap.objs.size) { s with heap := s.heap.push { cls := .type "set_iterator", data := .fields #[.int 0 0, .int 0 0, .ref S, .int 0 0, .int 0 0] } }) :
    wpAny (model prog w) A (pyIter (.ref S)) Q E s := by
  have hT : s.TypeIs (.ref S) "set" := ⟨_, hS, rfl⟩
  refine wpAny_pyIter_slot hT slot_set_iter' (wpAny_call_entry slot_set_iter' hT entry_set_iter' ?_ (args_set_iter' _))
  have hn := fits_fresh (led := led)
  show wpAny _ _ (do
    let n ← Builtin.Frozenset.sizeOf S
    let first ← if ← setDrawn S then newTuple ((← drawOrder n (List.range n)).map fun (i : Nat) => rawInt i) else pure (rawInt 0)
    ret (← newFields "set_iterator" [first, rawInt 0, .ref S, rawInt n, rawInt (← setEpoch S)])) _ _ s
  unfold Builtin.Frozenset.sizeOf setDrawn setEpoch setsByText
  refine wpAny_bind (wpAny_bind (wpAny_setEntries_of hS rfl hn (wpAny_pure ?_)))
  refine wpAny_bind (wpAny_bind (wpAny_setState_of hS rfl hn ?_))
  refine wpAny_bind (wpAny_bind (wpAny_askSetting (wpAny_pure ?_)))
  refine wpAny_pure ?_
  have hb : ∀ b : Bool, (!b && (!(SetTable.fresh 0 0 led).plain && decide ((#[] : Array (Int × Value)).size > 1))) = false := fun b => by cases b <;> rfl
  have hb' := hb ((model prog w).w.params.followText "set-order")
  show wpAny _ _ (if (!((model prog w).w.params.followText "set-order") && (!(SetTable.fresh 0 0 led).plain && decide ((#[] : Array (Int × Value)).size > 1))) = true then _ else _) _ _ _
  rw [hb']
  simp only [Bool.false_eq_true, if_false]
  refine wpAny_bind (wpAny_pure ?_)
  refine wpAny_bind (wpAny_bind (wpAny_setState_of hS rfl hn (wpAny_pure ?_)))
  refine wpAny_bind (wpAny_newObj_type (wpAny_pure ⟨_, rfl, "set_iterator", _, ⟨_, Heap.get?_push_size _ rfl, rfl⟩, slot_seti_next.lookup, hQ⟩))
theorem next_set {it : Addr} {Q : Option Value → Shared → Prop} (hh : A.handled = none) (hS : s.heap.get? S = some (setEmpty led))
    (hi : s.heap.get? it = some { cls := .type "set_iterator", data := .fields #[.int 0 0, .int 0 0, .ref S, .int 0 0, .int 0 0] })
    (hQ : ∀ h', Heap.ExtBut it s.heap h' → Q none { s with heap := h' }) : wpAny (model prog w) A (pyNext (.ref it)) Q E s := by
  have hT : s.TypeIs (.ref it) "set_iterator" := ⟨_, hi, rfl⟩
  have hn := fits_fresh (led := led)
  unfold pyNext
  refine wpAny_bind (wpAny_attempt (wpAny_callSpecial?_slot (name := Str.ofString "__next__") hT slot_seti_next
    (wpAny_call_entry slot_seti_next hT entry_seti_next ?_ (args_seti_next _))))
  show wpAny _ _ (fieldsOf (.ref it) >>= _) _ _ s
  refine wpAny_bind (wpAny_fieldsOf hi rfl ?_)
  dsimp only
  refine wpAny_bind (wpAny_setEntries_of hS rfl hn ?_)
  rw [if_neg (show ¬ (((#[] : Array (Int × Value)).size : Int) != 0) = true from by decide)]
  refine wpAny_bind (setNext_empty hS ?_)
  dsimp only
  refine wpAny_bind (wpAny_setField hi rfl (by simp) ?_)
  show wpAny _ _ (newExc (.type "StopIteration") [] >>= _) _ _ _
  refine wpAny_bind ?_
  simp only [newExc, newTuple]
  refine wpAny_bind (wpAny_newObj_type ?_ (by size_fits))
  refine wpAny_bind (m := firstArgMember _ _) (wpAny_of_eq (a := Value.none) (by first | rfl | (simp only [firstArgMember]; rfl)) ?_)
  refine wpAny_newObj_type ?_ (by size_fits)
  simp only [raiseNew]
  refine wpAny_bind (wpAny_handled ?_)
  first | rw [show A.in1.handled = none from hh] | rw [hh]
  refine wpAny_bind (wpAny_pure (wpAny_throw ?_))
  refine wpAny_bind (wpAny_isInstance (T := "StopIteration") (b := true) ⟨_, Heap.get?_push_size _ rfl, rfl⟩ isSubtype_stop ?_)
  exact wpAny_pure (hQ _ (((Heap.SameBut.update ..).extBut.push _).push _))
end
end Mine
namespace Mine
theorem for_set {prog : Program} {w : World} {A : Around} {E : Value → Shared → Prop} {env : Env} {s₁ : Shared} {Q : Flow → Shared → Prop} {S : Addr} {led : Bool} {target : Expr} {body : List Stmt} (hh : A.handled = none) (hS : s₁.heap.get? S = some (setEmpty led))
    (hQ : ∀ h', Kp [] s₁.heap h' → Q .next { s₁ with heap := h' }) : ForAt prog w A env target body Q E (.ref S) s₁ := by
  unfold ForAt
  refine iter_set hS ?_
  refine codeAny_forLoop_any (fun _ s' => s' = { s₁ with heap := s₁.heap.push { cls := .type "set_iterator", data := .fields #[.int 0 0, .int 0 0, .ref S, .int 0 0, .int 0 0] } }) ?_ 0 rfl
  rintro k s' rfl
  have up : ∀ b o, s₁.heap.get? b = some o → (s₁.heap.push { cls := .type "set_iterator", data := .fields #[.int 0 0, .int 0 0, .ref S, .int 0 0, .int 0 0] }).get? b = some o := fun b o e => Heap.get?_push_of_some _ e
  refine next_set hh (up _ _ hS) (Heap.get?_push_size _ rfl) fun h' hx => ?_
  refine wpAny_execs_nil ?_
  exact hQ h' (Kp.of fun b o e => hx b o (Nat.ne_of_lt (Heap.lt_size e)) (up b o e))
end Mine
end
section
open PySem PySem.W PySem.Calls PyProof.Rows
open Sem (wp)
set_option maxRecDepth 100000
set_option maxHeartbeats 4000000
namespace Mine
theorem zip_no_len : typeLookup (.type "zip") "__len__" = pure none := by rw [typeLookup_type, builtinLookup_eq_fast]; kernel_rfl
theorem zip_no_hint : typeLookup (.type "zip") "__length_hint__" = pure none := by rw [typeLookup_type, builtinLookup_eq_fast]; kernel_rfl
/-- a zip whose owned tuple T is held by another -/
noncomputable abbrev IsZipB (h : Heap) (z TI TO T : Addr) (f : Bool) : Prop :=
  h.get? z = some { cls := .type "zip", dict := none, data := .fields #[rawInt T, .bool f, .bool false, .ref TI, .ref TO], slots := #[] }
section
variable {prog : Program} {w : World} {A : Around} {E : Value → Shared → Prop} {s : Shared}
theorem wpAny_loadIfAlive {M : Model} {a : Addr} {Q : Option Obj → Shared → Prop} (h : Q (s.heap.get? a) s) : wpAny M A (loadIfAlive a) Q E s := fun Γ p hΓ => by
  unfold loadIfAlive
  rw [Sem.wp_loadIfAlive]
  exact (wpAny_pure h : wpAny M A (pure (s.heap.get? a)) Q E s) Γ p hΓ
theorem held_free {z TI TO T : Addr} {f : Bool} {oT : Obj} {Q : Bool → Shared → Prop} (hz : IsZipB s.heap z TI TO T f) (hT : s.heap.get? T = some oT)
    (hQ : ∀ h', IsZipB h' z TI TO T true → Heap.SameBut z s.heap h' → Q false { s with heap := h' }) : wpAny (model prog w) A (Builtin.SmallTypes.ownedTupleIsFree (.ref z)) Q E s := by
  unfold Builtin.SmallTypes.ownedTupleIsFree
  refine wpAny_bind (wpAny_field hz rfl (x := rawInt T) rfl ?_)
  show wpAny _ _ (loadIfAlive (Int.toNat (T : Int)) >>= _) _ _ _
  refine wpAny_bind (wpAny_loadIfAlive ?_)
  rw [Int.toNat_natCast, hT]
  show wpAny _ _ (field (.ref z) 1 >>= _) _ _ _
  refine wpAny_bind (wpAny_field hz rfl (x := .bool f) rfl ?_)
  cases f with
  | true => 
    show wpAny _ _ (pure false) _ _ _
    exact wpAny_pure (hQ s.heap hz ⟨rfl, fun _ _ => rfl⟩)
  | false =>
    show wpAny _ _ (setField (.ref z) 1 (.bool true) >>= fun _ => pure false) _ _ _
    exact wpAny_bind (wpAny_setField_rec hz (by simp) fun h' hz' hs' => wpAny_pure (hQ h' hz' hs'))
theorem zipB_item {z TI TO i1 i2 l1 l2 T : Addr} {k1 k2 : Nat} {xs ys : Array Value} {x y : Value} {f : Bool} {oT : Obj} {Q : Value → Shared → Prop} (D : ZipApart z TI TO i1 i2 l1 l2)
    (hz : IsZipB s.heap z TI TO T f) (hT : s.heap.get? T = some oT) (hTI : IsPair s.heap TI (.ref i1) (.ref i2))
    (h1 : s.heap.IsListIter i1 l1 k1) (h2 : s.heap.IsListIter i2 l2 k2) (hl1 : s.heap.IsList l1 xs) (hl2 : s.heap.IsList l2 ys) (hx : xs[k1]? = some x) (hy : ys[k2]? = some y)
    (hQ : ∀ h', IsZipB h' z TI TO T true → h'.IsListIter i1 l1 (k1 + 1) → h'.IsListIter i2 l2 (k2 + 1) → IsPair h' s.heap.objs.size x y →
      (∀ c o, c ≠ z → c ≠ i1 → c ≠ i2 → s.heap.get? c = some o → h'.get? c = some o) → Q (.ref s.heap.objs.size) { s with heap := h' }) :
    wpAny (model prog w) A (Builtin.«zip.__next__» ⟨[.ref z], []⟩) (fun fin s' => ∃ v, fin = .done (.ret v) ∧ Q v s') E s := by
  show wpAny _ _ (field (.ref z) 2 >>= _) _ _ _
  refine wpAny_bind (wpAny_field hz rfl (x := .bool false) rfl ?_)
  show wpAny _ _ (field (.ref z) 3 >>= _) _ _ _
  refine wpAny_bind (wpAny_field hz rfl (x := .ref TI) rfl ?_)
  refine wpAny_bind (wpAny_seqItems hTI rfl ?_)
  show wpAny _ _ (Builtin.SmallTypes.ownedTupleIsFree (.ref z) >>= _) _ _ _
  refine wpAny_bind (held_free hz hT fun h₁ hz₁ hs₁ => ?_)
  simp only [Bool.false_eq_true, if_false]
  refine wpAny_bind ?_
  rw [← Array.forIn_toList]
  simp only [List.forIn_cons, List.forIn_nil]
  refine wpAny_bind (wpAny_bind (wpAny_holding ?_))
  show wpAny _ _ (Builtin.SmallTypes.nextOf (.ref i1) >>= _) _ _ _
  refine wpAny_bind (wpAny_nextOf_list_item (h1.extBut hs₁.extBut D.i1z) (hl1.extBut hs₁.extBut D.l1z) hx fun h₂ h1₂ hs₂ => wpAny_pure (wpAny_pure ?_))
  refine wpAny_bind (wpAny_bind (wpAny_holding ?_))
  show wpAny _ _ (Builtin.SmallTypes.nextOf (.ref i2) >>= _) _ _ _
  refine wpAny_bind (wpAny_nextOf_list_item ((h2.extBut hs₁.extBut D.i2z).extBut hs₂.extBut D.i12.symm) ((hl2.extBut hs₁.extBut D.l2z).extBut hs₂.extBut D.l2i1) hy fun h₃ h2₃ hs₃ => wpAny_pure (wpAny_pure (wpAny_pure ?_)))
  refine wpAny_bind (wpAny_newTuple (hsz := by show 2 ≤ sizeLine; decide) (wpAny_pure ⟨_, rfl, ?_⟩))
  have hsz : h₃.objs.size = s.heap.objs.size := by rw [hs₃.1, hs₂.1, hs₁.1]
  have hk₃ : ∀ c o, c ≠ z → c ≠ i1 → c ≠ i2 → s.heap.get? c = some o → h₃.get? c = some o := fun c o c1 c3 c4 e =>
    hs₃.extBut _ _ c4 (hs₂.extBut _ _ c3 (hs₁.extBut _ _ c1 e))
  have hz₃ : IsZipB h₃ z TI TO T true := hs₃.extBut _ _ D.i2z.symm (hs₂.extBut _ _ D.i1z.symm hz₁)
  have h1₃ : h₃.IsListIter i1 l1 (k1 + 1) := h1₂.extBut hs₃.extBut D.i12
  show Q (.ref h₃.objs.size) _
  rw [hsz]
  refine hQ (h₃.push _) (Heap.get?_push_of_some _ hz₃) (h1₃.at fun o e => Heap.get?_push_of_some _ e) (h2₃.at fun o e => Heap.get?_push_of_some _ e) ?_ fun c o c1 c3 c4 e => Heap.get?_push_of_some _ (hk₃ c o c1 c3 c4 e)
  rw [← hsz]; exact Heap.get?_push_size _ rfl
theorem zipB_end {z TI TO i1 i2 l1 l2 T : Addr} {k1 k2 : Nat} {xs ys : Array Value} {f : Bool} {oT : Obj} {Q : Fin → Shared → Prop} (hh : A.handled = none) (D : ZipApart z TI TO i1 i2 l1 l2)
    (hz : IsZipB s.heap z TI TO T f) (hT : s.heap.get? T = some oT) (hTI : IsPair s.heap TI (.ref i1) (.ref i2))
    (h1 : s.heap.IsListIter i1 l1 k1) (h2 : s.heap.IsListIter i2 l2 k2) (hl1 : s.heap.IsList l1 xs) (hl2 : s.heap.IsList l2 ys) (hend : xs[k1]? = none ∨ ys[k2]? = none)
    (hE : ∀ h' e, (∀ c o, c ≠ z → c ≠ i1 → c ≠ i2 → s.heap.get? c = some o → h'.get? c = some o) → (∃ o, h'.get? e = some o ∧ o.cls = .type "StopIteration") → E (.ref e) { s with heap := h' }) :
    wpAny (model prog w) A (Builtin.«zip.__next__» ⟨[.ref z], []⟩) Q E s := by
  show wpAny _ _ (field (.ref z) 2 >>= _) _ _ _
  refine wpAny_bind (wpAny_field hz rfl (x := .bool false) rfl ?_)
  show wpAny _ _ (field (.ref z) 3 >>= _) _ _ _
  refine wpAny_bind (wpAny_field hz rfl (x := .ref TI) rfl ?_)
  refine wpAny_bind (wpAny_seqItems hTI rfl ?_)
  show wpAny _ _ (Builtin.SmallTypes.ownedTupleIsFree (.ref z) >>= _) _ _ _
  refine wpAny_bind (held_free hz hT fun h₁ hz₁ hs₁ => ?_)
  simp only [Bool.false_eq_true, if_false]
  refine wpAny_bind ?_
  rw [← Array.forIn_toList]
  simp only [List.forIn_cons, List.forIn_nil]
  refine wpAny_bind (wpAny_bind (wpAny_holding ?_))
  show wpAny _ _ (Builtin.SmallTypes.nextOf (.ref i1) >>= _) _ _ _
  cases hx : xs[k1]? with
  | none =>
    refine wpAny_bind (wpAny_nextOf_list_end hh (h1.extBut hs₁.extBut D.i1z) (hl1.extBut hs₁.extBut D.l1z) hx fun h₂ e hs₂ he => ?_)
    exact hE h₂ e (fun c o c1 c3 _ x => hs₂ _ _ c3 (hs₁.extBut _ _ c1 x)) he
  | some x =>
    have hy : ys[k2]? = none := by rcases hend with h | h; rw [hx] at h; cases h; exact h
    refine wpAny_bind (wpAny_nextOf_list_item (h1.extBut hs₁.extBut D.i1z) (hl1.extBut hs₁.extBut D.l1z) hx fun h₂ h1₂ hs₂ => wpAny_pure (wpAny_pure ?_))
    refine wpAny_bind (wpAny_bind (wpAny_holding ?_))
    show wpAny _ _ (Builtin.SmallTypes.nextOf (.ref i2) >>= _) _ _ _
    refine wpAny_bind (wpAny_nextOf_list_end hh ((h2.extBut hs₁.extBut D.i2z).extBut hs₂.extBut D.i12.symm) ((hl2.extBut hs₁.extBut D.l2z).extBut hs₂.extBut D.l2i1) hy fun h₄ e hs₄ he => ?_)
    exact hE h₄ e (fun c o c1 c3 c4 x => hs₄ _ _ c4 (hs₂.extBut _ _ c3 (hs₁.extBut _ _ c1 x))) he
theorem pyNext_zipB_item {z TI TO i1 i2 l1 l2 T : Addr} {k1 k2 : Nat} {xs ys : Array Value} {x y : Value} {f : Bool} {oT : Obj} {Q : Option Value → Shared → Prop} (D : ZipApart z TI TO i1 i2 l1 l2)
    (hz : IsZipB s.heap z TI TO T f) (hT : s.heap.get? T = some oT) (hTI : IsPair s.heap TI (.ref i1) (.ref i2))
    (h1 : s.heap.IsListIter i1 l1 k1) (h2 : s.heap.IsListIter i2 l2 k2) (hl1 : s.heap.IsList l1 xs) (hl2 : s.heap.IsList l2 ys) (hx : xs[k1]? = some x) (hy : ys[k2]? = some y)
    (hQ : ∀ h', IsZipB h' z TI TO T true → h'.IsListIter i1 l1 (k1 + 1) → h'.IsListIter i2 l2 (k2 + 1) → IsPair h' s.heap.objs.size x y →
      (∀ c o, c ≠ z → c ≠ i1 → c ≠ i2 → s.heap.get? c = some o → h'.get? c = some o) → Q (some (.ref s.heap.objs.size)) { s with heap := h' }) :
    wpAny (model prog w) A (pyNext (.ref z)) Q E s := by
  have hT' : s.TypeIs (.ref z) "zip" := ⟨_, hz, rfl⟩
  unfold pyNext
  exact wpAny_bind (wpAny_attempt (wpAny_callSpecial?_slot (name := Str.ofString "__next__") hT' F.slot_zip_next
    (wpAny_call_entry F.slot_zip_next hT' F.entry_zip_next
      (zipB_item D hz hT hTI h1 h2 hl1 hl2 hx hy fun h' a1 a2 a3 a4 a5 => wpAny_pure (hQ h' a1 a2 a3 a4 a5)) (F.args_zip_next_1 _))))
theorem pyNext_zipB_end {z TI TO i1 i2 l1 l2 T : Addr} {k1 k2 : Nat} {xs ys : Array Value} {f : Bool} {oT : Obj} {Q : Option Value → Shared → Prop} (hh : A.handled = none) (D : ZipApart z TI TO i1 i2 l1 l2)
    (hz : IsZipB s.heap z TI TO T f) (hT : s.heap.get? T = some oT) (hTI : IsPair s.heap TI (.ref i1) (.ref i2))
    (h1 : s.heap.IsListIter i1 l1 k1) (h2 : s.heap.IsListIter i2 l2 k2) (hl1 : s.heap.IsList l1 xs) (hl2 : s.heap.IsList l2 ys) (hend : xs[k1]? = none ∨ ys[k2]? = none)
    (hQ : ∀ h', (∀ c o, c ≠ z → c ≠ i1 → c ≠ i2 → s.heap.get? c = some o → h'.get? c = some o) → Q none { s with heap := h' }) : wpAny (model prog w) A (pyNext (.ref z)) Q E s := by
  have hT' : s.TypeIs (.ref z) "zip" := ⟨_, hz, rfl⟩
  unfold pyNext
  refine wpAny_bind (wpAny_attempt (wpAny_callSpecial?_slot (name := Str.ofString "__next__") hT' F.slot_zip_next
    (wpAny_call_entry F.slot_zip_next hT' F.entry_zip_next (zipB_end hh D hz hT hTI h1 h2 hl1 hl2 hend fun h' e hk he => ?_) (F.args_zip_next_1 _))))
  obtain ⟨o, ho, hc⟩ := he
  refine wpAny_bind (wpAny_isInstance (T := "StopIteration") (b := true) ⟨o, ho, hc⟩ isSubtype_stop ?_)
  exact wpAny_pure (hQ _ hk)
/-- list(zip(..)) at its i-th item -/
structure ZSt (h0 : Heap) (B z TI TO i1 i2 l1 l2 S : Addr) (xs ys : Array Value) (i : Nat) (acc : Array Value) (h : Heap) : Prop where
  zip : ∃ T f oT, IsZipB h z TI TO T f ∧ h.get? T = some oT ∧ T ∉ [z, i1, i2]
  ti : IsPair h TI (.ref i1) (.ref i2)
  to : ∃ o, h.get? TO = some o
  it1 : h.IsListIter i1 l1 i
  it2 : h.IsListIter i2 l2 i
  li1 : h.IsList l1 xs
  li2 : h.IsList l2 ys
  siz : acc.size = i
  tups : ∀ (j : Nat) x y, j < i → xs[j]? = some x → ys[j]? = some y → ∃ T, acc[j]? = some (.ref T) ∧ IsPair h T x y ∧ B ≤ T ∧ T ∉ [z, TO, i1, i2, S]
  keep : ∀ b o, b ∉ [z, TO, i1, i2, S] → h0.get? b = some o → h.get? b = some o
theorem ZSt.at {h0 h h' : Heap} {B z TI TO i1 i2 l1 l2 S : Addr} {xs ys : Array Value} {i : Nat} {acc : Array Value} (x : ZSt h0 B z TI TO i1 i2 l1 l2 S xs ys i acc h) (hS : S ∉ [z, TI, i1, i2, l1, l2]) (hSO : S ≠ TO)
    (hl : ∀ T f, IsZipB h z TI TO T f → T ≠ S) (k : ∀ b o, b ≠ S → h.get? b = some o → h'.get? b = some o) : ZSt h0 B z TI TO i1 i2 l1 l2 S xs ys i acc h' := by
  simp only [List.mem_cons, List.not_mem_nil, or_false, not_or] at hS
  obtain ⟨⟨T, f, oT, a1, a2, a3⟩, ti, ⟨oO, tO⟩, it1, it2, li1, li2, siz, tups, keep⟩ := x
  refine ⟨⟨T, f, oT, k _ _ (Ne.symm hS.1) a1, k _ _ (hl T f a1) a2, a3⟩, k _ _ (Ne.symm hS.2.1) ti, ⟨oO, k _ _ (Ne.symm hSO) tO⟩, it1.at fun o e => k _ o (Ne.symm hS.2.2.1) e, it2.at fun o e => k _ o (Ne.symm hS.2.2.2.1) e,
    li1.at fun o e => k _ o (Ne.symm hS.2.2.2.2.1) e, li2.at fun o e => k _ o (Ne.symm hS.2.2.2.2.2) e, siz, fun j x y hj hx hy => ?_, fun b o hb e => k b o (fun q => hb (by simp [q])) (keep b o hb e)⟩
  obtain ⟨T', b1, b2, b3, b4⟩ := tups j x y hj hx hy
  exact ⟨T', b1, k _ _ (fun q => b4 (by simp [q])) b2, b3, b4⟩
theorem zip_loop {R : Result → Shared → Prop} {h0 : Heap} {B z TI TO i1 i2 l1 l2 S : Addr} {xs ys : Array Value} {n : Nat} {res : Value} (hh : A.handled = none) (D : ZipApart z TI TO i1 i2 l1 l2) (hS : S ∉ [z, TI, i1, i2, l1, l2]) (hSO : S ≠ TO)
    (hn : n = min xs.size ys.size) (hsz : n ≤ sizeLine) :
    ∀ (k i : Nat) (s : Shared) (acc : Array Value) (c : Nat), n - i = k → i ≤ n → B ≤ s.heap.objs.size → ZSt h0 B z TI TO i1 i2 l1 l2 S xs ys i acc s.heap → (∀ T f, IsZipB s.heap z TI TO T f → T ≠ S) →
    s.heap.get? S = some { cls := .type "list", dict := none, data := .seq acc c, slots := #[] } →
    (∀ h' acc' c' tk, ZSt h0 B z TI TO i1 i2 l1 l2 S xs ys n acc' h' ∨ ((∀ b o, b ∉ [z, TO, i1, i2, S] → h0.get? b = some o → h'.get? b = some o) ∧ acc'.size = n ∧ ∀ (j : Nat) x y, j < n → xs[j]? = some x → ys[j]? = some y → ∃ T, acc'[j]? = some (.ref T) ∧ IsPair h' T x y ∧ B ≤ T ∧ T ∉ [z, TO, i1, i2, S]) →
      h'.get? S = some { cls := .type "list", dict := none, data := .seq acc' c', slots := #[] } → R (.ok (.ret res)) { s with heap := h', toks := tk }) →
    codeAny (model prog w) A (.builtin "list.extend.loop" ⟨[.ref S, .ref z, res], []⟩) R s := by
  have hS' := hS
  simp only [List.mem_cons, List.not_mem_nil, or_false, not_or] at hS
  intro k
  induction k with
  | zero =>
    intro i s acc c hk hi hB hst hTS hg hR
    have hin : i = n := by omega
    subst hin
    obtain ⟨⟨T, f, oT, a1, a2, a3⟩, ti, ⟨oO, tO⟩, it1, it2, li1, li2, siz, tups, keep⟩ := hst
    have hend : xs[i]? = none ∨ ys[i]? = none := by
      rcases Nat.le_total xs.size ys.size with h | h
      · exact .inl (Array.getElem?_eq_none (by rw [hn, Nat.min_eq_left h]; exact Nat.le_refl _))
      · exact .inr (Array.getElem?_eq_none (by rw [hn, Nat.min_eq_right h]; exact Nat.le_refl _))
    refine codeAny_builtin F.entry_extend_loop ?_
    rw [Around.under_plainId F.plain_extend_loop _]
    show wpAny _ A.in1 (pyNext (.ref z) >>= _) _ _ s
    refine wpAny_bind (pyNext_zipB_end hh D a1 a2 ti it1 it2 li1 li2 hend fun h' hk' => ?_)
    refine wpAny_pure (hR h' acc c s.toks (.inr ⟨fun b o hb e => ?_, siz, fun j x y hj hx hy => ?_⟩) (hk' _ _ hS.1 hS.2.2.1 hS.2.2.2.1 hg))
    · simp only [List.mem_cons, List.not_mem_nil, or_false, not_or] at hb
      exact hk' b o hb.1 hb.2.2.1 hb.2.2.2.1 (keep b o (by simp [hb]) e)
    · obtain ⟨T', b1, b2, b3, b4⟩ := tups j x y hj hx hy
      have b4' := b4
      simp only [List.mem_cons, List.not_mem_nil, or_false, not_or] at b4
      exact ⟨T', b1, hk' _ _ b4.1 b4.2.2.1 b4.2.2.2.1 b2, b3, b4'⟩
  | succ k ih =>
    intro i s acc c hk hi hB hst hTS hg hR
    have hlt : i < n := by omega
    obtain ⟨⟨T, f, oT, a1, a2, a3⟩, ti, ⟨oO, tO⟩, it1, it2, li1, li2, siz, tups, keep⟩ := hst
    have hix : i < xs.size := Nat.lt_of_lt_of_le hlt (by rw [hn]; exact Nat.min_le_left ..)
    have hiy : i < ys.size := Nat.lt_of_lt_of_le hlt (by rw [hn]; exact Nat.min_le_right ..)
    refine codeAny_builtin F.entry_extend_loop ?_
    rw [Around.under_plainId F.plain_extend_loop _]
    show wpAny _ A.in1 (pyNext (.ref z) >>= _) _ _ s
    refine wpAny_bind (pyNext_zipB_item D a1 a2 ti it1 it2 li1 li2 (Array.getElem?_eq_getElem hix) (Array.getElem?_eq_getElem hiy) fun h' hz' n1 n2 hp hk' => ?_)
    have lt : ∀ {c o}, s.heap.get? c = some o → c ≠ s.heap.objs.size := fun e => Nat.ne_of_lt (Heap.lt_size e)
    have hg' := hk' _ _ hS.1 hS.2.2.1 hS.2.2.2.1 hg
    have a3' := a3
    simp only [List.mem_cons, List.not_mem_nil, or_false, not_or] at a3'
    show wpAny _ A.in1 (updateSeq S (·.push (.ref s.heap.objs.size)) >>= _) _ _ _
    refine wpAny_bind ?_
    have hfresh : ∀ b, (∃ o, s.heap.get? b = some o) → b ≠ s.heap.objs.size := fun b ⟨o, e⟩ => lt e
    have oth : ∀ b o, b ≠ S → h'.get? b = some o → (h'.update S (Obj.mapSeq (·.push (Value.ref s.heap.objs.size)))).get? b = some o := fun b o hb e => (Heap.get?_update_other _ _ (Ne.symm hb)).trans e
    obtain ⟨_, e1, _⟩ := id it1
    obtain ⟨_, e2, _⟩ := id it2
    have hnew : s.heap.objs.size ∉ [z, TO, i1, i2, S] := by
      simp only [List.mem_cons, List.not_mem_nil, or_false, not_or]
      exact ⟨Ne.symm (lt a1), Ne.symm (lt tO), Ne.symm (lt e1), Ne.symm (lt e2), Ne.symm (lt hg)⟩
    have st' : ZSt h0 B z TI TO i1 i2 l1 l2 S xs ys (i + 1) (acc.push (.ref s.heap.objs.size)) h' := by
      refine ⟨⟨T, true, oT, hz', hk' _ _ a3'.1 a3'.2.1 a3'.2.2 a2, a3⟩, hk' _ _ D.TIz D.TIi1 D.TIi2 ti, ⟨oO, hk' _ _ D.TOz D.TOi1 D.TOi2 tO⟩, n1, n2, li1.at fun o e => hk' _ o D.l1z D.l1i1 D.l1i2 e, li2.at fun o e => hk' _ o D.l2z D.l2i1 D.l2i2 e, by rw [Array.size_push, siz], fun j x y hj hx hy => ?_, fun b o hb e => ?_⟩
      · by_cases q : j < i
        · obtain ⟨T', b1, b2, b3, b4⟩ := tups j x y q hx hy
          have b4' := b4
          simp only [List.mem_cons, List.not_mem_nil, or_false, not_or] at b4
          exact ⟨T', by rw [Array.getElem?_push, if_neg (by omega)]; exact b1, hk' _ _ b4.1 b4.2.2.1 b4.2.2.2.1 b2, b3, b4'⟩
        · obtain rfl : j = i := by omega
          rw [Array.getElem?_eq_getElem hix] at hx
          rw [Array.getElem?_eq_getElem hiy] at hy
          cases hx; cases hy
          exact ⟨s.heap.objs.size, by rw [Array.getElem?_push, if_pos siz.symm], hp, hB, hnew⟩
      · have hb' := hb
        simp only [List.mem_cons, List.not_mem_nil, or_false, not_or] at hb
        exact hk' b o hb.1 hb.2.2.1 hb.2.2.2.1 (keep b o hb' e)
    have hTS' : ∀ T' f', IsZipB h' z TI TO T' f' → T' ≠ S := fun T' f' q => by
      have := hz'.symm.trans q
      have e : T = T' := by
        injection this with this
        injection this with _ _ this _
        injection this with this
        have := congrArg (fun a : Array Value => a[0]?) this
        simp only [rawInt] at this
        have h9 : (T : Int) = (T' : Int) := by simpa using this
        exact Int.ofNat_inj.mp h9
      rw [← e]; exact hTS T f a1
    refine wpAny_updateSeq hg' rfl (wpAny_pure ⟨plainId_quiet F.plain_extend_loop _, ih (i + 1) _ (acc.push (.ref s.heap.objs.size)) _ (by omega) hlt ?_ (st'.at hS' hSO hTS' oth) (fun T' f' q => hTS' T' f' ?_) (Heap.get?_update_self _ hg' rfl) fun h'' acc' c' tk hst hS'' => ?_⟩)
      (by rw [siz]; omega) (by show (acc.push _).size ≤ sizeLine + 1; rw [Array.size_push, siz]; omega)
    · show B ≤ (h'.update S _).objs.size
      rw [Heap.size_update]
      exact Nat.le_trans hB (Nat.le_of_lt (Heap.lt_size hp))
    · exact (Heap.get?_update_other _ _ hS.1).symm.trans q
    · exact hR h'' acc' c' tk hst hS''
end
section
variable {prog : Program} {w : World} {A : Around} {E : Value → Shared → Prop} {s : Shared}
theorem zip_loop0 {R : Result → Shared → Prop} {h0 : Heap} {z TI TO i1 i2 l1 l2 S : Addr} {xs ys : Array Value} {n c : Nat} {res a b : Value} (hh : A.handled = none) (D : ZipApart z TI TO i1 i2 l1 l2) (hS : S ∉ [z, TI, i1, i2, l1, l2]) (hSO : S ≠ TO)
    (hn : n = min xs.size ys.size) (hsz : n ≤ sizeLine) (hpos : 0 < n) (hkeep : ∀ b o, b ≠ S → h0.get? b = some o → s.heap.get? b = some o)
    (hz : IsZip s.heap z TI TO .none) (hTI : IsPair s.heap TI (.ref i1) (.ref i2)) (hTO : IsPair s.heap TO a b)
    (h1 : s.heap.IsListIter i1 l1 0) (h2 : s.heap.IsListIter i2 l2 0) (hl1 : s.heap.IsList l1 xs) (hl2 : s.heap.IsList l2 ys)
    (hg : s.heap.get? S = some { cls := .type "list", dict := none, data := .seq #[] c, slots := #[] })
    (hR : ∀ h' acc' c' tk, (∀ b o, b ∉ [z, TO, i1, i2, S] → h0.get? b = some o → h'.get? b = some o) → acc'.size = n → (∀ (j : Nat) x y, j < n → xs[j]? = some x → ys[j]? = some y → ∃ T, acc'[j]? = some (.ref T) ∧ IsPair h' T x y ∧ s.heap.objs.size ≤ T ∧ T ≠ S) →
      h'.get? S = some { cls := .type "list", dict := none, data := .seq acc' c', slots := #[] } → R (.ok (.ret res)) { s with heap := h', toks := tk }) :
    codeAny (model prog w) A (.builtin "list.extend.loop" ⟨[.ref S, .ref z, res], []⟩) R s := by
  have hS' := hS
  simp only [List.mem_cons, List.not_mem_nil, or_false, not_or] at hS
  have hix : 0 < xs.size := Nat.lt_of_lt_of_le hpos (by rw [hn]; exact Nat.min_le_left ..)
  have hiy : 0 < ys.size := Nat.lt_of_lt_of_le hpos (by rw [hn]; exact Nat.min_le_right ..)
  refine codeAny_builtin F.entry_extend_loop ?_
  rw [Around.under_plainId F.plain_extend_loop _]
  show wpAny _ A.in1 (pyNext (.ref z) >>= _) _ _ s
  refine wpAny_bind (wpAny_pyNext_zip_item D hz hTI hTO h1 h2 hl1 hl2 (Array.getElem?_eq_getElem hix) (Array.getElem?_eq_getElem hiy) fun h' hz' hTO' n1 n2 hp hsz' hk' => ?_)
  have lt : ∀ {c o}, s.heap.get? c = some o → c ≠ s.heap.objs.size := fun e => Nat.ne_of_lt (Heap.lt_size e)
  have hg' := hk' _ _ hS.1 hSO hS.2.2.1 hS.2.2.2.1 hg
  obtain ⟨_, e1, _⟩ := id h1
  obtain ⟨_, e2, _⟩ := id h2
  have hnew : s.heap.objs.size ∉ [z, TO, i1, i2, S] := by
    simp only [List.mem_cons, List.not_mem_nil, or_false, not_or]
    exact ⟨Ne.symm (lt hz), Ne.symm (lt hTO), Ne.symm (lt e1), Ne.symm (lt e2), Ne.symm (lt hg)⟩
  have hnew' := hnew
  simp only [List.mem_cons, List.not_mem_nil, or_false, not_or] at hnew'
  have st' : ZSt h0 s.heap.objs.size z TI TO i1 i2 l1 l2 S xs ys 1 (#[].push (.ref s.heap.objs.size)) h' := by
    refine ⟨⟨s.heap.objs.size, false, _, hz', hp, by simp [hnew']⟩, hk' _ _ D.TIz D.TITO D.TIi1 D.TIi2 hTI, ⟨_, hTO'⟩, n1, n2, hl1.at fun o e => hk' _ o D.l1z D.l1TO D.l1i1 D.l1i2 e, hl2.at fun o e => hk' _ o D.l2z D.l2TO D.l2i1 D.l2i2 e, rfl, fun j x y hj hx hy => ?_, fun b o hb e => ?_⟩
    · obtain rfl : j = 0 := by omega
      rw [Array.getElem?_eq_getElem hix] at hx
      rw [Array.getElem?_eq_getElem hiy] at hy
      cases hx; cases hy
      exact ⟨s.heap.objs.size, rfl, hp, Nat.le_refl _, hnew⟩
    · simp only [List.mem_cons, List.not_mem_nil, or_false, not_or] at hb
      exact hk' b o hb.1 hb.2.1 hb.2.2.1 hb.2.2.2.1 (hkeep b o hb.2.2.2.2 e)
  have hTS' : ∀ T' f', IsZipB h' z TI TO T' f' → T' ≠ S := fun T' f' q => by
    have := hz'.symm.trans q
    have e : s.heap.objs.size = T' := by
      injection this with this
      injection this with _ _ this _
      injection this with this
      have := congrArg (fun a : Array Value => a[0]?) this
      simp only [rawInt] at this
      have h9 : (s.heap.objs.size : Int) = (T' : Int) := by simpa using this
      exact Int.ofNat_inj.mp h9
    rw [← e]; exact hnew'.2.2.2.2
  have oth : ∀ b o, b ≠ S → h'.get? b = some o → (h'.update S (Obj.mapSeq (·.push (Value.ref s.heap.objs.size)))).get? b = some o := fun b o hb e => (Heap.get?_update_other _ _ (Ne.symm hb)).trans e
  show wpAny _ A.in1 (updateSeq S (·.push (.ref s.heap.objs.size)) >>= _) _ _ _
  refine wpAny_bind ?_
  refine wpAny_updateSeq hg' rfl (wpAny_pure ⟨plainId_quiet F.plain_extend_loop _, zip_loop hh D hS' hSO hn hsz (n - 1) 1 _ (#[].push (.ref s.heap.objs.size)) _ rfl hpos ?_ (st'.at hS' hSO hTS' oth) (fun T' f' q => hTS' T' f' ?_) (Heap.get?_update_self _ hg' rfl) fun h'' acc' c' tk hst hS'' => ?_⟩)
    (by show 0 ≤ sizeLine; exact Nat.zero_le _) (by show 1 ≤ sizeLine + 1; omega)
  · show s.heap.objs.size ≤ (h'.update S _).objs.size
    rw [Heap.size_update, hsz']; exact Nat.le_succ _
  · exact (Heap.get?_update_other _ _ hS.1).symm.trans q
  · have tail : ∀ {T : Addr}, T ∉ [z, TO, i1, i2, S] → T ≠ S := fun h q => h (by simp [q])
    rcases hst with st | ⟨k1, k2, k3⟩
    · exact hR h'' acc' c' tk st.keep st.siz (fun j x y hj hx hy => let ⟨T, b1, b2, b3, b4⟩ := st.tups j x y hj hx hy; ⟨T, b1, b2, b3, tail b4⟩) hS''
    · exact hR h'' acc' c' tk k1 k2 (fun j x y hj hx hy => let ⟨T, b1, b2, b3, b4⟩ := k3 j x y hj hx hy; ⟨T, b1, b2, b3, tail b4⟩) hS''
theorem list_zipped {z TI TO i1 i2 l1 l2 : Addr} {xs ys : Array Value} {a b : Value} {Q : Value → Shared → Prop} (hh : A.handled = none) (D : ZipApart z TI TO i1 i2 l1 l2)
    (hpos : 0 < min xs.size ys.size) (hsz : min xs.size ys.size ≤ sizeLine)
    (hz : IsZip s.heap z TI TO .none) (hTI : IsPair s.heap TI (.ref i1) (.ref i2)) (hTO : IsPair s.heap TO a b)
    (h1 : s.heap.IsListIter i1 l1 0) (h2 : s.heap.IsListIter i2 l2 0) (hl1 : s.heap.IsList l1 xs) (hl2 : s.heap.IsList l2 ys)
    (hQ : ∀ acc c h' tk, (∀ b o, b ∉ [z, TO, i1, i2] → s.heap.get? b = some o → h'.get? b = some o) → h'.get? s.heap.objs.size = some { cls := .type "list", dict := none, data := .seq acc c, slots := #[] } →
      acc.size = min xs.size ys.size → (∀ (j : Nat) x y, xs[j]? = some x → ys[j]? = some y → ∃ T, acc[j]? = some (.ref T) ∧ IsPair h' T x y ∧ s.heap.objs.size ≤ T ∧ T ≠ s.heap.objs.size) → Q (.ref s.heap.objs.size) { s with heap := h', toks := tk }) :
    wpAny (model prog w) A (call (.type "list") [.ref z]) Q E s := by
  have lt : ∀ {c o}, s.heap.get? c = some o → s.heap.objs.size ≠ c := fun e => Nat.ne_of_gt (Heap.lt_size e)
  have hS : s.heap.objs.size ∉ [z, TI, i1, i2, l1, l2] := by
    obtain ⟨_, e1, _⟩ := id h1
    obtain ⟨_, e2, _⟩ := id h2
    obtain ⟨_, e3, _⟩ := id hl1
    obtain ⟨_, e4, _⟩ := id hl2
    simp only [List.mem_cons, List.not_mem_nil, or_false, not_or]
    exact ⟨lt hz, lt hTI, lt e1, lt e2, lt e3, lt e4⟩
  have hSO : s.heap.objs.size ≠ TO := lt hTO
  have hSz : s.heap.objs.size ≠ z := lt hz
  refine callType_codes (Q₁ := fun obj s₁ => obj = .ref s.heap.objs.size ∧ s₁ = { s with heap := s.heap.push { cls := .type "list", data := .seq #[] } }) F.called_list (F.typeCall_list_1 _) F.entry_list_init
    (code_list_new _ ⟨rfl, rfl⟩) fun obj s₁ h₁ => ?_
  obtain ⟨rfl, rfl⟩ := h₁
  have hg : (s.heap.push { cls := .type "list", data := .seq #[] }).get? s.heap.objs.size = some { cls := .type "list", data := .seq #[] } := Heap.get?_push_size _ rfl
  refine ⟨⟨_, hg, rfl⟩, F.args_list_init_2 _ _, ?_⟩
  have up : ∀ b o, s.heap.get? b = some o → (s.heap.push { cls := .type "list", data := .seq #[] }).get? b = some o := fun b o e => Heap.get?_push_of_some _ e
  generalize hH : s.heap.push { cls := .type "list", data := .seq #[] } = H at hg up
  revert H
  refine barrier ?_
  intro H hH hg up
  have hHs : H.objs.size = s.heap.objs.size + 1 := by rw [← hH, Heap.size_push]
  show wpAny _ A.in1.in1 (do let old ← Builtin.List.listItems (.ref s.heap.objs.size); Builtin.List.listUpdate (.ref s.heap.objs.size) (fun _ => #[]); letGo old.toList.reverse; Builtin.List.listExtendWith (.ref s.heap.objs.size) (.ref z) .none) _ _ _
  refine wpAny_bind ?_
  unfold Builtin.List.listItems
  refine wpAny_bind (wpAny_seqItems hg rfl (wpAny_pure ?_))
  show wpAny _ A.in1.in1 (updateSeq s.heap.objs.size (fun _ => #[]) >>= fun _ => letGo (#[] : Array Value).toList.reverse >>= fun _ => Builtin.List.listExtendWith (.ref s.heap.objs.size) (.ref z) .none) _ _ _
  refine wpAny_bind (wpAny_updateSeq hg rfl ?_)
  have hg₂ := Heap.get?_update_self (Obj.mapSeq (fun _ => (#[] : Array Value))) hg rfl
  have oth : ∀ b o, b ≠ s.heap.objs.size → H.get? b = some o → (H.update s.heap.objs.size (Obj.mapSeq (fun _ => (#[] : Array Value)))).get? b = some o :=
    fun b o hb e => (Heap.get?_update_other _ _ (Ne.symm hb)).trans e
  have oths : (H.update s.heap.objs.size (Obj.mapSeq (fun _ => (#[] : Array Value)))).objs.size = s.heap.objs.size + 1 := by rw [Heap.size_update, hHs]
  refine wpAny_bind (wpAny_letGo ?_)
  generalize hH2 : H.update s.heap.objs.size (Obj.mapSeq (fun _ => (#[] : Array Value))) = H2 at hg₂ oth oths
  revert H2
  refine barrier ?_
  intro H2 hH2 hg₂ oth oths
  have hz₂ : IsZip H2 z TI TO .none := oth _ _ (Ne.symm hSz) (up _ _ hz)
  unfold Builtin.List.listExtendWith
  refine wpAny_bind (wpAny_typeOf (T := "zip") ⟨_, hz₂, rfl⟩ ?_)
  have q1 : Builtin.List.listSameRef (.ref s.heap.objs.size) (.ref z) = false := by simp [Builtin.List.listSameRef, hSz]
  have q2 : (Value.type "zip" == Value.type "list") = false := by decide
  have q3 : (Value.type "zip" == Value.type "tuple") = false := by decide
  simp only [q1, q2, q3, Bool.or_false, Bool.false_eq_true, if_false]
  refine wpAny_bind (wpAny_pyIter_zip hz₂ ?_)
  refine wpAny_bind (wpAny_holding ?_)
  unfold Builtin.List.listLengthHint
  refine wpAny_bind (wpAny_specialOf (T := "zip") ⟨_, hz₂, rfl⟩ zip_no_len ?_)
  show wpAny _ A.in1.in1 (specialOf (Value.ref z) (Str.ofString "__length_hint__") >>= _) _ _ _
  refine wpAny_bind (wpAny_specialOf (T := "zip") ⟨_, hz₂, rfl⟩ zip_no_hint ?_)
  refine wpAny_pure ?_
  show wpAny _ A.in1.in1 (rule "list.extend.makes-room" >>= fun _ => Builtin.List.listTouch (.ref s.heap.objs.size) >>= fun _ =>
    again (.builtin "list.extend.loop" ⟨[.ref s.heap.objs.size, .ref z, .none], []⟩)) _ _ _
  refine wpAny_bind (wpAny_rule ?_)
  refine wpAny_bind ?_
  show wpAny _ A.in1.in1 (updateSeq s.heap.objs.size (·.push .none) >>= fun _ => updateSeq s.heap.objs.size (·.pop)) _ _ _
  refine wpAny_bind (wpAny_updateSeq hg₂ rfl ?_)
  have hS₂ := Heap.get?_update_self (Obj.mapSeq (·.push Value.none)) hg₂ rfl
  refine wpAny_updateSeq (hz := by seq_fits) hS₂ rfl ?_
  have hS₃ := Heap.get?_update_self (Obj.mapSeq (·.pop)) hS₂ rfl
  have oth3 : ∀ b o, b ≠ s.heap.objs.size → H2.get? b = some o → ((H2.update s.heap.objs.size (Obj.mapSeq (·.push Value.none))).update s.heap.objs.size (Obj.mapSeq (·.pop))).get? b = some o :=
    fun b o hb e => (Heap.get?_update_other _ _ (Ne.symm hb)).trans ((Heap.get?_update_other _ _ (Ne.symm hb)).trans e)
  have oths3 : ((H2.update s.heap.objs.size (Obj.mapSeq (·.push Value.none))).update s.heap.objs.size (Obj.mapSeq (·.pop))).objs.size = s.heap.objs.size + 1 := by rw [Heap.size_update, Heap.size_update, oths]
  generalize hH3 : (H2.update s.heap.objs.size (Obj.mapSeq (·.push Value.none))).update s.heap.objs.size (Obj.mapSeq (·.pop)) = H3 at hS₃ oth3 oths3
  revert H3
  refine barrier ?_
  intro H3 hH3 hS₃ oth3 oths3
  have all : ∀ b o, s.heap.get? b = some o → H3.get? b = some o := fun b o e => oth3 b o (Ne.symm (lt e)) (oth b o (Ne.symm (lt e)) (up b o e))
  refine wpAny_pure ⟨plainId_quiet F.plain_extend_loop _, zip_loop0 (h0 := s.heap) hh D hS hSO rfl hsz hpos (fun b o _ e => all b o e) (all _ _ hz) (all _ _ hTI) (all _ _ hTO) (h1.at fun o e => all _ o e) (h2.at fun o e => all _ o e) (hl1.at fun o e => all _ o e) (hl2.at fun o e => all _ o e) hS₃ fun h' acc' c' tk k1 k2 k3 k4 => ?_⟩
  refine ⟨rfl, hQ acc' c' h' tk (fun b o hb e => k1 b o (fun q => ?_) e) k4 k2 fun j x y hx hy => ?_⟩
  · simp only [List.mem_cons, List.not_mem_nil, or_false, not_or] at hb q
    rcases q with q | q | q | q | q
    · exact hb.1 q
    · exact hb.2.1 q
    · exact hb.2.2.1 q
    · exact hb.2.2.2 q
    · exact lt e q.symm
  · have hj : j < min xs.size ys.size := by
      have l1 : j < xs.size := by
        rcases Nat.lt_or_ge j xs.size with h | h
        · exact h
        · rw [Array.getElem?_eq_none h] at hx; cases hx
      have l2 : j < ys.size := by
        rcases Nat.lt_or_ge j ys.size with h | h
        · exact h
        · rw [Array.getElem?_eq_none h] at hy; cases hy
      omega
    obtain ⟨T, b1, b2, b3, b4⟩ := k3 j x y hj hx hy
    have b3' : H3.objs.size ≤ T := b3
    exact ⟨T, b1, b2, by omega, b4⟩
end
end Mine
end
section
open PySem PySem.W PySem.Calls PyProof.Rows
set_option maxRecDepth 100000
set_option maxHeartbeats 8000000
namespace Mine
open LCg (lst lst_snoc)
theorem filled (w : World) : hd.heap_39 w.params = hd.heap_39 w.params ∧ PySem.Challenge.rw_ny0071_01 = PySem.Challenge.rw_ny0071_01 := by
  k_fill
  exact ⟨rfl, rfl⟩
noncomputable abbrev AA (dp un : Nat) (fr : Option (List Env)) (gd : Option (List Code)) : Around := { handled := none, depth := dp, frames := fr, guards := gd, units := un }
section
theorem lawRow {w : World} {dp un : Nat} {fr : Option (List Env)} {gd : Option (List Code)} {s : Shared} {p : Program} {loose : List Str} {mg mb : Str → Option Value} {Q E : Value → Shared → Prop} {x : Int} {u : Tok}
    (hdp : dp + 5 < recursionLimit) (X : (hd.heap_39 w.params).In s.heap) (T : TopRead p loose mg mb s.heap)
    (hQ : ∀ D t0 t1 t2 h' tk n, Kp [] s.heap h' → s.heap.objs.size < D → h'.get? D = some { cls := .type "list", data := .seq #[.str (rowT x 0) t0, .str (rowT x 1) t1, .str (rowT x 2) t2] n } → Q (.ref D) { s with heap := h', toks := tk }) :
    wpAny (model PySem.Challenge.pw_ny0071_01 w) (AA dp un fr gd) (call (.ref 95) [.int x u]) Q E s := by
  w_on
  k_dflt (refine' enterC (binds := [(Str.ofString "x", .int x u)]) ?k3 ?k5 ?k6 ?k7 ?k8 ?k9 ?kB ?kD ?_ ?c2 ?c3 ?c4; (case k3 => k_asm); (case k5 => k_asm); (case k6 => k_is); (case k7 => k_is); (case k8 => (dsimp only; omega)); (case k9 => first | assumption | exact BindsTo.of_eq rfl); (case kB => exact rfl); (case kD => decide +kernel); (case c2 => exact rfl); (case c3 => exact rfl); (case c4 => exact rfl); k_whole)
  intro L' h' tk' cells' e' F' N' Y'
  k_cells Y'
  simp only [List.cons_append, List.nil_append] at N'
  show wpAny _ _ _ _ _ _
  k_fold
  (repeat' (first | (k_unfold; (try dsimp only)) | ((fail_if_success ((first | (with_reducible show wpAny _ _ (eval (PySem.Expr.ListComp _ _ _ _) _) _ _ _) | (with_reducible show wpAny _ _ (exec (PySem.Stmt.Assign _ (PySem.Expr.ListComp _ _ _ _) _) _) _ _ _) | (with_reducible show wpAny _ _ (exec (PySem.Stmt.While _ _ _ _) _) _ _ _) | (with_reducible show wpAny _ _ (exec (PySem.Stmt.For _ _ _ _ _) _) _ _ _) | (with_reducible show wpAny _ _ (exec (PySem.Stmt.Assign [PySem.Expr.Name (PySem.Str.ofString "sign") _] _ _) _) _ _ _) | (with_reducible show wpAny _ _ (eval (PySem.Expr.GeneratorExp _ _ _ _) _) _ _ _) | (with_reducible show CompAt _ _ _ _ _ _ _ _ _ _ _ _ _ _ _ _) | (with_reducible show ForAt _ _ _ _ _ _ _ _ _ _) | (with_reducible show Kp _ _ _ ∧ _) | (with_reducible show wpAny _ _ (PySem.call (Value.ref _) _ _) _ _ _)))); (first | ((with_reducible show ite _ _ _); first | (refine PySem.W.ite_pos (by with_reducible assumption) ?_) | (refine PySem.W.ite_neg (by with_reducible assumption) ?_)) | walk1 | (dsimp only; walk1)))))
  ((k_dflt (refine lc_eval (by with_unfolding_all rfl) (by rfl) (by decide) ?_); k_fold))
  (repeat' (first | (k_unfold; (try dsimp only)) | ((fail_if_success ((first | (with_reducible show wpAny _ _ (eval (PySem.Expr.ListComp _ _ _ _) _) _ _ _) | (with_reducible show wpAny _ _ (exec (PySem.Stmt.Assign _ (PySem.Expr.ListComp _ _ _ _) _) _) _ _ _) | (with_reducible show wpAny _ _ (exec (PySem.Stmt.While _ _ _ _) _) _ _ _) | (with_reducible show wpAny _ _ (exec (PySem.Stmt.For _ _ _ _ _) _) _ _ _) | (with_reducible show wpAny _ _ (exec (PySem.Stmt.Assign [PySem.Expr.Name (PySem.Str.ofString "sign") _] _ _) _) _ _ _) | (with_reducible show wpAny _ _ (eval (PySem.Expr.GeneratorExp _ _ _ _) _) _ _ _) | (with_reducible show CompAt _ _ _ _ _ _ _ _ _ _ _ _ _ _ _ _) | (with_reducible show ForAt _ _ _ _ _ _ _ _ _ _) | (with_reducible show Kp _ _ _ ∧ _) | (with_reducible show wpAny _ _ (PySem.call (Value.ref _) _ _) _ _ _)))); (first | ((with_reducible show ite _ _ _); first | (refine PySem.W.ite_pos (by with_reducible assumption) ?_) | (refine PySem.W.ite_neg (by with_reducible assumption) ?_)) | walk1 | (dsimp only; walk1)))))
  rename IsRange _ _ _ _ _ _ _ _ => hr
  rename Fr _ _ _ _ => F1
  rename News _ _ _ _ => N1
  refine lc_range (n := 3) (M := []) (fun i ys s' => (∃ t0 t1 t2, ys = ([.str (rowT x 0) t0, .str (rowT x 1) t1, .str (rowT x 2) t2] : List Value).take i) ∧ ∃ h tk, s' = { s with heap := h, toks := tk }) (by decide) (by rfl) (by rfl) (by rfl) hr (by decide) (by decide) (by simp) (by size_fits) ?_ ?_ ?_ ?_
  · rintro i ys s' h' tk ⟨j, h, tk', rfl⟩ _
    exact ⟨j, h', tk, rfl⟩
  · exact ⟨⟨0, 0, 0, rfl⟩, _, _, rfl⟩
  · rintro i ys t C m₂ s' hi _ ⟨⟨t0, t1, t2, rfl⟩, h, tk, rfl⟩ hC hn hx hk
    obtain ⟨oC, hoC, N2⟩ := news_comp F1 N1 hk hn hC
    have F2 := fr_kp F1 hk
    clear hr N1
    refine wpAny_tests_nil ?_
    simp only [if_true]
    rcases (by omega : i = 0 ∨ i = 1 ∨ i = 2) with rfl | rfl | rfl
    all_goals (rw [Int.zero_add] at hx)
    all_goals k_fold
    all_goals (repeat' (first | (k_unfold; (try dsimp only)) | ((fail_if_success ((first | (with_reducible show wpAny _ _ (eval (PySem.Expr.ListComp _ _ _ _) _) _ _ _) | (with_reducible show wpAny _ _ (exec (PySem.Stmt.Assign _ (PySem.Expr.ListComp _ _ _ _) _) _) _ _ _) | (with_reducible show wpAny _ _ (exec (PySem.Stmt.While _ _ _ _) _) _ _ _) | (with_reducible show wpAny _ _ (exec (PySem.Stmt.For _ _ _ _ _) _) _ _ _) | (with_reducible show wpAny _ _ (exec (PySem.Stmt.Assign [PySem.Expr.Name (PySem.Str.ofString "sign") _] _ _) _) _ _ _) | (with_reducible show wpAny _ _ (eval (PySem.Expr.GeneratorExp _ _ _ _) _) _ _ _) | (with_reducible show CompAt _ _ _ _ _ _ _ _ _ _ _ _ _ _ _ _) | (with_reducible show ForAt _ _ _ _ _ _ _ _ _ _) | (with_reducible show Kp _ _ _ ∧ _) | (with_reducible show wpAny _ _ (PySem.call (Value.ref _) _ _) _ _ _)))); (first | ((with_reducible show ite _ _ _); first | (refine PySem.W.ite_pos (by with_reducible assumption) ?_) | (refine PySem.W.ite_neg (by with_reducible assumption) ?_)) | walk1 | (dsimp only; walk1)))))
    · exact ⟨Kp.refl, ⟨_, 0, 0, rfl⟩, _, _, rfl⟩
    · exact ⟨Kp.refl, ⟨t0, _, 0, rfl⟩, _, _, rfl⟩
    · exact ⟨Kp.refl, ⟨t0, t1, _, rfl⟩, _, _, rfl⟩
  · rintro D ys s' ⟨⟨t0, t1, t2, rfl⟩, h, tk, rfl⟩ hD hg hk
    exact hQ D t0 t1 t2 _ _ _ ((Kp.of F1.keep).trans hk) (Nat.lt_trans (Nat.lt_of_le_of_lt F1.above F1.ns.lt) hD) hg
end
section
theorem lawName {w : World} {dp un : Nat} {fr : Option (List Env)} {gd : Option (List Code)} {s : Shared} {p : Program} {loose : List Str} {mg mb : Str → Option Value} {Q E : Value → Shared → Prop} {x : Int} {u : Tok}
    (hdp : dp + 10 < recursionLimit) (X : (hd.heap_39 w.params).In s.heap) (T : TopRead p loose mg mb s.heap)
    (hQ : ∀ t h' tk, Kp [] s.heap h' → Q (.str (lawNm x) t) { s with heap := h', toks := tk }) :
    wpAny (model PySem.Challenge.pw_ny0071_01 w) (AA dp un fr gd) (call (.ref 100) [.int x u]) Q E s := by
  w_on
  k_dflt (refine' enterK (binds := [(Str.ofString "x", .int x u)]) ?k3 ?k5 ?k6 ?k7 ?k8 ?k9 ?kB ?_ ?c2 ?c3 ?c4 ?c5; (case k3 => k_asm); (case k5 => k_asm); (case k6 => k_is); (case k7 => k_is); (case k8 => (dsimp only; omega)); (case k9 => first | assumption | exact BindsTo.of_eq rfl); (case c5 => decide); (case kB => exact locs rfl); (case c2 => exact rfl); (case c3 => exact rfl); (case c4 => exact rfl); k_whole)
  intro h' F' N'
  show wpAny _ _ _ _ _ _
  k_fold
  (repeat' (first | (k_unfold; (try dsimp only)) | ((fail_if_success ((first | (with_reducible show wpAny _ _ (eval (PySem.Expr.ListComp _ _ _ _) _) _ _ _) | (with_reducible show wpAny _ _ (exec (PySem.Stmt.Assign _ (PySem.Expr.ListComp _ _ _ _) _) _) _ _ _) | (with_reducible show wpAny _ _ (exec (PySem.Stmt.While _ _ _ _) _) _ _ _) | (with_reducible show wpAny _ _ (exec (PySem.Stmt.For _ _ _ _ _) _) _ _ _) | (with_reducible show wpAny _ _ (exec (PySem.Stmt.Assign [PySem.Expr.Name (PySem.Str.ofString "sign") _] _ _) _) _ _ _) | (with_reducible show wpAny _ _ (eval (PySem.Expr.GeneratorExp _ _ _ _) _) _ _ _) | (with_reducible show CompAt _ _ _ _ _ _ _ _ _ _ _ _ _ _ _ _) | (with_reducible show ForAt _ _ _ _ _ _ _ _ _ _) | (with_reducible show Kp _ _ _ ∧ _) | (with_reducible show wpAny _ _ (PySem.call (Value.ref _) _ _) _ _ _)))); (first | ((with_reducible show ite _ _ _); first | (refine PySem.W.ite_pos (by with_reducible assumption) ?_) | (refine PySem.W.ite_neg (by with_reducible assumption) ?_)) | walk1 | (dsimp only; walk1)))))
  ((k_dflt (refine lc_eval (by with_unfolding_all rfl) (by rfl) (by decide) ?_); k_fold))
  (repeat' (first | (k_unfold; (try dsimp only)) | ((fail_if_success ((first | (with_reducible show wpAny _ _ (eval (PySem.Expr.ListComp _ _ _ _) _) _ _ _) | (with_reducible show wpAny _ _ (exec (PySem.Stmt.Assign _ (PySem.Expr.ListComp _ _ _ _) _) _) _ _ _) | (with_reducible show wpAny _ _ (exec (PySem.Stmt.While _ _ _ _) _) _ _ _) | (with_reducible show wpAny _ _ (exec (PySem.Stmt.For _ _ _ _ _) _) _ _ _) | (with_reducible show wpAny _ _ (exec (PySem.Stmt.Assign [PySem.Expr.Name (PySem.Str.ofString "sign") _] _ _) _) _ _ _) | (with_reducible show wpAny _ _ (eval (PySem.Expr.GeneratorExp _ _ _ _) _) _ _ _) | (with_reducible show CompAt _ _ _ _ _ _ _ _ _ _ _ _ _ _ _ _) | (with_reducible show ForAt _ _ _ _ _ _ _ _ _ _) | (with_reducible show Kp _ _ _ ∧ _) | (with_reducible show wpAny _ _ (PySem.call (Value.ref _) _ _) _ _ _)))); (first | ((with_reducible show ite _ _ _); first | (refine PySem.W.ite_pos (by with_reducible assumption) ?_) | (refine PySem.W.ite_neg (by with_reducible assumption) ?_)) | walk1 | (dsimp only; walk1)))))
  rename Fr _ _ _ _ => F1
  rename News _ _ _ _ => N1
  k_dflt (refine lawRow (by dsimp only [AA, Around.deeper]; omega) (X.keeps F1.keep) (T.keeps F1.keep) ?_)
  intro D t0 t1 t2 h1 tk1 n1 hk1 hD1 hg1
  have N2 := news_add F1 N1 hk1 (Nat.le_of_lt hD1) hg1
  have F2 := fr_kp F1 hk1
  clear F1 N1
  k_dflt (refine lc_name (M := []) (its := #[.str (rowT x 0) t0, .str (rowT x 1) t1, .str (rowT x 2) t2]) (fun i ys s' => StrsAre ys (parts ((rows3 x).take i)) ∧ ∃ h tk, s' = { s with heap := h, toks := tk }) (by decide) (by rfl) (by rfl) (by rfl) (list_of_get hg1) (by simp) (by simp) (by size_fits) ?_ ?_ ?_ ?_)
  · rintro i ys s' h' tk ⟨j, h, tk', rfl⟩ _
    exact ⟨j, h', tk, rfl⟩
  · exact ⟨.nil, _, _, rfl⟩
  · rintro i ys v C m₂ s' hv _ ⟨hJ, h, tk, rfl⟩ hC hn hx hk
    obtain ⟨r, t, rfl, hr⟩ := strs_get (ss := rows3 x) (.cons _ _ (.cons _ _ (.cons _ _ .nil))) (by simpa using hv)
    obtain ⟨oC, hoC, N3⟩ := news_comp F2 N2 hk hn hC
    have F3 := fr_kp F2 hk
    clear F2 N2
    have hlen : r.length ≤ 1048576 := Nat.le_trans (tab_len r (rows3_get hr)) (by decide)
    refine wpAny_tests_one ?_
    (show wpAny _ _ _ _ _ _); k_fold
    (repeat' (first | (k_unfold; (try dsimp only)) | ((fail_if_success ((first | (with_reducible show wpAny _ _ (eval (PySem.Expr.ListComp _ _ _ _) _) _ _ _) | (with_reducible show wpAny _ _ (exec (PySem.Stmt.Assign _ (PySem.Expr.ListComp _ _ _ _) _) _) _ _ _) | (with_reducible show wpAny _ _ (exec (PySem.Stmt.While _ _ _ _) _) _ _ _) | (with_reducible show wpAny _ _ (exec (PySem.Stmt.For _ _ _ _ _) _) _ _ _) | (with_reducible show wpAny _ _ (exec (PySem.Stmt.Assign [PySem.Expr.Name (PySem.Str.ofString "sign") _] _ _) _) _ _ _) | (with_reducible show wpAny _ _ (eval (PySem.Expr.GeneratorExp _ _ _ _) _) _ _ _) | (with_reducible show CompAt _ _ _ _ _ _ _ _ _ _ _ _ _ _ _ _) | (with_reducible show ForAt _ _ _ _ _ _ _ _ _ _) | (with_reducible show Kp _ _ _ ∧ _) | (with_reducible show wpAny _ _ (PySem.call (Value.ref _) _ _) _ _ _)))); (first | ((with_reducible show ite _ _ _); first | (refine PySem.W.ite_pos (by with_reducible assumption) ?_) | (refine PySem.W.ite_neg (by with_reducible assumption) ?_)) | walk1 | (dsimp only; walk1)))))
    · rename (r != _) = true => q
      refine ⟨Kp.refl, ?_, _, _, rfl⟩
      rw [parts_snoc hr, if_pos q]
      exact strs_snoc hJ
    · rename (r != _) = false => q
      refine ⟨Kp.refl, ?_, _, _, rfl⟩
      rw [parts_snoc hr, if_neg (by rw [q]; decide), List.append_nil]
      exact hJ
  · rintro D2 ys s' ⟨hJ, h2, tk2, rfl⟩ hD2 hg2 hk2
    have N3 := news_add F2 N2 hk2 (Nat.le_of_lt hD2) hg2
    have F3 := fr_kp F2 hk2
    clear F2 N2
    have hsm := parts_small (l := rows3 x) fun t ht => rows3_mem ht
    have hJ' : StrsAre ys (parts (rows3 x)) := hJ
    (repeat' (first | (k_unfold; (try dsimp only)) | ((fail_if_success ((first | (with_reducible show wpAny _ _ (eval (PySem.Expr.ListComp _ _ _ _) _) _ _ _) | (with_reducible show wpAny _ _ (exec (PySem.Stmt.Assign _ (PySem.Expr.ListComp _ _ _ _) _) _) _ _ _) | (with_reducible show wpAny _ _ (exec (PySem.Stmt.While _ _ _ _) _) _ _ _) | (with_reducible show wpAny _ _ (exec (PySem.Stmt.For _ _ _ _ _) _) _ _ _) | (with_reducible show wpAny _ _ (exec (PySem.Stmt.Assign [PySem.Expr.Name (PySem.Str.ofString "sign") _] _ _) _) _ _ _) | (with_reducible show wpAny _ _ (eval (PySem.Expr.GeneratorExp _ _ _ _) _) _ _ _) | (with_reducible show CompAt _ _ _ _ _ _ _ _ _ _ _ _ _ _ _ _) | (with_reducible show ForAt _ _ _ _ _ _ _ _ _ _) | (with_reducible show Kp _ _ _ ∧ _) | (with_reducible show wpAny _ _ (PySem.call (Value.ref _) _ _) _ _ _)))); (first | ((with_reducible show ite _ _ _); first | (refine PySem.W.ite_pos (by with_reducible assumption) ?_) | (refine PySem.W.ite_neg (by with_reducible assumption) ?_)) | walk1 | (dsimp only; walk1)))))
    have hlen3 : (rows3 x).length = 3 := rfl
    k_dflt (refine join_listC (ys := parts (rows3 x)) (list_of_get hg2) (by simpa using hJ') (by decide +kernel) (by omega) ?_)
    intro t3 k3
    (repeat' (first | (k_unfold; (try dsimp only)) | ((fail_if_success ((first | (with_reducible show wpAny _ _ (eval (PySem.Expr.ListComp _ _ _ _) _) _ _ _) | (with_reducible show wpAny _ _ (exec (PySem.Stmt.Assign _ (PySem.Expr.ListComp _ _ _ _) _) _) _ _ _) | (with_reducible show wpAny _ _ (exec (PySem.Stmt.While _ _ _ _) _) _ _ _) | (with_reducible show wpAny _ _ (exec (PySem.Stmt.For _ _ _ _ _) _) _ _ _) | (with_reducible show wpAny _ _ (exec (PySem.Stmt.Assign [PySem.Expr.Name (PySem.Str.ofString "sign") _] _ _) _) _ _ _) | (with_reducible show wpAny _ _ (eval (PySem.Expr.GeneratorExp _ _ _ _) _) _ _ _) | (with_reducible show CompAt _ _ _ _ _ _ _ _ _ _ _ _ _ _ _ _) | (with_reducible show ForAt _ _ _ _ _ _ _ _ _ _) | (with_reducible show Kp _ _ _ ∧ _) | (with_reducible show wpAny _ _ (PySem.call (Value.ref _) _ _) _ _ _)))); (first | ((with_reducible show ite _ _ _); first | (refine PySem.W.ite_pos (by with_reducible assumption) ?_) | (refine PySem.W.ite_neg (by with_reducible assumption) ?_)) | walk1 | (dsimp only; walk1)))))
    rename Fr _ _ _ _ => F4
    rename News _ _ _ _ => N4
    k_dflt (refine while_rule (fun n s' => ∃ g signs ts name tn h tk K, s' = { s with heap := h, toks := tk } ∧ n = signs.length ∧ signs.length + name.length ≤ 100 ∧ signs.length ≤ K ∧ nmGo K signs name = nmGo 100 (signs0 (rows3 x)) (Str.ofString "") ∧
      Fr s.heap s.heap.objs.size h (fun y => if y = Str.ofString "sign" then g else if y = Str.ofString "signs" then some (.str signs ts) else if y = Str.ofString "name" then some (.str name tn) else if y = Str.ofString "x" then some (.int x u) else none)) (signs0 (rows3 x)).length ?_ ?_)
    · have h0 := signs0_len x
      refine ⟨none, signs0 (rows3 x), t3, Str.ofString "", k3, _, _, 100, rfl, rfl, Nat.le_trans (Nat.add_le_add_right h0 _) (by decide +kernel), by omega, rfl, ?_⟩
      refine fr_congr F4 fun y => ?_
      by_cases e1 : y = Str.ofString "sign"
      · subst e1; rfl
      by_cases e2 : y = Str.ofString "signs"
      · subst e2; rfl
      by_cases e3 : y = Str.ofString "name"
      · subst e3; rfl
      by_cases e4 : y = Str.ofString "x"
      · subst e4; rfl
      simp only [e1, e2, e3, e4, if_false, List.reverse_cons, List.reverse_nil, List.nil_append, List.lookup_cons, List.lookup_nil, beq_eq_false_iff_ne.mpr e4]
    rintro n s' ⟨g, signs, ts, name, tn, h4, tk4, K, rfl, rfl, hl4, hK, hgo, F5⟩
    have N5 : News s.heap s.heap.objs.size h4 [] := News.nil
    clear F4 N4
    by_cases hs : signs = Str.ofString ""
    · have hb : ¬ ((signs != Str.ofString "") = true) := by rw [hs]; decide +kernel
      have hnl : name.length ≤ 1048576 := by omega
      subst hs
      rw [nmGo_empty] at hgo
      (show wpAny _ _ _ _ _ _); k_fold
      (repeat' (first | (k_unfold; (try dsimp only)) | ((fail_if_success ((first | (with_reducible show wpAny _ _ (eval (PySem.Expr.ListComp _ _ _ _) _) _ _ _) | (with_reducible show wpAny _ _ (exec (PySem.Stmt.Assign _ (PySem.Expr.ListComp _ _ _ _) _) _) _ _ _) | (with_reducible show wpAny _ _ (exec (PySem.Stmt.While _ _ _ _) _) _ _ _) | (with_reducible show wpAny _ _ (exec (PySem.Stmt.For _ _ _ _ _) _) _ _ _) | (with_reducible show wpAny _ _ (exec (PySem.Stmt.Assign [PySem.Expr.Name (PySem.Str.ofString "sign") _] _ _) _) _ _ _) | (with_reducible show wpAny _ _ (eval (PySem.Expr.GeneratorExp _ _ _ _) _) _ _ _) | (with_reducible show CompAt _ _ _ _ _ _ _ _ _ _ _ _ _ _ _ _) | (with_reducible show ForAt _ _ _ _ _ _ _ _ _ _) | (with_reducible show Kp _ _ _ ∧ _) | (with_reducible show wpAny _ _ (PySem.call (Value.ref _) _ _) _ _ _)))); (first | ((with_reducible show ite _ _ _); first | (refine PySem.W.ite_pos (by with_reducible assumption) ?_) | (refine PySem.W.ite_neg (by with_reducible assumption) ?_)) | walk1 | (dsimp only; walk1)))))
      rw [hgo]
      exact hQ _ _ _ (Kp.of F5.keep)
    have hpos := len_pos hs
    have hb : (signs != Str.ofString "") = true := by simpa using hs
    have hnl : name.length ≤ 1048576 := by omega
    have hsl : signs.length ≤ 1048576 := by omega
    have hst := stepN_len (name := name) hs
    obtain ⟨K', rfl⟩ : ∃ K', K = K' + 1 := ⟨K - 1, by omega⟩
    have hgo' : nmGo K' (stepN signs name).1 (stepN signs name).2 = nmGo 100 (signs0 (rows3 x)) (Str.ofString "") := by
      rw [← hgo]; simp only [nmGo, hs, if_false]
    have fin : ∀ (m' : Str → Option Value) (signs' name' : Str) (ts' tn' : Tok) (h' : Heap) (tk' : Nat), Fr s.heap s.heap.objs.size h' m' →
        m' (Str.ofString "signs") = some (.str signs' ts') → m' (Str.ofString "name") = some (.str name' tn') → m' (Str.ofString "x") = some (.int x u) →
        (∀ y, y ≠ Str.ofString "sign" → y ≠ Str.ofString "signs" → y ≠ Str.ofString "name" → y ≠ Str.ofString "x" → m' y = none) → stepN signs name = (signs', name') →
        Turn (fun n s' => ∃ g signs ts name tn h tk K, s' = { s with heap := h, toks := tk } ∧ n = signs.length ∧ signs.length + name.length ≤ 100 ∧ signs.length ≤ K ∧ nmGo K signs name = nmGo 100 (signs0 (rows3 x)) (Str.ofString "") ∧
          Fr s.heap s.heap.objs.size h (fun y => if y = Str.ofString "sign" then g else if y = Str.ofString "signs" then some (.str signs ts) else if y = Str.ofString "name" then some (.str name tn) else if y = Str.ofString "x" then some (.int x u) else none)) signs.length { s with heap := h', toks := tk' } := by
      intro m' signs' name' ts' tn' h' tk' F' e1 e2 e3 e4 e
      rw [e] at hst hgo'
      dsimp only at hst hgo'
      refine Turn.intro hst.1 ⟨m' (Str.ofString "sign"), signs', ts', name', tn', h', tk', K', rfl, rfl, Nat.le_trans hst.2 hl4, by omega, hgo', fr_congr F' fun y => ?_⟩
      by_cases q1 : y = Str.ofString "sign"
      · subst q1; rfl
      by_cases q2 : y = Str.ofString "signs"
      · subst q2; exact e1
      by_cases q3 : y = Str.ofString "name"
      · subst q3; exact e2
      by_cases q4 : y = Str.ofString "x"
      · subst q4; exact e3
      simp only [q1, q2, q3, q4, if_false]
      exact e4 y q1 q2 q3 q4
    have fin2 : ∀ (m' : Str → Option Value) (v : Str) (t : Tok) (h' : Heap) (tk' : Nat), Fr s.heap s.heap.objs.size h' m' → m' (Str.ofString "sign") = some (.str v t) → v = sgn signs →
        (∀ y, y ≠ Str.ofString "sign" → m' y = (if y = Str.ofString "signs" then some (.str signs ts) else if y = Str.ofString "name" then some (.str name tn) else if y = Str.ofString "x" then some (.int x u) else none)) →
        Cut (Flow.next = Flow.next ∧ ∃ t h tk, ({ s with heap := h', toks := tk' } : Shared) = { s with heap := h, toks := tk } ∧ Fr s.heap s.heap.objs.size h (fun y => if y = Str.ofString "sign" then some (.str (sgn signs) t) else if y = Str.ofString "signs" then some (.str signs ts) else if y = Str.ofString "name" then some (.str name tn) else if y = Str.ofString "x" then some (.int x u) else none)) := by
      intro m' v t h' tk' F' e1 e2 e3
      subst e2
      refine Cut.mk ⟨rfl, t, h', tk', rfl, fr_congr F' fun y => ?_⟩
      by_cases q1 : y = Str.ofString "sign"
      · subst q1; exact e1
      · simp only [q1, if_false]; exact e3 y q1
    clear hgo hgo' hst
    (show wpAny _ _ _ _ _ _); k_fold
    (repeat' (first | (k_unfold; (try dsimp only)) | ((fail_if_success ((first | (with_reducible show wpAny _ _ (eval (PySem.Expr.ListComp _ _ _ _) _) _ _ _) | (with_reducible show wpAny _ _ (exec (PySem.Stmt.Assign _ (PySem.Expr.ListComp _ _ _ _) _) _) _ _ _) | (with_reducible show wpAny _ _ (exec (PySem.Stmt.While _ _ _ _) _) _ _ _) | (with_reducible show wpAny _ _ (exec (PySem.Stmt.For _ _ _ _ _) _) _ _ _) | (with_reducible show wpAny _ _ (exec (PySem.Stmt.Assign [PySem.Expr.Name (PySem.Str.ofString "sign") _] _ _) _) _ _ _) | (with_reducible show wpAny _ _ (eval (PySem.Expr.GeneratorExp _ _ _ _) _) _ _ _) | (with_reducible show CompAt _ _ _ _ _ _ _ _ _ _ _ _ _ _ _ _) | (with_reducible show ForAt _ _ _ _ _ _ _ _ _ _) | (with_reducible show Kp _ _ _ ∧ _) | (with_reducible show wpAny _ _ (PySem.call (Value.ref _) _ _) _ _ _)))); (first | ((with_reducible show ite _ _ _); first | (refine PySem.W.ite_pos (by with_reducible assumption) ?_) | (refine PySem.W.ite_neg (by with_reducible assumption) ?_)) | walk1 | (dsimp only; walk1)))))
    refine wpAny_mono (Q := fun f s' => Cut (f = Flow.next ∧ ∃ t h tk, s' = { s with heap := h, toks := tk } ∧ Fr s.heap s.heap.objs.size h (fun y => if y = Str.ofString "sign" then some (.str (sgn signs) t) else if y = Str.ofString "signs" then some (.str signs ts) else if y = Str.ofString "name" then some (.str name tn) else if y = Str.ofString "x" then some (.int x u) else none))) ?_ ?_ (fun _ _ x => x)
    · (show wpAny _ _ _ _ _ _); k_fold
      walk1
      (repeat' (first | (k_unfold; (try dsimp only)) | ((fail_if_success ((first | (with_reducible show wpAny _ _ (eval (PySem.Expr.ListComp _ _ _ _) _) _ _ _) | (with_reducible show wpAny _ _ (exec (PySem.Stmt.Assign _ (PySem.Expr.ListComp _ _ _ _) _) _) _ _ _) | (with_reducible show wpAny _ _ (exec (PySem.Stmt.While _ _ _ _) _) _ _ _) | (with_reducible show wpAny _ _ (exec (PySem.Stmt.For _ _ _ _ _) _) _ _ _) | (with_reducible show wpAny _ _ (exec (PySem.Stmt.Assign [PySem.Expr.Name (PySem.Str.ofString "sign") _] _ _) _) _ _ _) | (with_reducible show wpAny _ _ (eval (PySem.Expr.GeneratorExp _ _ _ _) _) _ _ _) | (with_reducible show CompAt _ _ _ _ _ _ _ _ _ _ _ _ _ _ _ _) | (with_reducible show ForAt _ _ _ _ _ _ _ _ _ _) | (with_reducible show Kp _ _ _ ∧ _) | (with_reducible show wpAny _ _ (PySem.call (Value.ref _) _ _) _ _ _)))); (first | ((with_reducible show ite _ _ _); first | (refine PySem.W.ite_pos (by with_reducible assumption) ?_) | (refine PySem.W.ite_neg (by with_reducible assumption) ?_)) | walk1 | (dsimp only; walk1)))))
      all_goals (rename Fr _ _ _ _ => Fz)
      all_goals (refine fin2 _ _ _ _ _ Fz (by exact rfl) (by simp only [sgn, *, if_true, Bool.false_eq_true, if_false]) (fun y q1 => by simp only [q1, if_false]))
    · rintro f s' ⟨rfl, t5, h5, tk5, rfl, F6⟩
      have N6 : News s.heap s.heap.objs.size h5 [] := News.nil
      have hsg := sgn_len (signs := signs)
      clear N5 F5
      (repeat' (first | (k_unfold; (try dsimp only)) | ((fail_if_success ((first | (with_reducible show wpAny _ _ (eval (PySem.Expr.ListComp _ _ _ _) _) _ _ _) | (with_reducible show wpAny _ _ (exec (PySem.Stmt.Assign _ (PySem.Expr.ListComp _ _ _ _) _) _) _ _ _) | (with_reducible show wpAny _ _ (exec (PySem.Stmt.While _ _ _ _) _) _ _ _) | (with_reducible show wpAny _ _ (exec (PySem.Stmt.For _ _ _ _ _) _) _ _ _) | (with_reducible show wpAny _ _ (exec (PySem.Stmt.Assign [PySem.Expr.Name (PySem.Str.ofString "sign") _] _ _) _) _ _ _) | (with_reducible show wpAny _ _ (eval (PySem.Expr.GeneratorExp _ _ _ _) _) _ _ _) | (with_reducible show CompAt _ _ _ _ _ _ _ _ _ _ _ _ _ _ _ _) | (with_reducible show ForAt _ _ _ _ _ _ _ _ _ _) | (with_reducible show Kp _ _ _ ∧ _) | (with_reducible show wpAny _ _ (PySem.call (Value.ref _) _ _) _ _ _)))); (first | ((with_reducible show ite _ _ _); first | (refine PySem.W.ite_pos (by with_reducible assumption) ?_) | (refine PySem.W.ite_neg (by with_reducible assumption) ?_)) | walk1 | (dsimp only; walk1)))))
      all_goals (rename Fr _ _ _ _ => Fz)
      all_goals (refine fin _ _ _ _ _ _ _ Fz (by exact rfl) (by exact rfl) (by exact rfl) (fun y q1 q2 q3 q4 => by simp only [q1, q2, q3, q4, if_false]) ?_)
      all_goals (simp only [stepN, *, if_true, Bool.false_eq_true, if_false])
end
section
theorem splitroot {w : World} {dp un : Nat} {fr : Option (List Env)} {gd : Option (List Code)} {s : Shared} {p : Program} {loose : List Str} {mg mb : Str → Option Value} {Q E : Value → Shared → Prop} {a : Str} {u : Tok}
    (hdp : dp + 5 < recursionLimit) (X : (hd.heap_39 w.params).In s.heap) (T : TopRead p loose mg mb s.heap) (hl : a.length ≤ 1048576)
    (h1 : ¬ ((Txt.slice a none (some 1) != Str.ofString "/") = true)) (h2 : (Txt.slice a (some 1) (some 2) != Str.ofString "/") = true)
    (hQ : ∀ D t0 t1 t2 h' tk n, Kp [] s.heap h' → s.heap.get? D = none → h'.get? D = some { cls := .type "tuple", data := .seq #[.str (Str.ofString "") t0, .str (Str.ofString "/") t1, .str (Txt.slice a (some 1) none) t2] n } → Q (.ref D) { s with heap := h', toks := tk }) :
    wpAny (model PySem.Challenge.pw_ny0071_01 w) (AA dp un fr gd) (call (.ref 49) [.str a u]) Q E s := by
  w_on
  k_dflt (refine' enterK (binds := [(Str.ofString "p", .str a u)]) ?k3 ?k5 ?k6 ?k7 ?k8 ?k9 ?kB ?_ ?c2 ?c3 ?c4 ?c5; (case k3 => k_asm); (case k5 => k_asm); (case k6 => k_is); (case k7 => k_is); (case k8 => (dsimp only; omega)); (case k9 => first | assumption | exact BindsTo.of_eq rfl); (case c5 => decide); (case kB => exact locs rfl); (case c2 => exact rfl); (case c3 => exact rfl); (case c4 => exact rfl); k_whole)
  intro h' F' N'
  show wpAny _ _ _ _ _ _
  k_fold
  (repeat' (first | (k_unfold; (try dsimp only)) | ((fail_if_success ((first | (with_reducible show wpAny _ _ (eval (PySem.Expr.ListComp _ _ _ _) _) _ _ _) | (with_reducible show wpAny _ _ (exec (PySem.Stmt.Assign _ (PySem.Expr.ListComp _ _ _ _) _) _) _ _ _) | (with_reducible show wpAny _ _ (exec (PySem.Stmt.While _ _ _ _) _) _ _ _) | (with_reducible show wpAny _ _ (exec (PySem.Stmt.For _ _ _ _ _) _) _ _ _) | (with_reducible show wpAny _ _ (exec (PySem.Stmt.Assign [PySem.Expr.Name (PySem.Str.ofString "sign") _] _ _) _) _ _ _) | (with_reducible show wpAny _ _ (eval (PySem.Expr.GeneratorExp _ _ _ _) _) _ _ _) | (with_reducible show CompAt _ _ _ _ _ _ _ _ _ _ _ _ _ _ _ _) | (with_reducible show ForAt _ _ _ _ _ _ _ _ _ _) | (with_reducible show Kp _ _ _ ∧ _) | (with_reducible show wpAny _ _ (PySem.call (Value.ref _) _ _) _ _ _)))); (first | ((with_reducible show ite _ _ _); first | (refine PySem.W.ite_pos (by with_reducible assumption) ?_) | (refine PySem.W.ite_neg (by with_reducible assumption) ?_)) | walk1 | (dsimp only; walk1)))))
  rename Fr _ _ _ _ => Fz
  rename News _ _ _ _ => Nz
  exact hQ _ _ _ _ _ _ _ (Kp.of Fz.keep) (Nz.fresh (List.Mem.head _)) (Nz.get (List.Mem.head _))
theorem kindOf {w : World} {dp un : Nat} {fr : Option (List Env)} {gd : Option (List Code)} {s : Shared} {p : Program} {loose : List Str} {mg mb : Str → Option Value} {Q E : Value → Shared → Prop} {a b : Str} {u v : Tok}
    (hdp : dp + 5 < recursionLimit) (X : (hd.heap_39 w.params).In s.heap) (T : TopRead p loose mg mb s.heap)
    (hQ : ∀ t h' tk, Kp [] s.heap h' → Q (.str (Str.ofString "") t) { s with heap := h', toks := tk }) :
    wpAny (model PySem.Challenge.pw_ny0071_01 w) (AA dp un fr gd) (call (.ref 35) [.str b v, .str a u]) Q E s := by
  w_on
  k_dflt (refine' enterK (binds := [(Str.ofString "name", .str b v), (Str.ofString "x", .str a u)]) ?k3 ?k5 ?k6 ?k7 ?k8 ?k9 ?kB ?_ ?c2 ?c3 ?c4 ?c5; (case k3 => k_asm); (case k5 => k_asm); (case k6 => k_is); (case k7 => k_is); (case k8 => (dsimp only; omega)); (case k9 => first | assumption | exact BindsTo.of_eq rfl); (case c5 => decide); (case kB => exact locs rfl); (case c2 => exact rfl); (case c3 => exact rfl); (case c4 => exact rfl); k_whole)
  intro h' F' N'
  show wpAny _ _ _ _ _ _
  k_fold
  (repeat' (first | (k_unfold; (try dsimp only)) | ((fail_if_success ((first | (with_reducible show wpAny _ _ (eval (PySem.Expr.ListComp _ _ _ _) _) _ _ _) | (with_reducible show wpAny _ _ (exec (PySem.Stmt.Assign _ (PySem.Expr.ListComp _ _ _ _) _) _) _ _ _) | (with_reducible show wpAny _ _ (exec (PySem.Stmt.While _ _ _ _) _) _ _ _) | (with_reducible show wpAny _ _ (exec (PySem.Stmt.For _ _ _ _ _) _) _ _ _) | (with_reducible show wpAny _ _ (exec (PySem.Stmt.Assign [PySem.Expr.Name (PySem.Str.ofString "sign") _] _ _) _) _ _ _) | (with_reducible show wpAny _ _ (eval (PySem.Expr.GeneratorExp _ _ _ _) _) _ _ _) | (with_reducible show CompAt _ _ _ _ _ _ _ _ _ _ _ _ _ _ _ _) | (with_reducible show ForAt _ _ _ _ _ _ _ _ _ _) | (with_reducible show Kp _ _ _ ∧ _) | (with_reducible show wpAny _ _ (PySem.call (Value.ref _) _ _) _ _ _)))); (first | ((with_reducible show ite _ _ _); first | (refine PySem.W.ite_pos (by with_reducible assumption) ?_) | (refine PySem.W.ite_neg (by with_reducible assumption) ?_)) | walk1 | (dsimp only; walk1)))))
  rename Fr _ _ _ _ => Fz
  exact hQ _ _ _ (Kp.of Fz.keep)
theorem cPath {w : World} {dp un : Nat} {fr : Option (List Env)} {gd : Option (List Code)} {s : Shared} {p : Program} {loose : List Str} {mg mb : Str → Option Value} {Q E : Value → Shared → Prop} {h₀ : Heap} {a b c d : Str} {u v v2 v3 : Tok} {A K : Addr} {nA nK : Nat}
    (hdp : dp + 10 < recursionLimit) (hk : ∀ b o, h₀.get? b = some o → s.heap.get? b = some o) (X : (hd.heap_39 w.params).In h₀) (T : TopRead p loose mg mb h₀) (hKs : (K == sysModules) = false)
    (N : ∀ p ∈ [(A, ({ cls := .type "tuple", data := .seq #[.str a u] nA } : Obj)), (K, dictOf [] nK)], s.heap.get? p.1 = some p.2 ∧ h₀.get? p.1 = none)
    (hQ : ∀ h' tk, Kp [] s.heap h' → Q (.str a u) { s with heap := h', toks := tk }) :
    wpAny (model PySem.Challenge.pw_ny0071_01 w) (AA dp un fr gd) (call (.ref 42) [.str b v, .str c v2, .str d v3, .ref A, .ref K]) Q E s := by
  w_on
  k_dflt (refine' enterN (binds := [(Str.ofString "name", .str b v), (Str.ofString "cname", .str c v2), (Str.ofString "argname", .str d v3), (Str.ofString "args", .ref A), (Str.ofString "kwargs", .ref K)]) (news := [(A, ({ cls := .type "tuple", data := .seq #[.str a u] nA } : Obj)), (K, dictOf [] nK)]) ?kk ?kX ?kT ?kN ?k6 ?k7 ?k8 ?k9 ?kB ?_ ?c2 ?c3 ?c4 ?c5; (case kk => assumption); (case kX => k_asm); (case kT => k_asm); (case kN => assumption); (case k6 => k_is); (case k7 => k_is); (case k8 => (dsimp only; omega)); (case k9 => first | assumption | exact BindsTo.of_eq rfl | exact binds_K (X.keeps hk) rfl (by k_is) rfl rfl rfl); (case c5 => decide); (case kB => exact locs rfl); (case c2 => exact rfl); (case c3 => exact rfl); (case c4 => exact rfl); k_whole)
  intro g L' h' eg eL X' T' F' N'
  clear X T
  show wpAny _ _ _ _ _ _
  k_fold
  (repeat' (first | (k_unfold; (try dsimp only)) | ((fail_if_success ((first | (with_reducible show wpAny _ _ (eval (PySem.Expr.ListComp _ _ _ _) _) _ _ _) | (with_reducible show wpAny _ _ (exec (PySem.Stmt.Assign _ (PySem.Expr.ListComp _ _ _ _) _) _) _ _ _) | (with_reducible show wpAny _ _ (exec (PySem.Stmt.While _ _ _ _) _) _ _ _) | (with_reducible show wpAny _ _ (exec (PySem.Stmt.For _ _ _ _ _) _) _ _ _) | (with_reducible show wpAny _ _ (exec (PySem.Stmt.Assign [PySem.Expr.Name (PySem.Str.ofString "sign") _] _ _) _) _ _ _) | (with_reducible show wpAny _ _ (eval (PySem.Expr.GeneratorExp _ _ _ _) _) _ _ _) | (with_reducible show CompAt _ _ _ _ _ _ _ _ _ _ _ _ _ _ _ _) | (with_reducible show ForAt _ _ _ _ _ _ _ _ _ _) | (with_reducible show Kp _ _ _ ∧ _) | (with_reducible show wpAny _ _ (PySem.call (Value.ref _) _ _) _ _ _)))); (first | ((with_reducible show ite _ _ _); first | (refine PySem.W.ite_pos (by with_reducible assumption) ?_) | (refine PySem.W.ite_neg (by with_reducible assumption) ?_)) | walk1 | (dsimp only; walk1)))))
  k_dflt (refine truthy_empty hKs (N'.get (.tail _ (.head _))) ?_)
  (repeat' (first | (k_unfold; (try dsimp only)) | ((fail_if_success ((first | (with_reducible show wpAny _ _ (eval (PySem.Expr.ListComp _ _ _ _) _) _ _ _) | (with_reducible show wpAny _ _ (exec (PySem.Stmt.Assign _ (PySem.Expr.ListComp _ _ _ _) _) _) _ _ _) | (with_reducible show wpAny _ _ (exec (PySem.Stmt.While _ _ _ _) _) _ _ _) | (with_reducible show wpAny _ _ (exec (PySem.Stmt.For _ _ _ _ _) _) _ _ _) | (with_reducible show wpAny _ _ (exec (PySem.Stmt.Assign [PySem.Expr.Name (PySem.Str.ofString "sign") _] _ _) _) _ _ _) | (with_reducible show wpAny _ _ (eval (PySem.Expr.GeneratorExp _ _ _ _) _) _ _ _) | (with_reducible show CompAt _ _ _ _ _ _ _ _ _ _ _ _ _ _ _ _) | (with_reducible show ForAt _ _ _ _ _ _ _ _ _ _) | (with_reducible show Kp _ _ _ ∧ _) | (with_reducible show wpAny _ _ (PySem.call (Value.ref _) _ _) _ _ _)))); (first | ((with_reducible show ite _ _ _); first | (refine PySem.W.ite_pos (by with_reducible assumption) ?_) | (refine PySem.W.ite_neg (by with_reducible assumption) ?_)) | walk1 | (dsimp only; walk1)))))
  rename Fr _ _ _ _ => F1
  rename News _ _ _ _ => N1
  k_dflt (refine kindOf (by dsimp only [AA, Around.deeper]; omega) (X'.keeps F1.keep) (T'.keeps F1.keep) ?_)
  intro t2 h2 tk2 k2
  have F2 := fr_kp F1 k2
  have N2 := news_kp N1 k2
  clear F1 N1
  (repeat' (first | (k_unfold; (try dsimp only)) | ((fail_if_success ((first | (with_reducible show wpAny _ _ (eval (PySem.Expr.ListComp _ _ _ _) _) _ _ _) | (with_reducible show wpAny _ _ (exec (PySem.Stmt.Assign _ (PySem.Expr.ListComp _ _ _ _) _) _) _ _ _) | (with_reducible show wpAny _ _ (exec (PySem.Stmt.While _ _ _ _) _) _ _ _) | (with_reducible show wpAny _ _ (exec (PySem.Stmt.For _ _ _ _ _) _) _ _ _) | (with_reducible show wpAny _ _ (exec (PySem.Stmt.Assign [PySem.Expr.Name (PySem.Str.ofString "sign") _] _ _) _) _ _ _) | (with_reducible show wpAny _ _ (eval (PySem.Expr.GeneratorExp _ _ _ _) _) _ _ _) | (with_reducible show CompAt _ _ _ _ _ _ _ _ _ _ _ _ _ _ _ _) | (with_reducible show ForAt _ _ _ _ _ _ _ _ _ _) | (with_reducible show Kp _ _ _ ∧ _) | (with_reducible show wpAny _ _ (PySem.call (Value.ref _) _ _) _ _ _)))); (first | ((with_reducible show ite _ _ _); first | (refine PySem.W.ite_pos (by with_reducible assumption) ?_) | (refine PySem.W.ite_neg (by with_reducible assumption) ?_)) | walk1 | (dsimp only; walk1)))))
  rename Fr _ _ _ _ => F3
  rename News _ _ _ _ => N3
  subst eg
  exact hQ _ _ (Kp.of (hide_back F3 N3 (fun p hp => hp) N))
theorem bind_both {prog : Program} {w : World} {A : Around} {s : Shared} {name qual : Str} {params : Arguments} {body : List Stmt} {scope : Scope} {dV kV doc pm cdv ct : Value} {an : Option Addr} {v : Value} {n1 n2 : Str} {Q' : List (Str × Value) → Shared → Prop} {E' : Value → Shared → Prop}
    (e : bindArgs (fnOf name qual params body scope dV kV doc pm an cdv ct) ⟨[v], []⟩ = (do let t ← newTuple [v]; let d ← alloc { cls := .type "dict", data := .dict #[] }; pure [(n1, t), (n2, .ref d)]))
    (h : Q' [(n1, .ref s.heap.objs.size), (n2, .ref (s.heap.objs.size + 1))] { s with heap := (s.heap.push { cls := .type "tuple", data := .seq #[v] }).push { cls := .type "dict", data := .dict #[] } }) :
    wpAny (model prog w) A (bindArgs (fnOf name qual params body scope dV kV doc pm an cdv ct) ⟨[v], []⟩) Q' E' s := by
  rw [e]
  refine wpAny_bind (wpAny_newObj_type (wpAny_bind (wpAny_alloc (wpAny_pure ?_))) (by show (1 : Nat) ≤ sizeLine; decide))
  have q : (s.heap.push { cls := .type "tuple", data := .seq #[v] }).objs.size = s.heap.objs.size + 1 := Heap.size_push ..
  show Q' [(n1, .ref s.heap.objs.size), (n2, .ref (s.heap.push { cls := .type "tuple", data := .seq #[v] }).objs.size)] _
  rw [q]
  exact h
end
section
theorem normP {w : World} {dp un : Nat} {fr : Option (List Env)} {gd : Option (List Code)} {s : Shared} {p : Program} {loose : List Str} {mg mb : Str → Option Value} {Q E : Value → Shared → Prop} {a nm : Str} {u : Tok}
    (hdp : dp + 10 < recursionLimit) (X : (hd.heap_39 w.params).In s.heap) (T : TopRead p loose mg mb s.heap) (hl : a.length ≤ 1048576) (hne : a ≠ Str.ofString "")
    (h1 : ¬ ((Txt.slice a none (some 1) != Str.ofString "/") = true)) (h2 : (Txt.slice a (some 1) (some 2) != Str.ofString "/") = true)
    (hd1 : ¬ ((nm == Str.ofString ".") = true)) (hd2 : (nm != Str.ofString "..") = true) (hd3 : nm.length ≤ 100000)
    (hsp : Txt.split (Txt.slice a (some 1) none) (Str.ofString "/") = [Str.ofString "opt", nm])
    (hQ : ∀ t h' tk, Kp [] s.heap h' → Q (.str (npF nm) t) { s with heap := h', toks := tk }) :
    wpAny (model PySem.Challenge.pw_ny0071_01 w) (AA dp un fr gd) (call (.ref 56) [.str a u]) Q E s := by
  w_on
  k_dflt (refine' enterK (binds := [(Str.ofString "path", .str a u)]) ?k3 ?k5 ?k6 ?k7 ?k8 ?k9 ?kB ?_ ?c2 ?c3 ?c4 ?c5; (case k3 => k_asm); (case k5 => k_asm); (case k6 => k_is); (case k7 => k_is); (case k8 => (dsimp only; omega)); (case k9 => first | assumption | exact BindsTo.of_eq rfl); (case c5 => decide); (case kB => exact locs rfl); (case c2 => exact rfl); (case c3 => exact rfl); (case c4 => exact rfl); k_whole)
  intro h' F' N'
  show wpAny _ _ _ _ _ _
  k_fold
  (repeat' (first | (k_unfold; (try dsimp only)) | ((fail_if_success ((first | (with_reducible show wpAny _ _ (eval (PySem.Expr.ListComp _ _ _ _) _) _ _ _) | (with_reducible show wpAny _ _ (exec (PySem.Stmt.Assign _ (PySem.Expr.ListComp _ _ _ _) _) _) _ _ _) | (with_reducible show wpAny _ _ (exec (PySem.Stmt.While _ _ _ _) _) _ _ _) | (with_reducible show wpAny _ _ (exec (PySem.Stmt.For _ _ _ _ _) _) _ _ _) | (with_reducible show wpAny _ _ (exec (PySem.Stmt.Assign [PySem.Expr.Name (PySem.Str.ofString "sign") _] _ _) _) _ _ _) | (with_reducible show wpAny _ _ (eval (PySem.Expr.GeneratorExp _ _ _ _) _) _ _ _) | (with_reducible show CompAt _ _ _ _ _ _ _ _ _ _ _ _ _ _ _ _) | (with_reducible show ForAt _ _ _ _ _ _ _ _ _ _) | (with_reducible show Kp _ _ _ ∧ _) | (with_reducible show wpAny _ _ (PySem.call (Value.ref _) _ _) _ _ _)))); (first | ((with_reducible show ite _ _ _); first | (refine PySem.W.ite_pos (by with_reducible assumption) ?_) | (refine PySem.W.ite_neg (by with_reducible assumption) ?_)) | walk1 | (dsimp only; walk1)))))
  rotate_left
  · rename (_ : Int) = 0 => q
    exact absurd q (by have := len_pos hne; omega)
  rename Fr _ _ _ _ => F1
  rename News _ _ _ _ => N1
  k_dflt (refine splitroot (by dsimp only [AA, Around.deeper]; omega) (X.keeps F1.keep) (T.keeps F1.keep) hl h1 h2 ?_)
  intro D1 t0 t1 t2 h3 tk3 n3 k3 hD3 hg3
  have N2 := news_new F1 N1 k3 hD3 hg3
  have F2 := fr_kp F1 k3
  clear F1 N1
  (repeat' (first | (k_unfold; (try dsimp only)) | ((fail_if_success ((first | (with_reducible show wpAny _ _ (eval (PySem.Expr.ListComp _ _ _ _) _) _ _ _) | (with_reducible show wpAny _ _ (exec (PySem.Stmt.Assign _ (PySem.Expr.ListComp _ _ _ _) _) _) _ _ _) | (with_reducible show wpAny _ _ (exec (PySem.Stmt.While _ _ _ _) _) _ _ _) | (with_reducible show wpAny _ _ (exec (PySem.Stmt.For _ _ _ _ _) _) _ _ _) | (with_reducible show wpAny _ _ (exec (PySem.Stmt.Assign [PySem.Expr.Name (PySem.Str.ofString "sign") _] _ _) _) _ _ _) | (with_reducible show wpAny _ _ (eval (PySem.Expr.GeneratorExp _ _ _ _) _) _ _ _) | (with_reducible show CompAt _ _ _ _ _ _ _ _ _ _ _ _ _ _ _ _) | (with_reducible show ForAt _ _ _ _ _ _ _ _ _ _) | (with_reducible show Kp _ _ _ ∧ _) | (with_reducible show wpAny _ _ (PySem.call (Value.ref _) _ _) _ _ _)))); (first | ((with_reducible show ite _ _ _); first | (refine PySem.W.ite_pos (by with_reducible assumption) ?_) | (refine PySem.W.ite_neg (by with_reducible assumption) ?_)) | walk1 | (dsimp only; walk1)))))
  rename List.map (fun x : Str × Tok => x.1) _ = _ => hm
  rw [hsp] at hm
  rename List (Str × Tok) => l
  obtain ⟨⟨c1, ta⟩, l, rfl⟩ : ∃ x y, l = x :: y := by cases l with | nil => simp at hm | cons x y => exact ⟨x, y, rfl⟩
  obtain ⟨⟨c2, tb⟩, l, rfl⟩ : ∃ x y, l = x :: y := by cases l with | nil => simp at hm | cons x y => exact ⟨x, y, rfl⟩
  obtain rfl : l = [] := by cases l with | nil => rfl | cons x y => simp at hm
  simp only [List.map_cons, List.map_nil, List.cons.injEq, and_true] at hm
  obtain ⟨rfl, hm2⟩ := hm
  subst hm2
  rename Fr _ _ _ _ => F5
  rename News _ _ _ _ => N5
  have N6 : News s.heap _ _ [(_, W.listOf #[] 0), (_, W.listOf #[.str (Str.ofString "opt") ta, .str c2 tb] 0), (_, _)] := N5
  clear N5
  rename StrsAre _ _ => z1
  rename Heap.IsList _ _ _ => z2
  clear z1 z2
  k_steps
  · rename News _ _ _ _ => N7
    rename (_ : Int) ≠ 0 => q7
    k_dflt (refine join_listC (ys := [Str.ofString "opt", c2]) (list_of_get (N7.get (.head _))) (.cons _ _ (.cons _ _ .nil)) (by decide +kernel) (by simp only [List.map_cons, List.map_nil, List.sum_cons, List.sum_nil, List.length_cons, List.length_nil]; rw [show (Str.ofString "opt").length = 3 from by decide +kernel]; omega) ?_)
    intro t8 k8
    have hj := npF_join c2 (by omega)
    have hjl : (Txt.join (Str.ofString "/") [Str.ofString "opt", c2]).length ≤ 1048576 := Nat.le_trans (join_len2 _) (by simp only [List.map_cons, List.map_nil, List.sum_cons, List.sum_nil, List.length_cons, List.length_nil]; rw [show (Str.ofString "opt").length = 3 from by decide +kernel]; omega)
    k_steps
    rename Fr _ _ _ _ => F8
    rw [← hj] at hQ
    exact hQ _ _ _ (Kp.of F8.keep)
  · rename (_ : Int) = 0 => q7
    rename Fr _ _ _ _ => F7
    have e : npF c2 = Str.ofString "/opt" := if_pos (by omega)
    rw [e] at hQ
    exact hQ _ _ _ (Kp.of F7.keep)
theorem normpath {w : World} {dp un : Nat} {fr : Option (List Env)} {gd : Option (List Code)} {s : Shared} {p : Program} {loose : List Str} {mg mb : Str → Option Value} {Q E : Value → Shared → Prop} {a nm : Str} {u : Tok}
    (hdp : dp + 20 < recursionLimit) (X : (hd.heap_39 w.params).In s.heap) (T : TopRead p loose mg mb s.heap) (hl : a.length ≤ 1048576) (hne : a ≠ Str.ofString "")
    (h1 : ¬ ((Txt.slice a none (some 1) != Str.ofString "/") = true)) (h2 : (Txt.slice a (some 1) (some 2) != Str.ofString "/") = true)
    (hd1 : ¬ ((nm == Str.ofString ".") = true)) (hd2 : (nm != Str.ofString "..") = true) (hd3 : nm.length ≤ 100000)
    (hsp : Txt.split (Txt.slice a (some 1) none) (Str.ofString "/") = [Str.ofString "opt", nm])
    (hQ : ∀ t h' tk, Kp [] s.heap h' → Q (.str (npF nm) t) { s with heap := h', toks := tk }) :
    wpAny (model PySem.Challenge.pw_ny0071_01 w) (AA dp un fr gd) (call (.ref 63) [.str a u]) Q E s := by
  w_on
  have hs1 : (s.heap.push { cls := .type "tuple", data := .seq #[.str a u] }).objs.size = s.heap.objs.size + 1 := Heap.size_push ..
  k_dflt (refine' enterG (binds := [(Str.ofString "args", .ref s.heap.objs.size), (Str.ofString "kwargs", .ref (s.heap.objs.size + 1))]) (hb := (s.heap.push { cls := .type "tuple", data := .seq #[.str a u] }).push { cls := .type "dict", data := .dict #[] }) ?k3 ?k5 ?k6 ?k7 ?k8 ?kb ?k9 ?kB ?_ ?c2 ?c3 ?c4 ?c5; (case k3 => k_asm); (case k5 => k_asm); (case k6 => k_is); (case k7 => k_is); (case k8 => (dsimp only; omega)); (case kb => exact fun b o e => Heap.get?_push_of_some _ (Heap.get?_push_of_some _ e)); (case k9 => intro Q' E' h; exact bind_both rfl h); (case c5 => decide); (case kB => exact locs rfl); (case c2 => exact rfl); (case c3 => exact rfl); (case c4 => exact rfl); k_whole)
  intro L h₁ eL hk₁ hns
  have hL : L = s.heap.objs.size + 1 + 1 := by rw [eL, Heap.size_push, hs1]
  have F1 : Fr s.heap L h₁ (fun y => List.lookup y [(Str.ofString "args", Value.ref s.heap.objs.size), (Str.ofString "kwargs", Value.ref (s.heap.objs.size + 1))].reverse) := ⟨hns, fun b o e => hk₁ b o (Heap.get?_push_of_some _ (Heap.get?_push_of_some _ e)), by omega⟩
  have N1 : News s.heap L h₁ [(s.heap.objs.size, ({ cls := .type "tuple", data := .seq #[.str a u] } : Obj)), (s.heap.objs.size + 1, dictOf [] 0)] := by
    intro p hp
    rcases List.mem_cons.mp hp with rfl | hp
    · exact ⟨hk₁ _ _ (Heap.get?_push_of_some _ (Heap.get?_push_size _ rfl)), by show s.heap.objs.size ≠ L; omega, Heap.get?_none_of_le (Nat.le_refl _)⟩
    · rw [List.mem_singleton.mp hp]
      refine ⟨hk₁ _ _ ?_, by show s.heap.objs.size + 1 ≠ L; omega, Heap.get?_none_of_le (Nat.le_succ _)⟩
      show Heap.get? _ (s.heap.objs.size + 1) = _
      rw [← hs1]
      exact Heap.get?_push_size _ rfl
  have hms : ((s.heap.objs.size + 1 : Addr) == sysModules) = false := by
    have := modules_low T.nolimit
    exact beq_eq_false_iff_ne.mpr (Nat.ne_of_gt (Nat.lt_succ_of_lt this))
  show wpAny _ _ _ _ _ _
  k_fold
  (repeat' (first | (k_unfold; (try dsimp only)) | ((fail_if_success ((first | (with_reducible show wpAny _ _ (eval (PySem.Expr.ListComp _ _ _ _) _) _ _ _) | (with_reducible show wpAny _ _ (exec (PySem.Stmt.Assign _ (PySem.Expr.ListComp _ _ _ _) _) _) _ _ _) | (with_reducible show wpAny _ _ (exec (PySem.Stmt.While _ _ _ _) _) _ _ _) | (with_reducible show wpAny _ _ (exec (PySem.Stmt.For _ _ _ _ _) _) _ _ _) | (with_reducible show wpAny _ _ (exec (PySem.Stmt.Assign [PySem.Expr.Name (PySem.Str.ofString "sign") _] _ _) _) _ _ _) | (with_reducible show wpAny _ _ (eval (PySem.Expr.GeneratorExp _ _ _ _) _) _ _ _) | (with_reducible show CompAt _ _ _ _ _ _ _ _ _ _ _ _ _ _ _ _) | (with_reducible show ForAt _ _ _ _ _ _ _ _ _ _) | (with_reducible show Kp _ _ _ ∧ _) | (with_reducible show wpAny _ _ (PySem.call (Value.ref _) _ _) _ _ _)))); (first | ((with_reducible show ite _ _ _); first | (refine PySem.W.ite_pos (by with_reducible assumption) ?_) | (refine PySem.W.ite_neg (by with_reducible assumption) ?_)) | walk1 | (dsimp only; walk1)))))
  rename Fr _ _ _ _ => F2
  rename News _ _ _ _ => N2
  k_dflt (refine cPath (h₀ := s.heap) (by dsimp only [AA, Around.deeper]; omega) F2.keep X T hms (fun p hp => ⟨(N2 p hp).1, (N2 p hp).2.2⟩) ?_)
  intro h3 tk3 k3
  have F3 := fr_kp F2 k3
  have N3 := news_kp N2 k3
  clear F2 N2
  (repeat' (first | (k_unfold; (try dsimp only)) | ((fail_if_success ((first | (with_reducible show wpAny _ _ (eval (PySem.Expr.ListComp _ _ _ _) _) _ _ _) | (with_reducible show wpAny _ _ (exec (PySem.Stmt.Assign _ (PySem.Expr.ListComp _ _ _ _) _) _) _ _ _) | (with_reducible show wpAny _ _ (exec (PySem.Stmt.While _ _ _ _) _) _ _ _) | (with_reducible show wpAny _ _ (exec (PySem.Stmt.For _ _ _ _ _) _) _ _ _) | (with_reducible show wpAny _ _ (exec (PySem.Stmt.Assign [PySem.Expr.Name (PySem.Str.ofString "sign") _] _ _) _) _ _ _) | (with_reducible show wpAny _ _ (eval (PySem.Expr.GeneratorExp _ _ _ _) _) _ _ _) | (with_reducible show CompAt _ _ _ _ _ _ _ _ _ _ _ _ _ _ _ _) | (with_reducible show ForAt _ _ _ _ _ _ _ _ _ _) | (with_reducible show Kp _ _ _ ∧ _) | (with_reducible show wpAny _ _ (PySem.call (Value.ref _) _ _) _ _ _)))); (first | ((with_reducible show ite _ _ _); first | (refine PySem.W.ite_pos (by with_reducible assumption) ?_) | (refine PySem.W.ite_neg (by with_reducible assumption) ?_)) | walk1 | (dsimp only; walk1)))))
  rename Fr _ _ _ _ => F4
  k_dflt (refine normP (by dsimp only [AA, Around.deeper]; omega) (X.keeps F4.keep) (T.keeps F4.keep) hl hne h1 h2 hd1 hd2 hd3 hsp ?_)
  intro t5 h5 tk5 k5
  have F5 := fr_kp F4 k5
  (repeat' (first | (k_unfold; (try dsimp only)) | ((fail_if_success ((first | (with_reducible show wpAny _ _ (eval (PySem.Expr.ListComp _ _ _ _) _) _ _ _) | (with_reducible show wpAny _ _ (exec (PySem.Stmt.Assign _ (PySem.Expr.ListComp _ _ _ _) _) _) _ _ _) | (with_reducible show wpAny _ _ (exec (PySem.Stmt.While _ _ _ _) _) _ _ _) | (with_reducible show wpAny _ _ (exec (PySem.Stmt.For _ _ _ _ _) _) _ _ _) | (with_reducible show wpAny _ _ (exec (PySem.Stmt.Assign [PySem.Expr.Name (PySem.Str.ofString "sign") _] _ _) _) _ _ _) | (with_reducible show wpAny _ _ (eval (PySem.Expr.GeneratorExp _ _ _ _) _) _ _ _) | (with_reducible show CompAt _ _ _ _ _ _ _ _ _ _ _ _ _ _ _ _) | (with_reducible show ForAt _ _ _ _ _ _ _ _ _ _) | (with_reducible show Kp _ _ _ ∧ _) | (with_reducible show wpAny _ _ (PySem.call (Value.ref _) _ _) _ _ _)))); (first | ((with_reducible show ite _ _ _); first | (refine PySem.W.ite_pos (by with_reducible assumption) ?_) | (refine PySem.W.ite_neg (by with_reducible assumption) ?_)) | walk1 | (dsimp only; walk1)))))
  exact hQ _ _ _ (Kp.of F5.keep)
end
section
theorem TabOk.at2 {h h' : Heap} {c P : Addr} {ps : Array Value} (x : TabOk h c P ps) (k : ∀ o, h.get? c = some o → h'.get? c = some o) (k' : ∀ o, h.get? P = some o → h'.get? P = some o) : TabOk h' c P ps := by
  obtain ⟨⟨o, vs, file, tf, flags, tg, inF, text, tt, op, a, r1, r2, r3, r4, r5, r6, b, r⟩, ⟨⟨oc, vc, a', r'⟩, t'⟩⟩ := x
  exact ⟨⟨o, vs, file, tf, flags, tg, inF, text, tt, op, k _ a, r1, r2, r3, r4, r5, r6, k' _ b, r⟩, ⟨⟨oc, vc, k _ a', r'⟩, k' _ t'⟩⟩
theorem slice_last_len (p : Str) (h : p.length ≠ 0) : (Txt.slice p none (some (-1))).length = p.length - 1 := by
  have e := StrLaws.sliceText_to_neg (x := p) (j := -1) (by decide) (by omega)
  have e2 : Txt.slice p none (some (-1)) = StrLaws.sliceText p none (some (-1)) := rfl
  rw [e2, e]
  have h2 : p.cps.size = p.length := rfl
  simp only [Str.length, List.drop_zero, List.size_toArray, List.length_take, Array.length_toList]
  omega
theorem bind_star {prog : Program} {w : World} {A : Around} {s : Shared} {name qual : Str} {params : Arguments} {body : List Stmt} {scope : Scope} {dV kV doc pm cdv ct : Value} {an : Option Addr} {vs : List Value} {n1 : Str} {Q' : List (Str × Value) → Shared → Prop} {E' : Value → Shared → Prop}
    (e : bindArgs (fnOf name qual params body scope dV kV doc pm an cdv ct) ⟨vs, []⟩ = (do let t ← newTuple vs; pure [(n1, t)])) (hz : vs.length ≤ sizeLine)
    (h : Q' [(n1, .ref s.heap.objs.size)] { s with heap := s.heap.push { cls := .type "tuple", data := .seq vs.toArray } }) :
    wpAny (model prog w) A (bindArgs (fnOf name qual params body scope dV kV doc pm an cdv ct) ⟨vs, []⟩) Q' E' s := by
  rw [e]
  exact wpAny_bind (wpAny_newObj_type (wpAny_pure h) (by show vs.toArray.size ≤ sizeLine; rw [List.size_toArray]; exact hz))
theorem platform {w : World} {dp un : Nat} {fr : Option (List Env)} {gd : Option (List Code)} {s : Shared} {p : Program} {loose : List Str} {mg mb : Str → Option Value} {Q E : Value → Shared → Prop} {a b c : Str} {u v v2 : Tok} {bm : Addr} {ob : Obj} {ps : Array Value}
    (hdp : dp + 10 < recursionLimit) (X : (hd.heap_39 w.params).In s.heap) (T : TopRead p loose mg mb s.heap) (hB : BMod s.heap mainGlobals mg bm ob) (hTab : TabOk s.heap 27 23 ps) (hG : AllBare s.gens)
    (ha : a.length ≤ 14) (hb : b.length ≤ 14) (hc : c.length ≤ 14)
    (hQ : ∀ t s', Kp [23] s.heap s'.heap → s'.os = s.os → AllBare s'.gens → (∃ ps', TabOk s'.heap 27 23 ps') → Q (.str (platT [a, b, c]) t) s') :
    wpAny (model PySem.Challenge.pw_ny0071_01 w) (AA dp un fr gd) (call (.ref 28) [.str a u, .str b v, .str c v2]) Q E s := by
  w_on
  k_dflt (refine' enterG (binds := [(Str.ofString "args", .ref s.heap.objs.size)]) (hb := s.heap.push { cls := .type "tuple", data := .seq #[.str a u, .str b v, .str c v2] }) ?k3 ?k5 ?k6 ?k7 ?k8 ?kb ?k9 ?kB ?_ ?c2 ?c3 ?c4 ?c5; (case k3 => k_asm); (case k5 => k_asm); (case k6 => k_is); (case k7 => k_is); (case k8 => (dsimp only; omega)); (case kb => exact fun b o e => Heap.get?_push_of_some _ e); (case k9 => intro Q' E' h; exact bind_star rfl (by show 3 ≤ sizeLine; decide) h); (case c5 => decide); (case kB => exact locs rfl); (case c2 => exact rfl); (case c3 => exact rfl); (case c4 => exact rfl); k_whole)
  intro L h₁ eL hk₁ hns
  have hg : ∀ b o, b ≠ 23 → s.heap.get? b = some o → (hideAll s.heap [23]).get? b = some o := fun b o hb e => hideAll_get _ e (by simpa using hb)
  have X' : (hd.heap_39 w.params).In (hideAll s.heap [23]) := fun a o e => hg a o (fun q => by subst q; exact absurd e (by rw [show (hd.heap_39 w.params).lookup 23 = none from rfl]; simp)) (X a o e)
  have T' : TopRead p loose mg mb (hideAll s.heap [23]) := ⟨T.g.at' fun o e => hg _ o (by decide) e, T.b.at' fun o e => hg _ o (by decide) e, (let ⟨mc, hn, hnn⟩ := T.nolimit; ⟨mc, hn.at' fun o e => hg _ o (by decide) e, hnn⟩), T.builtins, T.free⟩
  have hs1 : (s.heap.push { cls := .type "tuple", data := .seq #[.str a u, .str b v, .str c v2] }).objs.size = s.heap.objs.size + 1 := Heap.size_push ..
  have hL : L = s.heap.objs.size + 1 := by rw [eL, hs1]
  have F1 : Fr (hideAll s.heap [23]) L h₁ (fun y => List.lookup y [(Str.ofString "args", Value.ref s.heap.objs.size)].reverse) := ⟨hns, fun b o e => hk₁ b o (Heap.get?_push_of_some _ (of_hideAll _ e)), by rw [hideAll_size]; omega⟩
  have N1 : News (hideAll s.heap [23]) L h₁ [(s.heap.objs.size, ({ cls := .type "tuple", data := .seq #[.str a u, .str b v, .str c v2] } : Obj))] := by
    intro p hp
    rw [List.mem_singleton.mp hp]
    exact ⟨hk₁ _ _ (Heap.get?_push_size _ rfl), by show s.heap.objs.size ≠ L; omega, Heap.get?_none_of_le (by rw [hideAll_size]; exact Nat.le_refl _)⟩
  have hTab1 : TabOk h₁ 27 23 ps := hTab.kp (M := []) (Kp.of fun b o e => hk₁ b o (Heap.get?_push_of_some _ e)) (by simp) (by simp)
  clear X T
  show wpAny _ _ _ _ _ _
  k_fold
  k_dflt (refine execs_tok (by dsimp only [List.length_cons, List.length_nil]; omega) ?_)
  k_fold
  (repeat' (first | (k_unfold; (try dsimp only)) | ((fail_if_success ((first | (with_reducible show wpAny _ _ (eval (PySem.Expr.ListComp _ _ _ _) _) _ _ _) | (with_reducible show wpAny _ _ (exec (PySem.Stmt.Assign _ (PySem.Expr.ListComp _ _ _ _) _) _) _ _ _) | (with_reducible show wpAny _ _ (exec (PySem.Stmt.While _ _ _ _) _) _ _ _) | (with_reducible show wpAny _ _ (exec (PySem.Stmt.For _ _ _ _ _) _) _ _ _) | (with_reducible show wpAny _ _ (exec (PySem.Stmt.Assign [PySem.Expr.Name (PySem.Str.ofString "sign") _] _ _) _) _ _ _) | (with_reducible show wpAny _ _ (eval (PySem.Expr.GeneratorExp _ _ _ _) _) _ _ _) | (with_reducible show CompAt _ _ _ _ _ _ _ _ _ _ _ _ _ _ _ _) | (with_reducible show ForAt _ _ _ _ _ _ _ _ _ _) | (with_reducible show Kp _ _ _ ∧ _) | (with_reducible show wpAny _ _ (PySem.call (Value.ref _) _ _) _ _ _)))); (first | ((with_reducible show ite _ _ _); first | (refine PySem.W.ite_pos (by with_reducible assumption) ?_) | (refine PySem.W.ite_neg (by with_reducible assumption) ?_)) | walk1 | (dsimp only; walk1)))))
  have hit : L < h₁.objs.size := hns.lt
  have hsz1 : s.heap.objs.size < h₁.objs.size := Heap.lt_size (N1.get (.head _))
  have h23 : (23 : Nat) < s.heap.objs.size := Heap.lt_size hTab.tab.2
  have h2 : (cStatics : Nat) < s.heap.objs.size := Heap.lt_size (X' _ _ (show (hd.heap_39 w.params).lookup cStatics = _ from rfl) |> of_hideAll _)
  k_dflt (refine gen_filter (c := 27) (P := 23) (f := Txt.strip) (mg := mg) (bm := bm) (ob := ob) (by rfl) (by rfl) (by with_unfolding_all rfl) (by decide) (by rfl) (by rfl) (by rfl) (by dsimp only [AA, Around.deeper]; omega) (by rfl) (by rfl) ?_ ?_ (by intro _; rfl))
  · intro A' E' r u' code bi C m₂ s₂ hl hn hm
    clear X' T' F1 N1
    repeat walk1
    exact ⟨_, _, rfl, fun _ _ e => e⟩
  · (repeat' (first | (k_unfold; (try dsimp only)) | ((fail_if_success ((first | (with_reducible show wpAny _ _ (eval (PySem.Expr.ListComp _ _ _ _) _) _ _ _) | (with_reducible show wpAny _ _ (exec (PySem.Stmt.Assign _ (PySem.Expr.ListComp _ _ _ _) _) _) _ _ _) | (with_reducible show wpAny _ _ (exec (PySem.Stmt.While _ _ _ _) _) _ _ _) | (with_reducible show wpAny _ _ (exec (PySem.Stmt.For _ _ _ _ _) _) _ _ _) | (with_reducible show wpAny _ _ (exec (PySem.Stmt.Assign [PySem.Expr.Name (PySem.Str.ofString "sign") _] _ _) _) _ _ _) | (with_reducible show wpAny _ _ (eval (PySem.Expr.GeneratorExp _ _ _ _) _) _ _ _) | (with_reducible show CompAt _ _ _ _ _ _ _ _ _ _ _ _ _ _ _ _) | (with_reducible show ForAt _ _ _ _ _ _ _ _ _ _) | (with_reducible show Kp _ _ _ ∧ _) | (with_reducible show wpAny _ _ (PySem.call (Value.ref _) _ _) _ _ _)))); (first | ((with_reducible show ite _ _ _); first | (refine PySem.W.ite_pos (by with_reducible assumption) ?_) | (refine PySem.W.ite_neg (by with_reducible assumption) ?_)) | walk1 | (dsimp only; walk1)))))
    rename Fr _ _ _ _ => F2
    rename News _ _ _ _ => N2
    have gt : h₁.get? s.heap.objs.size = some { cls := .type "tuple", data := .seq #[.str a u, .str b v, .str c v2] } := N2.get (.head _)
    k_dflt (refine call_filter (items := #[.str a u, .str b v, .str c v2]) ⟨_, gt, rfl, _, rfl⟩ ?_)
    have e1 : (h₁.push { cls := .type "tuple_iterator", data := .fields #[.ref s.heap.objs.size, .int 0 0] }).objs.size = h₁.objs.size + 1 := Heap.size_push ..
    have kH : Kp [] h₁ ((h₁.push { cls := .type "tuple_iterator", data := .fields #[.ref s.heap.objs.size, .int 0 0] }).push { cls := .type "filter", data := .fields #[.builtin "len", .ref h₁.objs.size] }) := Kp.of fun b o e => Heap.get?_push_of_some _ (Heap.get?_push_of_some _ e)
    have gz : ((h₁.push { cls := .type "tuple_iterator", data := .fields #[.ref s.heap.objs.size, .int 0 0] }).push { cls := .type "filter", data := .fields #[.builtin "len", .ref h₁.objs.size] }).get? (h₁.objs.size + 1) = some { cls := .type "filter", data := .fields #[.builtin "len", .ref h₁.objs.size] } := by
      rw [← e1]; exact Heap.get?_push_size _ rfl
    refine ⟨h₁.objs.size + 1, h₁.objs.size, s.heap.objs.size, #[.str a u, .str b v, .str c v2], ps, rfl, ⟨gz, ⟨_, Heap.get?_push_of_some _ (Heap.get?_push_size _ rfl), rfl, rfl⟩, ⟨_, kH.all _ _ gt, rfl, _, rfl⟩⟩, Nat.succ_ne_self _, Nat.ne_of_lt hsz1, ?_, hTab1.kp kH (by simp) (by simp), ?_, ?_, ?_, by decide, by decide, ?_, ?_, ?_⟩
    · intro x hx
      simp only [List.mem_toArray, List.mem_cons, List.not_mem_nil, or_false] at hx
      rcases hx with rfl | rfl | rfl
      · exact ⟨_, _, rfl, by omega⟩
      · exact ⟨_, _, rfl, by omega⟩
      · exact ⟨_, _, rfl, by omega⟩
    · simp only [List.mem_cons, List.not_mem_nil, or_false]
      rintro (q | q | q)
      · exact absurd q (Nat.ne_of_lt (by omega : 23 < h₁.objs.size + 1))
      · exact absurd q (Nat.ne_of_lt (by omega : 23 < h₁.objs.size))
      · exact absurd q (Nat.ne_of_lt h23)
    · exact ⟨hB.ns.at' fun o e => kH.all _ o (hk₁ _ o (Heap.get?_push_of_some _ e)), hB.name, hB.ne, kH.all _ _ (hk₁ _ _ (Heap.get?_push_of_some _ hB.obj)), hB.cls, hB.dict, hB.data⟩
    · intro q
      have := hB.obj
      rw [q, hTab.tab.2] at this
      have e := hB.cls
      cases this; cases e
    · exact Nat.ne_of_lt (Nat.lt_trans h2 hsz1)
    · exact (T'.nolimit.keeps F2.keep).keeps kH.all
    · intro ag C s₅ ps' hX hC hk5 hos5 hG5 hTab5
      have hL23 : L ≠ 23 := by omega
      have F5 := fr_kpM (fr_kp F2 kH) hk5 (by simpa using hL23) (fun b hb => by rw [List.mem_singleton.mp hb]; exact hideAll_none _ (by simp))
      have N5 : News (hideAll s.heap [23]) L s₅.heap [] := News.nil
      clear F2 N2
      (repeat' (first | (k_unfold; (try dsimp only)) | ((fail_if_success ((first | (with_reducible show wpAny _ _ (eval (PySem.Expr.ListComp _ _ _ _) _) _ _ _) | (with_reducible show wpAny _ _ (exec (PySem.Stmt.Assign _ (PySem.Expr.ListComp _ _ _ _) _) _) _ _ _) | (with_reducible show wpAny _ _ (exec (PySem.Stmt.While _ _ _ _) _) _ _ _) | (with_reducible show wpAny _ _ (exec (PySem.Stmt.For _ _ _ _ _) _) _ _ _) | (with_reducible show wpAny _ _ (exec (PySem.Stmt.Assign [PySem.Expr.Name (PySem.Str.ofString "sign") _] _ _) _) _ _ _) | (with_reducible show wpAny _ _ (eval (PySem.Expr.GeneratorExp _ _ _ _) _) _ _ _) | (with_reducible show CompAt _ _ _ _ _ _ _ _ _ _ _ _ _ _ _ _) | (with_reducible show ForAt _ _ _ _ _ _ _ _ _ _) | (with_reducible show Kp _ _ _ ∧ _) | (with_reducible show wpAny _ _ (PySem.call (Value.ref _) _ _) _ _ _)))); (first | ((with_reducible show ite _ _ _); first | (refine PySem.W.ite_pos (by with_reducible assumption) ?_) | (refine PySem.W.ite_neg (by with_reducible assumption) ?_)) | walk1 | (dsimp only; walk1)))))
      have hsA : StrsAre [.str a u, .str b v, .str c v2] [a, b, c] := .cons _ _ (.cons _ _ (.cons _ _ .nil))
      have hsm := parts_small2 (l := [a, b, c]) fun t ht => by
        simp only [List.mem_cons, List.not_mem_nil, or_false] at ht
        rcases ht with rfl | rfl | rfl <;> assumption
      have hl3 : [a, b, c].length = 3 := rfl
      k_dflt (refine join_genX (texts := parts [a, b, c]) hX (hG5 hG) (kept_len hsA) (fun j y hy => ?_) (joinOk_small ?_) ?_ ?_)
      · obtain ⟨r, u0, u1, e1, e2⟩ := hy
        exact ⟨_, _, kept_get hsA e1, e2⟩
      · rw [show (Str.ofString "-").length = 1 from by decide +kernel]; omega
      · intro t6 s₆ k6 hos6 hG6
        have F6 := fr_kpM F5 k6 (by
          simp only [List.mem_cons, List.not_mem_nil, or_false]
          have hC' : h₁.objs.size + 1 + 1 ≤ C := by rw [← e1, ← Heap.size_push]; exact hC
          rintro (q | q)
          · exact absurd q (Nat.ne_of_lt (by omega : L < C))
          · exact absurd q (Nat.ne_of_lt hit)) (fun b hb => Heap.get?_none_of_le (by
            rw [hideAll_size]
            have hC' : h₁.objs.size + 1 + 1 ≤ C := by rw [← e1, ← Heap.size_push]; exact hC
            simp only [List.mem_cons, List.not_mem_nil, or_false] at hb
            rcases hb with rfl | rfl <;> omega))
        have hTab6 : TabOk s₆.heap 27 23 ps' := hTab5.kp k6 (by
          have hC' : h₁.objs.size + 1 + 1 ≤ C := by rw [← e1, ← Heap.size_push]; exact hC
          have h27 : (27 : Nat) < s.heap.objs.size := by obtain ⟨⟨_, _, e, _⟩, _⟩ := hTab.tab; exact Heap.lt_size e
          simp only [List.mem_cons, List.not_mem_nil, or_false]
          rintro (q | q)
          · exact absurd q (Nat.ne_of_lt <| Nat.lt_of_lt_of_le (Nat.lt_trans (Nat.lt_trans h27 hsz1) (Nat.lt_trans (Nat.lt_succ_self _) (Nat.lt_succ_self _))) hC')
          · exact absurd q (Nat.ne_of_lt (Nat.lt_trans h27 hsz1))) (by
          have hC' : h₁.objs.size + 1 + 1 ≤ C := by rw [← e1, ← Heap.size_push]; exact hC
          simp only [List.mem_cons, List.not_mem_nil, or_false]
          rintro (q | q)
          · exact absurd q (Nat.ne_of_lt <| Nat.lt_of_lt_of_le (Nat.lt_trans (Nat.lt_trans h23 hsz1) (Nat.lt_trans (Nat.lt_succ_self _) (Nat.lt_succ_self _))) hC')
          · exact absurd q (Nat.ne_of_lt (Nat.lt_trans h23 hsz1)))
        obtain ⟨o23, ho23⟩ : ∃ o, s₆.heap.get? 23 = some o := ⟨_, hTab6.tab.2⟩
        have N6 : News (hideAll s.heap [23]) L s₆.heap [(23, o23)] := fun p hp => by
          rw [List.mem_singleton.mp hp]
          exact ⟨ho23, Ne.symm hL23, hideAll_none _ (by simp)⟩
        have hfin : ∀ t h' tk m', Fr (hideAll s.heap [23]) L h' m' → News (hideAll s.heap [23]) L h' [(23, o23)] → Q (.str (platT [a, b, c]) t) { s₆ with heap := h', toks := tk } := by
          intro t h' tk m' F' N'
          refine hQ t _ (fun b o hb e => F'.keep b o (hg b o (by simpa using hb) e)) (hos6.trans (hos5.trans rfl)) hG6 ⟨ps', ?_⟩
          obtain ⟨o27, ho27⟩ : ∃ o, s.heap.get? 27 = some o := by obtain ⟨⟨_, _, e, _⟩, _⟩ := hTab.tab; exact ⟨_, e⟩
          have g27 := hg 27 _ (by decide) ho27
          refine hTab6.at2 (fun o e => ?_) (fun o e => ?_)
          · rw [F6.keep _ _ g27] at e; rw [← e]; exact F'.keep _ _ g27
          · rw [ho23] at e; rw [← e]; exact N'.get (.head _)
        have hl6 : (Txt.join (Str.ofString "-") (parts [a, b, c])).length ≤ 45 := signs0_len2 ha hb hc
        clear F5 N5
        (repeat' (first | (k_unfold; (try dsimp only)) | ((fail_if_success ((first | (with_reducible show wpAny _ _ (eval (PySem.Expr.ListComp _ _ _ _) _) _ _ _) | (with_reducible show wpAny _ _ (exec (PySem.Stmt.Assign _ (PySem.Expr.ListComp _ _ _ _) _) _) _ _ _) | (with_reducible show wpAny _ _ (exec (PySem.Stmt.While _ _ _ _) _) _ _ _) | (with_reducible show wpAny _ _ (exec (PySem.Stmt.For _ _ _ _ _) _) _ _ _) | (with_reducible show wpAny _ _ (exec (PySem.Stmt.Assign [PySem.Expr.Name (PySem.Str.ofString "sign") _] _ _) _) _ _ _) | (with_reducible show wpAny _ _ (eval (PySem.Expr.GeneratorExp _ _ _ _) _) _ _ _) | (with_reducible show CompAt _ _ _ _ _ _ _ _ _ _ _ _ _ _ _ _) | (with_reducible show ForAt _ _ _ _ _ _ _ _ _ _) | (with_reducible show Kp _ _ _ ∧ _) | (with_reducible show wpAny _ _ (PySem.call (Value.ref _) _ _) _ _ _)))); (first | ((with_reducible show ite _ _ _); first | (refine PySem.W.ite_pos (by with_reducible assumption) ?_) | (refine PySem.W.ite_neg (by with_reducible assumption) ?_)) | walk1 | (dsimp only; walk1)))))
        k_dflt (refine TokAt.gen ?_)
        intro tk htk
        k_dflt (refine execs_tok (by assumption) ?_)
        k_fold
        (repeat' (first | (k_unfold; (try dsimp only)) | ((fail_if_success ((first | (with_reducible show wpAny _ _ (eval (PySem.Expr.ListComp _ _ _ _) _) _ _ _) | (with_reducible show wpAny _ _ (exec (PySem.Stmt.Assign _ (PySem.Expr.ListComp _ _ _ _) _) _) _ _ _) | (with_reducible show wpAny _ _ (exec (PySem.Stmt.While _ _ _ _) _) _ _ _) | (with_reducible show wpAny _ _ (exec (PySem.Stmt.For _ _ _ _ _) _) _ _ _) | (with_reducible show wpAny _ _ (exec (PySem.Stmt.Assign [PySem.Expr.Name (PySem.Str.ofString "sign") _] _ _) _) _ _ _) | (with_reducible show wpAny _ _ (eval (PySem.Expr.GeneratorExp _ _ _ _) _) _ _ _) | (with_reducible show CompAt _ _ _ _ _ _ _ _ _ _ _ _ _ _ _ _) | (with_reducible show ForAt _ _ _ _ _ _ _ _ _ _) | (with_reducible show Kp _ _ _ ∧ _) | (with_reducible show wpAny _ _ (PySem.call (Value.ref _) _ _) _ _ _)))); (first | ((with_reducible show ite _ _ _); first | (refine PySem.W.ite_pos (by with_reducible assumption) ?_) | (refine PySem.W.ite_neg (by with_reducible assumption) ?_)) | walk1 | (dsimp only; walk1)))))
        k_dflt (refine rep_step (by assumption) (by decide +kernel) (by assumption) (by decide +kernel) (by decide +kernel) (by decide +kernel) ?_)
        intro x1 t1 k1 e1 _ hx1
        (repeat' (first | (k_unfold; (try dsimp only)) | ((fail_if_success ((first | (with_reducible show wpAny _ _ (eval (PySem.Expr.ListComp _ _ _ _) _) _ _ _) | (with_reducible show wpAny _ _ (exec (PySem.Stmt.Assign _ (PySem.Expr.ListComp _ _ _ _) _) _) _ _ _) | (with_reducible show wpAny _ _ (exec (PySem.Stmt.While _ _ _ _) _) _ _ _) | (with_reducible show wpAny _ _ (exec (PySem.Stmt.For _ _ _ _ _) _) _ _ _) | (with_reducible show wpAny _ _ (exec (PySem.Stmt.Assign [PySem.Expr.Name (PySem.Str.ofString "sign") _] _ _) _) _ _ _) | (with_reducible show wpAny _ _ (eval (PySem.Expr.GeneratorExp _ _ _ _) _) _ _ _) | (with_reducible show CompAt _ _ _ _ _ _ _ _ _ _ _ _ _ _ _ _) | (with_reducible show ForAt _ _ _ _ _ _ _ _ _ _) | (with_reducible show Kp _ _ _ ∧ _) | (with_reducible show wpAny _ _ (PySem.call (Value.ref _) _ _) _ _ _)))); (first | ((with_reducible show ite _ _ _); first | (refine PySem.W.ite_pos (by with_reducible assumption) ?_) | (refine PySem.W.ite_neg (by with_reducible assumption) ?_)) | walk1 | (dsimp only; walk1)))))
        k_dflt (refine TokAt.gen ?_)
        intro tk1 htk1
        k_dflt (refine execs_tok (by assumption) ?_)
        k_fold
        (repeat' (first | (k_unfold; (try dsimp only)) | ((fail_if_success ((first | (with_reducible show wpAny _ _ (eval (PySem.Expr.ListComp _ _ _ _) _) _ _ _) | (with_reducible show wpAny _ _ (exec (PySem.Stmt.Assign _ (PySem.Expr.ListComp _ _ _ _) _) _) _ _ _) | (with_reducible show wpAny _ _ (exec (PySem.Stmt.While _ _ _ _) _) _ _ _) | (with_reducible show wpAny _ _ (exec (PySem.Stmt.For _ _ _ _ _) _) _ _ _) | (with_reducible show wpAny _ _ (exec (PySem.Stmt.Assign [PySem.Expr.Name (PySem.Str.ofString "sign") _] _ _) _) _ _ _) | (with_reducible show wpAny _ _ (eval (PySem.Expr.GeneratorExp _ _ _ _) _) _ _ _) | (with_reducible show CompAt _ _ _ _ _ _ _ _ _ _ _ _ _ _ _ _) | (with_reducible show ForAt _ _ _ _ _ _ _ _ _ _) | (with_reducible show Kp _ _ _ ∧ _) | (with_reducible show wpAny _ _ (PySem.call (Value.ref _) _ _) _ _ _)))); (first | ((with_reducible show ite _ _ _); first | (refine PySem.W.ite_pos (by with_reducible assumption) ?_) | (refine PySem.W.ite_neg (by with_reducible assumption) ?_)) | walk1 | (dsimp only; walk1)))))
        k_dflt (refine rep_step (by assumption) (by decide +kernel) (by assumption) (by decide +kernel) (by decide +kernel) (by decide +kernel) ?_)
        intro x2 t2 k2 e2 _ hx2
        (repeat' (first | (k_unfold; (try dsimp only)) | ((fail_if_success ((first | (with_reducible show wpAny _ _ (eval (PySem.Expr.ListComp _ _ _ _) _) _ _ _) | (with_reducible show wpAny _ _ (exec (PySem.Stmt.Assign _ (PySem.Expr.ListComp _ _ _ _) _) _) _ _ _) | (with_reducible show wpAny _ _ (exec (PySem.Stmt.While _ _ _ _) _) _ _ _) | (with_reducible show wpAny _ _ (exec (PySem.Stmt.For _ _ _ _ _) _) _ _ _) | (with_reducible show wpAny _ _ (exec (PySem.Stmt.Assign [PySem.Expr.Name (PySem.Str.ofString "sign") _] _ _) _) _ _ _) | (with_reducible show wpAny _ _ (eval (PySem.Expr.GeneratorExp _ _ _ _) _) _ _ _) | (with_reducible show CompAt _ _ _ _ _ _ _ _ _ _ _ _ _ _ _ _) | (with_reducible show ForAt _ _ _ _ _ _ _ _ _ _) | (with_reducible show Kp _ _ _ ∧ _) | (with_reducible show wpAny _ _ (PySem.call (Value.ref _) _ _) _ _ _)))); (first | ((with_reducible show ite _ _ _); first | (refine PySem.W.ite_pos (by with_reducible assumption) ?_) | (refine PySem.W.ite_neg (by with_reducible assumption) ?_)) | walk1 | (dsimp only; walk1)))))
        k_dflt (refine TokAt.gen ?_)
        intro tk2 htk2
        k_dflt (refine execs_tok (by assumption) ?_)
        k_fold
        (repeat' (first | (k_unfold; (try dsimp only)) | ((fail_if_success ((first | (with_reducible show wpAny _ _ (eval (PySem.Expr.ListComp _ _ _ _) _) _ _ _) | (with_reducible show wpAny _ _ (exec (PySem.Stmt.Assign _ (PySem.Expr.ListComp _ _ _ _) _) _) _ _ _) | (with_reducible show wpAny _ _ (exec (PySem.Stmt.While _ _ _ _) _) _ _ _) | (with_reducible show wpAny _ _ (exec (PySem.Stmt.For _ _ _ _ _) _) _ _ _) | (with_reducible show wpAny _ _ (exec (PySem.Stmt.Assign [PySem.Expr.Name (PySem.Str.ofString "sign") _] _ _) _) _ _ _) | (with_reducible show wpAny _ _ (eval (PySem.Expr.GeneratorExp _ _ _ _) _) _ _ _) | (with_reducible show CompAt _ _ _ _ _ _ _ _ _ _ _ _ _ _ _ _) | (with_reducible show ForAt _ _ _ _ _ _ _ _ _ _) | (with_reducible show Kp _ _ _ ∧ _) | (with_reducible show wpAny _ _ (PySem.call (Value.ref _) _ _) _ _ _)))); (first | ((with_reducible show ite _ _ _); first | (refine PySem.W.ite_pos (by with_reducible assumption) ?_) | (refine PySem.W.ite_neg (by with_reducible assumption) ?_)) | walk1 | (dsimp only; walk1)))))
        k_dflt (refine rep_step (by assumption) (by decide +kernel) (by assumption) (by decide +kernel) (by decide +kernel) (by decide +kernel) ?_)
        intro x3 t3 k3 e3 _ hx3
        (repeat' (first | (k_unfold; (try dsimp only)) | ((fail_if_success ((first | (with_reducible show wpAny _ _ (eval (PySem.Expr.ListComp _ _ _ _) _) _ _ _) | (with_reducible show wpAny _ _ (exec (PySem.Stmt.Assign _ (PySem.Expr.ListComp _ _ _ _) _) _) _ _ _) | (with_reducible show wpAny _ _ (exec (PySem.Stmt.While _ _ _ _) _) _ _ _) | (with_reducible show wpAny _ _ (exec (PySem.Stmt.For _ _ _ _ _) _) _ _ _) | (with_reducible show wpAny _ _ (exec (PySem.Stmt.Assign [PySem.Expr.Name (PySem.Str.ofString "sign") _] _ _) _) _ _ _) | (with_reducible show wpAny _ _ (eval (PySem.Expr.GeneratorExp _ _ _ _) _) _ _ _) | (with_reducible show CompAt _ _ _ _ _ _ _ _ _ _ _ _ _ _ _ _) | (with_reducible show ForAt _ _ _ _ _ _ _ _ _ _) | (with_reducible show Kp _ _ _ ∧ _) | (with_reducible show wpAny _ _ (PySem.call (Value.ref _) _ _) _ _ _)))); (first | ((with_reducible show ite _ _ _); first | (refine PySem.W.ite_pos (by with_reducible assumption) ?_) | (refine PySem.W.ite_neg (by with_reducible assumption) ?_)) | walk1 | (dsimp only; walk1)))))
        k_dflt (refine TokAt.gen ?_)
        intro tk3 htk3
        k_dflt (refine execs_tok (by assumption) ?_)
        k_fold
        (repeat' (first | (k_unfold; (try dsimp only)) | ((fail_if_success ((first | (with_reducible show wpAny _ _ (eval (PySem.Expr.ListComp _ _ _ _) _) _ _ _) | (with_reducible show wpAny _ _ (exec (PySem.Stmt.Assign _ (PySem.Expr.ListComp _ _ _ _) _) _) _ _ _) | (with_reducible show wpAny _ _ (exec (PySem.Stmt.While _ _ _ _) _) _ _ _) | (with_reducible show wpAny _ _ (exec (PySem.Stmt.For _ _ _ _ _) _) _ _ _) | (with_reducible show wpAny _ _ (exec (PySem.Stmt.Assign [PySem.Expr.Name (PySem.Str.ofString "sign") _] _ _) _) _ _ _) | (with_reducible show wpAny _ _ (eval (PySem.Expr.GeneratorExp _ _ _ _) _) _ _ _) | (with_reducible show CompAt _ _ _ _ _ _ _ _ _ _ _ _ _ _ _ _) | (with_reducible show ForAt _ _ _ _ _ _ _ _ _ _) | (with_reducible show Kp _ _ _ ∧ _) | (with_reducible show wpAny _ _ (PySem.call (Value.ref _) _ _) _ _ _)))); (first | ((with_reducible show ite _ _ _); first | (refine PySem.W.ite_pos (by with_reducible assumption) ?_) | (refine PySem.W.ite_neg (by with_reducible assumption) ?_)) | walk1 | (dsimp only; walk1)))))
        k_dflt (refine rep_step (by assumption) (by decide +kernel) (by assumption) (by decide +kernel) (by decide +kernel) (by decide +kernel) ?_)
        intro x4 t4 k4 e4 _ hx4
        (repeat' (first | (k_unfold; (try dsimp only)) | ((fail_if_success ((first | (with_reducible show wpAny _ _ (eval (PySem.Expr.ListComp _ _ _ _) _) _ _ _) | (with_reducible show wpAny _ _ (exec (PySem.Stmt.Assign _ (PySem.Expr.ListComp _ _ _ _) _) _) _ _ _) | (with_reducible show wpAny _ _ (exec (PySem.Stmt.While _ _ _ _) _) _ _ _) | (with_reducible show wpAny _ _ (exec (PySem.Stmt.For _ _ _ _ _) _) _ _ _) | (with_reducible show wpAny _ _ (exec (PySem.Stmt.Assign [PySem.Expr.Name (PySem.Str.ofString "sign") _] _ _) _) _ _ _) | (with_reducible show wpAny _ _ (eval (PySem.Expr.GeneratorExp _ _ _ _) _) _ _ _) | (with_reducible show CompAt _ _ _ _ _ _ _ _ _ _ _ _ _ _ _ _) | (with_reducible show ForAt _ _ _ _ _ _ _ _ _ _) | (with_reducible show Kp _ _ _ ∧ _) | (with_reducible show wpAny _ _ (PySem.call (Value.ref _) _ _) _ _ _)))); (first | ((with_reducible show ite _ _ _); first | (refine PySem.W.ite_pos (by with_reducible assumption) ?_) | (refine PySem.W.ite_neg (by with_reducible assumption) ?_)) | walk1 | (dsimp only; walk1)))))
        k_dflt (refine TokAt.gen ?_)
        intro tk4 htk4
        k_dflt (refine execs_tok (by assumption) ?_)
        k_fold
        (repeat' (first | (k_unfold; (try dsimp only)) | ((fail_if_success ((first | (with_reducible show wpAny _ _ (eval (PySem.Expr.ListComp _ _ _ _) _) _ _ _) | (with_reducible show wpAny _ _ (exec (PySem.Stmt.Assign _ (PySem.Expr.ListComp _ _ _ _) _) _) _ _ _) | (with_reducible show wpAny _ _ (exec (PySem.Stmt.While _ _ _ _) _) _ _ _) | (with_reducible show wpAny _ _ (exec (PySem.Stmt.For _ _ _ _ _) _) _ _ _) | (with_reducible show wpAny _ _ (exec (PySem.Stmt.Assign [PySem.Expr.Name (PySem.Str.ofString "sign") _] _ _) _) _ _ _) | (with_reducible show wpAny _ _ (eval (PySem.Expr.GeneratorExp _ _ _ _) _) _ _ _) | (with_reducible show CompAt _ _ _ _ _ _ _ _ _ _ _ _ _ _ _ _) | (with_reducible show ForAt _ _ _ _ _ _ _ _ _ _) | (with_reducible show Kp _ _ _ ∧ _) | (with_reducible show wpAny _ _ (PySem.call (Value.ref _) _ _) _ _ _)))); (first | ((with_reducible show ite _ _ _); first | (refine PySem.W.ite_pos (by with_reducible assumption) ?_) | (refine PySem.W.ite_neg (by with_reducible assumption) ?_)) | walk1 | (dsimp only; walk1)))))
        k_dflt (refine rep_step (by assumption) (by decide +kernel) (by assumption) (by decide +kernel) (by decide +kernel) (by decide +kernel) ?_)
        intro x5 t5 k5 e5 _ hx5
        (repeat' (first | (k_unfold; (try dsimp only)) | ((fail_if_success ((first | (with_reducible show wpAny _ _ (eval (PySem.Expr.ListComp _ _ _ _) _) _ _ _) | (with_reducible show wpAny _ _ (exec (PySem.Stmt.Assign _ (PySem.Expr.ListComp _ _ _ _) _) _) _ _ _) | (with_reducible show wpAny _ _ (exec (PySem.Stmt.While _ _ _ _) _) _ _ _) | (with_reducible show wpAny _ _ (exec (PySem.Stmt.For _ _ _ _ _) _) _ _ _) | (with_reducible show wpAny _ _ (exec (PySem.Stmt.Assign [PySem.Expr.Name (PySem.Str.ofString "sign") _] _ _) _) _ _ _) | (with_reducible show wpAny _ _ (eval (PySem.Expr.GeneratorExp _ _ _ _) _) _ _ _) | (with_reducible show CompAt _ _ _ _ _ _ _ _ _ _ _ _ _ _ _ _) | (with_reducible show ForAt _ _ _ _ _ _ _ _ _ _) | (with_reducible show Kp _ _ _ ∧ _) | (with_reducible show wpAny _ _ (PySem.call (Value.ref _) _ _) _ _ _)))); (first | ((with_reducible show ite _ _ _); first | (refine PySem.W.ite_pos (by with_reducible assumption) ?_) | (refine PySem.W.ite_neg (by with_reducible assumption) ?_)) | walk1 | (dsimp only; walk1)))))
        k_dflt (refine TokAt.gen ?_)
        intro tk5 htk5
        k_dflt (refine execs_tok (by assumption) ?_)
        k_fold
        (repeat' (first | (k_unfold; (try dsimp only)) | ((fail_if_success ((first | (with_reducible show wpAny _ _ (eval (PySem.Expr.ListComp _ _ _ _) _) _ _ _) | (with_reducible show wpAny _ _ (exec (PySem.Stmt.Assign _ (PySem.Expr.ListComp _ _ _ _) _) _) _ _ _) | (with_reducible show wpAny _ _ (exec (PySem.Stmt.While _ _ _ _) _) _ _ _) | (with_reducible show wpAny _ _ (exec (PySem.Stmt.For _ _ _ _ _) _) _ _ _) | (with_reducible show wpAny _ _ (exec (PySem.Stmt.Assign [PySem.Expr.Name (PySem.Str.ofString "sign") _] _ _) _) _ _ _) | (with_reducible show wpAny _ _ (eval (PySem.Expr.GeneratorExp _ _ _ _) _) _ _ _) | (with_reducible show CompAt _ _ _ _ _ _ _ _ _ _ _ _ _ _ _ _) | (with_reducible show ForAt _ _ _ _ _ _ _ _ _ _) | (with_reducible show Kp _ _ _ ∧ _) | (with_reducible show wpAny _ _ (PySem.call (Value.ref _) _ _) _ _ _)))); (first | ((with_reducible show ite _ _ _); first | (refine PySem.W.ite_pos (by with_reducible assumption) ?_) | (refine PySem.W.ite_neg (by with_reducible assumption) ?_)) | walk1 | (dsimp only; walk1)))))
        k_dflt (refine rep_step (by assumption) (by decide +kernel) (by assumption) (by decide +kernel) (by decide +kernel) (by decide +kernel) ?_)
        intro x6 t6 k6 e6 _ hx6
        (repeat' (first | (k_unfold; (try dsimp only)) | ((fail_if_success ((first | (with_reducible show wpAny _ _ (eval (PySem.Expr.ListComp _ _ _ _) _) _ _ _) | (with_reducible show wpAny _ _ (exec (PySem.Stmt.Assign _ (PySem.Expr.ListComp _ _ _ _) _) _) _ _ _) | (with_reducible show wpAny _ _ (exec (PySem.Stmt.While _ _ _ _) _) _ _ _) | (with_reducible show wpAny _ _ (exec (PySem.Stmt.For _ _ _ _ _) _) _ _ _) | (with_reducible show wpAny _ _ (exec (PySem.Stmt.Assign [PySem.Expr.Name (PySem.Str.ofString "sign") _] _ _) _) _ _ _) | (with_reducible show wpAny _ _ (eval (PySem.Expr.GeneratorExp _ _ _ _) _) _ _ _) | (with_reducible show CompAt _ _ _ _ _ _ _ _ _ _ _ _ _ _ _ _) | (with_reducible show ForAt _ _ _ _ _ _ _ _ _ _) | (with_reducible show Kp _ _ _ ∧ _) | (with_reducible show wpAny _ _ (PySem.call (Value.ref _) _ _) _ _ _)))); (first | ((with_reducible show ite _ _ _); first | (refine PySem.W.ite_pos (by with_reducible assumption) ?_) | (refine PySem.W.ite_neg (by with_reducible assumption) ?_)) | walk1 | (dsimp only; walk1)))))
        k_dflt (refine TokAt.gen ?_)
        intro tk6 htk6
        k_dflt (refine execs_tok (by assumption) ?_)
        k_fold
        (repeat' (first | (k_unfold; (try dsimp only)) | ((fail_if_success ((first | (with_reducible show wpAny _ _ (eval (PySem.Expr.ListComp _ _ _ _) _) _ _ _) | (with_reducible show wpAny _ _ (exec (PySem.Stmt.Assign _ (PySem.Expr.ListComp _ _ _ _) _) _) _ _ _) | (with_reducible show wpAny _ _ (exec (PySem.Stmt.While _ _ _ _) _) _ _ _) | (with_reducible show wpAny _ _ (exec (PySem.Stmt.For _ _ _ _ _) _) _ _ _) | (with_reducible show wpAny _ _ (exec (PySem.Stmt.Assign [PySem.Expr.Name (PySem.Str.ofString "sign") _] _ _) _) _ _ _) | (with_reducible show wpAny _ _ (eval (PySem.Expr.GeneratorExp _ _ _ _) _) _ _ _) | (with_reducible show CompAt _ _ _ _ _ _ _ _ _ _ _ _ _ _ _ _) | (with_reducible show ForAt _ _ _ _ _ _ _ _ _ _) | (with_reducible show Kp _ _ _ ∧ _) | (with_reducible show wpAny _ _ (PySem.call (Value.ref _) _ _) _ _ _)))); (first | ((with_reducible show ite _ _ _); first | (refine PySem.W.ite_pos (by with_reducible assumption) ?_) | (refine PySem.W.ite_neg (by with_reducible assumption) ?_)) | walk1 | (dsimp only; walk1)))))
        k_dflt (refine rep_step (by assumption) (by decide +kernel) (by assumption) (by decide +kernel) (by decide +kernel) (by decide +kernel) ?_)
        intro x7 t7 k7 e7 _ hx7
        (repeat' (first | (k_unfold; (try dsimp only)) | ((fail_if_success ((first | (with_reducible show wpAny _ _ (eval (PySem.Expr.ListComp _ _ _ _) _) _ _ _) | (with_reducible show wpAny _ _ (exec (PySem.Stmt.Assign _ (PySem.Expr.ListComp _ _ _ _) _) _) _ _ _) | (with_reducible show wpAny _ _ (exec (PySem.Stmt.While _ _ _ _) _) _ _ _) | (with_reducible show wpAny _ _ (exec (PySem.Stmt.For _ _ _ _ _) _) _ _ _) | (with_reducible show wpAny _ _ (exec (PySem.Stmt.Assign [PySem.Expr.Name (PySem.Str.ofString "sign") _] _ _) _) _ _ _) | (with_reducible show wpAny _ _ (eval (PySem.Expr.GeneratorExp _ _ _ _) _) _ _ _) | (with_reducible show CompAt _ _ _ _ _ _ _ _ _ _ _ _ _ _ _ _) | (with_reducible show ForAt _ _ _ _ _ _ _ _ _ _) | (with_reducible show Kp _ _ _ ∧ _) | (with_reducible show wpAny _ _ (PySem.call (Value.ref _) _ _) _ _ _)))); (first | ((with_reducible show ite _ _ _); first | (refine PySem.W.ite_pos (by with_reducible assumption) ?_) | (refine PySem.W.ite_neg (by with_reducible assumption) ?_)) | walk1 | (dsimp only; walk1)))))
        k_dflt (refine TokAt.gen ?_)
        intro tk7 htk7
        k_dflt (refine execs_tok (by assumption) ?_)
        k_fold
        (repeat' (first | (k_unfold; (try dsimp only)) | ((fail_if_success ((first | (with_reducible show wpAny _ _ (eval (PySem.Expr.ListComp _ _ _ _) _) _ _ _) | (with_reducible show wpAny _ _ (exec (PySem.Stmt.Assign _ (PySem.Expr.ListComp _ _ _ _) _) _) _ _ _) | (with_reducible show wpAny _ _ (exec (PySem.Stmt.While _ _ _ _) _) _ _ _) | (with_reducible show wpAny _ _ (exec (PySem.Stmt.For _ _ _ _ _) _) _ _ _) | (with_reducible show wpAny _ _ (exec (PySem.Stmt.Assign [PySem.Expr.Name (PySem.Str.ofString "sign") _] _ _) _) _ _ _) | (with_reducible show wpAny _ _ (eval (PySem.Expr.GeneratorExp _ _ _ _) _) _ _ _) | (with_reducible show CompAt _ _ _ _ _ _ _ _ _ _ _ _ _ _ _ _) | (with_reducible show ForAt _ _ _ _ _ _ _ _ _ _) | (with_reducible show Kp _ _ _ ∧ _) | (with_reducible show wpAny _ _ (PySem.call (Value.ref _) _ _) _ _ _)))); (first | ((with_reducible show ite _ _ _); first | (refine PySem.W.ite_pos (by with_reducible assumption) ?_) | (refine PySem.W.ite_neg (by with_reducible assumption) ?_)) | walk1 | (dsimp only; walk1)))))
        k_dflt (refine rep_step (by assumption) (by decide +kernel) (by assumption) (by decide +kernel) (by decide +kernel) (by decide +kernel) ?_)
        intro x8 t8 k8 e8 _ hx8
        (repeat' (first | (k_unfold; (try dsimp only)) | ((fail_if_success ((first | (with_reducible show wpAny _ _ (eval (PySem.Expr.ListComp _ _ _ _) _) _ _ _) | (with_reducible show wpAny _ _ (exec (PySem.Stmt.Assign _ (PySem.Expr.ListComp _ _ _ _) _) _) _ _ _) | (with_reducible show wpAny _ _ (exec (PySem.Stmt.While _ _ _ _) _) _ _ _) | (with_reducible show wpAny _ _ (exec (PySem.Stmt.For _ _ _ _ _) _) _ _ _) | (with_reducible show wpAny _ _ (exec (PySem.Stmt.Assign [PySem.Expr.Name (PySem.Str.ofString "sign") _] _ _) _) _ _ _) | (with_reducible show wpAny _ _ (eval (PySem.Expr.GeneratorExp _ _ _ _) _) _ _ _) | (with_reducible show CompAt _ _ _ _ _ _ _ _ _ _ _ _ _ _ _ _) | (with_reducible show ForAt _ _ _ _ _ _ _ _ _ _) | (with_reducible show Kp _ _ _ ∧ _) | (with_reducible show wpAny _ _ (PySem.call (Value.ref _) _ _) _ _ _)))); (first | ((with_reducible show ite _ _ _); first | (refine PySem.W.ite_pos (by with_reducible assumption) ?_) | (refine PySem.W.ite_neg (by with_reducible assumption) ?_)) | walk1 | (dsimp only; walk1)))))
        k_dflt (refine TokAt.gen ?_)
        intro tk8 htk8
        k_dflt (refine execs_tok (by assumption) ?_)
        k_fold
        (repeat' (first | (k_unfold; (try dsimp only)) | ((fail_if_success ((first | (with_reducible show wpAny _ _ (eval (PySem.Expr.ListComp _ _ _ _) _) _ _ _) | (with_reducible show wpAny _ _ (exec (PySem.Stmt.Assign _ (PySem.Expr.ListComp _ _ _ _) _) _) _ _ _) | (with_reducible show wpAny _ _ (exec (PySem.Stmt.While _ _ _ _) _) _ _ _) | (with_reducible show wpAny _ _ (exec (PySem.Stmt.For _ _ _ _ _) _) _ _ _) | (with_reducible show wpAny _ _ (exec (PySem.Stmt.Assign [PySem.Expr.Name (PySem.Str.ofString "sign") _] _ _) _) _ _ _) | (with_reducible show wpAny _ _ (eval (PySem.Expr.GeneratorExp _ _ _ _) _) _ _ _) | (with_reducible show CompAt _ _ _ _ _ _ _ _ _ _ _ _ _ _ _ _) | (with_reducible show ForAt _ _ _ _ _ _ _ _ _ _) | (with_reducible show Kp _ _ _ ∧ _) | (with_reducible show wpAny _ _ (PySem.call (Value.ref _) _ _) _ _ _)))); (first | ((with_reducible show ite _ _ _); first | (refine PySem.W.ite_pos (by with_reducible assumption) ?_) | (refine PySem.W.ite_neg (by with_reducible assumption) ?_)) | walk1 | (dsimp only; walk1)))))
        k_dflt (refine rep_step (by assumption) (by decide +kernel) (by assumption) (by decide +kernel) (by decide +kernel) (by decide +kernel) ?_)
        intro x9 t9 k9 e9 _ hx9
        (repeat' (first | (k_unfold; (try dsimp only)) | ((fail_if_success ((first | (with_reducible show wpAny _ _ (eval (PySem.Expr.ListComp _ _ _ _) _) _ _ _) | (with_reducible show wpAny _ _ (exec (PySem.Stmt.Assign _ (PySem.Expr.ListComp _ _ _ _) _) _) _ _ _) | (with_reducible show wpAny _ _ (exec (PySem.Stmt.While _ _ _ _) _) _ _ _) | (with_reducible show wpAny _ _ (exec (PySem.Stmt.For _ _ _ _ _) _) _ _ _) | (with_reducible show wpAny _ _ (exec (PySem.Stmt.Assign [PySem.Expr.Name (PySem.Str.ofString "sign") _] _ _) _) _ _ _) | (with_reducible show wpAny _ _ (eval (PySem.Expr.GeneratorExp _ _ _ _) _) _ _ _) | (with_reducible show CompAt _ _ _ _ _ _ _ _ _ _ _ _ _ _ _ _) | (with_reducible show ForAt _ _ _ _ _ _ _ _ _ _) | (with_reducible show Kp _ _ _ ∧ _) | (with_reducible show wpAny _ _ (PySem.call (Value.ref _) _ _) _ _ _)))); (first | ((with_reducible show ite _ _ _); first | (refine PySem.W.ite_pos (by with_reducible assumption) ?_) | (refine PySem.W.ite_neg (by with_reducible assumption) ?_)) | walk1 | (dsimp only; walk1)))))
        k_dflt (refine TokAt.gen ?_)
        intro tk9 htk9
        rename Fr _ _ _ _ => F9
        rename News _ _ _ _ => N9
        have hA : x9 = platA (signs0 [a, b, c]) := by rw [e9, e8, e7, e6, e5, e4, e3, e2, e1]; simp only [platA, reps, List.foldl_cons, List.foldl_nil, signs0]
        clear e1 e2 e3 e4 e5 e6 e7 e8 e9
        k_dflt (refine execs_tok (by assumption) ?_)
        k_fold
        k_dflt (refine while_tok (fun n s' => ∃ c p tp h tk K, s' = { s₆ with heap := h, toks := tk } ∧ 1 ≤ tk ∧ n = p.length ∧ p.length ≤ 45 ∧ p.length < K ∧ fixN K p = fixN 100 x9 ∧ News (hideAll s.heap [23]) L h [(23, o23)] ∧
          Fr (hideAll s.heap [23]) L h (fun y => if y = Str.ofString "cleaned" then c else if y = Str.ofString "platform" then some (.str p tp) else if y = Str.ofString "args" then some (.ref s.heap.objs.size) else none)) x9.length ?_ ?_ ?_)
        · refine ⟨none, x9, t9, _, tk9, 100, rfl, htk9, rfl, hx9, by omega, rfl, N9, fr_congr F9 fun y => ?_⟩
          by_cases e1 : y = Str.ofString "cleaned"
          · subst e1; rfl
          by_cases e2 : y = Str.ofString "platform"
          · subst e2; rfl
          by_cases e3 : y = Str.ofString "args"
          · subst e3; rfl
          simp only [e1, e2, e3, if_false, List.reverse_cons, List.reverse_nil, List.nil_append, List.lookup_cons, List.lookup_nil, beq_eq_false_iff_ne.mpr e3]
        · rintro n s' ⟨_, _, _, _, _, _, rfl, h, _⟩; exact h
        rintro n s' ⟨c0, p, tp, h10, tk10, K, rfl, htk10, rfl, hp45, hK, hfix, N10, F10⟩
        clear F9 N9
        (show wpAny _ _ _ _ _ _); k_fold
        (repeat' (first | (k_unfold; (try dsimp only)) | ((fail_if_success ((first | (with_reducible show wpAny _ _ (eval (PySem.Expr.ListComp _ _ _ _) _) _ _ _) | (with_reducible show wpAny _ _ (exec (PySem.Stmt.Assign _ (PySem.Expr.ListComp _ _ _ _) _) _) _ _ _) | (with_reducible show wpAny _ _ (exec (PySem.Stmt.While _ _ _ _) _) _ _ _) | (with_reducible show wpAny _ _ (exec (PySem.Stmt.For _ _ _ _ _) _) _ _ _) | (with_reducible show wpAny _ _ (exec (PySem.Stmt.Assign [PySem.Expr.Name (PySem.Str.ofString "sign") _] _ _) _) _ _ _) | (with_reducible show wpAny _ _ (eval (PySem.Expr.GeneratorExp _ _ _ _) _) _ _ _) | (with_reducible show CompAt _ _ _ _ _ _ _ _ _ _ _ _ _ _ _ _) | (with_reducible show ForAt _ _ _ _ _ _ _ _ _ _) | (with_reducible show Kp _ _ _ ∧ _) | (with_reducible show wpAny _ _ (PySem.call (Value.ref _) _ _) _ _ _)))); (first | ((with_reducible show ite _ _ _); first | (refine PySem.W.ite_pos (by with_reducible assumption) ?_) | (refine PySem.W.ite_neg (by with_reducible assumption) ?_)) | walk1 | (dsimp only; walk1)))))
        k_dflt (refine rep_step htk10 (by decide +kernel) hp45 (by decide +kernel) (by decide +kernel) (by decide +kernel) ?_)
        intro p' t' k' ep' hlp' hp45'
        (repeat' (first | (k_unfold; (try dsimp only)) | ((fail_if_success ((first | (with_reducible show wpAny _ _ (eval (PySem.Expr.ListComp _ _ _ _) _) _ _ _) | (with_reducible show wpAny _ _ (exec (PySem.Stmt.Assign _ (PySem.Expr.ListComp _ _ _ _) _) _) _ _ _) | (with_reducible show wpAny _ _ (exec (PySem.Stmt.While _ _ _ _) _) _ _ _) | (with_reducible show wpAny _ _ (exec (PySem.Stmt.For _ _ _ _ _) _) _ _ _) | (with_reducible show wpAny _ _ (exec (PySem.Stmt.Assign [PySem.Expr.Name (PySem.Str.ofString "sign") _] _ _) _) _ _ _) | (with_reducible show wpAny _ _ (eval (PySem.Expr.GeneratorExp _ _ _ _) _) _ _ _) | (with_reducible show CompAt _ _ _ _ _ _ _ _ _ _ _ _ _ _ _ _) | (with_reducible show ForAt _ _ _ _ _ _ _ _ _ _) | (with_reducible show Kp _ _ _ ∧ _) | (with_reducible show wpAny _ _ (PySem.call (Value.ref _) _ _) _ _ _)))); (first | ((with_reducible show ite _ _ _); first | (refine PySem.W.ite_pos (by with_reducible assumption) ?_) | (refine PySem.W.ite_neg (by with_reducible assumption) ?_)) | walk1 | (dsimp only; walk1)))))
        · rename (p' == p) = true => q
          have q' : p' = p := eq_of_beq q
          have hfp : fixN 100 x9 = p := by
            obtain ⟨K', rfl⟩ : ∃ K', K = K' + 1 := ⟨K - 1, by omega⟩
            rw [← hfix, fixN, if_pos (by rw [← ep', q'])]
          dsimp only
          intro _
          k_unfold
          dsimp only
          intro _
          rename Fr _ _ _ _ => F11
          rename News _ _ _ _ => N12
          have F12 := fr_congr (m' := fun y => if y = Str.ofString "cleaned" then some (.str p' t') else if y = Str.ofString "platform" then some (.str p tp) else if y = Str.ofString "args" then some (.ref s.heap.objs.size) else none) F11 (fun y => by
            by_cases e1 : y = Str.ofString "cleaned"
            · subst e1; rfl
            by_cases e2 : y = Str.ofString "platform"
            · subst e2; rfl
            by_cases e3 : y = Str.ofString "args"
            · subst e3; rfl
            simp only [e1, e2, e3, if_false])
          clear F11
          k_dflt (refine wpAny_execs_cons ?_)
          k_fold
          k_dflt (refine while_rule (fun n s' => ∃ p1 tp h tk K, s' = { s₆ with heap := h, toks := tk } ∧ n = p1.length ∧ p1.length ≤ 45 ∧ p1.length ≤ K ∧ dropN K p1 = dropN 100 p ∧ News (hideAll s.heap [23]) L h [(23, o23)] ∧
            Fr (hideAll s.heap [23]) L h (fun y => if y = Str.ofString "cleaned" then some (.str p' t') else if y = Str.ofString "platform" then some (.str p1 tp) else if y = Str.ofString "args" then some (.ref s.heap.objs.size) else none)) p.length ?_ ?_)
          · exact ⟨p, tp, _, _, 100, rfl, rfl, hp45, by omega, rfl, N12, F12⟩
          rintro n s' ⟨p1, tp1, h12, tk12, K1, rfl, rfl, hp1, hK1, hdrop, N13, F13⟩
          have turn2 : ∀ m' p2 t2 h' tk' K', Fr (hideAll s.heap [23]) L h' m' → News (hideAll s.heap [23]) L h' [(23, o23)] → m' (Str.ofString "platform") = some (.str p2 t2) →
              (∀ y, y ≠ Str.ofString "platform" → m' y = (if y = Str.ofString "cleaned" then some (.str p' t') else if y = Str.ofString "args" then some (.ref s.heap.objs.size) else none)) → p2.length < p1.length → p2.length ≤ K' → dropN K' p2 = dropN 100 p →
              Turn (fun n s' => ∃ p1 tp h tk K, s' = { s₆ with heap := h, toks := tk } ∧ n = p1.length ∧ p1.length ≤ 45 ∧ p1.length ≤ K ∧ dropN K p1 = dropN 100 p ∧ News (hideAll s.heap [23]) L h [(23, o23)] ∧
                Fr (hideAll s.heap [23]) L h (fun y => if y = Str.ofString "cleaned" then some (.str p' t') else if y = Str.ofString "platform" then some (.str p1 tp) else if y = Str.ofString "args" then some (.ref s.heap.objs.size) else none)) p1.length { s₆ with heap := h', toks := tk' } := by
            intro m' p2 t2 h' tk' K' F' N' e1 e2 hl hk hd
            refine Turn.intro hl ⟨p2, t2, h', tk', K', rfl, rfl, by omega, hk, hd, N', fr_congr F' fun y => ?_⟩
            by_cases q1 : y = Str.ofString "cleaned"
            · subst q1; rw [e2 _ (by decide +kernel)]; rfl
            by_cases q2 : y = Str.ofString "platform"
            · subst q2; rw [e1]; rfl
            rw [e2 y q2]
            simp only [q1, q2, if_false]
          clear F12 N12
          (show wpAny _ _ _ _ _ _); k_fold
          (repeat' (first | (k_unfold; (try dsimp only)) | ((fail_if_success ((first | (with_reducible show wpAny _ _ (eval (PySem.Expr.ListComp _ _ _ _) _) _ _ _) | (with_reducible show wpAny _ _ (exec (PySem.Stmt.Assign _ (PySem.Expr.ListComp _ _ _ _) _) _) _ _ _) | (with_reducible show wpAny _ _ (exec (PySem.Stmt.While _ _ _ _) _) _ _ _) | (with_reducible show wpAny _ _ (exec (PySem.Stmt.For _ _ _ _ _) _) _ _ _) | (with_reducible show wpAny _ _ (exec (PySem.Stmt.Assign [PySem.Expr.Name (PySem.Str.ofString "sign") _] _ _) _) _ _ _) | (with_reducible show wpAny _ _ (eval (PySem.Expr.GeneratorExp _ _ _ _) _) _ _ _) | (with_reducible show CompAt _ _ _ _ _ _ _ _ _ _ _ _ _ _ _ _) | (with_reducible show ForAt _ _ _ _ _ _ _ _ _ _) | (with_reducible show Kp _ _ _ ∧ _) | (with_reducible show wpAny _ _ (PySem.call (Value.ref _) _ _) _ _ _)))); (first | ((with_reducible show ite _ _ _); first | (refine PySem.W.ite_pos (by with_reducible assumption) ?_) | (refine PySem.W.ite_neg (by with_reducible assumption) ?_)) | walk1 | (dsimp only; walk1)))))
          · rename (Txt.item p1 (-1) == _) = true => qe
            rename (_ : Int) ≠ 0 => qn
            rename Fr _ _ _ _ => F14
            rename News _ _ _ _ => N14
            have qn' : p1.length ≠ 0 := by omega
            have hsl := slice_last_len p1 qn'
            obtain ⟨K', rfl⟩ : ∃ K', K1 = K' + 1 := ⟨K1 - 1, by omega⟩
            rw [dropN, if_pos ⟨qn', qe⟩] at hdrop
            refine turn2 _ _ _ _ _ K' F14 N14 (by exact rfl) ?_ (by omega) (by omega) hdrop
            intro y e2
            simp only [e2, if_false]
          · rename (Txt.item p1 (-1) == _) = false => qe
            rename Fr _ _ _ _ => F14
            rename News _ _ _ _ => N14
            have hd1 : dropN 100 p = p1 := by
              rw [← hdrop]
              cases K1 with
              | zero => rfl
              | succ k => rw [dropN, if_neg (fun h => by rw [qe] at h; exact absurd h.2 (by decide))]
            have hpt : p1 = platT [a, b, c] := by rw [platT, ← hA, hfp, hd1]
            subst hpt
            exact hfin _ _ _ _ F14 N14
          · rename (_ : Int) = 0 => qn
            rename Fr _ _ _ _ => F14
            rename News _ _ _ _ => N14
            have hd1 : dropN 100 p = p1 := by
              rw [← hdrop]
              cases K1 with
              | zero => rfl
              | succ k => rw [dropN, if_neg (fun h => absurd h.1 (by omega))]
            have hpt : p1 = platT [a, b, c] := by rw [platT, ← hA, hfp, hd1]
            subst hpt
            exact hfin _ _ _ _ F14 N14
        · rename (p' == p) = false => q
          have q' : Txt.replace p (Str.ofString "--") (Str.ofString "-") ≠ p := by rw [← ep']; simpa using q
          have hlt : p'.length < p.length := by
            rcases replace_same p (Str.ofString "--") (Str.ofString "-") (by decide +kernel) with e | e
            · exact absurd e q'
            · rw [ep']; exact e
          rename Fr _ _ _ _ => F11
          rename News _ _ _ _ => N11
          intro htk11
          dsimp only
          obtain ⟨K', rfl⟩ : ∃ K', K = K' + 1 := ⟨K - 1, by omega⟩
          rw [fixN, if_neg q', ← ep'] at hfix
          refine Turn.intro hlt ⟨some (.str p' t'), p', t', _, _, K', rfl, htk11, rfl, hp45', by omega, hfix, N11, fr_congr F11 fun y => ?_⟩
          by_cases e1 : y = Str.ofString "cleaned"
          · subst e1; rfl
          by_cases e2 : y = Str.ofString "platform"
          · subst e2; rfl
          by_cases e3 : y = Str.ofString "args"
          · subst e3; rfl
          simp only [e1, e2, e3, if_false]
      · refine Nat.le_trans (List.length_filter_le _ _) (by show 3 ≤ sizeLine; decide)
end
section
theorem enterNR {prog : Program} {w : World} {A : Around} {s : Shared} {K : Frag} {p : Program} {loose : List Str} {mg mb : Str → Option Value} {R : Result → Shared → Prop} {h₀ : Heap} {news : List (Addr × Obj)}
    {name qual : Str} {params : Arguments} {body : List Stmt} {scope : Scope} {dV kV doc pm cdv ct oc : Value} {an od : Option Addr} {osl : Array (Option Value)} {f : Addr} {pos : List Value} {kw : List (Str × Value)} {binds : List (Str × Value)}
    (hk : ∀ b o, h₀.get? b = some o → s.heap.get? b = some o) (X : K.In h₀) (T : TopRead p loose mg mb h₀) (N : ∀ p ∈ news, s.heap.get? p.1 = some p.2 ∧ h₀.get? p.1 = none)
    (ho : K.lookup f = some ⟨oc, od, .func (fnOf name qual params body scope dV kV doc pm an cdv ct), osl⟩) (hcd : codeIn K cdv qual = true) (hroom : A.depth < recursionLimit)
    (hbind : BindsTo s (fnOf name qual params body scope dV kV doc pm an cdv ct) ⟨pos, kw⟩ binds) (hloc : ∀ y ∈ binds, scope.names.lookup y.1 = some .local)
    (h : ∀ g L h₁, g = hideAll s.heap (news.map (·.1)) → L = s.heap.objs.size → K.In g → TopRead p loose mg mb g → Fr g L h₁ (fun y => binds.reverse.lookup y) → News g L h₁ news →
      wpAny (model prog w) (A.deeper (envOf qual scope L f cdv)) (execs body (envOf qual scope L f cdv))
        (fun fl s' => R (.ok (.ret (match fl with | .ret v => v | _ => .none))) s') (fun _ _ => False) { s with heap := h₁, toks := s.toks + binds.length })
    (hco : scope.isCoroutine = false) (hgen : scope.isGenerator = false) (hkd : scope.kind = .function)
    (hcell : ∀ x ∈ scope.names, x.2 ≠ .cell) : codeAny (model prog w) A (.call (.ref f) ⟨pos, kw⟩) R s := by
  refine (codeAny_call_def (fd := fnOf name qual params body scope dV kV doc pm an cdv ct) (body := body) (binds := binds) hroom (hk _ _ (X _ _ ho)) rfl (T.nolimit.keeps hk) (codeRec_of (X.keeps hk) hcd) rfl hbind hcell hloc (fun h₁ hns hk₁ => ?_) hco hgen hkd)
  exact wpAny_mono (h _ _ h₁ rfl rfl (X.keeps (hide_keeps hk N)) (T.keeps (hide_keeps hk N)) ⟨hns, fun b o e => hk₁ b o (of_hideAll _ e), Nat.le_of_eq (hideAll_size _ _)⟩ (hide_news hk₁ (Nat.le_refl _) N)) (fun fl s' q => q) fun _ _ x => x.elim
structure NmP (nm : Str) : Prop where
  len : nm.length ≤ 45
  ne : Str.ofString "/opt/" ++ nm ≠ Str.ofString ""
  h1 : ¬ ((Txt.slice (Str.ofString "/opt/" ++ nm) none (some 1) != Str.ofString "/") = true)
  h2 : (Txt.slice (Str.ofString "/opt/" ++ nm) (some 1) (some 2) != Str.ofString "/") = true
  d1 : ¬ ((nm == Str.ofString ".") = true)
  d2 : (nm != Str.ofString "..") = true
  sp : Txt.split (Txt.slice (Str.ofString "/opt/" ++ nm) (some 1) none) (Str.ofString "/") = [Str.ofString "opt", nm]
noncomputable abbrev rdrT (w : World) (x dx S Dl I : Addr) (t1 t2 t3 : Tok) (led : Bool) (ds : List Value) (oI : Obj) (tl : List (Addr × Obj)) : List (Addr × Obj) :=
  (I, oI) :: (Dl, lst ds) :: (S, { cls := .type "set", data := .set #[] 0 (SetTable.fresh 0 0 led) }) :: (x, instObj 86 dx) ::
   (dx, dictOf [{ hash := PyData.keyHash w.params (Str.ofString "_mods"), key := .str (Str.ofString "_mods") t1, val := .ref S },
     { hash := PyData.keyHash w.params (Str.ofString "_dirs"), key := .str (Str.ofString "_dirs") t2, val := .ref Dl },
     { hash := PyData.keyHash w.params (Str.ofString "_ignore"), key := .str (Str.ofString "_ignore") t3, val := .ref I }] 3) :: tl
theorem not_hidden {h : Heap} {b : Addr} {l : List Addr} (h1 : (hideAll h l).get? b = none) (h2 : b ∉ l) : h.get? b = none := by
  cases q : h.get? b with
  | none => rfl
  | some o => rw [hideAll_get _ q h2] at h1; cases h1
theorem initC {w : World} {dp un : Nat} {fr : Option (List Env)} {gd : Option (List Code)} {s : Shared} {p : Program} {loose : List Str} {mg mb : Str → Option Value} {R : Result → Shared → Prop} {h₀ : Heap} {x dx D : Addr} {vs : List Value} {nD : Nat} {nms : List Str}
    (hdp : dp + 30 < recursionLimit) (hk : ∀ b o, h₀.get? b = some o → s.heap.get? b = some o) (X : (hd.heap_39 w.params).In h₀) (T : TopRead p loose mg mb h₀)
    (N : ∀ p ∈ [(x, instObj 86 dx), (dx, dictOf [] 0), (D, listOf vs.toArray nD)], s.heap.get? p.1 = some p.2 ∧ h₀.get? p.1 = none)
    (hnm : ∀ nm ∈ nms, NmP nm) (hvs : StrsAre vs (nms.map (Str.ofString "/opt/" ++ ·))) (hlen : vs.length ≤ 100) (hpos : 0 < vs.length) (hl1 : @LT.lt Nat _ D dx) (hl2 : @LT.lt Nat _ dx x)
    (hQ : ∀ S Dl I t1 t2 t3 led ds oI kvs h' tk, Kp [dx] s.heap h' → (∀ p ∈ rdrT w x dx S Dl I t1 t2 t3 led ds oI [], h'.get? p.1 = some p.2) → (∀ a ∈ [S, Dl, I], s.heap.get? a = none) → @LT.lt Nat _ x S → @LT.lt Nat _ S Dl → @LT.lt Nat _ Dl I →
      StrsAre ds (nms.map npF) → oI.IsDictOf (PySem.strKind PySem.Challenge.pw_ny0071_01 w) kvs → PyProof.V.FlatPairs PyData.str kvs (kdpD [(Str.ofString "<string>", 1)]) → (I == sysModules) = false → R (.ok (.ret .none)) { s with heap := h', toks := tk }) :
    codeAny (model PySem.Challenge.pw_ny0071_01 w) (AA dp un fr gd) (.call (.ref 76) ⟨[.ref x, .none, .ref D], []⟩) R s := by
  w_on
  k_dflt (refine' enterNR (binds := [(Str.ofString "self", .ref x), (Str.ofString "modules", .none), (Str.ofString "dirs", .ref D)]) (news := [(x, instObj 86 dx), (dx, dictOf [] 0), (D, listOf vs.toArray nD)]) ?kk ?kX ?kT ?kN ?k6 ?k7 ?k8 ?k9 ?kB ?_ ?c2 ?c3 ?c4 ?c5; (case kk => assumption); (case kX => k_asm); (case kT => k_asm); (case kN => assumption); (case k6 => k_is); (case k7 => k_is); (case k8 => (dsimp only; omega)); (case k9 => first | assumption | exact BindsTo.of_eq rfl | exact binds_K (X.keeps hk) rfl (by k_is) rfl rfl rfl); (case c5 => decide); (case kB => exact locs rfl); (case c2 => exact rfl); (case c3 => exact rfl); (case c4 => exact rfl); k_whole)
  intro g L' h' eg eL X' T' F' N'
  clear X T
  show wpAny _ _ _ _ _ _
  k_fold
  (repeat' (first | (k_unfold; (try dsimp only)) | ((fail_if_success ((first | ((with_reducible show Exists _)) | (first | (with_reducible show wpAny _ _ (eval (PySem.Expr.ListComp _ _ _ _) _) _ _ _) | (with_reducible show wpAny _ _ (exec (PySem.Stmt.Assign _ (PySem.Expr.ListComp _ _ _ _) _) _) _ _ _) | (with_reducible show wpAny _ _ (exec (PySem.Stmt.While _ _ _ _) _) _ _ _) | (with_reducible show wpAny _ _ (exec (PySem.Stmt.For _ _ _ _ _) _) _ _ _) | (with_reducible show wpAny _ _ (exec (PySem.Stmt.Assign [PySem.Expr.Name (PySem.Str.ofString "sign") _] _ _) _) _ _ _) | (with_reducible show wpAny _ _ (eval (PySem.Expr.GeneratorExp _ _ _ _) _) _ _ _) | (with_reducible show CompAt _ _ _ _ _ _ _ _ _ _ _ _ _ _ _ _) | (with_reducible show ForAt _ _ _ _ _ _ _ _ _ _) | (with_reducible show Kp _ _ _ ∧ _) | (with_reducible show wpAny _ _ (PySem.call (Value.ref _) _ _) _ _ _))))); (first | ((with_reducible show ite _ _ _); first | (refine PySem.W.ite_pos (by with_reducible assumption) ?_) | (refine PySem.W.ite_neg (by with_reducible assumption) ?_)) | walk1 | (dsimp only; walk1)))))
  rename News _ _ _ _ => N1
  k_dflt (refine kgr_truthy N1 (by k_mem) rfl rfl (by omega) ?_)
  have hemp : vs.isEmpty = false := by cases vs with | nil => simp at hpos | cons => rfl
  rw [hemp]
  dsimp only [Bool.not_false, Bool.not_true]
  (repeat' (first | (k_unfold; (try dsimp only)) | ((fail_if_success ((first | ((with_reducible show Exists _)) | (first | (with_reducible show wpAny _ _ (eval (PySem.Expr.ListComp _ _ _ _) _) _ _ _) | (with_reducible show wpAny _ _ (exec (PySem.Stmt.Assign _ (PySem.Expr.ListComp _ _ _ _) _) _) _ _ _) | (with_reducible show wpAny _ _ (exec (PySem.Stmt.While _ _ _ _) _) _ _ _) | (with_reducible show wpAny _ _ (exec (PySem.Stmt.For _ _ _ _ _) _) _ _ _) | (with_reducible show wpAny _ _ (exec (PySem.Stmt.Assign [PySem.Expr.Name (PySem.Str.ofString "sign") _] _ _) _) _ _ _) | (with_reducible show wpAny _ _ (eval (PySem.Expr.GeneratorExp _ _ _ _) _) _ _ _) | (with_reducible show CompAt _ _ _ _ _ _ _ _ _ _ _ _ _ _ _ _) | (with_reducible show ForAt _ _ _ _ _ _ _ _ _ _) | (with_reducible show Kp _ _ _ ∧ _) | (with_reducible show wpAny _ _ (PySem.call (Value.ref _) _ _) _ _ _))))); (first | ((with_reducible show ite _ _ _); first | (refine PySem.W.ite_pos (by with_reducible assumption) ?_) | (refine PySem.W.ite_neg (by with_reducible assumption) ?_)) | walk1 | (dsimp only; walk1)))))
  ((k_dflt (refine lc_eval (by with_unfolding_all rfl) (by rfl) (by decide) ?_); k_fold))
  (repeat' (first | (k_unfold; (try dsimp only)) | ((fail_if_success ((first | ((with_reducible show Exists _)) | (first | (with_reducible show wpAny _ _ (eval (PySem.Expr.ListComp _ _ _ _) _) _ _ _) | (with_reducible show wpAny _ _ (exec (PySem.Stmt.Assign _ (PySem.Expr.ListComp _ _ _ _) _) _) _ _ _) | (with_reducible show wpAny _ _ (exec (PySem.Stmt.While _ _ _ _) _) _ _ _) | (with_reducible show wpAny _ _ (exec (PySem.Stmt.For _ _ _ _ _) _) _ _ _) | (with_reducible show wpAny _ _ (exec (PySem.Stmt.Assign [PySem.Expr.Name (PySem.Str.ofString "sign") _] _ _) _) _ _ _) | (with_reducible show wpAny _ _ (eval (PySem.Expr.GeneratorExp _ _ _ _) _) _ _ _) | (with_reducible show CompAt _ _ _ _ _ _ _ _ _ _ _ _ _ _ _ _) | (with_reducible show ForAt _ _ _ _ _ _ _ _ _ _) | (with_reducible show Kp _ _ _ ∧ _) | (with_reducible show wpAny _ _ (PySem.call (Value.ref _) _ _) _ _ _))))); (first | ((with_reducible show ite _ _ _); first | (refine PySem.W.ite_pos (by with_reducible assumption) ?_) | (refine PySem.W.ite_neg (by with_reducible assumption) ?_)) | walk1 | (dsimp only; walk1)))))
  rename Fr _ _ _ _ => F2
  rename News _ _ _ _ => N2
  k_dflt (refine lc_name (M := []) (its := vs.toArray) (fun i ys s' => StrsAre ys ((nms.take i).map npF) ∧ ∃ h tk, s' = { s with heap := h, toks := tk }) (by decide) (by rfl) (by rfl) (by rfl) (list_of_get (N2.get (by k_mem))) (by simp) (by simp) (by rw [List.size_toArray]; exact Nat.le_trans hlen (by decide)) ?_ ?_ ?_ ?_)
  · rintro i ys s' h' tk ⟨j, h, tk', rfl⟩ _
    exact ⟨j, h', tk, rfl⟩
  · exact ⟨.nil, _, _, rfl⟩
  · rintro i ys v C m₂ s' hv _ ⟨hJ, h, tk, rfl⟩ hC hn hx hk
    obtain ⟨r, t, rfl, hr⟩ := strs_get hvs (by simpa using hv)
    obtain ⟨nm, hnm1, rfl⟩ : ∃ nm, nms[i]? = some nm ∧ Str.ofString "/opt/" ++ nm = r := by
      rw [List.getElem?_map] at hr
      cases q : nms[i]? with
      | none => rw [q] at hr; cases hr
      | some nm => rw [q] at hr; exact ⟨nm, rfl, Option.some.inj hr⟩
    have hP := hnm nm (List.mem_of_getElem? hnm1)
    obtain ⟨oC, hoC, N3⟩ := news_comp F2 N2 hk hn hC
    have F3 := fr_kp F2 hk
    clear F2 N2
    refine wpAny_tests_nil ?_
    (show wpAny _ _ _ _ _ _); k_fold
    (repeat' (first | (k_unfold; (try dsimp only)) | ((fail_if_success ((first | ((with_reducible show Exists _)) | (first | (with_reducible show wpAny _ _ (eval (PySem.Expr.ListComp _ _ _ _) _) _ _ _) | (with_reducible show wpAny _ _ (exec (PySem.Stmt.Assign _ (PySem.Expr.ListComp _ _ _ _) _) _) _ _ _) | (with_reducible show wpAny _ _ (exec (PySem.Stmt.While _ _ _ _) _) _ _ _) | (with_reducible show wpAny _ _ (exec (PySem.Stmt.For _ _ _ _ _) _) _ _ _) | (with_reducible show wpAny _ _ (exec (PySem.Stmt.Assign [PySem.Expr.Name (PySem.Str.ofString "sign") _] _ _) _) _ _ _) | (with_reducible show wpAny _ _ (eval (PySem.Expr.GeneratorExp _ _ _ _) _) _ _ _) | (with_reducible show CompAt _ _ _ _ _ _ _ _ _ _ _ _ _ _ _ _) | (with_reducible show ForAt _ _ _ _ _ _ _ _ _ _) | (with_reducible show Kp _ _ _ ∧ _) | (with_reducible show wpAny _ _ (PySem.call (Value.ref _) _ _) _ _ _))))); (first | ((with_reducible show ite _ _ _); first | (refine PySem.W.ite_pos (by with_reducible assumption) ?_) | (refine PySem.W.ite_neg (by with_reducible assumption) ?_)) | walk1 | (dsimp only; walk1)))))
    rename Fr _ _ _ _ => F4
    k_dflt (refine normpath (nm := nm) (by dsimp only [AA, Around.deeper]; omega) (X'.keeps F4.keep) (T'.keeps F4.keep) (Nat.le_trans (Nat.le_of_eq (Str.length_append _ _)) (Nat.le_trans (Nat.add_le_add_left hP.len _) (by decide +kernel))) hP.ne hP.h1 hP.h2 hP.d1 hP.d2 (Nat.le_trans hP.len (by decide)) hP.sp ?_)
    intro t5 h5 tk5 k5
    dsimp only
    k_unfold
    refine ⟨k5, ?_, _, _, rfl⟩
    have := strs_snoc (y := npF nm) (t := t5) hJ
    rw [List.take_add_one, hnm1, List.map_append]
    exact this
  · rintro D2 ys s' ⟨hJ, h2, tk2, rfl⟩ hD2 hg2 hk2
    have N3 := news_add F2 N2 hk2 (Nat.le_of_lt hD2) hg2
    have F3 := fr_kp F2 hk2
    have l3 := fun p hp => Nat.lt_trans (Heap.lt_size (N2 p hp).1) hD2
    k_lt l3
    clear F2 N2
    (repeat' (first | (k_unfold; (try dsimp only)) | ((fail_if_success ((first | ((with_reducible show Exists _)) | (first | (with_reducible show wpAny _ _ (eval (PySem.Expr.ListComp _ _ _ _) _) _ _ _) | (with_reducible show wpAny _ _ (exec (PySem.Stmt.Assign _ (PySem.Expr.ListComp _ _ _ _) _) _) _ _ _) | (with_reducible show wpAny _ _ (exec (PySem.Stmt.While _ _ _ _) _) _ _ _) | (with_reducible show wpAny _ _ (exec (PySem.Stmt.For _ _ _ _ _) _) _ _ _) | (with_reducible show wpAny _ _ (exec (PySem.Stmt.Assign [PySem.Expr.Name (PySem.Str.ofString "sign") _] _ _) _) _ _ _) | (with_reducible show wpAny _ _ (eval (PySem.Expr.GeneratorExp _ _ _ _) _) _ _ _) | (with_reducible show CompAt _ _ _ _ _ _ _ _ _ _ _ _ _ _ _ _) | (with_reducible show ForAt _ _ _ _ _ _ _ _ _ _) | (with_reducible show Kp _ _ _ ∧ _) | (with_reducible show wpAny _ _ (PySem.call (Value.ref _) _ _) _ _ _))))); (first | ((with_reducible show ite _ _ _); first | (refine PySem.W.ite_pos (by with_reducible assumption) ?_) | (refine PySem.W.ite_neg (by with_reducible assumption) ?_)) | walk1 | (dsimp only; walk1)))))
    k_dflt (refine kdp_made_str (by k_asm) (by k_asm) T'.nolimit (by rfl) (of_decide_eq_true (by rfl)) (by rfl) ?_)
    intro h5 o5 F5 N5 l5 lo5 hd5 hf5 ap5
    k_lt l5
    have hls : nms.length = vs.length := by rw [strs_len hvs, List.length_map]
    have hJ' : StrsAre ys (nms.map npF) := by
      have : nms.take vs.toArray.size = nms := List.take_of_length_le (by rw [hls]; simp)
      rw [← this]; exact hJ
    have fin : ∀ S I t1 t2 t3 led oI kvs h' tk m', Fr g L' h' m' → News g L' h' (rdrT w x dx S D2 I t1 t2 t3 led ys oI [(D, W.listOf vs.toArray nD)]) → @LT.lt Nat _ x S → @LT.lt Nat _ S D2 → @LT.lt Nat _ D2 I →
        oI.IsDictOf (PySem.strKind PySem.Challenge.pw_ny0071_01 w) kvs → PyProof.V.FlatPairs PyData.str kvs (kdpD [(Str.ofString "<string>", 1)]) → (I == sysModules) = false → R (.ok (.ret .none)) { s with heap := h', toks := tk } := by
      intro S I t1 t2 t3 led oI kvs h' tk m' F6 N6 q1 q2 q3 hd hf lo
      subst eg
      have hnh : ∀ b, @LT.lt Nat _ x b → (hideAll s.heap (List.map (fun x => x.fst) [(x, instObj 86 dx), (dx, dictOf [] 0), (D, W.listOf vs.toArray nD)])).get? b = none → s.heap.get? b = none := fun b hb e => not_hidden e (by
        simp only [List.map_cons, List.map_nil, List.mem_cons, List.not_mem_nil, or_false]
        rintro (q | q | q)
        · exact absurd q (Nat.ne_of_gt hb)
        · exact absurd q (Nat.ne_of_gt (Nat.lt_trans hl2 hb))
        · exact absurd q (Nat.ne_of_gt (Nat.lt_trans hl1 (Nat.lt_trans hl2 hb))))
      refine hQ S D2 I t1 t2 t3 led ys oI kvs h' tk (fun b o hb e => hide_back_but F6 N6 (M := [dx]) ?_ N b o hb e) (fun p hp => (N6 p ?_).1) ?_ q1 q2 q3 hJ' hd hf lo
      · intro p hp hM
        simp only [List.mem_cons, List.not_mem_nil, or_false] at hp hM
        rcases hp with rfl | rfl | rfl
        · k_mem
        · exact absurd rfl hM
        · k_mem
      · simp only [List.mem_cons, List.not_mem_nil, or_false] at hp ⊢
        rcases hp with h | h | h | h | h <;> simp [h]
      · intro b hb
        simp only [List.mem_cons, List.not_mem_nil, or_false] at hb
        rcases hb with rfl | rfl | rfl
        · exact hnh _ q1 (N6.fresh (.tail _ (.tail _ (.head _))))
        · exact hnh _ (Nat.lt_trans q1 q2) (N6.fresh (.tail _ (.head _)))
        · exact hnh _ (Nat.lt_trans q1 (Nat.lt_trans q2 q3)) (N6.fresh (.head _))
    (repeat' (first | (k_unfold; (try dsimp only)) | ((fail_if_success ((first | ((with_reducible show Exists _)) | (first | (with_reducible show wpAny _ _ (eval (PySem.Expr.ListComp _ _ _ _) _) _ _ _) | (with_reducible show wpAny _ _ (exec (PySem.Stmt.Assign _ (PySem.Expr.ListComp _ _ _ _) _) _) _ _ _) | (with_reducible show wpAny _ _ (exec (PySem.Stmt.While _ _ _ _) _) _ _ _) | (with_reducible show wpAny _ _ (exec (PySem.Stmt.For _ _ _ _ _) _) _ _ _) | (with_reducible show wpAny _ _ (exec (PySem.Stmt.Assign [PySem.Expr.Name (PySem.Str.ofString "sign") _] _ _) _) _ _ _) | (with_reducible show wpAny _ _ (eval (PySem.Expr.GeneratorExp _ _ _ _) _) _ _ _) | (with_reducible show CompAt _ _ _ _ _ _ _ _ _ _ _ _ _ _ _ _) | (with_reducible show ForAt _ _ _ _ _ _ _ _ _ _) | (with_reducible show Kp _ _ _ ∧ _) | (with_reducible show wpAny _ _ (PySem.call (Value.ref _) _ _) _ _ _))))); (first | ((with_reducible show ite _ _ _); first | (refine PySem.W.ite_pos (by with_reducible assumption) ?_) | (refine PySem.W.ite_neg (by with_reducible assumption) ?_)) | walk1 | (dsimp only; walk1)))))
    rename Fr _ _ _ _ => F6
    rename News _ _ _ _ => N6
    exact fin _ _ _ _ _ _ _ _ _ _ _ F6 N6 (by omega) (by omega) (by omega) hd5 hf5 lo5
end
section
noncomputable def stepC (c : List (Str × Int)) (md : Str) (a : Bool) : Int × List (Str × Int) := if kdpHas c md = true then (kdpLook c md 0, c) else (if a then 1 else 0, kdpPut c md (if a then 1 else 0))
theorem stepC_hit {c : List (Str × Int)} {md : Str} {a : Bool} (h : kdpHas c md = true) : stepC c md a = (kdpLook c md 0, c) := if_pos h
theorem stepC_miss {c : List (Str × Int)} {md : Str} {a : Bool} (h : kdpHas c md = false) : stepC c md a = (if a then 1 else 0, kdpPut c md (if a then 1 else 0)) := if_neg (by rw [h]; decide)
theorem tab_of {prog : Program} {w : World} {h₀ h : Heap} {L I : Addr} {oI : Obj} {news : List (Addr × Obj)} {kvs : List (Str × Value)} {c : List (Str × Int)} (N : News h₀ L h news) (hp : (I, oI) ∈ news) (hd : oI.IsDictOf (PySem.strKind prog w) kvs) (hf : PyProof.V.FlatPairs PyData.str kvs (kdpD c)) (lo : (I == sysModules) = false) : StrTab prog w h I (kdpD c) :=
  ⟨lo, kvs, Heap.dictOf_iff.mpr ⟨oI, (N _ hp).1, hd⟩, hf⟩
theorem namesN {w : World} {dp un : Nat} {fr : Option (List Env)} {gd : Option (List Code)} {s : Shared} {p : Program} {loose : List Str} {mg mb : Str → Option Value} {Q E : Value → Shared → Prop} {h₀ : Heap} {x dx S Dl I : Addr} {t1 t2 t3 : Tok} {led : Bool} {ds : List Value} {oI : Obj} {kvs : List (Str × Value)} {c : List (Str × Int)} {nms : List Str} {md : Str} {u : Tok} 
    (hdp : dp + 30 < recursionLimit) (hk : ∀ b o, h₀.get? b = some o → s.heap.get? b = some o) (X : (hd.heap_39 w.params).In h₀) (T : TopRead p loose mg mb h₀)
    (N : ∀ p ∈ rdrT w x dx S Dl I t1 t2 t3 led ds oI [], s.heap.get? p.1 = some p.2 ∧ h₀.get? p.1 = none)
    (q0 : @LT.lt Nat _ dx x) (q1 : @LT.lt Nat _ x S) (q2 : @LT.lt Nat _ S Dl) (q3 : @LT.lt Nat _ Dl I) (hds : StrsAre ds (nms.map npF)) (hdict : oI.IsDictOf (PySem.strKind PySem.Challenge.pw_ny0071_01 w) kvs) (hflat : PyProof.V.FlatPairs PyData.str kvs (kdpD c)) (lo : (I == sysModules) = false) (hc : c.length ≤ 1000) (hlen : nms.length ≤ 100) (hnm : ∀ nm ∈ nms, nm.length ≤ 45) (hm : md.length ≤ 1000) 
    (hQ : ∀ t oI' kvs' h' tk, Kp [I] s.heap h' → h'.get? I = some oI' → oI'.IsDictOf (PySem.strKind PySem.Challenge.pw_ny0071_01 w) kvs' → PyProof.V.FlatPairs PyData.str kvs' (kdpD (stepC c md true).2) → Q (.int (stepC c md true).1 t) { s with heap := h', toks := tk }) :
    wpAny (model PySem.Challenge.pw_ny0071_01 w) (AA dp un fr gd) (call (.ref 83) [.ref x, .none, .str md u]) Q E s := by
  w_on
  k_dflt (refine' enterN (binds := [(Str.ofString "self", .ref x), (Str.ofString "filename", .none), (Str.ofString "modulename", .str md u)]) (news := rdrT w x dx S Dl I t1 t2 t3 led ds oI []) ?kk ?kX ?kT ?kN ?k6 ?k7 ?k8 ?k9 ?kB ?_ ?c2 ?c3 ?c4 ?c5; (case kk => assumption); (case kX => k_asm); (case kT => k_asm); (case kN => assumption); (case k6 => k_is); (case k7 => k_is); (case k8 => (dsimp only; omega)); (case k9 => first | assumption | exact BindsTo.of_eq rfl | exact binds_K (X.keeps hk) rfl (by k_is) rfl rfl rfl); (case c5 => decide); (case kB => exact locs rfl); (case c2 => exact rfl); (case c3 => exact rfl); (case c4 => exact rfl); k_whole)
  intro g L' h' eg eL X' T' F' N'
  clear X T
  show wpAny _ _ _ _ _ _
  k_fold
  have fin : ∀ t oI' kvs' h' tk m', Fr g L' h' m' → News g L' h' (rdrT w x dx S Dl I t1 t2 t3 led ds oI' []) → oI'.IsDictOf (PySem.strKind PySem.Challenge.pw_ny0071_01 w) kvs' → PyProof.V.FlatPairs PyData.str kvs' (kdpD (stepC c md true).2) → Q (.int (stepC c md true).1 t) { s with heap := h', toks := tk } := by
    intro t oI' kvs' h' tk m' F6 N6 hd hf
    subst eg
    refine hQ t oI' kvs' h' tk (fun b o hb e => hide_back_but F6 N6 (M := [I]) ?_ N b o hb e) (N6.get (.head _)) hd hf
    intro p hp hM
    simp only [List.mem_cons, List.not_mem_nil, or_false] at hp hM
    rcases hp with rfl | rfl | rfl | rfl | rfl
    · exact absurd rfl hM
    · k_mem
    · k_mem
    · k_mem
    · k_mem
  (repeat' (first | (k_unfold; (try dsimp only)) | ((fail_if_success ((first | (first | (with_reducible show wpAny _ _ (compareOp CmpOp.In (Value.str _ _) (Value.ref _)) _ _ _) | (with_reducible show wpAny _ _ (compareOp CmpOp.NotIn (Value.str _ _) (Value.ref _)) _ _ _) | (with_reducible show wpAny _ _ (setItem (Value.ref _) (Value.str _ _) _) _ _ _) | (with_reducible show wpAny _ _ (getItem (Value.ref _) (Value.str _ _)) _ _ _) | (with_reducible show wpAny _ _ (subscriptTail _ _ (Value.ref _) (Value.str _ _)) _ _ _)) | ((with_reducible show Exists _)) | (first | (with_reducible show wpAny _ _ (eval (PySem.Expr.ListComp _ _ _ _) _) _ _ _) | (with_reducible show wpAny _ _ (exec (PySem.Stmt.Assign _ (PySem.Expr.ListComp _ _ _ _) _) _) _ _ _) | (with_reducible show wpAny _ _ (exec (PySem.Stmt.While _ _ _ _) _) _ _ _) | (with_reducible show wpAny _ _ (exec (PySem.Stmt.For _ _ _ _ _) _) _ _ _) | (with_reducible show wpAny _ _ (exec (PySem.Stmt.Assign [PySem.Expr.Name (PySem.Str.ofString "sign") _] _ _) _) _ _ _) | (with_reducible show wpAny _ _ (eval (PySem.Expr.GeneratorExp _ _ _ _) _) _ _ _) | (with_reducible show CompAt _ _ _ _ _ _ _ _ _ _ _ _ _ _ _ _) | (with_reducible show ForAt _ _ _ _ _ _ _ _ _ _) | (with_reducible show Kp _ _ _ ∧ _) | (with_reducible show wpAny _ _ (PySem.call (Value.ref _) _ _) _ _ _))))); (first | ((with_reducible show ite _ _ _); first | (refine PySem.W.ite_pos (by with_reducible assumption) ?_) | (refine PySem.W.ite_neg (by with_reducible assumption) ?_)) | walk1 | (dsimp only; walk1)))))
  rename News _ _ _ _ => N1
  k_dflt (refine kdp_in (tab_of N1 (.head _) hdict hflat lo) ?_)
  cases hb : kdpHas c md with
  | true =>
    (show wpAny _ _ _ _ _ _); k_fold
    rw [stepC_hit hb] at fin
    (repeat' (first | (k_unfold; (try dsimp only)) | ((fail_if_success ((first | (first | (with_reducible show wpAny _ _ (compareOp CmpOp.In (Value.str _ _) (Value.ref _)) _ _ _) | (with_reducible show wpAny _ _ (compareOp CmpOp.NotIn (Value.str _ _) (Value.ref _)) _ _ _) | (with_reducible show wpAny _ _ (setItem (Value.ref _) (Value.str _ _) _) _ _ _) | (with_reducible show wpAny _ _ (getItem (Value.ref _) (Value.str _ _)) _ _ _) | (with_reducible show wpAny _ _ (subscriptTail _ _ (Value.ref _) (Value.str _ _)) _ _ _)) | ((with_reducible show Exists _)) | (first | (with_reducible show wpAny _ _ (eval (PySem.Expr.ListComp _ _ _ _) _) _ _ _) | (with_reducible show wpAny _ _ (exec (PySem.Stmt.Assign _ (PySem.Expr.ListComp _ _ _ _) _) _) _ _ _) | (with_reducible show wpAny _ _ (exec (PySem.Stmt.While _ _ _ _) _) _ _ _) | (with_reducible show wpAny _ _ (exec (PySem.Stmt.For _ _ _ _ _) _) _ _ _) | (with_reducible show wpAny _ _ (exec (PySem.Stmt.Assign [PySem.Expr.Name (PySem.Str.ofString "sign") _] _ _) _) _ _ _) | (with_reducible show wpAny _ _ (eval (PySem.Expr.GeneratorExp _ _ _ _) _) _ _ _) | (with_reducible show CompAt _ _ _ _ _ _ _ _ _ _ _ _ _ _ _ _) | (with_reducible show ForAt _ _ _ _ _ _ _ _ _ _) | (with_reducible show Kp _ _ _ ∧ _) | (with_reducible show wpAny _ _ (PySem.call (Value.ref _) _ _) _ _ _))))); (first | ((with_reducible show ite _ _ _); first | (refine PySem.W.ite_pos (by with_reducible assumption) ?_) | (refine PySem.W.ite_neg (by with_reducible assumption) ?_)) | walk1 | (dsimp only; walk1)))))
    k_dflt (refine kba_turn (value' := PySem.Expr.Name (PySem.Str.ofString "_") ⟨0, 0, 0, 0⟩) (fun _ => rfl) ?_)
    k_dflt (refine kdp_item (tab_of N1 (.head _) hdict hflat lo) hb ?_)
    intro t4
    (repeat' (first | (k_unfold; (try dsimp only)) | ((fail_if_success ((first | (first | (with_reducible show wpAny _ _ (compareOp CmpOp.In (Value.str _ _) (Value.ref _)) _ _ _) | (with_reducible show wpAny _ _ (compareOp CmpOp.NotIn (Value.str _ _) (Value.ref _)) _ _ _) | (with_reducible show wpAny _ _ (setItem (Value.ref _) (Value.str _ _) _) _ _ _) | (with_reducible show wpAny _ _ (getItem (Value.ref _) (Value.str _ _)) _ _ _) | (with_reducible show wpAny _ _ (subscriptTail _ _ (Value.ref _) (Value.str _ _)) _ _ _)) | ((with_reducible show Exists _)) | (first | (with_reducible show wpAny _ _ (eval (PySem.Expr.ListComp _ _ _ _) _) _ _ _) | (with_reducible show wpAny _ _ (exec (PySem.Stmt.Assign _ (PySem.Expr.ListComp _ _ _ _) _) _) _ _ _) | (with_reducible show wpAny _ _ (exec (PySem.Stmt.While _ _ _ _) _) _ _ _) | (with_reducible show wpAny _ _ (exec (PySem.Stmt.For _ _ _ _ _) _) _ _ _) | (with_reducible show wpAny _ _ (exec (PySem.Stmt.Assign [PySem.Expr.Name (PySem.Str.ofString "sign") _] _ _) _) _ _ _) | (with_reducible show wpAny _ _ (eval (PySem.Expr.GeneratorExp _ _ _ _) _) _ _ _) | (with_reducible show CompAt _ _ _ _ _ _ _ _ _ _ _ _ _ _ _ _) | (with_reducible show ForAt _ _ _ _ _ _ _ _ _ _) | (with_reducible show Kp _ _ _ ∧ _) | (with_reducible show wpAny _ _ (PySem.call (Value.ref _) _ _) _ _ _))))); (first | ((with_reducible show ite _ _ _); first | (refine PySem.W.ite_pos (by with_reducible assumption) ?_) | (refine PySem.W.ite_neg (by with_reducible assumption) ?_)) | walk1 | (dsimp only; walk1)))))
    rename Fr _ _ _ _ => F4
    exact fin _ _ _ _ _ _ F4 N1 hdict hflat
  | false =>
    (show wpAny _ _ _ _ _ _); k_fold
    rw [stepC_miss hb] at fin
    (repeat' (first | (k_unfold; (try dsimp only)) | ((fail_if_success ((first | (first | (with_reducible show wpAny _ _ (compareOp CmpOp.In (Value.str _ _) (Value.ref _)) _ _ _) | (with_reducible show wpAny _ _ (compareOp CmpOp.NotIn (Value.str _ _) (Value.ref _)) _ _ _) | (with_reducible show wpAny _ _ (setItem (Value.ref _) (Value.str _ _) _) _ _ _) | (with_reducible show wpAny _ _ (getItem (Value.ref _) (Value.str _ _)) _ _ _) | (with_reducible show wpAny _ _ (subscriptTail _ _ (Value.ref _) (Value.str _ _)) _ _ _)) | ((with_reducible show Exists _)) | (first | (with_reducible show wpAny _ _ (eval (PySem.Expr.ListComp _ _ _ _) _) _ _ _) | (with_reducible show wpAny _ _ (exec (PySem.Stmt.Assign _ (PySem.Expr.ListComp _ _ _ _) _) _) _ _ _) | (with_reducible show wpAny _ _ (exec (PySem.Stmt.While _ _ _ _) _) _ _ _) | (with_reducible show wpAny _ _ (exec (PySem.Stmt.For _ _ _ _ _) _) _ _ _) | (with_reducible show wpAny _ _ (exec (PySem.Stmt.Assign [PySem.Expr.Name (PySem.Str.ofString "sign") _] _ _) _) _ _ _) | (with_reducible show wpAny _ _ (eval (PySem.Expr.GeneratorExp _ _ _ _) _) _ _ _) | (with_reducible show CompAt _ _ _ _ _ _ _ _ _ _ _ _ _ _ _ _) | (with_reducible show ForAt _ _ _ _ _ _ _ _ _ _) | (with_reducible show Kp _ _ _ ∧ _) | (with_reducible show wpAny _ _ (PySem.call (Value.ref _) _ _) _ _ _))))); (first | ((with_reducible show ite _ _ _); first | (refine PySem.W.ite_pos (by with_reducible assumption) ?_) | (refine PySem.W.ite_neg (by with_reducible assumption) ?_)) | walk1 | (dsimp only; walk1)))))
    k_dflt (refine kse_in (knd := PySem.strKind _ _) (sa := S) N1 (by k_updF) (setObjOf_fresh led) (by kse_small) (strKind_is _ _ _ _) rfl ?_)
    (repeat' (first | (k_unfold; (try dsimp only)) | ((fail_if_success ((first | (first | (with_reducible show wpAny _ _ (compareOp CmpOp.In (Value.str _ _) (Value.ref _)) _ _ _) | (with_reducible show wpAny _ _ (compareOp CmpOp.NotIn (Value.str _ _) (Value.ref _)) _ _ _) | (with_reducible show wpAny _ _ (setItem (Value.ref _) (Value.str _ _) _) _ _ _) | (with_reducible show wpAny _ _ (getItem (Value.ref _) (Value.str _ _)) _ _ _) | (with_reducible show wpAny _ _ (subscriptTail _ _ (Value.ref _) (Value.str _ _)) _ _ _)) | ((with_reducible show Exists _)) | (first | (with_reducible show wpAny _ _ (eval (PySem.Expr.ListComp _ _ _ _) _) _ _ _) | (with_reducible show wpAny _ _ (exec (PySem.Stmt.Assign _ (PySem.Expr.ListComp _ _ _ _) _) _) _ _ _) | (with_reducible show wpAny _ _ (exec (PySem.Stmt.While _ _ _ _) _) _ _ _) | (with_reducible show wpAny _ _ (exec (PySem.Stmt.For _ _ _ _ _) _) _ _ _) | (with_reducible show wpAny _ _ (exec (PySem.Stmt.Assign [PySem.Expr.Name (PySem.Str.ofString "sign") _] _ _) _) _ _ _) | (with_reducible show wpAny _ _ (eval (PySem.Expr.GeneratorExp _ _ _ _) _) _ _ _) | (with_reducible show CompAt _ _ _ _ _ _ _ _ _ _ _ _ _ _ _ _) | (with_reducible show ForAt _ _ _ _ _ _ _ _ _ _) | (with_reducible show Kp _ _ _ ∧ _) | (with_reducible show wpAny _ _ (PySem.call (Value.ref _) _ _) _ _ _))))); (first | ((with_reducible show ite _ _ _); first | (refine PySem.W.ite_pos (by with_reducible assumption) ?_) | (refine PySem.W.ite_neg (by with_reducible assumption) ?_)) | walk1 | (dsimp only; walk1)))))
    ((k_dflt (refine for_exec ?_); k_fold))
    (repeat' (first | (k_unfold; (try dsimp only)) | ((fail_if_success ((first | (first | (with_reducible show wpAny _ _ (compareOp CmpOp.In (Value.str _ _) (Value.ref _)) _ _ _) | (with_reducible show wpAny _ _ (compareOp CmpOp.NotIn (Value.str _ _) (Value.ref _)) _ _ _) | (with_reducible show wpAny _ _ (setItem (Value.ref _) (Value.str _ _) _) _ _ _) | (with_reducible show wpAny _ _ (getItem (Value.ref _) (Value.str _ _)) _ _ _) | (with_reducible show wpAny _ _ (subscriptTail _ _ (Value.ref _) (Value.str _ _)) _ _ _)) | ((with_reducible show Exists _)) | (first | (with_reducible show wpAny _ _ (eval (PySem.Expr.ListComp _ _ _ _) _) _ _ _) | (with_reducible show wpAny _ _ (exec (PySem.Stmt.Assign _ (PySem.Expr.ListComp _ _ _ _) _) _) _ _ _) | (with_reducible show wpAny _ _ (exec (PySem.Stmt.While _ _ _ _) _) _ _ _) | (with_reducible show wpAny _ _ (exec (PySem.Stmt.For _ _ _ _ _) _) _ _ _) | (with_reducible show wpAny _ _ (exec (PySem.Stmt.Assign [PySem.Expr.Name (PySem.Str.ofString "sign") _] _ _) _) _ _ _) | (with_reducible show wpAny _ _ (eval (PySem.Expr.GeneratorExp _ _ _ _) _) _ _ _) | (with_reducible show CompAt _ _ _ _ _ _ _ _ _ _ _ _ _ _ _ _) | (with_reducible show ForAt _ _ _ _ _ _ _ _ _ _) | (with_reducible show Kp _ _ _ ∧ _) | (with_reducible show wpAny _ _ (PySem.call (Value.ref _) _ _) _ _ _))))); (first | ((with_reducible show ite _ _ _); first | (refine PySem.W.ite_pos (by with_reducible assumption) ?_) | (refine PySem.W.ite_neg (by with_reducible assumption) ?_)) | walk1 | (dsimp only; walk1)))))
    rename Fr _ _ _ _ => F4
    k_dflt (refine for_set (by rfl) (N1.get (by k_mem)) ?_)
    intro h5 k5
    have F5 := fr_kp F4 k5
    have N5 := news_kp N1 k5
    clear F4 N1
    (repeat' (first | (k_unfold; (try dsimp only)) | ((fail_if_success ((first | (first | (with_reducible show wpAny _ _ (compareOp CmpOp.In (Value.str _ _) (Value.ref _)) _ _ _) | (with_reducible show wpAny _ _ (compareOp CmpOp.NotIn (Value.str _ _) (Value.ref _)) _ _ _) | (with_reducible show wpAny _ _ (setItem (Value.ref _) (Value.str _ _) _) _ _ _) | (with_reducible show wpAny _ _ (getItem (Value.ref _) (Value.str _ _)) _ _ _) | (with_reducible show wpAny _ _ (subscriptTail _ _ (Value.ref _) (Value.str _ _)) _ _ _)) | ((with_reducible show Exists _)) | (first | (with_reducible show wpAny _ _ (eval (PySem.Expr.ListComp _ _ _ _) _) _ _ _) | (with_reducible show wpAny _ _ (exec (PySem.Stmt.Assign _ (PySem.Expr.ListComp _ _ _ _) _) _) _ _ _) | (with_reducible show wpAny _ _ (exec (PySem.Stmt.While _ _ _ _) _) _ _ _) | (with_reducible show wpAny _ _ (exec (PySem.Stmt.For _ _ _ _ _) _) _ _ _) | (with_reducible show wpAny _ _ (exec (PySem.Stmt.Assign [PySem.Expr.Name (PySem.Str.ofString "sign") _] _ _) _) _ _ _) | (with_reducible show wpAny _ _ (eval (PySem.Expr.GeneratorExp _ _ _ _) _) _ _ _) | (with_reducible show CompAt _ _ _ _ _ _ _ _ _ _ _ _ _ _ _ _) | (with_reducible show ForAt _ _ _ _ _ _ _ _ _ _) | (with_reducible show Kp _ _ _ ∧ _) | (with_reducible show wpAny _ _ (PySem.call (Value.ref _) _ _) _ _ _))))); (first | ((with_reducible show ite _ _ _); first | (refine PySem.W.ite_pos (by with_reducible assumption) ?_) | (refine PySem.W.ite_neg (by with_reducible assumption) ?_)) | walk1 | (dsimp only; walk1)))))
    k_dflt (refine kdp_setItem F5 N5 (by k_updF) hdict hflat (by omega) ?_)
    intro h6 o6 kvs6 F6 N6 hd6 hf6
    clear F5 N5
    (repeat' (first | (k_unfold; (try dsimp only)) | ((fail_if_success ((first | (first | (with_reducible show wpAny _ _ (compareOp CmpOp.In (Value.str _ _) (Value.ref _)) _ _ _) | (with_reducible show wpAny _ _ (compareOp CmpOp.NotIn (Value.str _ _) (Value.ref _)) _ _ _) | (with_reducible show wpAny _ _ (setItem (Value.ref _) (Value.str _ _) _) _ _ _) | (with_reducible show wpAny _ _ (getItem (Value.ref _) (Value.str _ _)) _ _ _) | (with_reducible show wpAny _ _ (subscriptTail _ _ (Value.ref _) (Value.str _ _)) _ _ _)) | ((with_reducible show Exists _)) | (first | (with_reducible show wpAny _ _ (eval (PySem.Expr.ListComp _ _ _ _) _) _ _ _) | (with_reducible show wpAny _ _ (exec (PySem.Stmt.Assign _ (PySem.Expr.ListComp _ _ _ _) _) _) _ _ _) | (with_reducible show wpAny _ _ (exec (PySem.Stmt.While _ _ _ _) _) _ _ _) | (with_reducible show wpAny _ _ (exec (PySem.Stmt.For _ _ _ _ _) _) _ _ _) | (with_reducible show wpAny _ _ (exec (PySem.Stmt.Assign [PySem.Expr.Name (PySem.Str.ofString "sign") _] _ _) _) _ _ _) | (with_reducible show wpAny _ _ (eval (PySem.Expr.GeneratorExp _ _ _ _) _) _ _ _) | (with_reducible show CompAt _ _ _ _ _ _ _ _ _ _ _ _ _ _ _ _) | (with_reducible show ForAt _ _ _ _ _ _ _ _ _ _) | (with_reducible show Kp _ _ _ ∧ _) | (with_reducible show wpAny _ _ (PySem.call (Value.ref _) _ _) _ _ _))))); (first | ((with_reducible show ite _ _ _); first | (refine PySem.W.ite_pos (by with_reducible assumption) ?_) | (refine PySem.W.ite_neg (by with_reducible assumption) ?_)) | walk1 | (dsimp only; walk1)))))
    exact fin _ _ _ _ _ _ F6 N6 hd6 hf6
noncomputable def startsF (f nm : Str) : Bool := Txt.startswith f (npF nm ++ Str.ofString "/")
noncomputable def ansF (nms : List Str) (f : Str) : Bool := nms.any (startsF f)
theorem npF_len (nm : Str) (h : nm.length ≤ 45) : (npF nm).length ≤ 50 := by
  unfold npF
  split
  · decide +kernel
  · rw [Str.length_append]
    have : (Str.ofString "/opt/").length = 5 := by decide +kernel
    omega
theorem fr_loop {h₀ h h' : Heap} {L : Addr} {m m' : Str → Option Value} (F : Fr h₀ L h m) (hn : h'.Ns L m') (k : Kp [L] h h') : Fr h₀ L h' m' :=
  ⟨hn, fun b o e => k b o (by
    intro q
    rw [List.mem_singleton.mp q] at e
    exact absurd (Nat.lt_of_lt_of_le (Heap.lt_size e) F.above) (Nat.lt_irrefl _)) (F.keep b o e), F.above⟩
theorem news_loop {h₀ h h' : Heap} {L : Addr} {news : List (Addr × Obj)} (N : News h₀ L h news) (k : Kp [L] h h') : News h₀ L h' news := fun p hp => ⟨k _ _ (by simpa using (N p hp).2.1) (N p hp).1, (N p hp).2⟩
theorem namesS {w : World} {dp un : Nat} {fr : Option (List Env)} {gd : Option (List Code)} {s : Shared} {p : Program} {loose : List Str} {mg mb : Str → Option Value} {Q E : Value → Shared → Prop} {h₀ : Heap} {x dx S Dl I : Addr} {t1 t2 t3 : Tok} {led : Bool} {ds : List Value} {oI : Obj} {kvs : List (Str × Value)} {c : List (Str × Int)} {nms : List Str} {md f : Str} {u v : Tok}
    (hdp : dp + 30 < recursionLimit) (hk : ∀ b o, h₀.get? b = some o → s.heap.get? b = some o) (X : (hd.heap_39 w.params).In h₀) (T : TopRead p loose mg mb h₀)
    (N : ∀ p ∈ rdrT w x dx S Dl I t1 t2 t3 led ds oI [], s.heap.get? p.1 = some p.2 ∧ h₀.get? p.1 = none)
    (q0 : @LT.lt Nat _ dx x) (q1 : @LT.lt Nat _ x S) (q2 : @LT.lt Nat _ S Dl) (q3 : @LT.lt Nat _ Dl I) (hds : StrsAre ds (nms.map npF)) (hdict : oI.IsDictOf (PySem.strKind PySem.Challenge.pw_ny0071_01 w) kvs) (hflat : PyProof.V.FlatPairs PyData.str kvs (kdpD c)) (lo : (I == sysModules) = false) (hc : c.length ≤ 1000) (hlen : nms.length ≤ 100) (hnm : ∀ nm ∈ nms, nm.length ≤ 45) (hm : md.length ≤ 1000) (hf0 : f.length ≤ 1000)
    (hQ : ∀ t oI' kvs' h' tk, Kp [I] s.heap h' → h'.get? I = some oI' → oI'.IsDictOf (PySem.strKind PySem.Challenge.pw_ny0071_01 w) kvs' → PyProof.V.FlatPairs PyData.str kvs' (kdpD (stepC c md (ansF nms f)).2) → Q (.int (stepC c md (ansF nms f)).1 t) { s with heap := h', toks := tk }) :
    wpAny (model PySem.Challenge.pw_ny0071_01 w) (AA dp un fr gd) (call (.ref 83) [.ref x, .str f v, .str md u]) Q E s := by
  w_on
  k_dflt (refine' enterN (binds := [(Str.ofString "self", .ref x), (Str.ofString "filename", .str f v), (Str.ofString "modulename", .str md u)]) (news := rdrT w x dx S Dl I t1 t2 t3 led ds oI []) ?kk ?kX ?kT ?kN ?k6 ?k7 ?k8 ?k9 ?kB ?_ ?c2 ?c3 ?c4 ?c5; (case kk => assumption); (case kX => k_asm); (case kT => k_asm); (case kN => assumption); (case k6 => k_is); (case k7 => k_is); (case k8 => (dsimp only; omega)); (case k9 => first | assumption | exact BindsTo.of_eq rfl | exact binds_K (X.keeps hk) rfl (by k_is) rfl rfl rfl); (case c5 => decide); (case kB => exact locs rfl); (case c2 => exact rfl); (case c3 => exact rfl); (case c4 => exact rfl); k_whole)
  intro g L' h' eg eL X' T' F' N'
  clear X T
  show wpAny _ _ _ _ _ _
  k_fold
  have fin : ∀ t oI' kvs' h' tk m', Fr g L' h' m' → News g L' h' (rdrT w x dx S Dl I t1 t2 t3 led ds oI' []) → oI'.IsDictOf (PySem.strKind PySem.Challenge.pw_ny0071_01 w) kvs' → PyProof.V.FlatPairs PyData.str kvs' (kdpD (stepC c md (ansF nms f)).2) → Q (.int (stepC c md (ansF nms f)).1 t) { s with heap := h', toks := tk } := by
    intro t oI' kvs' h' tk m' F6 N6 hd hf
    subst eg
    refine hQ t oI' kvs' h' tk (fun b o hb e => hide_back_but F6 N6 (M := [I]) ?_ N b o hb e) (N6.get (.head _)) hd hf
    intro p hp hM
    simp only [List.mem_cons, List.not_mem_nil, or_false] at hp hM
    rcases hp with rfl | rfl | rfl | rfl | rfl
    · exact absurd rfl hM
    · k_mem
    · k_mem
    · k_mem
    · k_mem
  (repeat' (first | (k_unfold; (try dsimp only)) | ((fail_if_success ((first | (first | (with_reducible show wpAny _ _ (compareOp CmpOp.In (Value.str _ _) (Value.ref _)) _ _ _) | (with_reducible show wpAny _ _ (compareOp CmpOp.NotIn (Value.str _ _) (Value.ref _)) _ _ _) | (with_reducible show wpAny _ _ (setItem (Value.ref _) (Value.str _ _) _) _ _ _) | (with_reducible show wpAny _ _ (getItem (Value.ref _) (Value.str _ _)) _ _ _) | (with_reducible show wpAny _ _ (subscriptTail _ _ (Value.ref _) (Value.str _ _)) _ _ _)) | ((with_reducible show Exists _)) | (first | (with_reducible show wpAny _ _ (eval (PySem.Expr.ListComp _ _ _ _) _) _ _ _) | (with_reducible show wpAny _ _ (exec (PySem.Stmt.Assign _ (PySem.Expr.ListComp _ _ _ _) _) _) _ _ _) | (with_reducible show wpAny _ _ (exec (PySem.Stmt.While _ _ _ _) _) _ _ _) | (with_reducible show wpAny _ _ (exec (PySem.Stmt.For _ _ _ _ _) _) _ _ _) | (with_reducible show wpAny _ _ (exec (PySem.Stmt.Assign [PySem.Expr.Name (PySem.Str.ofString "sign") _] _ _) _) _ _ _) | (with_reducible show wpAny _ _ (eval (PySem.Expr.GeneratorExp _ _ _ _) _) _ _ _) | (with_reducible show CompAt _ _ _ _ _ _ _ _ _ _ _ _ _ _ _ _) | (with_reducible show ForAt _ _ _ _ _ _ _ _ _ _) | (with_reducible show Kp _ _ _ ∧ _) | (with_reducible show wpAny _ _ (PySem.call (Value.ref _) _ _) _ _ _))))); (first | ((with_reducible show ite _ _ _); first | (refine PySem.W.ite_pos (by with_reducible assumption) ?_) | (refine PySem.W.ite_neg (by with_reducible assumption) ?_)) | walk1 | (dsimp only; walk1)))))
  rename News _ _ _ _ => N1
  k_dflt (refine kdp_in (tab_of N1 (.head _) hdict hflat lo) ?_)
  cases hb : kdpHas c md with
  | true =>
    (show wpAny _ _ _ _ _ _); k_fold
    rw [stepC_hit hb] at fin
    (repeat' (first | (k_unfold; (try dsimp only)) | ((fail_if_success ((first | (first | (with_reducible show wpAny _ _ (compareOp CmpOp.In (Value.str _ _) (Value.ref _)) _ _ _) | (with_reducible show wpAny _ _ (compareOp CmpOp.NotIn (Value.str _ _) (Value.ref _)) _ _ _) | (with_reducible show wpAny _ _ (setItem (Value.ref _) (Value.str _ _) _) _ _ _) | (with_reducible show wpAny _ _ (getItem (Value.ref _) (Value.str _ _)) _ _ _) | (with_reducible show wpAny _ _ (subscriptTail _ _ (Value.ref _) (Value.str _ _)) _ _ _)) | ((with_reducible show Exists _)) | (first | (with_reducible show wpAny _ _ (eval (PySem.Expr.ListComp _ _ _ _) _) _ _ _) | (with_reducible show wpAny _ _ (exec (PySem.Stmt.Assign _ (PySem.Expr.ListComp _ _ _ _) _) _) _ _ _) | (with_reducible show wpAny _ _ (exec (PySem.Stmt.While _ _ _ _) _) _ _ _) | (with_reducible show wpAny _ _ (exec (PySem.Stmt.For _ _ _ _ _) _) _ _ _) | (with_reducible show wpAny _ _ (exec (PySem.Stmt.Assign [PySem.Expr.Name (PySem.Str.ofString "sign") _] _ _) _) _ _ _) | (with_reducible show wpAny _ _ (eval (PySem.Expr.GeneratorExp _ _ _ _) _) _ _ _) | (with_reducible show CompAt _ _ _ _ _ _ _ _ _ _ _ _ _ _ _ _) | (with_reducible show ForAt _ _ _ _ _ _ _ _ _ _) | (with_reducible show Kp _ _ _ ∧ _) | (with_reducible show wpAny _ _ (PySem.call (Value.ref _) _ _) _ _ _))))); (first | ((with_reducible show ite _ _ _); first | (refine PySem.W.ite_pos (by with_reducible assumption) ?_) | (refine PySem.W.ite_neg (by with_reducible assumption) ?_)) | walk1 | (dsimp only; walk1)))))
    k_dflt (refine kba_turn (value' := PySem.Expr.Name (PySem.Str.ofString "_") ⟨0, 0, 0, 0⟩) (fun _ => rfl) ?_)
    k_dflt (refine kdp_item (tab_of N1 (.head _) hdict hflat lo) hb ?_)
    intro t4
    (repeat' (first | (k_unfold; (try dsimp only)) | ((fail_if_success ((first | (first | (with_reducible show wpAny _ _ (compareOp CmpOp.In (Value.str _ _) (Value.ref _)) _ _ _) | (with_reducible show wpAny _ _ (compareOp CmpOp.NotIn (Value.str _ _) (Value.ref _)) _ _ _) | (with_reducible show wpAny _ _ (setItem (Value.ref _) (Value.str _ _) _) _ _ _) | (with_reducible show wpAny _ _ (getItem (Value.ref _) (Value.str _ _)) _ _ _) | (with_reducible show wpAny _ _ (subscriptTail _ _ (Value.ref _) (Value.str _ _)) _ _ _)) | ((with_reducible show Exists _)) | (first | (with_reducible show wpAny _ _ (eval (PySem.Expr.ListComp _ _ _ _) _) _ _ _) | (with_reducible show wpAny _ _ (exec (PySem.Stmt.Assign _ (PySem.Expr.ListComp _ _ _ _) _) _) _ _ _) | (with_reducible show wpAny _ _ (exec (PySem.Stmt.While _ _ _ _) _) _ _ _) | (with_reducible show wpAny _ _ (exec (PySem.Stmt.For _ _ _ _ _) _) _ _ _) | (with_reducible show wpAny _ _ (exec (PySem.Stmt.Assign [PySem.Expr.Name (PySem.Str.ofString "sign") _] _ _) _) _ _ _) | (with_reducible show wpAny _ _ (eval (PySem.Expr.GeneratorExp _ _ _ _) _) _ _ _) | (with_reducible show CompAt _ _ _ _ _ _ _ _ _ _ _ _ _ _ _ _) | (with_reducible show ForAt _ _ _ _ _ _ _ _ _ _) | (with_reducible show Kp _ _ _ ∧ _) | (with_reducible show wpAny _ _ (PySem.call (Value.ref _) _ _) _ _ _))))); (first | ((with_reducible show ite _ _ _); first | (refine PySem.W.ite_pos (by with_reducible assumption) ?_) | (refine PySem.W.ite_neg (by with_reducible assumption) ?_)) | walk1 | (dsimp only; walk1)))))
    rename Fr _ _ _ _ => F4
    exact fin _ _ _ _ _ _ F4 N1 hdict hflat
  | false =>
    (show wpAny _ _ _ _ _ _); k_fold
    rw [stepC_miss hb] at fin
    (repeat' (first | (k_unfold; (try dsimp only)) | ((fail_if_success ((first | (first | (with_reducible show wpAny _ _ (compareOp CmpOp.In (Value.str _ _) (Value.ref _)) _ _ _) | (with_reducible show wpAny _ _ (compareOp CmpOp.NotIn (Value.str _ _) (Value.ref _)) _ _ _) | (with_reducible show wpAny _ _ (setItem (Value.ref _) (Value.str _ _) _) _ _ _) | (with_reducible show wpAny _ _ (getItem (Value.ref _) (Value.str _ _)) _ _ _) | (with_reducible show wpAny _ _ (subscriptTail _ _ (Value.ref _) (Value.str _ _)) _ _ _)) | ((with_reducible show Exists _)) | (first | (with_reducible show wpAny _ _ (eval (PySem.Expr.ListComp _ _ _ _) _) _ _ _) | (with_reducible show wpAny _ _ (exec (PySem.Stmt.Assign _ (PySem.Expr.ListComp _ _ _ _) _) _) _ _ _) | (with_reducible show wpAny _ _ (exec (PySem.Stmt.While _ _ _ _) _) _ _ _) | (with_reducible show wpAny _ _ (exec (PySem.Stmt.For _ _ _ _ _) _) _ _ _) | (with_reducible show wpAny _ _ (exec (PySem.Stmt.Assign [PySem.Expr.Name (PySem.Str.ofString "sign") _] _ _) _) _ _ _) | (with_reducible show wpAny _ _ (eval (PySem.Expr.GeneratorExp _ _ _ _) _) _ _ _) | (with_reducible show CompAt _ _ _ _ _ _ _ _ _ _ _ _ _ _ _ _) | (with_reducible show ForAt _ _ _ _ _ _ _ _ _ _) | (with_reducible show Kp _ _ _ ∧ _) | (with_reducible show wpAny _ _ (PySem.call (Value.ref _) _ _) _ _ _))))); (first | ((with_reducible show ite _ _ _); first | (refine PySem.W.ite_pos (by with_reducible assumption) ?_) | (refine PySem.W.ite_neg (by with_reducible assumption) ?_)) | walk1 | (dsimp only; walk1)))))
    k_dflt (refine kse_in (knd := PySem.strKind _ _) (sa := S) N1 (by k_updF) (setObjOf_fresh led) (by kse_small) (strKind_is _ _ _ _) rfl ?_)
    (repeat' (first | (k_unfold; (try dsimp only)) | ((fail_if_success ((first | (first | (with_reducible show wpAny _ _ (compareOp CmpOp.In (Value.str _ _) (Value.ref _)) _ _ _) | (with_reducible show wpAny _ _ (compareOp CmpOp.NotIn (Value.str _ _) (Value.ref _)) _ _ _) | (with_reducible show wpAny _ _ (setItem (Value.ref _) (Value.str _ _) _) _ _ _) | (with_reducible show wpAny _ _ (getItem (Value.ref _) (Value.str _ _)) _ _ _) | (with_reducible show wpAny _ _ (subscriptTail _ _ (Value.ref _) (Value.str _ _)) _ _ _)) | ((with_reducible show Exists _)) | (first | (with_reducible show wpAny _ _ (eval (PySem.Expr.ListComp _ _ _ _) _) _ _ _) | (with_reducible show wpAny _ _ (exec (PySem.Stmt.Assign _ (PySem.Expr.ListComp _ _ _ _) _) _) _ _ _) | (with_reducible show wpAny _ _ (exec (PySem.Stmt.While _ _ _ _) _) _ _ _) | (with_reducible show wpAny _ _ (exec (PySem.Stmt.For _ _ _ _ _) _) _ _ _) | (with_reducible show wpAny _ _ (exec (PySem.Stmt.Assign [PySem.Expr.Name (PySem.Str.ofString "sign") _] _ _) _) _ _ _) | (with_reducible show wpAny _ _ (eval (PySem.Expr.GeneratorExp _ _ _ _) _) _ _ _) | (with_reducible show CompAt _ _ _ _ _ _ _ _ _ _ _ _ _ _ _ _) | (with_reducible show ForAt _ _ _ _ _ _ _ _ _ _) | (with_reducible show Kp _ _ _ ∧ _) | (with_reducible show wpAny _ _ (PySem.call (Value.ref _) _ _) _ _ _))))); (first | ((with_reducible show ite _ _ _); first | (refine PySem.W.ite_pos (by with_reducible assumption) ?_) | (refine PySem.W.ite_neg (by with_reducible assumption) ?_)) | walk1 | (dsimp only; walk1)))))
    ((k_dflt (refine for_exec ?_); k_fold))
    (repeat' (first | (k_unfold; (try dsimp only)) | ((fail_if_success ((first | (first | (with_reducible show wpAny _ _ (compareOp CmpOp.In (Value.str _ _) (Value.ref _)) _ _ _) | (with_reducible show wpAny _ _ (compareOp CmpOp.NotIn (Value.str _ _) (Value.ref _)) _ _ _) | (with_reducible show wpAny _ _ (setItem (Value.ref _) (Value.str _ _) _) _ _ _) | (with_reducible show wpAny _ _ (getItem (Value.ref _) (Value.str _ _)) _ _ _) | (with_reducible show wpAny _ _ (subscriptTail _ _ (Value.ref _) (Value.str _ _)) _ _ _)) | ((with_reducible show Exists _)) | (first | (with_reducible show wpAny _ _ (eval (PySem.Expr.ListComp _ _ _ _) _) _ _ _) | (with_reducible show wpAny _ _ (exec (PySem.Stmt.Assign _ (PySem.Expr.ListComp _ _ _ _) _) _) _ _ _) | (with_reducible show wpAny _ _ (exec (PySem.Stmt.While _ _ _ _) _) _ _ _) | (with_reducible show wpAny _ _ (exec (PySem.Stmt.For _ _ _ _ _) _) _ _ _) | (with_reducible show wpAny _ _ (exec (PySem.Stmt.Assign [PySem.Expr.Name (PySem.Str.ofString "sign") _] _ _) _) _ _ _) | (with_reducible show wpAny _ _ (eval (PySem.Expr.GeneratorExp _ _ _ _) _) _ _ _) | (with_reducible show CompAt _ _ _ _ _ _ _ _ _ _ _ _ _ _ _ _) | (with_reducible show ForAt _ _ _ _ _ _ _ _ _ _) | (with_reducible show Kp _ _ _ ∧ _) | (with_reducible show wpAny _ _ (PySem.call (Value.ref _) _ _) _ _ _))))); (first | ((with_reducible show ite _ _ _); first | (refine PySem.W.ite_pos (by with_reducible assumption) ?_) | (refine PySem.W.ite_neg (by with_reducible assumption) ?_)) | walk1 | (dsimp only; walk1)))))
    rename Fr _ _ _ _ => F4
    k_dflt (refine for_set (by rfl) (N1.get (by k_mem)) ?_)
    intro h5 k5
    have F5 := fr_kp F4 k5
    have N5 := news_kp N1 k5
    clear F4 N1
    (repeat' (first | (k_unfold; (try dsimp only)) | ((fail_if_success ((first | (first | (with_reducible show wpAny _ _ (compareOp CmpOp.In (Value.str _ _) (Value.ref _)) _ _ _) | (with_reducible show wpAny _ _ (compareOp CmpOp.NotIn (Value.str _ _) (Value.ref _)) _ _ _) | (with_reducible show wpAny _ _ (setItem (Value.ref _) (Value.str _ _) _) _ _ _) | (with_reducible show wpAny _ _ (getItem (Value.ref _) (Value.str _ _)) _ _ _) | (with_reducible show wpAny _ _ (subscriptTail _ _ (Value.ref _) (Value.str _ _)) _ _ _)) | ((with_reducible show Exists _)) | (first | (with_reducible show wpAny _ _ (eval (PySem.Expr.ListComp _ _ _ _) _) _ _ _) | (with_reducible show wpAny _ _ (exec (PySem.Stmt.Assign _ (PySem.Expr.ListComp _ _ _ _) _) _) _ _ _) | (with_reducible show wpAny _ _ (exec (PySem.Stmt.While _ _ _ _) _) _ _ _) | (with_reducible show wpAny _ _ (exec (PySem.Stmt.For _ _ _ _ _) _) _ _ _) | (with_reducible show wpAny _ _ (exec (PySem.Stmt.Assign [PySem.Expr.Name (PySem.Str.ofString "sign") _] _ _) _) _ _ _) | (with_reducible show wpAny _ _ (eval (PySem.Expr.GeneratorExp _ _ _ _) _) _ _ _) | (with_reducible show CompAt _ _ _ _ _ _ _ _ _ _ _ _ _ _ _ _) | (with_reducible show ForAt _ _ _ _ _ _ _ _ _ _) | (with_reducible show Kp _ _ _ ∧ _) | (with_reducible show wpAny _ _ (PySem.call (Value.ref _) _ _) _ _ _))))); (first | ((with_reducible show ite _ _ _); first | (refine PySem.W.ite_pos (by with_reducible assumption) ?_) | (refine PySem.W.ite_neg (by with_reducible assumption) ?_)) | walk1 | (dsimp only; walk1)))))
    ((k_dflt (refine for_exec ?_); k_fold))
    (repeat' (first | (k_unfold; (try dsimp only)) | ((fail_if_success ((first | (first | (with_reducible show wpAny _ _ (compareOp CmpOp.In (Value.str _ _) (Value.ref _)) _ _ _) | (with_reducible show wpAny _ _ (compareOp CmpOp.NotIn (Value.str _ _) (Value.ref _)) _ _ _) | (with_reducible show wpAny _ _ (setItem (Value.ref _) (Value.str _ _) _) _ _ _) | (with_reducible show wpAny _ _ (getItem (Value.ref _) (Value.str _ _)) _ _ _) | (with_reducible show wpAny _ _ (subscriptTail _ _ (Value.ref _) (Value.str _ _)) _ _ _)) | ((with_reducible show Exists _)) | (first | (with_reducible show wpAny _ _ (eval (PySem.Expr.ListComp _ _ _ _) _) _ _ _) | (with_reducible show wpAny _ _ (exec (PySem.Stmt.Assign _ (PySem.Expr.ListComp _ _ _ _) _) _) _ _ _) | (with_reducible show wpAny _ _ (exec (PySem.Stmt.While _ _ _ _) _) _ _ _) | (with_reducible show wpAny _ _ (exec (PySem.Stmt.For _ _ _ _ _) _) _ _ _) | (with_reducible show wpAny _ _ (exec (PySem.Stmt.Assign [PySem.Expr.Name (PySem.Str.ofString "sign") _] _ _) _) _ _ _) | (with_reducible show wpAny _ _ (eval (PySem.Expr.GeneratorExp _ _ _ _) _) _ _ _) | (with_reducible show CompAt _ _ _ _ _ _ _ _ _ _ _ _ _ _ _ _) | (with_reducible show ForAt _ _ _ _ _ _ _ _ _ _) | (with_reducible show Kp _ _ _ ∧ _) | (with_reducible show wpAny _ _ (PySem.call (Value.ref _) _ _) _ _ _))))); (first | ((with_reducible show ite _ _ _); first | (refine PySem.W.ite_pos (by with_reducible assumption) ?_) | (refine PySem.W.ite_neg (by with_reducible assumption) ?_)) | walk1 | (dsimp only; walk1)))))
    rename Fr _ _ _ _ => F6
    k_dflt (refine for_name (M := []) (its := ds.toArray) (fun i m s' => (∀ j nm, j < i → nms[j]? = some nm → startsF f nm = false) ∧ (∃ dv, ∀ y, m y = (if y = Str.ofString "d" then dv else if y = Str.ofString "self" then some (.ref x) else if y = Str.ofString "filename" then some (.str f v) else if y = Str.ofString "modulename" then some (.str md u) else none)) ∧ ∃ h tk, s' = { s with heap := h, toks := tk }) (by rfl) (by rfl) (by rfl) (list_of_get (N5.get (by k_mem))) (by simp) ?_ (by simp) ?_ F6.ns ?_ ?_ ?_)
    · exact (N5 _ (.tail _ (.head _))).2.1
    · rintro i m s' h' tk' ⟨a1, a2, h, tk, rfl⟩ _
      exact ⟨a1, a2, h', tk', rfl⟩
    · refine ⟨fun j nm hj => absurd hj (Nat.not_lt_zero _), ⟨none, fun y => ?_⟩, _, _, rfl⟩
      by_cases e1 : y = Str.ofString "d"
      · subst e1; rfl
      by_cases e2 : y = Str.ofString "self"
      · subst e2; rfl
      by_cases e3 : y = Str.ofString "filename"
      · subst e3; rfl
      by_cases e4 : y = Str.ofString "modulename"
      · subst e4; rfl
      simp only [e1, e2, e3, e4, if_false, List.reverse_cons, List.reverse_nil, List.nil_append, List.cons_append, List.lookup_cons, List.lookup_nil, beq_eq_false_iff_ne.mpr e2, beq_eq_false_iff_ne.mpr e3, beq_eq_false_iff_ne.mpr e4]
    · rintro i m dv s' hdv ⟨a1, ⟨dv0, a2⟩, h7, tk7, rfl⟩ hn7 k7
      obtain ⟨r, td, rfl, hr⟩ := strs_get hds (by simpa using hdv)
      obtain ⟨nm, hnm1, rfl⟩ : ∃ nm, nms[i]? = some nm ∧ npF nm = r := by
        rw [List.getElem?_map] at hr
        cases q : nms[i]? with
        | none => rw [q] at hr; cases hr
        | some nm => rw [q] at hr; exact ⟨nm, rfl, Option.some.inj hr⟩
      have hnl := npF_len nm (hnm nm (List.mem_of_getElem? hnm1))
      have F7 := fr_congr (m' := fun y => if y = Str.ofString "d" then some (.str (npF nm) td) else if y = Str.ofString "self" then some (.ref x) else if y = Str.ofString "filename" then some (.str f v) else if y = Str.ofString "modulename" then some (.str md u) else none) (fr_loop F6 hn7 k7) (fun y => by
        unfold upd
        by_cases e1 : y = Str.ofString "d"
        · simp only [e1, if_true]
        · simp only [e1, if_false]
          rw [a2 y]
          simp only [e1, if_false])
      have N7 := news_loop N5 k7
      clear F6 N5
      (show wpAny _ _ _ _ _ _); k_fold
      (repeat' (first | (k_unfold; (try dsimp only)) | ((fail_if_success ((first | (first | (with_reducible show wpAny _ _ (compareOp CmpOp.In (Value.str _ _) (Value.ref _)) _ _ _) | (with_reducible show wpAny _ _ (compareOp CmpOp.NotIn (Value.str _ _) (Value.ref _)) _ _ _) | (with_reducible show wpAny _ _ (setItem (Value.ref _) (Value.str _ _) _) _ _ _) | (with_reducible show wpAny _ _ (getItem (Value.ref _) (Value.str _ _)) _ _ _) | (with_reducible show wpAny _ _ (subscriptTail _ _ (Value.ref _) (Value.str _ _)) _ _ _)) | ((with_reducible show Exists _)) | (first | (with_reducible show wpAny _ _ (eval (PySem.Expr.ListComp _ _ _ _) _) _ _ _) | (with_reducible show wpAny _ _ (exec (PySem.Stmt.Assign _ (PySem.Expr.ListComp _ _ _ _) _) _) _ _ _) | (with_reducible show wpAny _ _ (exec (PySem.Stmt.While _ _ _ _) _) _ _ _) | (with_reducible show wpAny _ _ (exec (PySem.Stmt.For _ _ _ _ _) _) _ _ _) | (with_reducible show wpAny _ _ (exec (PySem.Stmt.Assign [PySem.Expr.Name (PySem.Str.ofString "sign") _] _ _) _) _ _ _) | (with_reducible show wpAny _ _ (eval (PySem.Expr.GeneratorExp _ _ _ _) _) _ _ _) | (with_reducible show CompAt _ _ _ _ _ _ _ _ _ _ _ _ _ _ _ _) | (with_reducible show ForAt _ _ _ _ _ _ _ _ _ _) | (with_reducible show Kp _ _ _ ∧ _) | (with_reducible show wpAny _ _ (PySem.call (Value.ref _) _ _) _ _ _))))); (first | ((with_reducible show ite _ _ _); first | (refine PySem.W.ite_pos (by with_reducible assumption) ?_) | (refine PySem.W.ite_neg (by with_reducible assumption) ?_)) | walk1 | (dsimp only; walk1)))))
      · rename Txt.startswith _ _ = true => qs
        have hall : ansF nms f = true := by
          unfold ansF
          rw [List.any_eq_true]
          exact ⟨nm, List.mem_of_getElem? hnm1, qs⟩
        rw [hall] at fin
        k_dflt (refine kdp_setItem F7 N7 (by k_updF) hdict hflat (by omega) ?_)
        intro h8 o8 kvs8 F8 N8 hd8 hf8
        clear F7 N7
        (repeat' (first | (k_unfold; (try dsimp only)) | ((fail_if_success ((first | (first | (with_reducible show wpAny _ _ (compareOp CmpOp.In (Value.str _ _) (Value.ref _)) _ _ _) | (with_reducible show wpAny _ _ (compareOp CmpOp.NotIn (Value.str _ _) (Value.ref _)) _ _ _) | (with_reducible show wpAny _ _ (setItem (Value.ref _) (Value.str _ _) _) _ _ _) | (with_reducible show wpAny _ _ (getItem (Value.ref _) (Value.str _ _)) _ _ _) | (with_reducible show wpAny _ _ (subscriptTail _ _ (Value.ref _) (Value.str _ _)) _ _ _)) | ((with_reducible show Exists _)) | (first | (with_reducible show wpAny _ _ (eval (PySem.Expr.ListComp _ _ _ _) _) _ _ _) | (with_reducible show wpAny _ _ (exec (PySem.Stmt.Assign _ (PySem.Expr.ListComp _ _ _ _) _) _) _ _ _) | (with_reducible show wpAny _ _ (exec (PySem.Stmt.While _ _ _ _) _) _ _ _) | (with_reducible show wpAny _ _ (exec (PySem.Stmt.For _ _ _ _ _) _) _ _ _) | (with_reducible show wpAny _ _ (exec (PySem.Stmt.Assign [PySem.Expr.Name (PySem.Str.ofString "sign") _] _ _) _) _ _ _) | (with_reducible show wpAny _ _ (eval (PySem.Expr.GeneratorExp _ _ _ _) _) _ _ _) | (with_reducible show CompAt _ _ _ _ _ _ _ _ _ _ _ _ _ _ _ _) | (with_reducible show ForAt _ _ _ _ _ _ _ _ _ _) | (with_reducible show Kp _ _ _ ∧ _) | (with_reducible show wpAny _ _ (PySem.call (Value.ref _) _ _) _ _ _))))); (first | ((with_reducible show ite _ _ _); first | (refine PySem.W.ite_pos (by with_reducible assumption) ?_) | (refine PySem.W.ite_neg (by with_reducible assumption) ?_)) | walk1 | (dsimp only; walk1)))))
        exact fin _ _ _ _ _ _ F8 N8 hd8 hf8
      · rename Txt.startswith _ _ = false => qs
        refine ⟨_, F7.ns, Kp.refl, ?_, ⟨_, fun y => rfl⟩, _, _, rfl⟩
        intro j nm' hj hj'
        by_cases q : j = i
        · subst q
          rw [hnm1] at hj'
          cases hj'
          exact qs
        · exact a1 j nm' (by omega) hj'
    · rintro m s' ⟨a1, ⟨dv0, a2⟩, h7, tk7, rfl⟩ hn7 k7
      have F7 := fr_congr (fr_loop F6 hn7 k7) a2
      have N7 := news_loop N5 k7
      have hall : ansF nms f = false := by
        unfold ansF
        rw [List.any_eq_false]
        intro nm hnm2
        obtain ⟨j, hj, e⟩ := List.getElem_of_mem hnm2
        have hls : nms.length = ds.length := by rw [strs_len hds, List.length_map]
        rw [a1 j nm (by rw [List.size_toArray]; omega) (by rw [List.getElem?_eq_getElem hj, e])]
        decide
      rw [hall] at fin
      clear F6 N5
      dsimp only
      (show wpAny _ _ _ _ _ _); (try k_fold)
      (repeat' (first | (k_unfold; (try dsimp only)) | ((fail_if_success ((first | (first | (with_reducible show wpAny _ _ (compareOp CmpOp.In (Value.str _ _) (Value.ref _)) _ _ _) | (with_reducible show wpAny _ _ (compareOp CmpOp.NotIn (Value.str _ _) (Value.ref _)) _ _ _) | (with_reducible show wpAny _ _ (setItem (Value.ref _) (Value.str _ _) _) _ _ _) | (with_reducible show wpAny _ _ (getItem (Value.ref _) (Value.str _ _)) _ _ _) | (with_reducible show wpAny _ _ (subscriptTail _ _ (Value.ref _) (Value.str _ _)) _ _ _)) | ((with_reducible show Exists _)) | (first | (with_reducible show wpAny _ _ (eval (PySem.Expr.ListComp _ _ _ _) _) _ _ _) | (with_reducible show wpAny _ _ (exec (PySem.Stmt.Assign _ (PySem.Expr.ListComp _ _ _ _) _) _) _ _ _) | (with_reducible show wpAny _ _ (exec (PySem.Stmt.While _ _ _ _) _) _ _ _) | (with_reducible show wpAny _ _ (exec (PySem.Stmt.For _ _ _ _ _) _) _ _ _) | (with_reducible show wpAny _ _ (exec (PySem.Stmt.Assign [PySem.Expr.Name (PySem.Str.ofString "sign") _] _ _) _) _ _ _) | (with_reducible show wpAny _ _ (eval (PySem.Expr.GeneratorExp _ _ _ _) _) _ _ _) | (with_reducible show CompAt _ _ _ _ _ _ _ _ _ _ _ _ _ _ _ _) | (with_reducible show ForAt _ _ _ _ _ _ _ _ _ _) | (with_reducible show Kp _ _ _ ∧ _) | (with_reducible show wpAny _ _ (PySem.call (Value.ref _) _ _) _ _ _))))); (first | ((with_reducible show ite _ _ _); first | (refine PySem.W.ite_pos (by with_reducible assumption) ?_) | (refine PySem.W.ite_neg (by with_reducible assumption) ?_)) | walk1 | (dsimp only; walk1)))))
      k_dflt (refine kdp_setItem F7 N7 (by k_updF) hdict hflat (by omega) ?_)
      intro h8 o8 kvs8 F8 N8 hd8 hf8
      clear F7 N7
      (repeat' (first | (k_unfold; (try dsimp only)) | ((fail_if_success ((first | (first | (with_reducible show wpAny _ _ (compareOp CmpOp.In (Value.str _ _) (Value.ref _)) _ _ _) | (with_reducible show wpAny _ _ (compareOp CmpOp.NotIn (Value.str _ _) (Value.ref _)) _ _ _) | (with_reducible show wpAny _ _ (setItem (Value.ref _) (Value.str _ _) _) _ _ _) | (with_reducible show wpAny _ _ (getItem (Value.ref _) (Value.str _ _)) _ _ _) | (with_reducible show wpAny _ _ (subscriptTail _ _ (Value.ref _) (Value.str _ _)) _ _ _)) | ((with_reducible show Exists _)) | (first | (with_reducible show wpAny _ _ (eval (PySem.Expr.ListComp _ _ _ _) _) _ _ _) | (with_reducible show wpAny _ _ (exec (PySem.Stmt.Assign _ (PySem.Expr.ListComp _ _ _ _) _) _) _ _ _) | (with_reducible show wpAny _ _ (exec (PySem.Stmt.While _ _ _ _) _) _ _ _) | (with_reducible show wpAny _ _ (exec (PySem.Stmt.For _ _ _ _ _) _) _ _ _) | (with_reducible show wpAny _ _ (exec (PySem.Stmt.Assign [PySem.Expr.Name (PySem.Str.ofString "sign") _] _ _) _) _ _ _) | (with_reducible show wpAny _ _ (eval (PySem.Expr.GeneratorExp _ _ _ _) _) _ _ _) | (with_reducible show CompAt _ _ _ _ _ _ _ _ _ _ _ _ _ _ _ _) | (with_reducible show ForAt _ _ _ _ _ _ _ _ _ _) | (with_reducible show Kp _ _ _ ∧ _) | (with_reducible show wpAny _ _ (PySem.call (Value.ref _) _ _) _ _ _))))); (first | ((with_reducible show ite _ _ _); first | (refine PySem.W.ite_pos (by with_reducible assumption) ?_) | (refine PySem.W.ite_neg (by with_reducible assumption) ?_)) | walk1 | (dsimp only; walk1)))))
      exact fin _ _ _ _ _ _ F8 N8 hd8 hf8
end
section
noncomputable def FvIs : Value → Option Str → Prop
  | v, none => v = .none
  | v, some f => ∃ t, v = .str f t
noncomputable def AskIs (h : Heap) (v : Value) (q : Option Str × Str) : Prop := ∃ t fv u, v = .ref t ∧ IsTup h t #[fv, .str q.2 u] ∧ FvIs fv q.1
noncomputable def stepQ (ans : Option Str → Bool) (st : List Int × List (Str × Int)) (q : Option Str × Str) : List Int × List (Str × Int) := (st.1 ++ [(stepC st.2 q.2 (ans q.1)).1], (stepC st.2 q.2 (ans q.1)).2)
noncomputable def runQ (ans : Option Str → Bool) (l : List (Option Str × Str)) : List Int × List (Str × Int) := l.foldl (stepQ ans) ([], [(Str.ofString "<string>", 1)])
theorem runQ_snoc {ans : Option Str → Bool} {l : List (Option Str × Str)} {i : Nat} {q : Option Str × Str} (h : l[i]? = some q) : runQ ans (l.take (i + 1)) = stepQ ans (runQ ans (l.take i)) q := by
  unfold runQ
  rw [List.take_add_one, h, List.foldl_append]; rfl
theorem stepC_len (c : List (Str × Int)) (md : Str) (a : Bool) : (stepC c md a).2.length ≤ c.length + 1 := by
  unfold stepC
  split
  · exact Nat.le_succ _
  · exact kdpPut_len _ _ _
theorem fold_len (ans : Option Str → Bool) : ∀ (l : List (Option Str × Str)) (st : List Int × List (Str × Int)), (l.foldl (stepQ ans) st).2.length ≤ st.2.length + l.length
  | [], _ => Nat.le_refl _
  | q :: l, st => by
    have h1 := fold_len ans l (stepQ ans st q)
    have h2 := stepC_len st.2 q.2 (ans q.1)
    have e : (stepQ ans st q).2 = (stepC st.2 q.2 (ans q.1)).2 := rfl
    rw [e] at h1
    simp only [List.foldl_cons, List.length_cons]
    omega
theorem runQ_len (ans : Option Str → Bool) (l : List (Option Str × Str)) : (runQ ans l).2.length ≤ 1 + l.length := fold_len ans l _
noncomputable def ansQ (nms : List Str) : Option Str → Bool
  | none => true
  | some f => ansF nms f
theorem news_swap {h₀ h h' : Heap} {L I : Addr} {o o' : Obj} {rest : List (Addr × Obj)} (N : News h₀ L h ((I, o) :: rest)) (k : Kp [I] h h') (e : h'.get? I = some o') (hr : ∀ p ∈ rest, p.1 ≠ I) : News h₀ L h' ((I, o') :: rest) := by
  intro p hp
  rcases List.mem_cons.mp hp with rfl | hp
  · exact ⟨e, (N _ (.head _)).2⟩
  · exact ⟨k _ _ (by simpa using hr p hp) (N p (.tail _ hp)).1, (N p (.tail _ hp)).2⟩
theorem ints_snoc {y : Int} {t : Tok} : ∀ {vs : List Value} {ns : List Int}, IntsAre vs ns → IntsAre (vs ++ [.int y t]) (ns ++ [y])
  | _, _, .nil => .cons y t .nil
  | _, _, .cons z u r => .cons z u (ints_snoc r)
theorem news_rdr {w : World} {g h1 h3 : Heap} {L : Addr} {m : Str → Option Value} {x dx S Dl I : Addr} {t1 t2 t3 : Tok} {led : Bool} {ds : List Value} {oI : Obj} {tl : List (Addr × Obj)} (F2 : Fr g L h1 m) (N2 : News g L h1 ((x, instObj 86 dx) :: (dx, dictOf [] 0) :: tl)) (k3 : Kp [dx] h1 h3)
    (hr3 : ∀ p ∈ rdrT w x dx S Dl I t1 t2 t3 led ds oI [], h3.get? p.1 = some p.2) (hf3 : ∀ a ∈ [S, Dl, I], h1.get? a = none) (htl : ∀ p ∈ tl, p.1 ≠ dx) : News g L h3 (rdrT w x dx S Dl I t1 t2 t3 led ds oI tl) := by
  have fresh : ∀ a, h1.get? a = none → a ≠ L ∧ g.get? a = none := fun a ha => by
    refine ⟨fun e => ?_, ?_⟩
    · obtain ⟨oL, _, _, e2, _⟩ := F2.ns
      rw [← e] at e2; rw [ha] at e2; cases e2
    · cases q : g.get? a with
      | none => rfl
      | some o => have := F2.keep _ _ q; rw [ha] at this; cases this
  intro p hp
  rcases List.mem_cons.mp hp with rfl | hp
  · exact ⟨hr3 _ (.head _), fresh _ (hf3 _ (.tail _ (.tail _ (.head _))))⟩
  rcases List.mem_cons.mp hp with rfl | hp
  · exact ⟨hr3 _ (.tail _ (.head _)), fresh _ (hf3 _ (.tail _ (.head _)))⟩
  rcases List.mem_cons.mp hp with rfl | hp
  · exact ⟨hr3 _ (.tail _ (.tail _ (.head _))), fresh _ (hf3 _ (.head _))⟩
  rcases List.mem_cons.mp hp with rfl | hp
  · exact ⟨hr3 _ (.tail _ (.tail _ (.tail _ (.head _)))), (N2 _ (.head _)).2⟩
  rcases List.mem_cons.mp hp with rfl | hp
  · exact ⟨hr3 _ (.tail _ (.tail _ (.tail _ (.tail _ (.head _))))), (N2 _ (.tail _ (.head _))).2⟩
  · exact ⟨k3 _ _ (by simpa using htl p hp) (N2 _ (.tail _ (.tail _ hp))).1, (N2 _ (.tail _ (.tail _ hp))).2⟩
theorem news_ns {h₀ h h' : Heap} {L C : Addr} {m m₂ : Str → Option Value} {news : List (Addr × Obj)} (F : Fr h₀ L h m) (hC : h.objs.size < C) (N : News h₀ L h' news) (hn : h'.Ns C m₂) : ∃ oC, LCg.NsObj oC m₂ ∧ News h₀ L h' ((C, oC) :: news) := by
  obtain ⟨oC, e, r⟩ := LCg.ns_obj hn
  refine ⟨oC, r, fun p hp => ?_⟩
  rcases List.mem_cons.mp hp with rfl | hp
  · refine ⟨e, Ne.symm (Nat.ne_of_lt (Nat.lt_trans F.ns.lt hC)), ?_⟩
    cases q : h₀.get? C with
    | none => rfl
    | some o => exact absurd (Nat.lt_trans (Heap.lt_size (F.keep _ _ q)) hC) (Nat.lt_irrefl _)
  · exact N p hp
theorem list_no_tuple {P : Prop} (h : Value.type "list" = Value.type "tuple") : P := by
  injection h with h; exact absurd h (by decide)
theorem tup_fun {h : Heap} {t : Addr} {a b : Array Value} (x : IsTup h t a) (y : IsTup h t b) : a = b := by
  obtain ⟨o, ho, hc, n, hd⟩ := x
  obtain ⟨o', ho', hc', n', hd'⟩ := y
  rw [ho] at ho'; cases ho'
  rw [hd] at hd'; cases hd'; rfl
theorem toldC {w : World} {dp un : Nat} {fr : Option (List Env)} {gd : Option (List Code)} {s : Shared} {p : Program} {loose : List Str} {mg mb : Str → Option Value} {Q E : Value → Shared → Prop} {h₀ : Heap} {D As : Addr} {vs : List Value} {nD nA : Nat} {nms : List Str} {asks : List Value} {qs : List (Option Str × Str)}
    (hdp : dp + 60 < recursionLimit) (hk : ∀ b o, h₀.get? b = some o → s.heap.get? b = some o) (X : (hd.heap_39 w.params).In h₀) (T : TopRead p loose mg mb h₀)
    (N : ∀ p ∈ [(D, listOf vs.toArray nD), (As, listOf asks.toArray nA)], s.heap.get? p.1 = some p.2 ∧ h₀.get? p.1 = none)
    (hnm : ∀ nm ∈ nms, NmP nm) (hvs : StrsAre vs (nms.map (Str.ofString "/opt/" ++ ·))) (hlen : vs.length ≤ 100) (hpos : 0 < vs.length)
    (hal : asks.length = qs.length) (hql : qs.length ≤ 500) (hasks : ∀ (i : Nat) v q, asks[i]? = some v → qs[i]? = some q → AskIs s.heap v q) (hqs : ∀ q ∈ qs, q.2.length ≤ 1000 ∧ ∀ f, q.1 = some f → f.length ≤ 1000)
    (hQ : ∀ R ys h' tk, Kp [] s.heap h' → s.heap.get? R = none → h'.get? R = some (lst ys) → IntsAre ys (runQ (ansQ nms) qs).1 → Q (.ref R) { s with heap := h', toks := tk }) :
    wpAny (model PySem.Challenge.pw_ny0071_01 w) (AA dp un fr gd) (call (.ref 105) [.ref D, .ref As]) Q E s := by
  w_on
  k_dflt (refine' enterNC (binds := [(Str.ofString "dirs", .ref D), (Str.ofString "asks", .ref As)]) (news := [(D, listOf vs.toArray nD), (As, listOf asks.toArray nA)]) ?kk ?kX ?kT ?kN ?k6 ?k7 ?k8 ?k9 ?kB ?kD ?_ ?c2 ?c3 ?c4; (case kk => assumption); (case kX => k_asm); (case kT => k_asm); (case kN => assumption); (case k6 => k_is); (case k7 => k_is); (case k8 => (dsimp only; omega)); (case k9 => first | assumption | exact BindsTo.of_eq rfl | exact binds_K (X.keeps hk) rfl (by k_is) rfl rfl rfl); (case kB => exact rfl); (case kD => decide +kernel); (case c2 => exact rfl); (case c3 => exact rfl); (case c4 => exact rfl); k_whole)
  intro g L' h' tk' cells' eg eL X' T' F' N' Y' l1
  clear X T
  k_lt l1
  k_cells Y'
  simp only [List.cons_append, List.nil_append] at N'
  show wpAny _ _ _ _ _ _
  k_fold
  (repeat' (first | (k_unfold; (try dsimp only)) | ((fail_if_success ((first | ((with_reducible show Exists _)) | (first | (with_reducible show wpAny _ _ (eval (PySem.Expr.ListComp _ _ _ _) _) _ _ _) | (with_reducible show wpAny _ _ (exec (PySem.Stmt.Assign _ (PySem.Expr.ListComp _ _ _ _) _) _) _ _ _) | (with_reducible show wpAny _ _ (exec (PySem.Stmt.While _ _ _ _) _) _ _ _) | (with_reducible show wpAny _ _ (exec (PySem.Stmt.For _ _ _ _ _) _) _ _ _) | (with_reducible show wpAny _ _ (exec (PySem.Stmt.Assign [PySem.Expr.Name (PySem.Str.ofString "sign") _] _ _) _) _ _ _) | (with_reducible show wpAny _ _ (eval (PySem.Expr.GeneratorExp _ _ _ _) _) _ _ _) | (with_reducible show CompAt _ _ _ _ _ _ _ _ _ _ _ _ _ _ _ _) | (with_reducible show ForAt _ _ _ _ _ _ _ _ _ _) | (with_reducible show Kp _ _ _ ∧ _) | (with_reducible show wpAny _ _ (PySem.call (Value.ref _) _ _) _ _ _))))); (first | ((with_reducible show ite _ _ _); first | (refine PySem.W.ite_pos (by with_reducible assumption) ?_) | (refine PySem.W.ite_neg (by with_reducible assumption) ?_)) | walk1 | (dsimp only; walk1)))))
  rename Fr _ _ _ _ => F1
  rename News _ _ _ _ => N1
  k_dflt (refine call_cls F1 X' N1 (by k_is) (by k_is) (by k_is) ?_)
  intro x dx h1 F2 N2 l2 l3
  clear F1 N1
  k_dflt (refine initC (h₀ := g) (x := x) (dx := dx) (D := D) (vs := vs) (nD := nD) (nms := nms) (by show dp + 1 + 1 + 30 < recursionLimit; omega) F2.keep X' T' ?_ hnm hvs hlen hpos ?_ l3 ?_)
  · intro p hp
    refine ⟨(N2 p ?_).1, (N2 p ?_).2.2⟩ <;> (simp only [List.mem_cons, List.not_mem_nil, or_false] at hp ⊢; rcases hp with h | h | h <;> simp [h])
  · exact l2 _ (.tail _ (.head _))
  · intro S Dl I t1 t2 t3 led ds oI kvs h3 tk3 k3 hr3 hf3 o1 o2 o3 hds hdI hfI loI
    refine ⟨rfl, ?_⟩
    have hdxg : g.get? dx = none := N2.fresh (.tail _ (.head _))
    have hLdx : L' ≠ dx := fun q => (N2 _ (.tail _ (.head _))).2.1 q.symm
    have F3 := fr_kpM F2 k3 (by simpa using hLdx) (by simpa using hdxg)
    have N3 := news_rdr F2 N2 k3 hr3 hf3 (fun p hp => Nat.ne_of_lt (l2 p hp))
    have l4 : @LT.lt Nat _ (L' + 1) dx := l2 _ (.head _)
    have l5 : @LT.lt Nat _ dx x := l3
    clear F2 N2 hr3 k3 hf3
    (show wpAny _ _ _ _ _ _); k_fold
    (repeat' (first | (k_unfold; (try dsimp only)) | ((fail_if_success ((first | ((with_reducible show Exists _)) | (first | (with_reducible show wpAny _ _ (eval (PySem.Expr.ListComp _ _ _ _) _) _ _ _) | (with_reducible show wpAny _ _ (exec (PySem.Stmt.Assign _ (PySem.Expr.ListComp _ _ _ _) _) _) _ _ _) | (with_reducible show wpAny _ _ (exec (PySem.Stmt.While _ _ _ _) _) _ _ _) | (with_reducible show wpAny _ _ (exec (PySem.Stmt.For _ _ _ _ _) _) _ _ _) | (with_reducible show wpAny _ _ (exec (PySem.Stmt.Assign [PySem.Expr.Name (PySem.Str.ofString "sign") _] _ _) _) _ _ _) | (with_reducible show wpAny _ _ (eval (PySem.Expr.GeneratorExp _ _ _ _) _) _ _ _) | (with_reducible show CompAt _ _ _ _ _ _ _ _ _ _ _ _ _ _ _ _) | (with_reducible show ForAt _ _ _ _ _ _ _ _ _ _) | (with_reducible show Kp _ _ _ ∧ _) | (with_reducible show wpAny _ _ (PySem.call (Value.ref _) _ _) _ _ _))))); (first | ((with_reducible show ite _ _ _); first | (refine PySem.W.ite_pos (by with_reducible assumption) ?_) | (refine PySem.W.ite_neg (by with_reducible assumption) ?_)) | walk1 | (dsimp only; walk1)))))
    ((k_dflt (refine lc_eval (by with_unfolding_all rfl) (by rfl) (by decide) ?_); k_fold))
    (repeat' (first | (k_unfold; (try dsimp only)) | ((fail_if_success ((first | ((with_reducible show Exists _)) | (first | (with_reducible show wpAny _ _ (eval (PySem.Expr.ListComp _ _ _ _) _) _ _ _) | (with_reducible show wpAny _ _ (exec (PySem.Stmt.Assign _ (PySem.Expr.ListComp _ _ _ _) _) _) _ _ _) | (with_reducible show wpAny _ _ (exec (PySem.Stmt.While _ _ _ _) _) _ _ _) | (with_reducible show wpAny _ _ (exec (PySem.Stmt.For _ _ _ _ _) _) _ _ _) | (with_reducible show wpAny _ _ (exec (PySem.Stmt.Assign [PySem.Expr.Name (PySem.Str.ofString "sign") _] _ _) _) _ _ _) | (with_reducible show wpAny _ _ (eval (PySem.Expr.GeneratorExp _ _ _ _) _) _ _ _) | (with_reducible show CompAt _ _ _ _ _ _ _ _ _ _ _ _ _ _ _ _) | (with_reducible show ForAt _ _ _ _ _ _ _ _ _ _) | (with_reducible show Kp _ _ _ ∧ _) | (with_reducible show wpAny _ _ (PySem.call (Value.ref _) _ _) _ _ _))))); (first | ((with_reducible show ite _ _ _); first | (refine PySem.W.ite_pos (by with_reducible assumption) ?_) | (refine PySem.W.ite_neg (by with_reducible assumption) ?_)) | walk1 | (dsimp only; walk1)))))
    rename Fr _ _ _ _ => F4
    rename News _ _ _ _ => N4
    have hLI : L' ∉ [I] := by intro q; have e : L' = I := List.mem_singleton.mp q; exact absurd e (Nat.ne_of_lt (by omega))
    have hAI : As ∉ [I] := by intro q; have e : As = I := List.mem_singleton.mp q; exact absurd e (Nat.ne_of_lt (by omega))
    have hDI : D ∉ [I] := by intro q; have e : D = I := List.mem_singleton.mp q; exact absurd e (Nat.ne_of_lt (by omega))
    have hgI : ∀ b ∈ [I], g.get? b = none := by intro b hb; rw [List.mem_singleton.mp hb]; exact N4.fresh (.head _)
    have hup : ∀ t a, IsTup s.heap t a → IsTup g t a := by
      rintro t a ⟨o, ho, hc, r⟩
      refine ⟨o, ?_, hc, r⟩
      rw [eg]
      refine hideAll_get _ ho ?_
      simp only [List.map_cons, List.map_nil, List.mem_cons, List.not_mem_nil, or_false]
      rintro (q | q)
      · have := (N _ (.head _)).1; rw [q] at ho; rw [ho] at this; cases this; exact list_no_tuple hc
      · have := (N _ (.tail _ (.head _))).1; rw [q] at ho; rw [ho] at this; cases this; exact list_no_tuple hc
    have hcol := by
      subst eg
      exact hide_back F4 N4 (fun p hp => by
        simp only [List.mem_cons, List.not_mem_nil, or_false] at hp
        rcases hp with rfl | rfl <;> k_mem) N
    k_dflt (refine lc_pair (M := [I]) (its := asks.toArray) (fun i ys s' => IntsAre ys (runQ (ansQ nms) (qs.take i)).1 ∧ (∃ oI' kvs', s'.heap.get? I = some oI' ∧ oI'.IsDictOf (PySem.strKind PySem.Challenge.pw_ny0071_01 w) kvs' ∧ PyProof.V.FlatPairs PyData.str kvs' (kdpD (runQ (ansQ nms) (qs.take i)).2)) ∧ ∃ h tk, s' = { s with heap := h, toks := tk }) (by decide) (by rfl) (by rfl) (by rfl) (by decide +kernel) (by rfl) (list_of_get (N4.get (by k_mem))) hAI ?_ (by rw [List.size_toArray, hal]; exact Nat.le_trans hql (by decide)) ?_ ?_ ?_ ?_ ?_)
    · intro b hb; rw [List.mem_singleton.mp hb]; exact Heap.lt_size (N4.get (.head _))
    · intro v hv
      obtain ⟨i, hi, e⟩ := List.getElem_of_mem (by simpa using hv : v ∈ asks)
      obtain ⟨t, fv, u, rfl, ht, _⟩ := hasks i v (qs[i]'(by omega)) (by rw [List.getElem?_eq_getElem hi, e]) (List.getElem?_eq_getElem _)
      refine ⟨t, _, _, rfl, (hup _ _ ht).keeps F4.keep, fun q => ?_⟩
      obtain ⟨o, ho, _⟩ := hup _ _ ht
      rw [hgI t q] at ho; cases ho
    · rintro i ys s' h' tk ⟨a1, ⟨oI', kvs', a2, a3, a4⟩, h, tk', rfl⟩ hup2
      exact ⟨a1, ⟨oI', kvs', hup2 _ _ (Heap.lt_size (N4.get (.head _))) a2, a3, a4⟩, h', tk, rfl⟩
    · exact ⟨.nil, ⟨oI, kvs, N4.get (.head _), hdI, hfI⟩, _, _, rfl⟩
    · rintro i ys t v₁ v₂ C m₂ s' hv ht _ ⟨hJ, ⟨oI5, kvs5, g5, d5, f5⟩, h5, tk5, rfl⟩ hC hn b1 b2 hk5
      have hi : i < asks.length := by
        rcases Nat.lt_or_ge i asks.length with h | h
        · exact h
        · rw [List.getElem?_toArray, List.getElem?_eq_none h] at hv; cases hv
      have hqi : qs[i]? = some (qs[i]'(by omega)) := List.getElem?_eq_getElem _
      generalize hqe : qs[i]'(by omega) = q at hqi
      revert q
      refine barrier ?_
      intro q hqe hqi
      obtain ⟨t', fv, u, e1, ht', hfv⟩ := hasks i _ q (by simpa using hv) hqi
      cases e1
      have hpair := tup_fun ht ((hup _ _ ht').keeps F4.keep)
      have e2 : v₁ = fv := by have := congrArg (fun a : Array Value => a[0]?) hpair; simpa using this
      have e3 : v₂ = .str q.2 u := by have := congrArg (fun a : Array Value => a[1]?) hpair; simpa using this
      subst e2 e3
      have F5 := fr_kpM F4 hk5 hLI hgI
      have N5 := news_swap N4 hk5 g5 (fun p hp => by
        simp only [List.mem_cons, List.not_mem_nil, or_false] at hp
        rcases hp with rfl | rfl | rfl | rfl | rfl | rfl | rfl <;> exact Nat.ne_of_lt (by dsimp only; omega))
      obtain ⟨oC, hoC, N6⟩ := news_ns F4 hC N5 hn
      have hq := hqs q (List.mem_of_getElem? hqi)
      have hcl : (runQ (ansQ nms) (qs.take i)).2.length ≤ 1000 := by
        have h1 := runQ_len (ansQ nms) (qs.take i)
        rw [List.length_take] at h1; omega
      have hnl : nms.length ≤ 100 := by
        have := strs_len hvs; rw [List.length_map] at this; omega
      clear F4 N4 N5
      refine wpAny_tests_nil ?_
      (show wpAny _ _ _ _ _ _); k_fold
      (repeat' (first | (k_unfold; (try dsimp only)) | ((fail_if_success ((first | ((with_reducible show Exists _)) | (first | (with_reducible show wpAny _ _ (eval (PySem.Expr.ListComp _ _ _ _) _) _ _ _) | (with_reducible show wpAny _ _ (exec (PySem.Stmt.Assign _ (PySem.Expr.ListComp _ _ _ _) _) _) _ _ _) | (with_reducible show wpAny _ _ (exec (PySem.Stmt.While _ _ _ _) _) _ _ _) | (with_reducible show wpAny _ _ (exec (PySem.Stmt.For _ _ _ _ _) _) _ _ _) | (with_reducible show wpAny _ _ (exec (PySem.Stmt.Assign [PySem.Expr.Name (PySem.Str.ofString "sign") _] _ _) _) _ _ _) | (with_reducible show wpAny _ _ (eval (PySem.Expr.GeneratorExp _ _ _ _) _) _ _ _) | (with_reducible show CompAt _ _ _ _ _ _ _ _ _ _ _ _ _ _ _ _) | (with_reducible show ForAt _ _ _ _ _ _ _ _ _ _) | (with_reducible show Kp _ _ _ ∧ _) | (with_reducible show wpAny _ _ (PySem.call (Value.ref _) _ _) _ _ _))))); (first | ((with_reducible show ite _ _ _); first | (refine PySem.W.ite_pos (by with_reducible assumption) ?_) | (refine PySem.W.ite_neg (by with_reducible assumption) ?_)) | walk1 | (dsimp only; walk1)))))
      have hN : ∀ p ∈ rdrT w x dx S Dl I t1 t2 t3 led ds oI5 [], h5.get? p.1 = some p.2 ∧ g.get? p.1 = none := fun p hp => by
        refine ⟨(N6 p ?_).1, (N6 p ?_).2.2⟩ <;> (simp only [List.mem_cons, List.not_mem_nil, or_false] at hp ⊢; rcases hp with h | h | h | h | h <;> simp [h])
      have hnm45 : ∀ nm ∈ nms, nm.length ≤ 45 := fun nm h => (hnm nm h).len
      have fin : ∀ a, ansQ nms q.1 = a → ∀ t7 oI7 kvs7 h7 tk7, Kp [I] h5 h7 → h7.get? I = some oI7 → oI7.IsDictOf (PySem.strKind PySem.Challenge.pw_ny0071_01 w) kvs7 → PyProof.V.FlatPairs PyData.str kvs7 (kdpD (stepC (runQ (ansQ nms) (qs.take i)).2 q.2 a).2) →
          Kp [I] h5 h7 ∧ IntsAre (ys ++ [.int (stepC (runQ (ansQ nms) (qs.take i)).2 q.2 a).1 t7]) (runQ (ansQ nms) (qs.take (i + 1))).1 ∧ (∃ oI' kvs', h7.get? I = some oI' ∧ oI'.IsDictOf (PySem.strKind PySem.Challenge.pw_ny0071_01 w) kvs' ∧ PyProof.V.FlatPairs PyData.str kvs' (kdpD (runQ (ansQ nms) (qs.take (i + 1))).2)) ∧ ∃ h tk, ({ s with heap := h7, toks := tk7 } : Shared) = { s with heap := h, toks := tk } := by
        intro a ha t7 oI7 kvs7 h7 tk7 k7 g7 d7 f7
        subst ha
        rw [runQ_snoc hqi]
        exact ⟨k7, ints_snoc hJ, ⟨oI7, kvs7, g7, d7, f7⟩, _, _, rfl⟩
      cases hq1 : q.1 with
      | none =>
        rw [hq1] at hfv
        have e4 : v₁ = .none := hfv
        subst e4
        k_dflt (refine namesN (h₀ := g) (c := (runQ (ansQ nms) (qs.take i)).2) (by show dp + 1 + 30 < recursionLimit; omega) F5.keep X' T' hN l5 o1 o2 o3 hds d5 f5 loI hcl hnl hnm45 hq.1 ?_)
        intro t7 oI7 kvs7 h7 tk7 k7 g7 d7 f7
        exact fin true (by rw [hq1]; rfl) t7 oI7 kvs7 h7 tk7 k7 g7 d7 f7
      | some f =>
        rw [hq1] at hfv
        obtain ⟨tf, e4⟩ := hfv
        subst e4
        k_dflt (refine namesS (h₀ := g) (c := (runQ (ansQ nms) (qs.take i)).2) (by show dp + 1 + 30 < recursionLimit; omega) F5.keep X' T' hN l5 o1 o2 o3 hds d5 f5 loI hcl hnl hnm45 hq.1 (hq.2 f hq1) ?_)
        intro t7 oI7 kvs7 h7 tk7 k7 g7 d7 f7
        exact fin (ansF nms f) (by rw [hq1]; rfl) t7 oI7 kvs7 h7 tk7 k7 g7 d7 f7
    · rintro R ys s' ⟨hJ, _, h6, tk6, rfl⟩ hR hg6 hk6
      have F6 := fr_kpM F4 hk6 hLI hgI
      have N6 : News g L' h6 [(D, W.listOf vs.toArray nD), (As, W.listOf asks.toArray nA)] := fun p hp => by
        have hp' := hp
        simp only [List.mem_cons, List.not_mem_nil, or_false] at hp'
        rcases hp' with rfl | rfl
        · exact ⟨hk6 _ _ hDI (N4.get (by k_mem)), (N4 _ (by k_mem)).2⟩
        · exact ⟨hk6 _ _ hAI (N4.get (by k_mem)), (N4 _ (by k_mem)).2⟩
      have hJ' : IntsAre ys (runQ (ansQ nms) qs).1 := by
        have : qs.take asks.toArray.size = qs := List.take_of_length_le (by rw [List.size_toArray, hal]; exact Nat.le_refl _)
        rw [← this]; exact hJ
      refine hQ R ys h6 tk6 ?_ ?_ hg6 hJ'
      · subst eg
        exact Kp.of (hide_back F6 N6 (fun p hp => hp) N)
      · cases q : s.heap.get? R with
        | none => rfl
        | some o => exact absurd (Nat.lt_trans (Heap.lt_size (hcol _ _ q)) hR) (Nat.lt_irrefl _)
end
section
open Builtin Builtin.Str StrLaws
noncomputable def dueA (nms : List Str) : Option Str → Bool
  | none => true
  | some f => (Txt.slice f none (some 5) == Str.ofString "/opt/") && nms.any (fun nm => nm == Str.ofString "" || nm == Txt.slice f (some 5) (some (-5)))
theorem repS_mem (y : List Nat) {c : Nat} : ∀ (l : List Nat) (k : Nat), c ∈ repS y [] k l → c ∈ l
  | [], k, h => by rw [repS_nil] at h; exact h
  | d :: r, 0, h => by
    rw [repS] at h
    split at h
    · rw [List.nil_append] at h; exact List.mem_cons_of_mem _ (repS_mem y r _ h)
    · rcases List.mem_cons.mp h with h | h
      · rw [h]; exact List.mem_cons_self
      · exact List.mem_cons_of_mem _ (repS_mem y r _ h)
  | d :: r, k + 1, h => by
    rw [repS] at h; exact List.mem_cons_of_mem _ (repS_mem y r _ h)
theorem colL_mem {c : Nat} : ∀ (l : List Nat) (b : Bool), c ∈ colL b l → c ∈ l
  | [], _, h => h
  | d :: r, b, h => by
    rw [colL] at h
    split at h
    · rename_i e
      split at h
      · exact List.mem_cons_of_mem _ (colL_mem r _ h)
      · rcases List.mem_cons.mp h with h | h
        · rw [h, e]; exact List.mem_cons_self
        · exact List.mem_cons_of_mem _ (colL_mem r _ h)
    · rcases List.mem_cons.mp h with h | h
      · rw [h]; exact List.mem_cons_self
      · exact List.mem_cons_of_mem _ (colL_mem r _ h)
theorem rsL_mem {c : Nat} {l : List Nat} (h : c ∈ rsL l) : c ∈ l := by
  unfold rsL at h
  have := (List.dropWhile_sublist (fun c : Nat => c == 45) (l := l.reverse)).subset (List.mem_reverse.mp h)
  exact List.mem_reverse.mp this
theorem tr_ne (c : Nat) : tr c ≠ 47 := by
  unfold tr
  split
  · decide
  · split
    · decide
    · rename_i h; intro q; subst q; exact h (by decide)
theorem nmL_noslash (l : List Nat) : 47 ∉ nmL l := fun h => by
  have h1 := repS_mem unk _ _ (colL_mem _ _ (rsL_mem h))
  obtain ⟨c, _, e⟩ := List.mem_map.mp h1
  exact tr_ne c e
theorem repS_count (y : List Nat) (hy : y ≠ []) {c : Nat} (hc : c ∉ y) : ∀ (n : Nat) (l : List Nat), l.length ≤ n → (repS y [] 0 l).count c = l.count c
  | _, [], _ => rfl
  | 0, d :: r, h => by simp at h
  | n + 1, d :: r, h => by
    simp only [List.length_cons] at h
    rw [repS]
    by_cases q : y.isPrefixOf (d :: r) = true
    · rw [if_pos q, List.nil_append, repS_skip]
      obtain ⟨t, e⟩ := List.isPrefixOf_iff_prefix.mp q
      have hyl : 0 < y.length := List.length_pos_iff.mpr hy
      have hd : r.drop (y.length - 1) = t := by
        have := congrArg (List.drop y.length) e
        rw [List.drop_left] at this
        rw [this, show y.length = (y.length - 1) + 1 by omega, List.drop_succ_cons]; simp
      have hl := congrArg List.length e
      simp only [List.length_append, List.length_cons] at hl
      rw [hd, repS_count y hy hc n t (by omega), ← e, List.count_append, List.count_eq_zero.mpr hc, Nat.zero_add]
    · rw [if_neg q, List.count_cons, List.count_cons, repS_count y hy hc n r (by omega)]
theorem colL_count {c : Nat} (hc : c ≠ 45) : ∀ (l : List Nat) (b : Bool), (colL b l).count c = l.count c
  | [], _ => rfl
  | d :: r, b => by
    rw [colL]
    split
    · rename_i e
      have e' : (d == c) = false := by rw [e]; simpa using fun q => hc q.symm
      have e'' : ((45 : Nat) == c) = false := by simpa using fun q => hc q.symm
      split
      · rw [List.count_cons, e', colL_count hc r]; simp
      · rw [List.count_cons, List.count_cons, e', e'', colL_count hc r]
    · rw [List.count_cons, List.count_cons, colL_count hc r]
theorem rsL_count {c : Nat} (hc : c ≠ 45) (l : List Nat) : (rsL l).count c = l.count c := by
  unfold rsL
  rw [List.count_reverse]
  have h := congrArg (List.count c) (List.takeWhile_append_dropWhile (p := fun c : Nat => c == 45) (l := l.reverse))
  rw [List.count_append, List.count_reverse] at h
  have h0 : (l.reverse.takeWhile fun c : Nat => c == 45).count c = 0 := List.count_eq_zero.mpr fun q => by
    have := List.all_takeWhile (p := fun c : Nat => c == 45) (l := l.reverse)
    have := List.all_eq_true.mp this c q
    exact hc (by simpa using this)
  omega
theorem map_count {c : Nat} (h : ∀ d, tr d = c ↔ d = c) : ∀ l : List Nat, (l.map tr).count c = l.count c
  | [] => rfl
  | d :: r => by
    rw [List.map_cons, List.count_cons, List.count_cons, map_count h r]
    congr 2
    by_cases q : d = c
    · rw [(h d).mpr q, q]
    · rw [beq_eq_false_iff_ne.mpr q, beq_eq_false_iff_ne.mpr fun e => q ((h d).mp e)]
theorem nmL_count {c : Nat} (h1 : c ≠ 45) (h2 : c ∉ unk) (h3 : ∀ d, tr d = c ↔ d = c) (l : List Nat) : (nmL l).count c = l.count c := by
  unfold nmL
  rw [rsL_count h1, colL_count h1, repS_count unk (by decide) h2 _ _ (Nat.le_refl _), map_count h3]
theorem tr46 (d : Nat) : tr d = 46 ↔ d = 46 := by
  unfold tr
  simp only [List.mem_cons, List.not_mem_nil, or_false]
  split
  · omega
  · split <;> omega
theorem tr53 (d : Nat) : tr d = 53 ↔ d = 53 := by
  unfold tr
  simp only [List.mem_cons, List.not_mem_nil, or_false]
  split
  · omega
  · split <;> omega
theorem tab_dots : ∀ t ∈ tab, (Txt.strip t).cps.toList.count 46 ≤ (Txt.strip t).cps.toList.count 53 := by decide +kernel
theorem join_dots : ∀ l : List Str, (∀ t ∈ l, t.cps.toList.count 46 ≤ t.cps.toList.count 53) → (Str.join (Str.ofString "-") l).cps.toList.count 46 ≤ (Str.join (Str.ofString "-") l).cps.toList.count 53
  | [], _ => by decide +kernel
  | [a], h => h a List.mem_cons_self
  | a :: b :: r, h => by
    have ih := join_dots (b :: r) fun t ht => h t (List.mem_cons_of_mem _ ht)
    have ha := h a List.mem_cons_self
    have e : (Str.join (Str.ofString "-") (a :: b :: r)).cps.toList = a.cps.toList ++ [45] ++ (Str.join (Str.ofString "-") (b :: r)).cps.toList := by
      show (a ++ Str.ofString "-" ++ Str.join (Str.ofString "-") (b :: r)).cps.toList = _
      rw [Str.cps_append, Str.cps_append, Array.toList_append, Array.toList_append, d_eq]
    rw [e, List.count_append, List.count_append, List.count_append, List.count_append]
    have e1 : List.count 46 [45] = 0 := by decide
    have e2 : List.count 53 [45] = 0 := by decide
    omega
theorem law_dots (x : Int) : (lawNm x).cps.toList.count 46 ≤ (lawNm x).cps.toList.count 53 := by
  rw [law_list, nmL_count (by decide) (by decide) tr46, nmL_count (by decide) (by decide) tr53]
  unfold signs0
  show (Builtin.Str.glued (Str.ofString "-") _).cps.toList.count 46 ≤ (Builtin.Str.glued (Str.ofString "-") _).cps.toList.count 53
  rw [StrLaws.glued_eq_join]
  refine join_dots _ fun t ht => ?_
  unfold parts at ht
  obtain ⟨t', h1, rfl⟩ := List.mem_map.mp ht
  exact tab_dots t' (rows3_mem (List.mem_filter.mp h1).1)
theorem law_noslash (x : Int) : 47 ∉ (lawNm x).cps.toList := by rw [law_list]; exact nmL_noslash _
theorem law_len (x : Int) : (lawNm x).length ≤ 45 := by
  rw [← str_len, law_list]
  have h0 := signs0_len x
  rw [← str_len] at h0
  unfold nmL
  have h1 := repS_len (y := unk) (z := []) (by decide) (by decide) ((signs0 (rows3 x)).cps.toList.map tr) 0 (Nat.zero_le _)
  have h2 := colL_len (repS unk [] 0 ((signs0 (rows3 x)).cps.toList.map tr)) false
  rw [List.length_map] at h1
  have h3 : ∀ l : List Nat, (rsL l).length ≤ l.length := fun l => by
    unfold rsL
    rw [List.length_reverse]
    have := (List.dropWhile_sublist (fun c : Nat => c == 45) (l := l.reverse)).length_le
    rw [List.length_reverse] at this
    exact this
  have h4 := h3 (colL false (repS unk [] 0 ((signs0 (rows3 x)).cps.toList.map tr)))
  omega
theorem first_slash : ∀ {a a' b b' : List Nat}, 47 ∉ a → 47 ∉ a' → a ++ 47 :: b = a' ++ 47 :: b' → a = a' ∧ b = b'
  | [], [], _, _, _, _, h => ⟨rfl, (List.cons.inj h).2⟩
  | [], c :: a', _, _, _, h2, h => by
    rw [List.nil_append, List.cons_append] at h
    exact absurd (by rw [← (List.cons.inj h).1]; exact List.mem_cons_self) h2
  | c :: a, [], _, _, h1, _, h => by
    rw [List.nil_append, List.cons_append] at h
    exact absurd (by rw [(List.cons.inj h).1]; exact List.mem_cons_self) h1
  | c :: a, c' :: a', _, _, h1, h2, h => by
    rw [List.cons_append, List.cons_append] at h
    obtain ⟨e1, e2⟩ := List.cons.inj h
    obtain ⟨e3, e4⟩ := first_slash (fun q => h1 (List.mem_cons_of_mem _ q)) (fun q => h2 (List.mem_cons_of_mem _ q)) e2
    exact ⟨by rw [e1, e3], e4⟩
theorem slash_eq : Str.ofString "/" = ⟨#[47]⟩ := by decide +kernel
theorem join2 (a b : Str) (r : List Str) : (Str.join (Str.ofString "/") (a :: b :: r)).cps.toList = a.cps.toList ++ 47 :: (Str.join (Str.ofString "/") (b :: r)).cps.toList := by
  show (a ++ Str.ofString "/" ++ Str.join (Str.ofString "/") (b :: r)).cps.toList = _
  rw [Str.cps_append, Str.cps_append, Array.toList_append, Array.toList_append, show (Str.ofString "/").cps.toList = [47] by decide +kernel]; simp
theorem split_two {a b : Str} (ha : 47 ∉ a.cps.toList) (hb : 47 ∉ b.cps.toList) : Txt.split (a ++ Str.ofString "/" ++ b) (Str.ofString "/") = [a, b] := by
  have h1 := join_split (a ++ Str.ofString "/" ++ b) (Str.ofString "/")
  have h2 := split_free (a ++ Str.ofString "/" ++ b) 47
  rw [← slash_eq] at h2
  have e : (a ++ Str.ofString "/" ++ b).cps.toList = a.cps.toList ++ 47 :: b.cps.toList := by
    rw [Str.cps_append, Str.cps_append, Array.toList_append, Array.toList_append, show (Str.ofString "/").cps.toList = [47] by decide +kernel]; simp
  have h3 : (Str.join (Str.ofString "/") (Txt.split (a ++ Str.ofString "/" ++ b) (Str.ofString "/"))).cps.toList = (a ++ Str.ofString "/" ++ b).cps.toList := by rw [h1]
  rw [e] at h3
  generalize hp : Txt.split (a ++ Str.ofString "/" ++ b) (Str.ofString "/") = ps at h1 h2 h3 ⊢
  match ps, h2, h3 with
  | [], _, h3 =>
    have : (Str.join (Str.ofString "/") []).cps.toList = [] := by decide +kernel
    rw [this] at h3
    exact absurd h3.symm (by simp)
  | [p], h2, h3 =>
    have h4 : p.cps.toList = a.cps.toList ++ 47 :: b.cps.toList := h3
    exact absurd (by rw [h4]; simp) (h2 p List.mem_cons_self)
  | p :: q :: r, h2, h3 =>
    rw [join2] at h3
    obtain ⟨e1, e2⟩ := first_slash (h2 p List.mem_cons_self) ha h3
    cases r with
    | nil =>
      have e3 : q.cps.toList = b.cps.toList := e2
      rw [str_ext e1, str_ext e3]
    | cons r0 r =>
      rw [join2] at e2
      exact absurd (by rw [← e2]; simp) hb
theorem opt_eq : (Str.ofString "/opt/").cps.toList = [47, 111, 112, 116, 47] := by decide +kernel
theorem slice_nat (x : Str) (a b : Nat) (hab : a ≤ b) (hb : b ≤ x.length) : Txt.slice x (some (a : Int)) (some (b : Int)) = ⟨((x.cps.toList.drop a).take (b - a)).toArray⟩ := by
  have := StrLaws.sliceText_plain (x := x) (i := (a : Int)) (j := (b : Int)) ⟨by omega, by omega, by rw [str_len]; omega⟩
  have e : ((b : Int) - (a : Int)).toNat = b - a := by omega
  rw [e, Int.toNat_natCast] at this
  exact this
theorem slice_to (x : Str) (b : Nat) (hb : b ≤ x.length) : Txt.slice x none (some (b : Int)) = ⟨(x.cps.toList.take b).toArray⟩ := by
  have := StrLaws.sliceText_to (x := x) (j := (b : Int)) ⟨by omega, by rw [str_len]; omega⟩
  have e : ((b : Int) - 0).toNat = b := by omega
  rw [e, List.drop_zero] at this
  exact this
theorem optnm (nm : Str) : (Str.ofString "/opt/" ++ nm).cps.toList = [47, 111, 112, 116, 47] ++ nm.cps.toList := by
  rw [Str.cps_append, Array.toList_append, opt_eq]
theorem optnm_len (nm : Str) : (Str.ofString "/opt/" ++ nm).length = 5 + nm.length := by
  rw [← str_len, optnm, List.length_append, str_len]; rfl
theorem nmP_of {nm : Str} (h1 : nm.length ≤ 45) (h2 : 47 ∉ nm.cps.toList) (h3 : nm.cps.toList.count 46 ≤ nm.cps.toList.count 53) : NmP nm where
  len := h1
  ne := fun q => by
    have := congrArg Str.length q
    rw [optnm_len] at this
    have e : (Str.ofString "").length = 0 := by decide +kernel
    omega
  h1 := fun q => by
    have e : Txt.slice (Str.ofString "/opt/" ++ nm) none (some 1) = Str.ofString "/" := by
      have := slice_to (Str.ofString "/opt/" ++ nm) 1 (by rw [optnm_len]; omega)
      rw [optnm] at this
      refine Eq.trans this ?_
      rw [slash_eq]; rfl
    rw [e] at q
    exact absurd q (by decide +kernel)
  h2 := by
    have e : Txt.slice (Str.ofString "/opt/" ++ nm) (some 1) (some 2) = Str.ofString "o" := by
      have := slice_nat (Str.ofString "/opt/" ++ nm) 1 2 (by decide) (by rw [optnm_len]; omega)
      rw [optnm] at this
      refine Eq.trans this ?_
      show (⟨#[111]⟩ : Str) = _
      decide +kernel
    rw [e]; decide +kernel
  d1 := fun q => by
    have := eq_of_beq q
    rw [this] at h3
    exact absurd h3 (by decide +kernel)
  d2 := by
    rw [bne_iff_ne]
    intro q
    rw [q] at h3
    exact absurd h3 (by decide +kernel)
  sp := by
    have e : Txt.slice (Str.ofString "/opt/" ++ nm) (some 1) none = Str.ofString "opt" ++ Str.ofString "/" ++ nm := by
      apply str_ext
      have := slice_drop (Str.ofString "/opt/" ++ nm) 1 (by rw [optnm_len]; omega)
      refine Eq.trans this ?_
      rw [optnm, Str.cps_append, Str.cps_append, Array.toList_append, Array.toList_append, show (Str.ofString "/").cps.toList = [47] by decide +kernel, show (Str.ofString "opt").cps.toList = [111, 112, 116] by decide +kernel]
      rfl
    rw [e]
    exact split_two (by decide +kernel) h2
theorem law_nmP (x : Int) : NmP (lawNm x) := nmP_of (law_len x) (law_noslash x) (law_dots x)
theorem starts_iff (f p : Str) (hp : 0 < p.length) : Txt.startswith f p = p.cps.toList.isPrefixOf f.cps.toList := by
  unfold Txt.startswith
  rw [Bool.eq_iff_iff, Bool.and_eq_true, decide_eq_true_iff, prefix_iff f p 0 hp, List.drop_zero]
noncomputable def fileOf (nm : Str) : Str := Str.ofString "/opt/" ++ nm ++ Str.ofString "/m.py"
theorem file_list (nm : Str) : (fileOf nm).cps.toList = [47, 111, 112, 116, 47] ++ nm.cps.toList ++ [47, 109, 46, 112, 121] := by
  unfold fileOf
  rw [Str.cps_append, Array.toList_append, optnm, show (Str.ofString "/m.py").cps.toList = [47, 109, 46, 112, 121] by decide +kernel]
theorem file_len (nm : Str) : (fileOf nm).length = nm.length + 10 := by
  rw [← str_len, file_list, List.length_append, List.length_append, str_len]
  simp only [List.length_cons, List.length_nil]; omega
theorem npF_slash (nm : Str) : (npF nm ++ Str.ofString "/").cps.toList = if nm.length = 0 then [47, 111, 112, 116, 47] else [47, 111, 112, 116, 47] ++ nm.cps.toList ++ [47] := by
  unfold npF
  split
  · decide +kernel
  · rw [Str.cps_append, Array.toList_append, optnm, show (Str.ofString "/").cps.toList = [47] by decide +kernel]
theorem npF_pos (nm : Str) : 0 < (npF nm ++ Str.ofString "/").length := by
  rw [Str.length_append, show (Str.ofString "/").length = 1 by decide +kernel]; omega
theorem startsF_file {nm fn : Str} (h1 : 47 ∉ nm.cps.toList) (h2 : 47 ∉ fn.cps.toList) : startsF (fileOf fn) nm = (nm == Str.ofString "" || nm == fn) := by
  unfold startsF
  rw [starts_iff _ _ (npF_pos nm), npF_slash, file_list, Bool.eq_iff_iff, List.isPrefixOf_iff_prefix, Bool.or_eq_true, beq_iff_eq, beq_iff_eq]
  by_cases h0 : nm.length = 0
  · rw [if_pos h0]
    constructor
    · intro _
      left; exact str_nil (List.eq_nil_of_length_eq_zero (by rw [str_len]; exact h0))
    · intro _
      exact ⟨fn.cps.toList ++ [47, 109, 46, 112, 121], by simp⟩
  · rw [if_neg h0]
    constructor
    · rintro ⟨t, e⟩
      right
      have e' : nm.cps.toList ++ 47 :: t = fn.cps.toList ++ 47 :: [109, 46, 112, 121] := by simpa using e
      exact str_ext (first_slash h1 h2 e').1
    · rintro (e | e)
      · rw [e] at h0; exact absurd (by decide +kernel) h0
      · subst e
        exact ⟨[109, 46, 112, 121], by simp⟩
theorem startsF_opt (nm : Str) : startsF (Str.ofString "/opt.py") nm = false := by
  unfold startsF
  rw [starts_iff _ _ (npF_pos nm), npF_slash, show (Str.ofString "/opt.py").cps.toList = [47, 111, 112, 116, 46, 112, 121] by decide +kernel]
  split
  · decide
  · simp [List.isPrefixOf]
theorem file_cut (fn : Str) : Txt.slice (fileOf fn) (some 5) (some (-5)) = fn := by
  have e : Txt.slice (fileOf fn) (some 5) (some (-5)) = StrLaws.sliceText (fileOf fn) (some 5) (some (-5)) := rfl
  have hl := file_len fn
  rw [e, StrLaws.sliceText_neg_hi _ _ (by decide) (by omega)]
  have h := slice_nat (fileOf fn) 5 (fn.length + 5) (by omega) (by omega)
  have e2 : ((-5 : Int) + ((fileOf fn).length : Int)) = ((fn.length + 5 : Nat) : Int) := by omega
  rw [e2]
  refine Eq.trans h ?_
  apply str_ext
  rw [file_list, show fn.length + 5 - 5 = fn.cps.toList.length by rw [str_len]; omega]
  simp
theorem file_head (fn : Str) : (Txt.slice (fileOf fn) none (some 5) == Str.ofString "/opt/") = true := by
  have hl := file_len fn
  have h : Txt.slice (fileOf fn) none (some 5) = _ := slice_to (fileOf fn) 5 (by omega)
  rw [h, file_list, beq_iff_eq]
  apply str_ext
  rw [opt_eq]
  simp
theorem ans_file {nms : List Str} {fn : Str} (h1 : ∀ nm ∈ nms, 47 ∉ nm.cps.toList) (h2 : 47 ∉ fn.cps.toList) : ansQ nms (some (fileOf fn)) = dueA nms (some (fileOf fn)) := by
  show ansF nms (fileOf fn) = _
  unfold ansF dueA
  dsimp only
  rw [file_head, file_cut, Bool.true_and]
  have key : ∀ l : List Str, (∀ nm ∈ l, 47 ∉ nm.cps.toList) → l.any (startsF (fileOf fn)) = l.any fun nm => nm == Str.ofString "" || nm == fn := by
    intro l
    induction l with
    | nil => intro _; rfl
    | cons a l ih =>
      intro h
      rw [List.any_cons, List.any_cons, ih fun nm hn => h nm (List.mem_cons_of_mem _ hn), startsF_file (h a List.mem_cons_self) h2]
  exact key nms h1
theorem ans_opt (nms : List Str) : ansQ nms (some (Str.ofString "/opt.py")) = dueA nms (some (Str.ofString "/opt.py")) := by
  show ansF nms _ = _
  unfold ansF dueA
  dsimp only
  have e : (Txt.slice (Str.ofString "/opt.py") none (some 5) == Str.ofString "/opt/") = false := by decide +kernel
  rw [e, Bool.false_and, List.any_eq_false]
  intro nm _
  rw [startsF_opt]; decide
theorem runQ_congr {f g : Option Str → Bool} {l : List (Option Str × Str)} (h : ∀ q ∈ l, f q.1 = g q.1) : runQ f l = runQ g l := by
  unfold runQ
  have key : ∀ (l : List (Option Str × Str)) (st : List Int × List (Str × Int)), (∀ q ∈ l, f q.1 = g q.1) → l.foldl (stepQ f) st = l.foldl (stepQ g) st := by
    intro l
    induction l with
    | nil => intro _ _; rfl
    | cons a l ih =>
      intro st h
      rw [List.foldl_cons, List.foldl_cons]
      have e : stepQ f st a = stepQ g st a := by unfold stepQ; rw [h a List.mem_cons_self]
      rw [e, ih _ fun q hq => h q (List.mem_cons_of_mem _ hq)]
  exact key l _ h
end
section
noncomputable def ValAt (g : Heap) (L : Addr) (m : Str → Option Value) (news : List (Addr × Obj)) (n : Int) (s : Shared) (v : Value) (s₁ : Shared) : Prop := ∃ t tk h', v = .int n t ∧ s₁ = { s with heap := h', toks := tk } ∧ Fr g L h' m ∧ News g L h' news
theorem cut_val {M : Model} {A : Around} {tr : Sem Value} {Q E : Value → Shared → Prop} {s : Shared} {g : Heap} {L : Addr} {m : Str → Option Value} {news : List (Addr × Obj)} (F : Fr g L s.heap m) (N : News g L s.heap news) (n : Int)
    (h1 : wpAny M A tr (ValAt g L m news n s) NoE s) (h2 : ∀ t tk h', Fr g L h' m → News g L h' news → Q (.int n t) { s with heap := h', toks := tk }) : wpAny M A tr Q E s :=
  wpAny_mono h1 (fun v s₁ ⟨t, tk, h', e1, e2, F', N'⟩ => by subst e1; subst e2; exact h2 t tk h' F' N') fun _ _ x => x.elim
theorem fr_loopM {h₀ h h' : Heap} {L : Addr} {M : List Addr} {m m' : Str → Option Value} (F : Fr h₀ L h m) (hn : h'.Ns L m') (k : Kp (L :: M) h h') (h0 : ∀ b ∈ M, h₀.get? b = none) : Fr h₀ L h' m' :=
  ⟨hn, fun b o e => k b o (by
    intro q
    rcases List.mem_cons.mp q with q | q
    · rw [q] at e
      exact absurd (Nat.lt_of_lt_of_le (Heap.lt_size e) F.above) (Nat.lt_irrefl _)
    · rw [h0 b q] at e; cases e) (F.keep b o e), F.above⟩
theorem runQ_len1 (ans : Option Str → Bool) (l : List (Option Str × Str)) : (runQ ans l).1.length = l.length := by
  unfold runQ
  have key : ∀ (l : List (Option Str × Str)) (st : List Int × List (Str × Int)), (l.foldl (stepQ ans) st).1.length = st.1.length + l.length := by
    intro l
    induction l with
    | nil => intro st; rfl
    | cons a l ih =>
      intro st
      rw [List.foldl_cons, ih]
      show (st.1 ++ [_]).length + l.length = _
      rw [List.length_append]; simp only [List.length_cons, List.length_nil]; omega
  rw [key]; simp
theorem ne_nil {prog : Program} {w : World} {A : Around} {E : Value → Shared → Prop} {s : Shared} {Q : Value → Shared → Prop} {a b : Addr} {vs : List Value} (ha : s.heap.IsList a vs.toArray) (hb : s.heap.IsList b #[]) (hu : A.units < cLine) (h : Q (.bool (!vs.isEmpty)) s) :
    wpAny (model prog w) A (compareOp .NotEq (.ref a) (.ref b)) Q E s := by
  cases vs with
  | nil => exact SeqAt.RcNeAt.lists (e := fun _ => true) ha hb rfl hu (fun j j1 => absurd j1 (Nat.not_lt_zero _)) prog w E Q h
  | cons x r => exact SeqAt.RcNeAt.lists_lengths ha hb (by simp) hu prog w E Q h
theorem kdpHas_put (c : List (Str × Int)) (k : Str) (v : Int) : kdpHas (kdpPut c k v) k = true := by
  unfold kdpPut kdpHas
  split
  · rename_i h
    rw [List.any_map]
    obtain ⟨p, hp, e⟩ := List.any_eq_true.mp h
    refine List.any_eq_true.mpr ⟨p, hp, ?_⟩
    simp only [Function.comp]
    have e' : p.1 = k := of_decide_eq_true e
    simp [e']
  · rw [List.any_append]; simp
theorem kdpLook_put {c : List (Str × Int)} {k : Str} (h : kdpHas c k = false) {v : Int} : kdpLook (kdpPut c k v) k 0 = v := by
  unfold kdpPut kdpLook
  unfold kdpHas at h
  rw [if_neg (by rw [h]; decide), List.find?_append]
  have h2 : c.find? (fun p => decide (p.1 = k)) = none := List.find?_eq_none.mpr fun p hp q => by
    have := List.any_eq_false.mp h p hp
    exact this q
  rw [h2]; simp
theorem slice_kp_ss {prog : Program} {w : World} {A : Around} {E : Value → Shared → Prop} {s : Shared} {Q : Value → Shared → Prop} {value slice : PySem.Expr} {x : Str} {t : Tok} {i j : Int} {ui uj : Tok}
    (h : ∀ h' t' k, Kp [] s.heap h' → Q (.str (Txt.slice x (some i) (some j)) t') { s with heap := h', toks := k })
    (hs : subscripted slice false (.str x t) (.ref s.heap.objs.size) = operate [.ref s.heap.objs.size, .str x t] (getItem (.str x t) (.ref s.heap.objs.size)) := by with_unfolding_all rfl)
    (ht : ∀ r, letTemporaryGo value (.str x t) r = pure () := by intro _; with_unfolding_all rfl) (hsz : x.length ≤ sizeLine := by size_fits) :
    wpAny (model prog w) A (subscriptTail value slice (.str x t) (.ref s.heap.objs.size)) Q E { s with heap := s.heap.push { cls := .type "slice", data := .fields #[.int i ui, .int j uj, .none] } } :=
  tail_of_ItemOn (SBH.sliceItem_ss (P := fun h => Kp [] s.heap h) (fun h ob k => k.trans (Kp.of fun b o e => Heap.get?_push_of_some _ e)) Kp.refl h hsz) hs ht
theorem any_two (a b r : Str) : [a, b].any (· == r) = (r == a || r == b) := by
  have c : ∀ x y : Str, (x == y) = (y == x) := fun x y => by rw [Bool.eq_iff_iff, beq_iff_eq, beq_iff_eq]; exact eq_comm
  simp only [List.any_cons, List.any_nil, Bool.or_false, c a r, c b r]
theorem filt_snoc {p : Str → Bool} {l : List Str} {i : Nat} {r : Str} (h : l[i]? = some r) : (l.take (i + 1)).filter p = (l.take i).filter p ++ (if p r = true then [r] else []) := by
  rw [List.take_add_one, h, List.filter_append]
  by_cases q : p r = true <;> simp [q]
theorem zs_empty {p : Str → Bool} {zs : List Value} {l : List Str} (h : StrsAre zs (l.filter p)) : (!zs.isEmpty) = l.any p := by
  have e := strs_len h
  cases hb : l.any p with
  | true =>
    obtain ⟨a, ha, hp⟩ := List.any_eq_true.mp hb
    have : 0 < (l.filter p).length := List.length_pos_of_mem (List.mem_filter.mpr ⟨ha, hp⟩)
    cases zs with
    | nil => rw [← e] at this; exact absurd this (Nat.lt_irrefl _)
    | cons x r => rfl
  | false =>
    have : l.filter p = [] := List.filter_eq_nil_iff.mpr fun a ha hp => by
      rw [List.any_eq_false] at hb
      exact hb a ha hp
    rw [this] at e
    cases zs with
    | nil => rfl
    | cons x r => simp at e
theorem bindL2 (k : Str → Option NameKind) (a b : Str) (va vb : Value) (y : Str) (ha : k a = some .local) (hb : k b = some .local) : bindL k [(a, va), (b, vb)] (fun _ => none) y = if y = b then some vb else if y = a then some va else none := by
  simp [bindL, ha, hb]
noncomputable def DueEnd {L' : Addr} (P : (Str → Option Value) → Prop) : Prop := ∃ m', P m'
noncomputable def DueJ (s : Shared) (w : World) (g : Heap) (D As B I : Addr) (vs asks : List Value) (nD nA : Nat) (nms : List Str) (qs : List (Option Str × Str)) (i : Nat) (m : Str → Option Value) (s' : Shared) : Prop := ∃ ld ys n oB kvs bv mv, (∀ b o, g.get? b = some o → s'.heap.get? b = some o) ∧ s'.heap.get? D = some (W.listOf vs.toArray nD) ∧ s'.heap.get? As = some (W.listOf asks.toArray nA) ∧ m = (fun y => if y = Str.ofString "below" then bv else if y = Str.ofString "module" then mv else if y = Str.ofString "book" then some (.ref B) else if y = Str.ofString "due" then some (.ref ld) else if y = Str.ofString "names" then some (.ref D) else if y = Str.ofString "asks" then some (.ref As) else none) ∧ ld ≠ I ∧ @LT.lt Nat _ B ld ∧ g.get? ld = none ∧ s'.heap.get? ld = some (W.listOf (List.toArray ys) n) ∧ IntsAre ys (runQ (dueA nms) (qs.take i)).1 ∧ s'.heap.get? B = some oB ∧ oB.IsDictOf (PySem.strKind PySem.Challenge.pw_ny0071_01 w) kvs ∧ PyProof.V.FlatPairs PyData.str kvs (kdpD (runQ (dueA nms) (qs.take i)).2) ∧ ∃ h tk, s' = { s with heap := h, toks := tk }
theorem dueC {w : World} {dp un : Nat} {fr : Option (List Env)} {gd : Option (List Code)} {s : Shared} {p : Program} {loose : List Str} {mg mb : Str → Option Value} {Q E : Value → Shared → Prop} {h₀ : Heap} {D As : Addr} {vs : List Value} {nD nA : Nat} {nms : List Str} {asks : List Value} {qs : List (Option Str × Str)}
    (hdp : dp + 60 < recursionLimit) (hun : un + 200 < cLine) (hk : ∀ b o, h₀.get? b = some o → s.heap.get? b = some o) (X : (hd.heap_39 w.params).In h₀) (T : TopRead p loose mg mb h₀)
    (N : ∀ p ∈ [(D, listOf vs.toArray nD), (As, listOf asks.toArray nA)], s.heap.get? p.1 = some p.2 ∧ h₀.get? p.1 = none)
    (hnm : ∀ nm ∈ nms, nm.length ≤ 45) (hvs : StrsAre vs nms) (hlen : vs.length ≤ 100)
    (hal : asks.length = qs.length) (hql : qs.length ≤ 500) (hasks : ∀ (i : Nat) v q, asks[i]? = some v → qs[i]? = some q → AskIs s.heap v q) (hqs : ∀ q ∈ qs, q.2.length ≤ 1000 ∧ ∀ f, q.1 = some f → f.length ≤ 1000)
    (hQ : ∀ R ys n h' tk, Kp [] s.heap h' → s.heap.get? R = none → h'.get? R = some (W.listOf (List.toArray ys) n) → IntsAre ys (runQ (dueA nms) qs).1 → Q (.ref R) { s with heap := h', toks := tk }) :
    wpAny (model PySem.Challenge.pw_ny0071_01 w) (AA dp un fr gd) (call (.ref 110) [.ref D, .ref As]) Q E s := by
  w_on
  k_dflt (refine' enterNC (binds := [(Str.ofString "names", .ref D), (Str.ofString "asks", .ref As)]) (news := [(D, listOf vs.toArray nD), (As, listOf asks.toArray nA)]) ?kk ?kX ?kT ?kN ?k6 ?k7 ?k8 ?k9 ?kB ?kD ?_ ?c2 ?c3 ?c4; (case kk => assumption); (case kX => k_asm); (case kT => k_asm); (case kN => assumption); (case k6 => k_is); (case k7 => k_is); (case k8 => (dsimp only; omega)); (case k9 => first | assumption | exact BindsTo.of_eq rfl | exact binds_K (X.keeps hk) rfl (by k_is) rfl rfl rfl); (case kB => exact rfl); (case kD => decide +kernel); (case c2 => exact rfl); (case c3 => exact rfl); (case c4 => exact rfl); k_whole)
  intro g L' h' tk' cells' eg eL X' T' F' N' Y' l1
  clear X T
  k_lt l1
  k_cells Y'
  simp only [List.cons_append, List.nil_append] at N'
  show wpAny _ _ _ _ _ _
  k_fold
  (repeat' (first | (k_unfold; (try dsimp only)) | ((fail_if_success ((first | (first | (with_reducible show Exists _) | (with_reducible show wpAny _ _ (eval (PySem.Expr.IfExp _ _ _ _) _) _ _ _) | (with_reducible show ValAt _ _ _ _ _ _ _ _) | (with_reducible show wpAny _ _ (binaryOp _ (Value.ref _) (Value.ref _)) _ _ _) | (with_reducible show wpAny _ _ (compareOp CmpOp.NotEq (Value.ref _) (Value.ref _)) _ _ _) | (with_reducible show wpAny _ _ (newList [Value.str _ _, Value.str _ _]) _ _ _) | (with_reducible show wpAny _ _ (subscriptTail _ (PySem.Expr.Slice (some _) (some _) _ _) (Value.str _ _) (Value.ref _)) _ _ _) | (with_reducible show wpAny _ _ (compareOp CmpOp.In (Value.str _ _) (Value.ref _)) _ _ _) | (with_reducible show wpAny _ _ (compareOp CmpOp.NotIn (Value.str _ _) (Value.ref _)) _ _ _) | (with_reducible show wpAny _ _ (setItem (Value.ref _) (Value.str _ _) _) _ _ _) | (with_reducible show wpAny _ _ (getItem (Value.ref _) (Value.str _ _)) _ _ _) | (with_reducible show wpAny _ _ (subscriptTail _ _ (Value.ref _) (Value.str _ _)) _ _ _)) | (first | (with_reducible show wpAny _ _ (eval (PySem.Expr.ListComp _ _ _ _) _) _ _ _) | (with_reducible show wpAny _ _ (exec (PySem.Stmt.Assign _ (PySem.Expr.ListComp _ _ _ _) _) _) _ _ _) | (with_reducible show wpAny _ _ (exec (PySem.Stmt.While _ _ _ _) _) _ _ _) | (with_reducible show wpAny _ _ (exec (PySem.Stmt.For _ _ _ _ _) _) _ _ _) | (with_reducible show wpAny _ _ (exec (PySem.Stmt.Assign [PySem.Expr.Name (PySem.Str.ofString "sign") _] _ _) _) _ _ _) | (with_reducible show wpAny _ _ (eval (PySem.Expr.GeneratorExp _ _ _ _) _) _ _ _) | (with_reducible show CompAt _ _ _ _ _ _ _ _ _ _ _ _ _ _ _ _) | (with_reducible show ForAt _ _ _ _ _ _ _ _ _ _) | (with_reducible show Kp _ _ _ ∧ _) | (with_reducible show wpAny _ _ (PySem.call (Value.ref _) _ _) _ _ _))))); (first | ((with_reducible show ite _ _ _); first | (refine PySem.W.ite_pos (by with_reducible assumption) ?_) | (refine PySem.W.ite_neg (by with_reducible assumption) ?_)) | walk1 | (dsimp only; walk1)))))
  k_dflt (refine kdp_made_str (by k_asm) (by k_asm) T'.nolimit (by rfl) (of_decide_eq_true (by rfl)) (by rfl) ?_)
  intro h2 o2 F2 N2 l2 lo2 hd2 hf2 ap2
  k_lt l2
  (repeat' (first | (k_unfold; (try dsimp only)) | ((fail_if_success ((first | (first | (with_reducible show Exists _) | (with_reducible show wpAny _ _ (eval (PySem.Expr.IfExp _ _ _ _) _) _ _ _) | (with_reducible show ValAt _ _ _ _ _ _ _ _) | (with_reducible show wpAny _ _ (binaryOp _ (Value.ref _) (Value.ref _)) _ _ _) | (with_reducible show wpAny _ _ (compareOp CmpOp.NotEq (Value.ref _) (Value.ref _)) _ _ _) | (with_reducible show wpAny _ _ (newList [Value.str _ _, Value.str _ _]) _ _ _) | (with_reducible show wpAny _ _ (subscriptTail _ (PySem.Expr.Slice (some _) (some _) _ _) (Value.str _ _) (Value.ref _)) _ _ _) | (with_reducible show wpAny _ _ (compareOp CmpOp.In (Value.str _ _) (Value.ref _)) _ _ _) | (with_reducible show wpAny _ _ (compareOp CmpOp.NotIn (Value.str _ _) (Value.ref _)) _ _ _) | (with_reducible show wpAny _ _ (setItem (Value.ref _) (Value.str _ _) _) _ _ _) | (with_reducible show wpAny _ _ (getItem (Value.ref _) (Value.str _ _)) _ _ _) | (with_reducible show wpAny _ _ (subscriptTail _ _ (Value.ref _) (Value.str _ _)) _ _ _)) | (first | (with_reducible show wpAny _ _ (eval (PySem.Expr.ListComp _ _ _ _) _) _ _ _) | (with_reducible show wpAny _ _ (exec (PySem.Stmt.Assign _ (PySem.Expr.ListComp _ _ _ _) _) _) _ _ _) | (with_reducible show wpAny _ _ (exec (PySem.Stmt.While _ _ _ _) _) _ _ _) | (with_reducible show wpAny _ _ (exec (PySem.Stmt.For _ _ _ _ _) _) _ _ _) | (with_reducible show wpAny _ _ (exec (PySem.Stmt.Assign [PySem.Expr.Name (PySem.Str.ofString "sign") _] _ _) _) _ _ _) | (with_reducible show wpAny _ _ (eval (PySem.Expr.GeneratorExp _ _ _ _) _) _ _ _) | (with_reducible show CompAt _ _ _ _ _ _ _ _ _ _ _ _ _ _ _ _) | (with_reducible show ForAt _ _ _ _ _ _ _ _ _ _) | (with_reducible show Kp _ _ _ ∧ _) | (with_reducible show wpAny _ _ (PySem.call (Value.ref _) _ _) _ _ _))))); (first | ((with_reducible show ite _ _ _); first | (refine PySem.W.ite_pos (by with_reducible assumption) ?_) | (refine PySem.W.ite_neg (by with_reducible assumption) ?_)) | walk1 | (dsimp only; walk1)))))
  ((k_dflt (refine for_exec ?_); k_fold))
  (repeat' (first | (k_unfold; (try dsimp only)) | ((fail_if_success ((first | (first | (with_reducible show Exists _) | (with_reducible show wpAny _ _ (eval (PySem.Expr.IfExp _ _ _ _) _) _ _ _) | (with_reducible show ValAt _ _ _ _ _ _ _ _) | (with_reducible show wpAny _ _ (binaryOp _ (Value.ref _) (Value.ref _)) _ _ _) | (with_reducible show wpAny _ _ (compareOp CmpOp.NotEq (Value.ref _) (Value.ref _)) _ _ _) | (with_reducible show wpAny _ _ (newList [Value.str _ _, Value.str _ _]) _ _ _) | (with_reducible show wpAny _ _ (subscriptTail _ (PySem.Expr.Slice (some _) (some _) _ _) (Value.str _ _) (Value.ref _)) _ _ _) | (with_reducible show wpAny _ _ (compareOp CmpOp.In (Value.str _ _) (Value.ref _)) _ _ _) | (with_reducible show wpAny _ _ (compareOp CmpOp.NotIn (Value.str _ _) (Value.ref _)) _ _ _) | (with_reducible show wpAny _ _ (setItem (Value.ref _) (Value.str _ _) _) _ _ _) | (with_reducible show wpAny _ _ (getItem (Value.ref _) (Value.str _ _)) _ _ _) | (with_reducible show wpAny _ _ (subscriptTail _ _ (Value.ref _) (Value.str _ _)) _ _ _)) | (first | (with_reducible show wpAny _ _ (eval (PySem.Expr.ListComp _ _ _ _) _) _ _ _) | (with_reducible show wpAny _ _ (exec (PySem.Stmt.Assign _ (PySem.Expr.ListComp _ _ _ _) _) _) _ _ _) | (with_reducible show wpAny _ _ (exec (PySem.Stmt.While _ _ _ _) _) _ _ _) | (with_reducible show wpAny _ _ (exec (PySem.Stmt.For _ _ _ _ _) _) _ _ _) | (with_reducible show wpAny _ _ (exec (PySem.Stmt.Assign [PySem.Expr.Name (PySem.Str.ofString "sign") _] _ _) _) _ _ _) | (with_reducible show wpAny _ _ (eval (PySem.Expr.GeneratorExp _ _ _ _) _) _ _ _) | (with_reducible show CompAt _ _ _ _ _ _ _ _ _ _ _ _ _ _ _ _) | (with_reducible show ForAt _ _ _ _ _ _ _ _ _ _) | (with_reducible show Kp _ _ _ ∧ _) | (with_reducible show wpAny _ _ (PySem.call (Value.ref _) _ _) _ _ _))))); (first | ((with_reducible show ite _ _ _); first | (refine PySem.W.ite_pos (by with_reducible assumption) ?_) | (refine PySem.W.ite_neg (by with_reducible assumption) ?_)) | walk1 | (dsimp only; walk1)))))
  rename Fr _ _ _ _ => F3
  rename News _ _ _ _ => N3
  rename (_ : Obj).data = Data.cell _ => hcd
  rename Heap => h3
  k_dflt (refine reset s ?_)
  intro tk3
  have hup : ∀ t a, IsTup s.heap t a → IsTup g t a := by
    rintro t a ⟨o, ho, hc, r⟩
    refine ⟨o, ?_, hc, r⟩
    rw [eg]
    refine hideAll_get _ ho ?_
    simp only [List.map_cons, List.map_nil, List.mem_cons, List.not_mem_nil, or_false]
    rintro (q | q)
    · have := (N _ (.head _)).1; rw [q] at ho; rw [ho] at this; cases this; exact list_no_tuple hc
    · have := (N _ (.tail _ (.head _))).1; rw [q] at ho; rw [ho] at this; cases this; exact list_no_tuple hc
  have hgB : ∀ b ∈ [h'.objs.size, L' + 1], g.get? b = none := by
    intro b hb
    simp only [List.mem_cons, List.not_mem_nil, or_false] at hb
    rcases hb with rfl | rfl
    · exact N3.fresh (by k_mem : (h'.objs.size, o2) ∈ _)
    · exact N3.fresh (by k_mem : (L' + 1, _) ∈ _)
  have hl4 : @LT.lt Nat _ L' (L' + 1) := Nat.lt_succ_self L'
  have hBs : h'.objs.size < h3.objs.size := Heap.lt_size (N3.get (by k_mem : (h'.objs.size, o2) ∈ _))
  k_dflt (refine for_list3 (B := [L' + 1]) (its := asks.toArray) (DueJ s w g D As h'.objs.size h3.objs.size vs asks nD nA nms qs) (fun m v m₂ h => ∃ t v₁ v₂, v = .ref t ∧ IsTup g t #[v₁, v₂] ∧ m₂ = upd m (Str.ofString "module") v₂ ∧ h.IsCell (L' + 1) (some v₁)) (fun h => ∃ v₀, h.IsCell (L' + 1) v₀) ?_ ?_ (by rfl) (list_of_get (N3.get (by k_mem))) ?_ ?_ ?_ ?_ ?_ F3.ns ?_ ?_ ?_)
  · rintro h h'' ⟨v₀, hv⟩ hk4
    obtain ⟨o, ho, hd⟩ := hv
    exact ⟨v₀, o, hk4 _ _ (Nat.ne_of_lt (Heap.lt_size (N3.get (by k_mem : (L' + 1, _) ∈ _)))) ho, hd⟩
  · exact ⟨_, _, N3.get (by k_mem), hcd⟩
  · exact (N3 (As, W.listOf asks.toArray nA) (by k_mem)).2.1
  · intro q; exact absurd (List.mem_singleton.mp q) (Nat.ne_of_lt (show @LT.lt Nat _ As (L' + 1) from by omega))
  · intro q; exact absurd (List.mem_singleton.mp q) (Nat.ne_of_gt (Heap.lt_size (N3.get (by k_mem : (L' + 1, _) ∈ _))))
  · rintro i v m s' I l j Q' hv hn ⟨_, _, _, _, _, _, _, hgk, _⟩ hI ⟨v₀, hc⟩ hQ'
    have hi : i < asks.length := by
      rcases Nat.lt_or_ge i asks.length with h | h
      · exact h
      · rw [List.getElem?_toArray, List.getElem?_eq_none h] at hv; cases hv
    obtain ⟨t, fv, u, rfl, ht, _⟩ := hasks i v (qs[i]'(by omega)) (by simpa using hv) (List.getElem?_eq_getElem _)
    have ht' := hup _ _ ht
    have ht2 : IsTup s'.heap t #[fv, .str (qs[i]'(by omega)).2 u] := by
      obtain ⟨o, ho, r⟩ := ht'
      exact ⟨o, hgk _ _ ho, r⟩
    exact fbind_cell (by rfl) (by rfl) (by rfl) (by rfl) (by rfl) (by rfl) (Nat.succ_ne_self L') hn hc hI ht2 (fun h' tk k' hn' hc' => hQ' h' tk _ k' hn' ⟨t, _, _, rfl, ht', rfl, hc'⟩)
  · rintro i m s' h'' tk'' ⟨ld, ys, n, oB, kvs, bv, mv, b1, b2, b3, e, a1, a2, a3, a4, a5, a6, a7, a8, h, tk, rfl⟩ hk4
    have hc1 : @LT.lt Nat _ L' h3.objs.size := F3.ns.lt
    unfold DueJ
    refine ⟨ld, ys, n, oB, kvs, bv, mv, (fun b o e => hk4 _ _ ?_ ?_ ?_ (b1 b o e)), hk4 _ _ (Nat.ne_of_lt (show @LT.lt Nat _ D h3.objs.size from by omega)) (Nat.ne_of_lt (show @LT.lt Nat _ D L' from by omega)) ?_ b2, hk4 _ _ (Nat.ne_of_lt (show @LT.lt Nat _ As h3.objs.size from by omega)) (Nat.ne_of_lt (show @LT.lt Nat _ As L' from by omega)) ?_ b3, e, a1, a2, a3, hk4 _ _ a1 (Nat.ne_of_gt (show @LT.lt Nat _ L' ld from by omega)) ?_ a4, a5, hk4 _ _ (Nat.ne_of_lt hBs) (Nat.ne_of_gt (show @LT.lt Nat _ L' h'.objs.size from by omega)) ?_ a6, a7, a8, _, _, rfl⟩
    · have h9 := Nat.lt_of_lt_of_le (Heap.lt_size e) F3.above
      exact Nat.ne_of_lt (Nat.lt_trans h9 hc1)
    · exact Nat.ne_of_lt (Nat.lt_of_lt_of_le (Heap.lt_size e) F3.above)
    · intro q; exact absurd (List.mem_singleton.mp q) (Nat.ne_of_lt (Nat.lt_trans (Nat.lt_of_lt_of_le (Heap.lt_size e) F3.above) hl4))
    · intro q; exact absurd (List.mem_singleton.mp q) (Nat.ne_of_lt (show @LT.lt Nat _ D (L' + 1) from by omega))
    · intro q; exact absurd (List.mem_singleton.mp q) (Nat.ne_of_lt (show @LT.lt Nat _ As (L' + 1) from by omega))
    · intro q; exact absurd (List.mem_singleton.mp q) (Nat.ne_of_gt (show @LT.lt Nat _ (L' + 1) ld from by omega))
    · intro q; exact absurd (List.mem_singleton.mp q) (Nat.ne_of_gt (show @LT.lt Nat _ (L' + 1) h'.objs.size from by omega))
  · unfold DueJ
    refine ⟨_, [], 0, o2, _, none, none, F3.keep, N3.get (by k_mem), N3.get (by k_mem), funext fun y => ?_, Nat.ne_of_lt (Heap.lt_size (N3.get (by k_mem : (_, W.listOf #[] 0) ∈ _))), ?_, N3.fresh (by k_mem : (_, W.listOf #[] 0) ∈ _), N3.get (by k_mem), .nil, N3.get (by k_mem), hd2, hf2, _, _, rfl⟩
    · by_cases e1 : y = Str.ofString "below"
      · subst e1; rfl
      by_cases e2 : y = Str.ofString "module"
      · subst e2; rfl
      by_cases e3 : y = Str.ofString "book"
      · subst e3; rfl
      by_cases e4 : y = Str.ofString "due"
      · subst e4; rfl
      by_cases e5 : y = Str.ofString "names"
      · subst e5; rfl
      by_cases e6 : y = Str.ofString "asks"
      · subst e6; rfl
      rw [bindL2 _ _ _ _ _ _ rfl rfl]
      simp only [e1, e2, e3, e4, e5, e6, if_false]
    · omega
  · rintro i m v m₂ s' hv ⟨oIt, hIt⟩ ⟨ld, ys, n, oB, kvs, bv, mv, hgk, hDk, hAk, rfl, hl5, hl6, hgl, hld, hJ, hbk, hdB, hfB, h7, tk7, rfl⟩ hn7 ⟨t, v₁, v₂, rfl, ht, rfl, ⟨oC7, hC7, hC7d⟩⟩
    have hi : i < asks.length := by
      rcases Nat.lt_or_ge i asks.length with h | h
      · exact h
      · rw [List.getElem?_toArray, List.getElem?_eq_none h] at hv; cases hv
    have hqi : qs[i]? = some (qs[i]'(by omega)) := List.getElem?_eq_getElem _
    generalize hqe : qs[i]'(by omega) = q at hqi
    revert q
    refine barrier ?_
    intro q hqe hqi
    obtain ⟨t', fv, u, e1, ht', hfv⟩ := hasks i _ q (by simpa using hv) hqi
    cases e1
    have hpair := tup_fun ht (hup _ _ ht')
    have e2 : v₁ = fv := by have := congrArg (fun a : Array Value => a[0]?) hpair; simpa using this
    have e3 : v₂ = .str q.2 u := by have := congrArg (fun a : Array Value => a[1]?) hpair; simpa using this
    subst e2 e3
    have F7 := fr_congr (m' := fun y => if y = Str.ofString "module" then some (.str q.2 u) else if y = Str.ofString "below" then bv else if y = Str.ofString "book" then some (.ref h'.objs.size) else if y = Str.ofString "due" then some (.ref ld) else if y = Str.ofString "names" then some (.ref D) else if y = Str.ofString "asks" then some (.ref As) else none) (⟨hn7, hgk, F3.above⟩ : Fr g L' h7 _) (fun y => by
      unfold upd
      by_cases e1 : y = Str.ofString "module"
      · simp only [e1, if_true]
      · simp only [e1, if_false])
    have hL3 : @LT.lt Nat _ L' h3.objs.size := F3.ns.lt
    have N7 : News g L' h7 [(h3.objs.size, oIt), (ld, W.listOf (List.toArray ys) n), (h'.objs.size, oB), (L' + 1, oC7), (D, W.listOf vs.toArray nD), (As, W.listOf asks.toArray nA)] := by
      intro p hp
      simp only [List.mem_cons, List.not_mem_nil, or_false] at hp
      rcases hp with rfl | rfl | rfl | rfl | rfl | rfl
      · exact ⟨hIt, Nat.ne_of_gt hL3, Heap.get?_none_of_le (Nat.le_trans F3.above (Nat.le_of_lt hL3))⟩
      · exact ⟨hld, Nat.ne_of_gt (show @LT.lt Nat _ L' ld from by omega), hgl⟩
      · exact ⟨hbk, (N3 (h'.objs.size, o2) (by k_mem)).2⟩
      · exact ⟨hC7, Nat.succ_ne_self L', hgB _ (by simp)⟩
      · exact ⟨hDk, (N3 (D, W.listOf vs.toArray nD) (by k_mem)).2⟩
      · exact ⟨hAk, (N3 (As, W.listOf asks.toArray nA) (by k_mem)).2⟩
    have hq := hqs q (List.mem_of_getElem? hqi)
    have hcl : (runQ (dueA nms) (qs.take i)).2.length ≤ 1000 := by
      have h1 := runQ_len (dueA nms) (qs.take i)
      rw [List.length_take] at h1; omega
    have fin : ∀ h8 tk8 m8 oB8 kvs8 bv8 ld8 us, Fr g L' h8 m8 → (∀ y, m8 y = (if y = Str.ofString "below" then bv8 else if y = Str.ofString "module" then some (.str q.2 u) else if y = Str.ofString "book" then some (.ref h'.objs.size) else if y = Str.ofString "due" then some (.ref ld8) else if y = Str.ofString "names" then some (.ref D) else if y = Str.ofString "asks" then some (.ref As) else none)) →
        h8.get? h3.objs.size = some oIt → h8.get? (L' + 1) = some oC7 → h8.get? D = some (W.listOf vs.toArray nD) → h8.get? As = some (W.listOf asks.toArray nA) → h8.get? ld8 = some (W.listOf (List.toArray us) 0) → g.get? ld8 = none → @LT.lt Nat _ h3.objs.size ld8 → @LT.lt Nat _ h'.objs.size ld8 →
        h8.get? h'.objs.size = some oB8 → oB8.IsDictOf (PySem.strKind PySem.Challenge.pw_ny0071_01 w) kvs8 → PyProof.V.FlatPairs PyData.str kvs8 (kdpD (stepC (runQ (dueA nms) (qs.take i)).2 q.2 (dueA nms q.1)).2) → IntsAre us ((runQ (dueA nms) (qs.take i)).1 ++ [(stepC (runQ (dueA nms) (qs.take i)).2 q.2 (dueA nms q.1)).1]) →
        DueEnd (L' := L') (fun m' => h8.Ns L' m' ∧ (∀ b o, b = h3.objs.size ∨ b = As → h7.get? b = some o → h8.get? b = some o) ∧ (∃ v₀, h8.IsCell (L' + 1) v₀) ∧ DueJ s w g D As h'.objs.size h3.objs.size vs asks nD nA nms qs (i + 1) m' { s with heap := h8, toks := tk8 }) := by
      intro h8 tk8 m8 oB8 kvs8 bv8 ld8 us F8 em e1 e2 e3 e4 e5 e6 e7 e8 e9 e10 e11 e12
      have F8' := fr_congr F8 em
      unfold DueEnd DueJ
      refine ⟨_, F8'.ns, ?_, ⟨_, _, e2, hC7d⟩, ld8, us, 0, oB8, kvs8, bv8, _, F8'.keep, e3, e4, rfl, Nat.ne_of_gt e7, e8, e6, e5, ?_, e9, e10, ?_, _, _, rfl⟩
      · rintro b o (rfl | rfl) e
        · rw [hIt] at e; cases e; exact e1
        · rw [hAk] at e; cases e; exact e4
      · rw [runQ_snoc hqi]; exact e12
      · rw [runQ_snoc hqi]; exact e11
    clear F3 N3
    k_dflt (refine nameQ ?_)
    intro Q7 hQ7
    (show wpAny _ _ _ _ _ _); (try k_fold)
    (repeat' (first | (k_unfold; (try dsimp only)) | ((fail_if_success ((first | (first | (with_reducible show Exists _) | (with_reducible show wpAny _ _ (eval (PySem.Expr.IfExp _ _ _ _) _) _ _ _) | (with_reducible show ValAt _ _ _ _ _ _ _ _) | (with_reducible show wpAny _ _ (binaryOp _ (Value.ref _) (Value.ref _)) _ _ _) | (with_reducible show wpAny _ _ (compareOp CmpOp.NotEq (Value.ref _) (Value.ref _)) _ _ _) | (with_reducible show wpAny _ _ (newList [Value.str _ _, Value.str _ _]) _ _ _) | (with_reducible show wpAny _ _ (subscriptTail _ (PySem.Expr.Slice (some _) (some _) _ _) (Value.str _ _) (Value.ref _)) _ _ _) | (with_reducible show wpAny _ _ (compareOp CmpOp.In (Value.str _ _) (Value.ref _)) _ _ _) | (with_reducible show wpAny _ _ (compareOp CmpOp.NotIn (Value.str _ _) (Value.ref _)) _ _ _) | (with_reducible show wpAny _ _ (setItem (Value.ref _) (Value.str _ _) _) _ _ _) | (with_reducible show wpAny _ _ (getItem (Value.ref _) (Value.str _ _)) _ _ _) | (with_reducible show wpAny _ _ (subscriptTail _ _ (Value.ref _) (Value.str _ _)) _ _ _)) | (first | (with_reducible show wpAny _ _ (eval (PySem.Expr.ListComp _ _ _ _) _) _ _ _) | (with_reducible show wpAny _ _ (exec (PySem.Stmt.Assign _ (PySem.Expr.ListComp _ _ _ _) _) _) _ _ _) | (with_reducible show wpAny _ _ (exec (PySem.Stmt.While _ _ _ _) _) _ _ _) | (with_reducible show wpAny _ _ (exec (PySem.Stmt.For _ _ _ _ _) _) _ _ _) | (with_reducible show wpAny _ _ (exec (PySem.Stmt.Assign [PySem.Expr.Name (PySem.Str.ofString "sign") _] _ _) _) _ _ _) | (with_reducible show wpAny _ _ (eval (PySem.Expr.GeneratorExp _ _ _ _) _) _ _ _) | (with_reducible show CompAt _ _ _ _ _ _ _ _ _ _ _ _ _ _ _ _) | (with_reducible show ForAt _ _ _ _ _ _ _ _ _ _) | (with_reducible show Kp _ _ _ ∧ _) | (with_reducible show wpAny _ _ (PySem.call (Value.ref _) _ _) _ _ _))))); (first | ((with_reducible show ite _ _ _); first | (refine PySem.W.ite_pos (by with_reducible assumption) ?_) | (refine PySem.W.ite_neg (by with_reducible assumption) ?_)) | walk1 | (dsimp only; walk1)))))
    k_dflt (refine kdp_notin (tab_of N7 (by k_mem) hdB hfB lo2) ?_)
    cases hb : kdpHas (runQ (dueA nms) (qs.take i)).2 q.2 with
    | true =>
      rw [stepC_hit hb] at fin
      (show wpAny _ _ _ _ _ _); (try k_fold)
      (repeat' (first | (k_unfold; (try dsimp only)) | ((fail_if_success ((first | (first | (with_reducible show Exists _) | (with_reducible show wpAny _ _ (eval (PySem.Expr.IfExp _ _ _ _) _) _ _ _) | (with_reducible show ValAt _ _ _ _ _ _ _ _) | (with_reducible show wpAny _ _ (binaryOp _ (Value.ref _) (Value.ref _)) _ _ _) | (with_reducible show wpAny _ _ (compareOp CmpOp.NotEq (Value.ref _) (Value.ref _)) _ _ _) | (with_reducible show wpAny _ _ (newList [Value.str _ _, Value.str _ _]) _ _ _) | (with_reducible show wpAny _ _ (subscriptTail _ (PySem.Expr.Slice (some _) (some _) _ _) (Value.str _ _) (Value.ref _)) _ _ _) | (with_reducible show wpAny _ _ (compareOp CmpOp.In (Value.str _ _) (Value.ref _)) _ _ _) | (with_reducible show wpAny _ _ (compareOp CmpOp.NotIn (Value.str _ _) (Value.ref _)) _ _ _) | (with_reducible show wpAny _ _ (setItem (Value.ref _) (Value.str _ _) _) _ _ _) | (with_reducible show wpAny _ _ (getItem (Value.ref _) (Value.str _ _)) _ _ _) | (with_reducible show wpAny _ _ (subscriptTail _ _ (Value.ref _) (Value.str _ _)) _ _ _)) | (first | (with_reducible show wpAny _ _ (eval (PySem.Expr.ListComp _ _ _ _) _) _ _ _) | (with_reducible show wpAny _ _ (exec (PySem.Stmt.Assign _ (PySem.Expr.ListComp _ _ _ _) _) _) _ _ _) | (with_reducible show wpAny _ _ (exec (PySem.Stmt.While _ _ _ _) _) _ _ _) | (with_reducible show wpAny _ _ (exec (PySem.Stmt.For _ _ _ _ _) _) _ _ _) | (with_reducible show wpAny _ _ (exec (PySem.Stmt.Assign [PySem.Expr.Name (PySem.Str.ofString "sign") _] _ _) _) _ _ _) | (with_reducible show wpAny _ _ (eval (PySem.Expr.GeneratorExp _ _ _ _) _) _ _ _) | (with_reducible show CompAt _ _ _ _ _ _ _ _ _ _ _ _ _ _ _ _) | (with_reducible show ForAt _ _ _ _ _ _ _ _ _ _) | (with_reducible show Kp _ _ _ ∧ _) | (with_reducible show wpAny _ _ (PySem.call (Value.ref _) _ _) _ _ _))))); (first | ((with_reducible show ite _ _ _); first | (refine PySem.W.ite_pos (by with_reducible assumption) ?_) | (refine PySem.W.ite_neg (by with_reducible assumption) ?_)) | walk1 | (dsimp only; walk1)))))
      k_dflt (refine kba_turn (value' := PySem.Expr.Name (PySem.Str.ofString "_") ⟨0, 0, 0, 0⟩) (fun _ => rfl) ?_)
      k_dflt (refine kdp_item (tab_of N7 (by k_mem) hdB hfB lo2) hb ?_)
      intro t4
      (repeat' (first | (k_unfold; (try dsimp only)) | ((fail_if_success ((first | (first | (with_reducible show Exists _) | (with_reducible show wpAny _ _ (eval (PySem.Expr.IfExp _ _ _ _) _) _ _ _) | (with_reducible show ValAt _ _ _ _ _ _ _ _) | (with_reducible show wpAny _ _ (binaryOp _ (Value.ref _) (Value.ref _)) _ _ _) | (with_reducible show wpAny _ _ (compareOp CmpOp.NotEq (Value.ref _) (Value.ref _)) _ _ _) | (with_reducible show wpAny _ _ (newList [Value.str _ _, Value.str _ _]) _ _ _) | (with_reducible show wpAny _ _ (subscriptTail _ (PySem.Expr.Slice (some _) (some _) _ _) (Value.str _ _) (Value.ref _)) _ _ _) | (with_reducible show wpAny _ _ (compareOp CmpOp.In (Value.str _ _) (Value.ref _)) _ _ _) | (with_reducible show wpAny _ _ (compareOp CmpOp.NotIn (Value.str _ _) (Value.ref _)) _ _ _) | (with_reducible show wpAny _ _ (setItem (Value.ref _) (Value.str _ _) _) _ _ _) | (with_reducible show wpAny _ _ (getItem (Value.ref _) (Value.str _ _)) _ _ _) | (with_reducible show wpAny _ _ (subscriptTail _ _ (Value.ref _) (Value.str _ _)) _ _ _)) | (first | (with_reducible show wpAny _ _ (eval (PySem.Expr.ListComp _ _ _ _) _) _ _ _) | (with_reducible show wpAny _ _ (exec (PySem.Stmt.Assign _ (PySem.Expr.ListComp _ _ _ _) _) _) _ _ _) | (with_reducible show wpAny _ _ (exec (PySem.Stmt.While _ _ _ _) _) _ _ _) | (with_reducible show wpAny _ _ (exec (PySem.Stmt.For _ _ _ _ _) _) _ _ _) | (with_reducible show wpAny _ _ (exec (PySem.Stmt.Assign [PySem.Expr.Name (PySem.Str.ofString "sign") _] _ _) _) _ _ _) | (with_reducible show wpAny _ _ (eval (PySem.Expr.GeneratorExp _ _ _ _) _) _ _ _) | (with_reducible show CompAt _ _ _ _ _ _ _ _ _ _ _ _ _ _ _ _) | (with_reducible show ForAt _ _ _ _ _ _ _ _ _ _) | (with_reducible show Kp _ _ _ ∧ _) | (with_reducible show wpAny _ _ (PySem.call (Value.ref _) _ _) _ _ _))))); (first | ((with_reducible show ite _ _ _); first | (refine PySem.W.ite_pos (by with_reducible assumption) ?_) | (refine PySem.W.ite_neg (by with_reducible assumption) ?_)) | walk1 | (dsimp only; walk1)))))
      rename Fr _ _ _ _ => F8
      rename News _ _ _ _ => N8
      k_dflt (refine kmk_add_ints F8 N8 (list_of_get (N8.get (by k_mem : (ld, W.listOf (List.toArray ys) n) ∈ _))) (list_of_get (N8.get (.head _))) hJ (.cons _ _ .nil) ?_ (by rw [runQ_len1, List.length_take]; exact Nat.le_trans (by simp only [List.length_cons, List.length_nil]; omega : _ ≤ 600) (by decide)))
      intro D9 us h9 F9 N9 l9 hI9
      clear F8 N8
      (repeat' (first | (k_unfold; (try dsimp only)) | ((fail_if_success ((first | (first | (with_reducible show Exists _) | (with_reducible show wpAny _ _ (eval (PySem.Expr.IfExp _ _ _ _) _) _ _ _) | (with_reducible show ValAt _ _ _ _ _ _ _ _) | (with_reducible show wpAny _ _ (binaryOp _ (Value.ref _) (Value.ref _)) _ _ _) | (with_reducible show wpAny _ _ (compareOp CmpOp.NotEq (Value.ref _) (Value.ref _)) _ _ _) | (with_reducible show wpAny _ _ (newList [Value.str _ _, Value.str _ _]) _ _ _) | (with_reducible show wpAny _ _ (subscriptTail _ (PySem.Expr.Slice (some _) (some _) _ _) (Value.str _ _) (Value.ref _)) _ _ _) | (with_reducible show wpAny _ _ (compareOp CmpOp.In (Value.str _ _) (Value.ref _)) _ _ _) | (with_reducible show wpAny _ _ (compareOp CmpOp.NotIn (Value.str _ _) (Value.ref _)) _ _ _) | (with_reducible show wpAny _ _ (setItem (Value.ref _) (Value.str _ _) _) _ _ _) | (with_reducible show wpAny _ _ (getItem (Value.ref _) (Value.str _ _)) _ _ _) | (with_reducible show wpAny _ _ (subscriptTail _ _ (Value.ref _) (Value.str _ _)) _ _ _)) | (first | (with_reducible show wpAny _ _ (eval (PySem.Expr.ListComp _ _ _ _) _) _ _ _) | (with_reducible show wpAny _ _ (exec (PySem.Stmt.Assign _ (PySem.Expr.ListComp _ _ _ _) _) _) _ _ _) | (with_reducible show wpAny _ _ (exec (PySem.Stmt.While _ _ _ _) _) _ _ _) | (with_reducible show wpAny _ _ (exec (PySem.Stmt.For _ _ _ _ _) _) _ _ _) | (with_reducible show wpAny _ _ (exec (PySem.Stmt.Assign [PySem.Expr.Name (PySem.Str.ofString "sign") _] _ _) _) _ _ _) | (with_reducible show wpAny _ _ (eval (PySem.Expr.GeneratorExp _ _ _ _) _) _ _ _) | (with_reducible show CompAt _ _ _ _ _ _ _ _ _ _ _ _ _ _ _ _) | (with_reducible show ForAt _ _ _ _ _ _ _ _ _ _) | (with_reducible show Kp _ _ _ ∧ _) | (with_reducible show wpAny _ _ (PySem.call (Value.ref _) _ _) _ _ _))))); (first | ((with_reducible show ite _ _ _); first | (refine PySem.W.ite_pos (by with_reducible assumption) ?_) | (refine PySem.W.ite_neg (by with_reducible assumption) ?_)) | walk1 | (dsimp only; walk1)))))
      rename Fr _ _ _ _ => F10
      rename News _ _ _ _ => N10
      refine hQ7 _ _ (fin _ _ _ _ _ bv D9 us F10 ?_ (N10.get (by k_mem)) (N10.get (by k_mem)) (N10.get (by k_mem)) (N10.get (by k_mem)) (N10.get (by k_mem)) (N10.fresh (by k_mem : (D9, _) ∈ _)) ?_ ?_ (N10.get (by k_mem)) hdB hfB hI9)
      · ((intro y; (by_cases e1 : y = Str.ofString "below"); (subst e1; rfl); (by_cases e2 : y = Str.ofString "module"); (subst e2; rfl); (by_cases e3 : y = Str.ofString "book"); (subst e3; rfl); (by_cases e4 : y = Str.ofString "due"); (subst e4; rfl); simp only [e1, e2, e3, e4, if_false]))
      · exact l9 _ (.tail _ (.head _))
      · exact l9 (h'.objs.size, oB) (by k_mem)
    | false =>
      rw [stepC_miss hb] at fin
      (show wpAny _ _ _ _ _ _); (try k_fold)
      cases hq1 : q.1 with
      | none =>
        rw [hq1] at hfv
        have e4 : v₁ = .none := hfv
        subst e4
        have hdd : dueA nms q.1 = true := by rw [hq1]; rfl
        rw [hdd] at fin
        (repeat' (first | (k_unfold; (try dsimp only)) | ((fail_if_success ((first | (first | (with_reducible show Exists _) | (with_reducible show wpAny _ _ (eval (PySem.Expr.IfExp _ _ _ _) _) _ _ _) | (with_reducible show ValAt _ _ _ _ _ _ _ _) | (with_reducible show wpAny _ _ (binaryOp _ (Value.ref _) (Value.ref _)) _ _ _) | (with_reducible show wpAny _ _ (compareOp CmpOp.NotEq (Value.ref _) (Value.ref _)) _ _ _) | (with_reducible show wpAny _ _ (newList [Value.str _ _, Value.str _ _]) _ _ _) | (with_reducible show wpAny _ _ (subscriptTail _ (PySem.Expr.Slice (some _) (some _) _ _) (Value.str _ _) (Value.ref _)) _ _ _) | (with_reducible show wpAny _ _ (compareOp CmpOp.In (Value.str _ _) (Value.ref _)) _ _ _) | (with_reducible show wpAny _ _ (compareOp CmpOp.NotIn (Value.str _ _) (Value.ref _)) _ _ _) | (with_reducible show wpAny _ _ (setItem (Value.ref _) (Value.str _ _) _) _ _ _) | (with_reducible show wpAny _ _ (getItem (Value.ref _) (Value.str _ _)) _ _ _) | (with_reducible show wpAny _ _ (subscriptTail _ _ (Value.ref _) (Value.str _ _)) _ _ _)) | (first | (with_reducible show wpAny _ _ (eval (PySem.Expr.ListComp _ _ _ _) _) _ _ _) | (with_reducible show wpAny _ _ (exec (PySem.Stmt.Assign _ (PySem.Expr.ListComp _ _ _ _) _) _) _ _ _) | (with_reducible show wpAny _ _ (exec (PySem.Stmt.While _ _ _ _) _) _ _ _) | (with_reducible show wpAny _ _ (exec (PySem.Stmt.For _ _ _ _ _) _) _ _ _) | (with_reducible show wpAny _ _ (exec (PySem.Stmt.Assign [PySem.Expr.Name (PySem.Str.ofString "sign") _] _ _) _) _ _ _) | (with_reducible show wpAny _ _ (eval (PySem.Expr.GeneratorExp _ _ _ _) _) _ _ _) | (with_reducible show CompAt _ _ _ _ _ _ _ _ _ _ _ _ _ _ _ _) | (with_reducible show ForAt _ _ _ _ _ _ _ _ _ _) | (with_reducible show Kp _ _ _ ∧ _) | (with_reducible show wpAny _ _ (PySem.call (Value.ref _) _ _) _ _ _))))); (first | ((with_reducible show ite _ _ _); first | (refine PySem.W.ite_pos (by with_reducible assumption) ?_) | (refine PySem.W.ite_neg (by with_reducible assumption) ?_)) | walk1 | (dsimp only; walk1)))))
        rename Fr _ _ _ _ => F8
        rename News _ _ _ _ => N8
        walk1
        (repeat' (first | (k_unfold; (try dsimp only)) | ((fail_if_success ((first | (first | (with_reducible show Exists _) | (with_reducible show wpAny _ _ (eval (PySem.Expr.IfExp _ _ _ _) _) _ _ _) | (with_reducible show ValAt _ _ _ _ _ _ _ _) | (with_reducible show wpAny _ _ (binaryOp _ (Value.ref _) (Value.ref _)) _ _ _) | (with_reducible show wpAny _ _ (compareOp CmpOp.NotEq (Value.ref _) (Value.ref _)) _ _ _) | (with_reducible show wpAny _ _ (newList [Value.str _ _, Value.str _ _]) _ _ _) | (with_reducible show wpAny _ _ (subscriptTail _ (PySem.Expr.Slice (some _) (some _) _ _) (Value.str _ _) (Value.ref _)) _ _ _) | (with_reducible show wpAny _ _ (compareOp CmpOp.In (Value.str _ _) (Value.ref _)) _ _ _) | (with_reducible show wpAny _ _ (compareOp CmpOp.NotIn (Value.str _ _) (Value.ref _)) _ _ _) | (with_reducible show wpAny _ _ (setItem (Value.ref _) (Value.str _ _) _) _ _ _) | (with_reducible show wpAny _ _ (getItem (Value.ref _) (Value.str _ _)) _ _ _) | (with_reducible show wpAny _ _ (subscriptTail _ _ (Value.ref _) (Value.str _ _)) _ _ _)) | (first | (with_reducible show wpAny _ _ (eval (PySem.Expr.ListComp _ _ _ _) _) _ _ _) | (with_reducible show wpAny _ _ (exec (PySem.Stmt.Assign _ (PySem.Expr.ListComp _ _ _ _) _) _) _ _ _) | (with_reducible show wpAny _ _ (exec (PySem.Stmt.While _ _ _ _) _) _ _ _) | (with_reducible show wpAny _ _ (exec (PySem.Stmt.For _ _ _ _ _) _) _ _ _) | (with_reducible show wpAny _ _ (exec (PySem.Stmt.Assign [PySem.Expr.Name (PySem.Str.ofString "sign") _] _ _) _) _ _ _) | (with_reducible show wpAny _ _ (eval (PySem.Expr.GeneratorExp _ _ _ _) _) _ _ _) | (with_reducible show CompAt _ _ _ _ _ _ _ _ _ _ _ _ _ _ _ _) | (with_reducible show ForAt _ _ _ _ _ _ _ _ _ _) | (with_reducible show Kp _ _ _ ∧ _) | (with_reducible show wpAny _ _ (PySem.call (Value.ref _) _ _) _ _ _))))); (first | ((with_reducible show ite _ _ _); first | (refine PySem.W.ite_pos (by with_reducible assumption) ?_) | (refine PySem.W.ite_neg (by with_reducible assumption) ?_)) | walk1 | (dsimp only; walk1)))))
        rename Fr _ _ _ _ => F8
        rename News _ _ _ _ => N8
        k_dflt (refine kdp_setItem F8 N8 (by k_updF) hdB hfB (Nat.le_trans hcl (by decide)) ?_)
        intro h9 o9 kvs9 F9 N9 hd9 hf9
        clear F8 N8
        (repeat' (first | (k_unfold; (try dsimp only)) | ((fail_if_success ((first | (first | (with_reducible show Exists _) | (with_reducible show wpAny _ _ (eval (PySem.Expr.IfExp _ _ _ _) _) _ _ _) | (with_reducible show ValAt _ _ _ _ _ _ _ _) | (with_reducible show wpAny _ _ (binaryOp _ (Value.ref _) (Value.ref _)) _ _ _) | (with_reducible show wpAny _ _ (compareOp CmpOp.NotEq (Value.ref _) (Value.ref _)) _ _ _) | (with_reducible show wpAny _ _ (newList [Value.str _ _, Value.str _ _]) _ _ _) | (with_reducible show wpAny _ _ (subscriptTail _ (PySem.Expr.Slice (some _) (some _) _ _) (Value.str _ _) (Value.ref _)) _ _ _) | (with_reducible show wpAny _ _ (compareOp CmpOp.In (Value.str _ _) (Value.ref _)) _ _ _) | (with_reducible show wpAny _ _ (compareOp CmpOp.NotIn (Value.str _ _) (Value.ref _)) _ _ _) | (with_reducible show wpAny _ _ (setItem (Value.ref _) (Value.str _ _) _) _ _ _) | (with_reducible show wpAny _ _ (getItem (Value.ref _) (Value.str _ _)) _ _ _) | (with_reducible show wpAny _ _ (subscriptTail _ _ (Value.ref _) (Value.str _ _)) _ _ _)) | (first | (with_reducible show wpAny _ _ (eval (PySem.Expr.ListComp _ _ _ _) _) _ _ _) | (with_reducible show wpAny _ _ (exec (PySem.Stmt.Assign _ (PySem.Expr.ListComp _ _ _ _) _) _) _ _ _) | (with_reducible show wpAny _ _ (exec (PySem.Stmt.While _ _ _ _) _) _ _ _) | (with_reducible show wpAny _ _ (exec (PySem.Stmt.For _ _ _ _ _) _) _ _ _) | (with_reducible show wpAny _ _ (exec (PySem.Stmt.Assign [PySem.Expr.Name (PySem.Str.ofString "sign") _] _ _) _) _ _ _) | (with_reducible show wpAny _ _ (eval (PySem.Expr.GeneratorExp _ _ _ _) _) _ _ _) | (with_reducible show CompAt _ _ _ _ _ _ _ _ _ _ _ _ _ _ _ _) | (with_reducible show ForAt _ _ _ _ _ _ _ _ _ _) | (with_reducible show Kp _ _ _ ∧ _) | (with_reducible show wpAny _ _ (PySem.call (Value.ref _) _ _) _ _ _))))); (first | ((with_reducible show ite _ _ _); first | (refine PySem.W.ite_pos (by with_reducible assumption) ?_) | (refine PySem.W.ite_neg (by with_reducible assumption) ?_)) | walk1 | (dsimp only; walk1)))))
        k_dflt (refine kba_turn (value' := PySem.Expr.Name (PySem.Str.ofString "_") ⟨0, 0, 0, 0⟩) (fun _ => rfl) ?_)
        k_dflt (refine kdp_item (tab_of N9 (by k_mem) hd9 hf9 lo2) (kdpHas_put _ _ _) ?_)
        rw [kdpLook_put hb]
        intro t4
        (repeat' (first | (k_unfold; (try dsimp only)) | ((fail_if_success ((first | (first | (with_reducible show Exists _) | (with_reducible show wpAny _ _ (eval (PySem.Expr.IfExp _ _ _ _) _) _ _ _) | (with_reducible show ValAt _ _ _ _ _ _ _ _) | (with_reducible show wpAny _ _ (binaryOp _ (Value.ref _) (Value.ref _)) _ _ _) | (with_reducible show wpAny _ _ (compareOp CmpOp.NotEq (Value.ref _) (Value.ref _)) _ _ _) | (with_reducible show wpAny _ _ (newList [Value.str _ _, Value.str _ _]) _ _ _) | (with_reducible show wpAny _ _ (subscriptTail _ (PySem.Expr.Slice (some _) (some _) _ _) (Value.str _ _) (Value.ref _)) _ _ _) | (with_reducible show wpAny _ _ (compareOp CmpOp.In (Value.str _ _) (Value.ref _)) _ _ _) | (with_reducible show wpAny _ _ (compareOp CmpOp.NotIn (Value.str _ _) (Value.ref _)) _ _ _) | (with_reducible show wpAny _ _ (setItem (Value.ref _) (Value.str _ _) _) _ _ _) | (with_reducible show wpAny _ _ (getItem (Value.ref _) (Value.str _ _)) _ _ _) | (with_reducible show wpAny _ _ (subscriptTail _ _ (Value.ref _) (Value.str _ _)) _ _ _)) | (first | (with_reducible show wpAny _ _ (eval (PySem.Expr.ListComp _ _ _ _) _) _ _ _) | (with_reducible show wpAny _ _ (exec (PySem.Stmt.Assign _ (PySem.Expr.ListComp _ _ _ _) _) _) _ _ _) | (with_reducible show wpAny _ _ (exec (PySem.Stmt.While _ _ _ _) _) _ _ _) | (with_reducible show wpAny _ _ (exec (PySem.Stmt.For _ _ _ _ _) _) _ _ _) | (with_reducible show wpAny _ _ (exec (PySem.Stmt.Assign [PySem.Expr.Name (PySem.Str.ofString "sign") _] _ _) _) _ _ _) | (with_reducible show wpAny _ _ (eval (PySem.Expr.GeneratorExp _ _ _ _) _) _ _ _) | (with_reducible show CompAt _ _ _ _ _ _ _ _ _ _ _ _ _ _ _ _) | (with_reducible show ForAt _ _ _ _ _ _ _ _ _ _) | (with_reducible show Kp _ _ _ ∧ _) | (with_reducible show wpAny _ _ (PySem.call (Value.ref _) _ _) _ _ _))))); (first | ((with_reducible show ite _ _ _); first | (refine PySem.W.ite_pos (by with_reducible assumption) ?_) | (refine PySem.W.ite_neg (by with_reducible assumption) ?_)) | walk1 | (dsimp only; walk1)))))
        rename Fr _ _ _ _ => F10
        rename News _ _ _ _ => N10
        k_dflt (refine kmk_add_ints F10 N10 (list_of_get (N10.get (by k_mem : (ld, W.listOf (List.toArray ys) n) ∈ _))) (list_of_get (N10.get (.head _))) hJ (.cons _ _ .nil) ?_ (by rw [runQ_len1, List.length_take]; exact Nat.le_trans (by simp only [List.length_cons, List.length_nil]; omega : _ ≤ 600) (by decide)))
        intro D9 us h9 F11 N11 l9 hI9
        clear F10 N10
        (repeat' (first | (k_unfold; (try dsimp only)) | ((fail_if_success ((first | (first | (with_reducible show Exists _) | (with_reducible show wpAny _ _ (eval (PySem.Expr.IfExp _ _ _ _) _) _ _ _) | (with_reducible show ValAt _ _ _ _ _ _ _ _) | (with_reducible show wpAny _ _ (binaryOp _ (Value.ref _) (Value.ref _)) _ _ _) | (with_reducible show wpAny _ _ (compareOp CmpOp.NotEq (Value.ref _) (Value.ref _)) _ _ _) | (with_reducible show wpAny _ _ (newList [Value.str _ _, Value.str _ _]) _ _ _) | (with_reducible show wpAny _ _ (subscriptTail _ (PySem.Expr.Slice (some _) (some _) _ _) (Value.str _ _) (Value.ref _)) _ _ _) | (with_reducible show wpAny _ _ (compareOp CmpOp.In (Value.str _ _) (Value.ref _)) _ _ _) | (with_reducible show wpAny _ _ (compareOp CmpOp.NotIn (Value.str _ _) (Value.ref _)) _ _ _) | (with_reducible show wpAny _ _ (setItem (Value.ref _) (Value.str _ _) _) _ _ _) | (with_reducible show wpAny _ _ (getItem (Value.ref _) (Value.str _ _)) _ _ _) | (with_reducible show wpAny _ _ (subscriptTail _ _ (Value.ref _) (Value.str _ _)) _ _ _)) | (first | (with_reducible show wpAny _ _ (eval (PySem.Expr.ListComp _ _ _ _) _) _ _ _) | (with_reducible show wpAny _ _ (exec (PySem.Stmt.Assign _ (PySem.Expr.ListComp _ _ _ _) _) _) _ _ _) | (with_reducible show wpAny _ _ (exec (PySem.Stmt.While _ _ _ _) _) _ _ _) | (with_reducible show wpAny _ _ (exec (PySem.Stmt.For _ _ _ _ _) _) _ _ _) | (with_reducible show wpAny _ _ (exec (PySem.Stmt.Assign [PySem.Expr.Name (PySem.Str.ofString "sign") _] _ _) _) _ _ _) | (with_reducible show wpAny _ _ (eval (PySem.Expr.GeneratorExp _ _ _ _) _) _ _ _) | (with_reducible show CompAt _ _ _ _ _ _ _ _ _ _ _ _ _ _ _ _) | (with_reducible show ForAt _ _ _ _ _ _ _ _ _ _) | (with_reducible show Kp _ _ _ ∧ _) | (with_reducible show wpAny _ _ (PySem.call (Value.ref _) _ _) _ _ _))))); (first | ((with_reducible show ite _ _ _); first | (refine PySem.W.ite_pos (by with_reducible assumption) ?_) | (refine PySem.W.ite_neg (by with_reducible assumption) ?_)) | walk1 | (dsimp only; walk1)))))
        rename Fr _ _ _ _ => F12
        rename News _ _ _ _ => N12
        refine hQ7 _ _ (fin _ _ _ _ _ (some (.bool false)) D9 us F12 ?_ (N12.get (by k_mem)) (N12.get (by k_mem)) (N12.get (by k_mem)) (N12.get (by k_mem)) (N12.get (by k_mem)) (N12.fresh (by k_mem : (D9, _) ∈ _)) ?_ ?_ (N12.get (by k_mem)) hd9 hf9 hI9)
        · ((intro y; (by_cases e1 : y = Str.ofString "below"); (subst e1; rfl); (by_cases e2 : y = Str.ofString "module"); (subst e2; rfl); (by_cases e3 : y = Str.ofString "book"); (subst e3; rfl); (by_cases e4 : y = Str.ofString "due"); (subst e4; rfl); simp only [e1, e2, e3, e4, if_false]))
        · exact l9 (h3.objs.size, oIt) (by k_mem)
        · exact l9 (h'.objs.size, o9) (by k_mem)
      | some f =>
        rw [hq1] at hfv
        obtain ⟨tf, e4⟩ := hfv
        subst e4
        have hfl := hq.2 f hq1
        (repeat' (first | (k_unfold; (try dsimp only)) | ((fail_if_success ((first | (first | (with_reducible show Exists _) | (with_reducible show wpAny _ _ (eval (PySem.Expr.IfExp _ _ _ _) _) _ _ _) | (with_reducible show ValAt _ _ _ _ _ _ _ _) | (with_reducible show wpAny _ _ (binaryOp _ (Value.ref _) (Value.ref _)) _ _ _) | (with_reducible show wpAny _ _ (compareOp CmpOp.NotEq (Value.ref _) (Value.ref _)) _ _ _) | (with_reducible show wpAny _ _ (newList [Value.str _ _, Value.str _ _]) _ _ _) | (with_reducible show wpAny _ _ (subscriptTail _ (PySem.Expr.Slice (some _) (some _) _ _) (Value.str _ _) (Value.ref _)) _ _ _) | (with_reducible show wpAny _ _ (compareOp CmpOp.In (Value.str _ _) (Value.ref _)) _ _ _) | (with_reducible show wpAny _ _ (compareOp CmpOp.NotIn (Value.str _ _) (Value.ref _)) _ _ _) | (with_reducible show wpAny _ _ (setItem (Value.ref _) (Value.str _ _) _) _ _ _) | (with_reducible show wpAny _ _ (getItem (Value.ref _) (Value.str _ _)) _ _ _) | (with_reducible show wpAny _ _ (subscriptTail _ _ (Value.ref _) (Value.str _ _)) _ _ _)) | (first | (with_reducible show wpAny _ _ (eval (PySem.Expr.ListComp _ _ _ _) _) _ _ _) | (with_reducible show wpAny _ _ (exec (PySem.Stmt.Assign _ (PySem.Expr.ListComp _ _ _ _) _) _) _ _ _) | (with_reducible show wpAny _ _ (exec (PySem.Stmt.While _ _ _ _) _) _ _ _) | (with_reducible show wpAny _ _ (exec (PySem.Stmt.For _ _ _ _ _) _) _ _ _) | (with_reducible show wpAny _ _ (exec (PySem.Stmt.Assign [PySem.Expr.Name (PySem.Str.ofString "sign") _] _ _) _) _ _ _) | (with_reducible show wpAny _ _ (eval (PySem.Expr.GeneratorExp _ _ _ _) _) _ _ _) | (with_reducible show CompAt _ _ _ _ _ _ _ _ _ _ _ _ _ _ _ _) | (with_reducible show ForAt _ _ _ _ _ _ _ _ _ _) | (with_reducible show Kp _ _ _ ∧ _) | (with_reducible show wpAny _ _ (PySem.call (Value.ref _) _ _) _ _ _))))); (first | ((with_reducible show ite _ _ _); first | (refine PySem.W.ite_pos (by with_reducible assumption) ?_) | (refine PySem.W.ite_neg (by with_reducible assumption) ?_)) | walk1 | (dsimp only; walk1)))))
        ((k_dflt (refine lc_eval (by with_unfolding_all rfl) (by rfl) (by decide) ?_); k_fold))
        (repeat' (first | (k_unfold; (try dsimp only)) | ((fail_if_success ((first | (first | (with_reducible show Exists _) | (with_reducible show wpAny _ _ (eval (PySem.Expr.IfExp _ _ _ _) _) _ _ _) | (with_reducible show ValAt _ _ _ _ _ _ _ _) | (with_reducible show wpAny _ _ (binaryOp _ (Value.ref _) (Value.ref _)) _ _ _) | (with_reducible show wpAny _ _ (compareOp CmpOp.NotEq (Value.ref _) (Value.ref _)) _ _ _) | (with_reducible show wpAny _ _ (newList [Value.str _ _, Value.str _ _]) _ _ _) | (with_reducible show wpAny _ _ (subscriptTail _ (PySem.Expr.Slice (some _) (some _) _ _) (Value.str _ _) (Value.ref _)) _ _ _) | (with_reducible show wpAny _ _ (compareOp CmpOp.In (Value.str _ _) (Value.ref _)) _ _ _) | (with_reducible show wpAny _ _ (compareOp CmpOp.NotIn (Value.str _ _) (Value.ref _)) _ _ _) | (with_reducible show wpAny _ _ (setItem (Value.ref _) (Value.str _ _) _) _ _ _) | (with_reducible show wpAny _ _ (getItem (Value.ref _) (Value.str _ _)) _ _ _) | (with_reducible show wpAny _ _ (subscriptTail _ _ (Value.ref _) (Value.str _ _)) _ _ _)) | (first | (with_reducible show wpAny _ _ (eval (PySem.Expr.ListComp _ _ _ _) _) _ _ _) | (with_reducible show wpAny _ _ (exec (PySem.Stmt.Assign _ (PySem.Expr.ListComp _ _ _ _) _) _) _ _ _) | (with_reducible show wpAny _ _ (exec (PySem.Stmt.While _ _ _ _) _) _ _ _) | (with_reducible show wpAny _ _ (exec (PySem.Stmt.For _ _ _ _ _) _) _ _ _) | (with_reducible show wpAny _ _ (exec (PySem.Stmt.Assign [PySem.Expr.Name (PySem.Str.ofString "sign") _] _ _) _) _ _ _) | (with_reducible show wpAny _ _ (eval (PySem.Expr.GeneratorExp _ _ _ _) _) _ _ _) | (with_reducible show CompAt _ _ _ _ _ _ _ _ _ _ _ _ _ _ _ _) | (with_reducible show ForAt _ _ _ _ _ _ _ _ _ _) | (with_reducible show Kp _ _ _ ∧ _) | (with_reducible show wpAny _ _ (PySem.call (Value.ref _) _ _) _ _ _))))); (first | ((with_reducible show ite _ _ _); first | (refine PySem.W.ite_pos (by with_reducible assumption) ?_) | (refine PySem.W.ite_neg (by with_reducible assumption) ?_)) | walk1 | (dsimp only; walk1)))))
        rename Fr _ _ _ _ => F6
        rename News _ _ _ _ => N6
        k_dflt (refine lc_name (M := []) (its := vs.toArray) (fun j zs s' => StrsAre zs ((nms.take j).filter fun nm => nm == Str.ofString "" || nm == Txt.slice f (some 5) (some (-5))) ∧ ∃ h tk, s' = { s with heap := h, toks := tk }) (by decide) (by rfl) (by rfl) (by rfl) (list_of_get (N6.get (by k_mem))) (by simp) (by simp) (by rw [List.size_toArray]; exact Nat.le_trans hlen (by decide)) ?_ ?_ ?_ ?_)
        · rintro i ys s' h' tk ⟨j, h, tk', rfl⟩ _
          exact ⟨j, h', tk, rfl⟩
        · exact ⟨.nil, _, _, rfl⟩
        · rintro j zs v C m₂ s' hv2 _ ⟨hJ2, h8, tk8, rfl⟩ hC hn hx hk8
          obtain ⟨r, t8, rfl, hr⟩ := strs_get hvs (by simpa using hv2)
          obtain ⟨oC, hoC, N8⟩ := news_comp F6 N6 hk8 hn hC
          have F8 := fr_kp F6 hk8
          have hrl := hnm r (List.mem_of_getElem? hr)
          clear F6 N6
          refine wpAny_tests_one ?_
          (show wpAny _ _ _ _ _ _); (try k_fold)
          (repeat' (first | (k_unfold; (try dsimp only)) | ((fail_if_success ((first | (first | (with_reducible show Exists _) | (with_reducible show wpAny _ _ (eval (PySem.Expr.IfExp _ _ _ _) _) _ _ _) | (with_reducible show ValAt _ _ _ _ _ _ _ _) | (with_reducible show wpAny _ _ (binaryOp _ (Value.ref _) (Value.ref _)) _ _ _) | (with_reducible show wpAny _ _ (compareOp CmpOp.NotEq (Value.ref _) (Value.ref _)) _ _ _) | (with_reducible show wpAny _ _ (newList [Value.str _ _, Value.str _ _]) _ _ _) | (with_reducible show wpAny _ _ (subscriptTail _ (PySem.Expr.Slice (some _) (some _) _ _) (Value.str _ _) (Value.ref _)) _ _ _) | (with_reducible show wpAny _ _ (compareOp CmpOp.In (Value.str _ _) (Value.ref _)) _ _ _) | (with_reducible show wpAny _ _ (compareOp CmpOp.NotIn (Value.str _ _) (Value.ref _)) _ _ _) | (with_reducible show wpAny _ _ (setItem (Value.ref _) (Value.str _ _) _) _ _ _) | (with_reducible show wpAny _ _ (getItem (Value.ref _) (Value.str _ _)) _ _ _) | (with_reducible show wpAny _ _ (subscriptTail _ _ (Value.ref _) (Value.str _ _)) _ _ _)) | (first | (with_reducible show wpAny _ _ (eval (PySem.Expr.ListComp _ _ _ _) _) _ _ _) | (with_reducible show wpAny _ _ (exec (PySem.Stmt.Assign _ (PySem.Expr.ListComp _ _ _ _) _) _) _ _ _) | (with_reducible show wpAny _ _ (exec (PySem.Stmt.While _ _ _ _) _) _ _ _) | (with_reducible show wpAny _ _ (exec (PySem.Stmt.For _ _ _ _ _) _) _ _ _) | (with_reducible show wpAny _ _ (exec (PySem.Stmt.Assign [PySem.Expr.Name (PySem.Str.ofString "sign") _] _ _) _) _ _ _) | (with_reducible show wpAny _ _ (eval (PySem.Expr.GeneratorExp _ _ _ _) _) _ _ _) | (with_reducible show CompAt _ _ _ _ _ _ _ _ _ _ _ _ _ _ _ _) | (with_reducible show ForAt _ _ _ _ _ _ _ _ _ _) | (with_reducible show Kp _ _ _ ∧ _) | (with_reducible show wpAny _ _ (PySem.call (Value.ref _) _ _) _ _ _))))); (first | ((with_reducible show ite _ _ _); first | (refine PySem.W.ite_pos (by with_reducible assumption) ?_) | (refine PySem.W.ite_neg (by with_reducible assumption) ?_)) | walk1 | (dsimp only; walk1)))))
          rename Fr _ _ _ _ => F9
          rename News _ _ _ _ => N9
          k_dflt (refine slice_kp_ss (s := ⟨_, _, _, _, _⟩) (hsz := Nat.le_trans hfl (by decide)) ?_)
          intro h9 t9 k9 kp9
          have F10 := fr_kp F9 kp9
          have N10 := news_kp N9 kp9
          clear F9 N9
          dsimp only at kp9
          (repeat' (first | (k_unfold; (try dsimp only)) | ((fail_if_success ((first | (first | (with_reducible show Exists _) | (with_reducible show wpAny _ _ (eval (PySem.Expr.IfExp _ _ _ _) _) _ _ _) | (with_reducible show ValAt _ _ _ _ _ _ _ _) | (with_reducible show wpAny _ _ (binaryOp _ (Value.ref _) (Value.ref _)) _ _ _) | (with_reducible show wpAny _ _ (compareOp CmpOp.NotEq (Value.ref _) (Value.ref _)) _ _ _) | (with_reducible show wpAny _ _ (newList [Value.str _ _, Value.str _ _]) _ _ _) | (with_reducible show wpAny _ _ (subscriptTail _ (PySem.Expr.Slice (some _) (some _) _ _) (Value.str _ _) (Value.ref _)) _ _ _) | (with_reducible show wpAny _ _ (compareOp CmpOp.In (Value.str _ _) (Value.ref _)) _ _ _) | (with_reducible show wpAny _ _ (compareOp CmpOp.NotIn (Value.str _ _) (Value.ref _)) _ _ _) | (with_reducible show wpAny _ _ (setItem (Value.ref _) (Value.str _ _) _) _ _ _) | (with_reducible show wpAny _ _ (getItem (Value.ref _) (Value.str _ _)) _ _ _) | (with_reducible show wpAny _ _ (subscriptTail _ _ (Value.ref _) (Value.str _ _)) _ _ _)) | (first | (with_reducible show wpAny _ _ (eval (PySem.Expr.ListComp _ _ _ _) _) _ _ _) | (with_reducible show wpAny _ _ (exec (PySem.Stmt.Assign _ (PySem.Expr.ListComp _ _ _ _) _) _) _ _ _) | (with_reducible show wpAny _ _ (exec (PySem.Stmt.While _ _ _ _) _) _ _ _) | (with_reducible show wpAny _ _ (exec (PySem.Stmt.For _ _ _ _ _) _) _ _ _) | (with_reducible show wpAny _ _ (exec (PySem.Stmt.Assign [PySem.Expr.Name (PySem.Str.ofString "sign") _] _ _) _) _ _ _) | (with_reducible show wpAny _ _ (eval (PySem.Expr.GeneratorExp _ _ _ _) _) _ _ _) | (with_reducible show CompAt _ _ _ _ _ _ _ _ _ _ _ _ _ _ _ _) | (with_reducible show ForAt _ _ _ _ _ _ _ _ _ _) | (with_reducible show Kp _ _ _ ∧ _) | (with_reducible show wpAny _ _ (PySem.call (Value.ref _) _ _) _ _ _))))); (first | ((with_reducible show ite _ _ _); first | (refine PySem.W.ite_pos (by with_reducible assumption) ?_) | (refine PySem.W.ite_neg (by with_reducible assumption) ?_)) | walk1 | (dsimp only; walk1)))))
          k_dflt (refine wpAny_newList ?_ (by show 2 ≤ sizeLine; decide))
          have kp10 : Kp [] h9 (h9.push { cls := .type "list", data := .seq [Value.str (Str.ofString "") tk8, .str (Txt.slice f (some 5) (some (-5))) t9].toArray }) := Kp.of fun b o e => Heap.get?_push_of_some _ e
          have hl10 : (h9.push { cls := .type "list", data := .seq [Value.str (Str.ofString "") tk8, .str (Txt.slice f (some 5) (some (-5))) t9].toArray }).get? h9.objs.size = some { cls := .type "list", data := .seq [Value.str (Str.ofString "") tk8, .str (Txt.slice f (some 5) (some (-5))) t9].toArray } := Heap.get?_push_size _ rfl
          have F11 := fr_kp F10 kp10
          have N11 := news_kp N10 kp10
          clear F10 N10
          dsimp only
          generalize h9.push _ = h10 at kp10 hl10 F11 N11 ⊢
          revert h10
          refine barrier ?_
          intro h10 kp10 hl10 F11 N11
          k_dflt (refine in_list_strs (list_of_get hl10) (.cons _ _ (.cons _ _ .nil)) ?_)
          rw [any_two]
          cases hb2 : (r == Str.ofString "" || r == Txt.slice f (some 5) (some (-5))) with
          | true =>
            (repeat' (first | (k_unfold; (try dsimp only)) | ((fail_if_success ((first | (first | (with_reducible show Exists _) | (with_reducible show wpAny _ _ (eval (PySem.Expr.IfExp _ _ _ _) _) _ _ _) | (with_reducible show ValAt _ _ _ _ _ _ _ _) | (with_reducible show wpAny _ _ (binaryOp _ (Value.ref _) (Value.ref _)) _ _ _) | (with_reducible show wpAny _ _ (compareOp CmpOp.NotEq (Value.ref _) (Value.ref _)) _ _ _) | (with_reducible show wpAny _ _ (newList [Value.str _ _, Value.str _ _]) _ _ _) | (with_reducible show wpAny _ _ (subscriptTail _ (PySem.Expr.Slice (some _) (some _) _ _) (Value.str _ _) (Value.ref _)) _ _ _) | (with_reducible show wpAny _ _ (compareOp CmpOp.In (Value.str _ _) (Value.ref _)) _ _ _) | (with_reducible show wpAny _ _ (compareOp CmpOp.NotIn (Value.str _ _) (Value.ref _)) _ _ _) | (with_reducible show wpAny _ _ (setItem (Value.ref _) (Value.str _ _) _) _ _ _) | (with_reducible show wpAny _ _ (getItem (Value.ref _) (Value.str _ _)) _ _ _) | (with_reducible show wpAny _ _ (subscriptTail _ _ (Value.ref _) (Value.str _ _)) _ _ _)) | (first | (with_reducible show wpAny _ _ (eval (PySem.Expr.ListComp _ _ _ _) _) _ _ _) | (with_reducible show wpAny _ _ (exec (PySem.Stmt.Assign _ (PySem.Expr.ListComp _ _ _ _) _) _) _ _ _) | (with_reducible show wpAny _ _ (exec (PySem.Stmt.While _ _ _ _) _) _ _ _) | (with_reducible show wpAny _ _ (exec (PySem.Stmt.For _ _ _ _ _) _) _ _ _) | (with_reducible show wpAny _ _ (exec (PySem.Stmt.Assign [PySem.Expr.Name (PySem.Str.ofString "sign") _] _ _) _) _ _ _) | (with_reducible show wpAny _ _ (eval (PySem.Expr.GeneratorExp _ _ _ _) _) _ _ _) | (with_reducible show CompAt _ _ _ _ _ _ _ _ _ _ _ _ _ _ _ _) | (with_reducible show ForAt _ _ _ _ _ _ _ _ _ _) | (with_reducible show Kp _ _ _ ∧ _) | (with_reducible show wpAny _ _ (PySem.call (Value.ref _) _ _) _ _ _))))); (first | ((with_reducible show ite _ _ _); first | (refine PySem.W.ite_pos (by with_reducible assumption) ?_) | (refine PySem.W.ite_neg (by with_reducible assumption) ?_)) | walk1 | (dsimp only; walk1)))))
            refine ⟨kp9.trans kp10, ?_, _, _, rfl⟩
            rw [filt_snoc hr, if_pos hb2]
            exact strs_snoc hJ2
          | false =>
            (repeat' (first | (k_unfold; (try dsimp only)) | ((fail_if_success ((first | (first | (with_reducible show Exists _) | (with_reducible show wpAny _ _ (eval (PySem.Expr.IfExp _ _ _ _) _) _ _ _) | (with_reducible show ValAt _ _ _ _ _ _ _ _) | (with_reducible show wpAny _ _ (binaryOp _ (Value.ref _) (Value.ref _)) _ _ _) | (with_reducible show wpAny _ _ (compareOp CmpOp.NotEq (Value.ref _) (Value.ref _)) _ _ _) | (with_reducible show wpAny _ _ (newList [Value.str _ _, Value.str _ _]) _ _ _) | (with_reducible show wpAny _ _ (subscriptTail _ (PySem.Expr.Slice (some _) (some _) _ _) (Value.str _ _) (Value.ref _)) _ _ _) | (with_reducible show wpAny _ _ (compareOp CmpOp.In (Value.str _ _) (Value.ref _)) _ _ _) | (with_reducible show wpAny _ _ (compareOp CmpOp.NotIn (Value.str _ _) (Value.ref _)) _ _ _) | (with_reducible show wpAny _ _ (setItem (Value.ref _) (Value.str _ _) _) _ _ _) | (with_reducible show wpAny _ _ (getItem (Value.ref _) (Value.str _ _)) _ _ _) | (with_reducible show wpAny _ _ (subscriptTail _ _ (Value.ref _) (Value.str _ _)) _ _ _)) | (first | (with_reducible show wpAny _ _ (eval (PySem.Expr.ListComp _ _ _ _) _) _ _ _) | (with_reducible show wpAny _ _ (exec (PySem.Stmt.Assign _ (PySem.Expr.ListComp _ _ _ _) _) _) _ _ _) | (with_reducible show wpAny _ _ (exec (PySem.Stmt.While _ _ _ _) _) _ _ _) | (with_reducible show wpAny _ _ (exec (PySem.Stmt.For _ _ _ _ _) _) _ _ _) | (with_reducible show wpAny _ _ (exec (PySem.Stmt.Assign [PySem.Expr.Name (PySem.Str.ofString "sign") _] _ _) _) _ _ _) | (with_reducible show wpAny _ _ (eval (PySem.Expr.GeneratorExp _ _ _ _) _) _ _ _) | (with_reducible show CompAt _ _ _ _ _ _ _ _ _ _ _ _ _ _ _ _) | (with_reducible show ForAt _ _ _ _ _ _ _ _ _ _) | (with_reducible show Kp _ _ _ ∧ _) | (with_reducible show wpAny _ _ (PySem.call (Value.ref _) _ _) _ _ _))))); (first | ((with_reducible show ite _ _ _); first | (refine PySem.W.ite_pos (by with_reducible assumption) ?_) | (refine PySem.W.ite_neg (by with_reducible assumption) ?_)) | walk1 | (dsimp only; walk1)))))
            refine ⟨kp9.trans kp10, ?_, _, _, rfl⟩
            rw [filt_snoc hr, if_neg (by rw [hb2]; decide), List.append_nil]
            exact hJ2
        · rintro D8 zs s' ⟨hJ2, h8, tk8, rfl⟩ hD8 hg8 hk8
          have N8 := news_add F6 N6 hk8 (Nat.le_of_lt hD8) hg8
          have q8 : @LT.lt Nat _ h'.objs.size D8 := Nat.lt_trans (Heap.lt_size hbk) hD8
          have F8 := fr_kp F6 hk8
          clear F6 N6
          have hJ3 : StrsAre zs (nms.filter fun nm => nm == Str.ofString "" || nm == Txt.slice f (some 5) (some (-5))) := by
            have h0 : nms.take vs.toArray.size = nms := List.take_of_length_le (by rw [List.size_toArray, strs_len hvs]; exact Nat.le_refl _)
            rw [← h0]; exact hJ2
          (repeat' (first | (k_unfold; (try dsimp only)) | ((fail_if_success ((first | (first | (with_reducible show Exists _) | (with_reducible show wpAny _ _ (eval (PySem.Expr.IfExp _ _ _ _) _) _ _ _) | (with_reducible show ValAt _ _ _ _ _ _ _ _) | (with_reducible show wpAny _ _ (binaryOp _ (Value.ref _) (Value.ref _)) _ _ _) | (with_reducible show wpAny _ _ (compareOp CmpOp.NotEq (Value.ref _) (Value.ref _)) _ _ _) | (with_reducible show wpAny _ _ (newList [Value.str _ _, Value.str _ _]) _ _ _) | (with_reducible show wpAny _ _ (subscriptTail _ (PySem.Expr.Slice (some _) (some _) _ _) (Value.str _ _) (Value.ref _)) _ _ _) | (with_reducible show wpAny _ _ (compareOp CmpOp.In (Value.str _ _) (Value.ref _)) _ _ _) | (with_reducible show wpAny _ _ (compareOp CmpOp.NotIn (Value.str _ _) (Value.ref _)) _ _ _) | (with_reducible show wpAny _ _ (setItem (Value.ref _) (Value.str _ _) _) _ _ _) | (with_reducible show wpAny _ _ (getItem (Value.ref _) (Value.str _ _)) _ _ _) | (with_reducible show wpAny _ _ (subscriptTail _ _ (Value.ref _) (Value.str _ _)) _ _ _)) | (first | (with_reducible show wpAny _ _ (eval (PySem.Expr.ListComp _ _ _ _) _) _ _ _) | (with_reducible show wpAny _ _ (exec (PySem.Stmt.Assign _ (PySem.Expr.ListComp _ _ _ _) _) _) _ _ _) | (with_reducible show wpAny _ _ (exec (PySem.Stmt.While _ _ _ _) _) _ _ _) | (with_reducible show wpAny _ _ (exec (PySem.Stmt.For _ _ _ _ _) _) _ _ _) | (with_reducible show wpAny _ _ (exec (PySem.Stmt.Assign [PySem.Expr.Name (PySem.Str.ofString "sign") _] _ _) _) _ _ _) | (with_reducible show wpAny _ _ (eval (PySem.Expr.GeneratorExp _ _ _ _) _) _ _ _) | (with_reducible show CompAt _ _ _ _ _ _ _ _ _ _ _ _ _ _ _ _) | (with_reducible show ForAt _ _ _ _ _ _ _ _ _ _) | (with_reducible show Kp _ _ _ ∧ _) | (with_reducible show wpAny _ _ (PySem.call (Value.ref _) _ _) _ _ _))))); (first | ((with_reducible show ite _ _ _); first | (refine PySem.W.ite_pos (by with_reducible assumption) ?_) | (refine PySem.W.ite_neg (by with_reducible assumption) ?_)) | walk1 | (dsimp only; walk1)))))
          rename Fr _ _ _ _ => F9
          rename News _ _ _ _ => N9
          k_dflt (refine ne_nil (list_of_get (N9.get (by k_mem))) (list_of_get (N9.get (.head _))) (by show un + 3 < cLine; omega) ?_)
          rw [zs_empty hJ3]
          have hdd : dueA nms q.1 = ((Txt.slice f none (some 5) == Str.ofString "/opt/") && (nms.any fun nm => nm == Str.ofString "" || nm == Txt.slice f (some 5) (some (-5)))) := by rw [hq1]; rfl
          generalize (nms.any fun nm => nm == Str.ofString "" || nm == Txt.slice f (some 5) (some (-5))) = b at hdd ⊢
          revert b
          refine barrier ?_
          intro b hdd
          (repeat' (first | (k_unfold; (try dsimp only)) | ((fail_if_success ((first | (first | (with_reducible show Exists _) | (with_reducible show wpAny _ _ (eval (PySem.Expr.IfExp _ _ _ _) _) _ _ _) | (with_reducible show ValAt _ _ _ _ _ _ _ _) | (with_reducible show wpAny _ _ (binaryOp _ (Value.ref _) (Value.ref _)) _ _ _) | (with_reducible show wpAny _ _ (compareOp CmpOp.NotEq (Value.ref _) (Value.ref _)) _ _ _) | (with_reducible show wpAny _ _ (newList [Value.str _ _, Value.str _ _]) _ _ _) | (with_reducible show wpAny _ _ (subscriptTail _ (PySem.Expr.Slice (some _) (some _) _ _) (Value.str _ _) (Value.ref _)) _ _ _) | (with_reducible show wpAny _ _ (compareOp CmpOp.In (Value.str _ _) (Value.ref _)) _ _ _) | (with_reducible show wpAny _ _ (compareOp CmpOp.NotIn (Value.str _ _) (Value.ref _)) _ _ _) | (with_reducible show wpAny _ _ (setItem (Value.ref _) (Value.str _ _) _) _ _ _) | (with_reducible show wpAny _ _ (getItem (Value.ref _) (Value.str _ _)) _ _ _) | (with_reducible show wpAny _ _ (subscriptTail _ _ (Value.ref _) (Value.str _ _)) _ _ _)) | (first | (with_reducible show wpAny _ _ (eval (PySem.Expr.ListComp _ _ _ _) _) _ _ _) | (with_reducible show wpAny _ _ (exec (PySem.Stmt.Assign _ (PySem.Expr.ListComp _ _ _ _) _) _) _ _ _) | (with_reducible show wpAny _ _ (exec (PySem.Stmt.While _ _ _ _) _) _ _ _) | (with_reducible show wpAny _ _ (exec (PySem.Stmt.For _ _ _ _ _) _) _ _ _) | (with_reducible show wpAny _ _ (exec (PySem.Stmt.Assign [PySem.Expr.Name (PySem.Str.ofString "sign") _] _ _) _) _ _ _) | (with_reducible show wpAny _ _ (eval (PySem.Expr.GeneratorExp _ _ _ _) _) _ _ _) | (with_reducible show CompAt _ _ _ _ _ _ _ _ _ _ _ _ _ _ _ _) | (with_reducible show ForAt _ _ _ _ _ _ _ _ _ _) | (with_reducible show Kp _ _ _ ∧ _) | (with_reducible show wpAny _ _ (PySem.call (Value.ref _) _ _) _ _ _))))); (first | ((with_reducible show ite _ _ _); first | (refine PySem.W.ite_pos (by with_reducible assumption) ?_) | (refine PySem.W.ite_neg (by with_reducible assumption) ?_)) | walk1 | (dsimp only; walk1)))))
          rename Fr _ _ _ _ => F8
          rename News _ _ _ _ => N8
          k_dflt (refine cut_val F8 N8 (if dueA nms q.1 = true then 1 else 0) ?_ ?_)
          · clear fin
            rw [hdd]
            k_dflt (refine nameQ ?_)
            intro Q8 hQ8
            cases b with
            | true =>
              walk1
              (repeat' (first | (k_unfold; (try dsimp only)) | ((fail_if_success ((first | (first | (with_reducible show Exists _) | (with_reducible show wpAny _ _ (eval (PySem.Expr.IfExp _ _ _ _) _) _ _ _) | (with_reducible show ValAt _ _ _ _ _ _ _ _) | (with_reducible show wpAny _ _ (binaryOp _ (Value.ref _) (Value.ref _)) _ _ _) | (with_reducible show wpAny _ _ (compareOp CmpOp.NotEq (Value.ref _) (Value.ref _)) _ _ _) | (with_reducible show wpAny _ _ (newList [Value.str _ _, Value.str _ _]) _ _ _) | (with_reducible show wpAny _ _ (subscriptTail _ (PySem.Expr.Slice (some _) (some _) _ _) (Value.str _ _) (Value.ref _)) _ _ _) | (with_reducible show wpAny _ _ (compareOp CmpOp.In (Value.str _ _) (Value.ref _)) _ _ _) | (with_reducible show wpAny _ _ (compareOp CmpOp.NotIn (Value.str _ _) (Value.ref _)) _ _ _) | (with_reducible show wpAny _ _ (setItem (Value.ref _) (Value.str _ _) _) _ _ _) | (with_reducible show wpAny _ _ (getItem (Value.ref _) (Value.str _ _)) _ _ _) | (with_reducible show wpAny _ _ (subscriptTail _ _ (Value.ref _) (Value.str _ _)) _ _ _)) | (first | (with_reducible show wpAny _ _ (eval (PySem.Expr.ListComp _ _ _ _) _) _ _ _) | (with_reducible show wpAny _ _ (exec (PySem.Stmt.Assign _ (PySem.Expr.ListComp _ _ _ _) _) _) _ _ _) | (with_reducible show wpAny _ _ (exec (PySem.Stmt.While _ _ _ _) _) _ _ _) | (with_reducible show wpAny _ _ (exec (PySem.Stmt.For _ _ _ _ _) _) _ _ _) | (with_reducible show wpAny _ _ (exec (PySem.Stmt.Assign [PySem.Expr.Name (PySem.Str.ofString "sign") _] _ _) _) _ _ _) | (with_reducible show wpAny _ _ (eval (PySem.Expr.GeneratorExp _ _ _ _) _) _ _ _) | (with_reducible show CompAt _ _ _ _ _ _ _ _ _ _ _ _ _ _ _ _) | (with_reducible show ForAt _ _ _ _ _ _ _ _ _ _) | (with_reducible show Kp _ _ _ ∧ _) | (with_reducible show wpAny _ _ (PySem.call (Value.ref _) _ _) _ _ _))))); (first | ((with_reducible show ite _ _ _); first | (refine PySem.W.ite_pos (by with_reducible assumption) ?_) | (refine PySem.W.ite_neg (by with_reducible assumption) ?_)) | walk1 | (dsimp only; walk1)))))
              · rename (Txt.slice f none (some 5) == Str.ofString "/opt/") = true => hs5
                rename Fr _ _ _ _ => F9
                rename News _ _ _ _ => N9
                exact hQ8 _ _ ⟨_, _, _, by rw [hs5]; rfl, rfl, F9, N9⟩
              · rename (Txt.slice f none (some 5) == Str.ofString "/opt/") = false => hs5
                rename Fr _ _ _ _ => F9
                rename News _ _ _ _ => N9
                exact hQ8 _ _ ⟨_, _, _, by rw [hs5]; rfl, rfl, F9, N9⟩
            | false =>
              walk1
              (repeat' (first | (k_unfold; (try dsimp only)) | ((fail_if_success ((first | (first | (with_reducible show Exists _) | (with_reducible show wpAny _ _ (eval (PySem.Expr.IfExp _ _ _ _) _) _ _ _) | (with_reducible show ValAt _ _ _ _ _ _ _ _) | (with_reducible show wpAny _ _ (binaryOp _ (Value.ref _) (Value.ref _)) _ _ _) | (with_reducible show wpAny _ _ (compareOp CmpOp.NotEq (Value.ref _) (Value.ref _)) _ _ _) | (with_reducible show wpAny _ _ (newList [Value.str _ _, Value.str _ _]) _ _ _) | (with_reducible show wpAny _ _ (subscriptTail _ (PySem.Expr.Slice (some _) (some _) _ _) (Value.str _ _) (Value.ref _)) _ _ _) | (with_reducible show wpAny _ _ (compareOp CmpOp.In (Value.str _ _) (Value.ref _)) _ _ _) | (with_reducible show wpAny _ _ (compareOp CmpOp.NotIn (Value.str _ _) (Value.ref _)) _ _ _) | (with_reducible show wpAny _ _ (setItem (Value.ref _) (Value.str _ _) _) _ _ _) | (with_reducible show wpAny _ _ (getItem (Value.ref _) (Value.str _ _)) _ _ _) | (with_reducible show wpAny _ _ (subscriptTail _ _ (Value.ref _) (Value.str _ _)) _ _ _)) | (first | (with_reducible show wpAny _ _ (eval (PySem.Expr.ListComp _ _ _ _) _) _ _ _) | (with_reducible show wpAny _ _ (exec (PySem.Stmt.Assign _ (PySem.Expr.ListComp _ _ _ _) _) _) _ _ _) | (with_reducible show wpAny _ _ (exec (PySem.Stmt.While _ _ _ _) _) _ _ _) | (with_reducible show wpAny _ _ (exec (PySem.Stmt.For _ _ _ _ _) _) _ _ _) | (with_reducible show wpAny _ _ (exec (PySem.Stmt.Assign [PySem.Expr.Name (PySem.Str.ofString "sign") _] _ _) _) _ _ _) | (with_reducible show wpAny _ _ (eval (PySem.Expr.GeneratorExp _ _ _ _) _) _ _ _) | (with_reducible show CompAt _ _ _ _ _ _ _ _ _ _ _ _ _ _ _ _) | (with_reducible show ForAt _ _ _ _ _ _ _ _ _ _) | (with_reducible show Kp _ _ _ ∧ _) | (with_reducible show wpAny _ _ (PySem.call (Value.ref _) _ _) _ _ _))))); (first | ((with_reducible show ite _ _ _); first | (refine PySem.W.ite_pos (by with_reducible assumption) ?_) | (refine PySem.W.ite_neg (by with_reducible assumption) ?_)) | walk1 | (dsimp only; walk1)))))
              · rename (Txt.slice f none (some 5) == Str.ofString "/opt/") = true => hs5
                rename Fr _ _ _ _ => F9
                rename News _ _ _ _ => N9
                exact hQ8 _ _ ⟨_, _, _, by rw [hs5]; rfl, rfl, F9, N9⟩
              · rename (Txt.slice f none (some 5) == Str.ofString "/opt/") = false => hs5
                rename Fr _ _ _ _ => F9
                rename News _ _ _ _ => N9
                exact hQ8 _ _ ⟨_, _, _, by rw [hs5]; rfl, rfl, F9, N9⟩
          intro t8 tk8b h8b F8 N8
          (repeat' (first | (k_unfold; (try dsimp only)) | ((fail_if_success ((first | (first | (with_reducible show Exists _) | (with_reducible show wpAny _ _ (eval (PySem.Expr.IfExp _ _ _ _) _) _ _ _) | (with_reducible show ValAt _ _ _ _ _ _ _ _) | (with_reducible show wpAny _ _ (binaryOp _ (Value.ref _) (Value.ref _)) _ _ _) | (with_reducible show wpAny _ _ (compareOp CmpOp.NotEq (Value.ref _) (Value.ref _)) _ _ _) | (with_reducible show wpAny _ _ (newList [Value.str _ _, Value.str _ _]) _ _ _) | (with_reducible show wpAny _ _ (subscriptTail _ (PySem.Expr.Slice (some _) (some _) _ _) (Value.str _ _) (Value.ref _)) _ _ _) | (with_reducible show wpAny _ _ (compareOp CmpOp.In (Value.str _ _) (Value.ref _)) _ _ _) | (with_reducible show wpAny _ _ (compareOp CmpOp.NotIn (Value.str _ _) (Value.ref _)) _ _ _) | (with_reducible show wpAny _ _ (setItem (Value.ref _) (Value.str _ _) _) _ _ _) | (with_reducible show wpAny _ _ (getItem (Value.ref _) (Value.str _ _)) _ _ _) | (with_reducible show wpAny _ _ (subscriptTail _ _ (Value.ref _) (Value.str _ _)) _ _ _)) | (first | (with_reducible show wpAny _ _ (eval (PySem.Expr.ListComp _ _ _ _) _) _ _ _) | (with_reducible show wpAny _ _ (exec (PySem.Stmt.Assign _ (PySem.Expr.ListComp _ _ _ _) _) _) _ _ _) | (with_reducible show wpAny _ _ (exec (PySem.Stmt.While _ _ _ _) _) _ _ _) | (with_reducible show wpAny _ _ (exec (PySem.Stmt.For _ _ _ _ _) _) _ _ _) | (with_reducible show wpAny _ _ (exec (PySem.Stmt.Assign [PySem.Expr.Name (PySem.Str.ofString "sign") _] _ _) _) _ _ _) | (with_reducible show wpAny _ _ (eval (PySem.Expr.GeneratorExp _ _ _ _) _) _ _ _) | (with_reducible show CompAt _ _ _ _ _ _ _ _ _ _ _ _ _ _ _ _) | (with_reducible show ForAt _ _ _ _ _ _ _ _ _ _) | (with_reducible show Kp _ _ _ ∧ _) | (with_reducible show wpAny _ _ (PySem.call (Value.ref _) _ _) _ _ _))))); (first | ((with_reducible show ite _ _ _); first | (refine PySem.W.ite_pos (by with_reducible assumption) ?_) | (refine PySem.W.ite_neg (by with_reducible assumption) ?_)) | walk1 | (dsimp only; walk1)))))
          rename Fr _ _ _ _ => F8
          rename News _ _ _ _ => N8
          k_dflt (refine kdp_setItem F8 N8 (by k_updF) hdB hfB (Nat.le_trans hcl (by decide)) ?_)
          intro h9 o9 kvs9 F9 N9 hd9 hf9
          clear F8 N8
          (repeat' (first | (k_unfold; (try dsimp only)) | ((fail_if_success ((first | (first | (with_reducible show Exists _) | (with_reducible show wpAny _ _ (eval (PySem.Expr.IfExp _ _ _ _) _) _ _ _) | (with_reducible show ValAt _ _ _ _ _ _ _ _) | (with_reducible show wpAny _ _ (binaryOp _ (Value.ref _) (Value.ref _)) _ _ _) | (with_reducible show wpAny _ _ (compareOp CmpOp.NotEq (Value.ref _) (Value.ref _)) _ _ _) | (with_reducible show wpAny _ _ (newList [Value.str _ _, Value.str _ _]) _ _ _) | (with_reducible show wpAny _ _ (subscriptTail _ (PySem.Expr.Slice (some _) (some _) _ _) (Value.str _ _) (Value.ref _)) _ _ _) | (with_reducible show wpAny _ _ (compareOp CmpOp.In (Value.str _ _) (Value.ref _)) _ _ _) | (with_reducible show wpAny _ _ (compareOp CmpOp.NotIn (Value.str _ _) (Value.ref _)) _ _ _) | (with_reducible show wpAny _ _ (setItem (Value.ref _) (Value.str _ _) _) _ _ _) | (with_reducible show wpAny _ _ (getItem (Value.ref _) (Value.str _ _)) _ _ _) | (with_reducible show wpAny _ _ (subscriptTail _ _ (Value.ref _) (Value.str _ _)) _ _ _)) | (first | (with_reducible show wpAny _ _ (eval (PySem.Expr.ListComp _ _ _ _) _) _ _ _) | (with_reducible show wpAny _ _ (exec (PySem.Stmt.Assign _ (PySem.Expr.ListComp _ _ _ _) _) _) _ _ _) | (with_reducible show wpAny _ _ (exec (PySem.Stmt.While _ _ _ _) _) _ _ _) | (with_reducible show wpAny _ _ (exec (PySem.Stmt.For _ _ _ _ _) _) _ _ _) | (with_reducible show wpAny _ _ (exec (PySem.Stmt.Assign [PySem.Expr.Name (PySem.Str.ofString "sign") _] _ _) _) _ _ _) | (with_reducible show wpAny _ _ (eval (PySem.Expr.GeneratorExp _ _ _ _) _) _ _ _) | (with_reducible show CompAt _ _ _ _ _ _ _ _ _ _ _ _ _ _ _ _) | (with_reducible show ForAt _ _ _ _ _ _ _ _ _ _) | (with_reducible show Kp _ _ _ ∧ _) | (with_reducible show wpAny _ _ (PySem.call (Value.ref _) _ _) _ _ _))))); (first | ((with_reducible show ite _ _ _); first | (refine PySem.W.ite_pos (by with_reducible assumption) ?_) | (refine PySem.W.ite_neg (by with_reducible assumption) ?_)) | walk1 | (dsimp only; walk1)))))
          k_dflt (refine kba_turn (value' := PySem.Expr.Name (PySem.Str.ofString "_") ⟨0, 0, 0, 0⟩) (fun _ => rfl) ?_)
          k_dflt (refine kdp_item (tab_of N9 (by k_mem) hd9 hf9 lo2) (kdpHas_put _ _ _) ?_)
          rw [kdpLook_put hb]
          intro t4
          (repeat' (first | (k_unfold; (try dsimp only)) | ((fail_if_success ((first | (first | (with_reducible show Exists _) | (with_reducible show wpAny _ _ (eval (PySem.Expr.IfExp _ _ _ _) _) _ _ _) | (with_reducible show ValAt _ _ _ _ _ _ _ _) | (with_reducible show wpAny _ _ (binaryOp _ (Value.ref _) (Value.ref _)) _ _ _) | (with_reducible show wpAny _ _ (compareOp CmpOp.NotEq (Value.ref _) (Value.ref _)) _ _ _) | (with_reducible show wpAny _ _ (newList [Value.str _ _, Value.str _ _]) _ _ _) | (with_reducible show wpAny _ _ (subscriptTail _ (PySem.Expr.Slice (some _) (some _) _ _) (Value.str _ _) (Value.ref _)) _ _ _) | (with_reducible show wpAny _ _ (compareOp CmpOp.In (Value.str _ _) (Value.ref _)) _ _ _) | (with_reducible show wpAny _ _ (compareOp CmpOp.NotIn (Value.str _ _) (Value.ref _)) _ _ _) | (with_reducible show wpAny _ _ (setItem (Value.ref _) (Value.str _ _) _) _ _ _) | (with_reducible show wpAny _ _ (getItem (Value.ref _) (Value.str _ _)) _ _ _) | (with_reducible show wpAny _ _ (subscriptTail _ _ (Value.ref _) (Value.str _ _)) _ _ _)) | (first | (with_reducible show wpAny _ _ (eval (PySem.Expr.ListComp _ _ _ _) _) _ _ _) | (with_reducible show wpAny _ _ (exec (PySem.Stmt.Assign _ (PySem.Expr.ListComp _ _ _ _) _) _) _ _ _) | (with_reducible show wpAny _ _ (exec (PySem.Stmt.While _ _ _ _) _) _ _ _) | (with_reducible show wpAny _ _ (exec (PySem.Stmt.For _ _ _ _ _) _) _ _ _) | (with_reducible show wpAny _ _ (exec (PySem.Stmt.Assign [PySem.Expr.Name (PySem.Str.ofString "sign") _] _ _) _) _ _ _) | (with_reducible show wpAny _ _ (eval (PySem.Expr.GeneratorExp _ _ _ _) _) _ _ _) | (with_reducible show CompAt _ _ _ _ _ _ _ _ _ _ _ _ _ _ _ _) | (with_reducible show ForAt _ _ _ _ _ _ _ _ _ _) | (with_reducible show Kp _ _ _ ∧ _) | (with_reducible show wpAny _ _ (PySem.call (Value.ref _) _ _) _ _ _))))); (first | ((with_reducible show ite _ _ _); first | (refine PySem.W.ite_pos (by with_reducible assumption) ?_) | (refine PySem.W.ite_neg (by with_reducible assumption) ?_)) | walk1 | (dsimp only; walk1)))))
          rename Fr _ _ _ _ => F10
          rename News _ _ _ _ => N10
          k_dflt (refine kmk_add_ints F10 N10 (list_of_get (N10.get (by k_mem : (ld, W.listOf (List.toArray ys) n) ∈ _))) (list_of_get (N10.get (.head _))) hJ (.cons _ _ .nil) ?_ (by rw [runQ_len1, List.length_take]; exact Nat.le_trans (by simp only [List.length_cons, List.length_nil]; omega : _ ≤ 600) (by decide)))
          intro D9 us h9 F11 N11 l9 hI9
          clear F10 N10
          (repeat' (first | (k_unfold; (try dsimp only)) | ((fail_if_success ((first | (first | (with_reducible show Exists _) | (with_reducible show wpAny _ _ (eval (PySem.Expr.IfExp _ _ _ _) _) _ _ _) | (with_reducible show ValAt _ _ _ _ _ _ _ _) | (with_reducible show wpAny _ _ (binaryOp _ (Value.ref _) (Value.ref _)) _ _ _) | (with_reducible show wpAny _ _ (compareOp CmpOp.NotEq (Value.ref _) (Value.ref _)) _ _ _) | (with_reducible show wpAny _ _ (newList [Value.str _ _, Value.str _ _]) _ _ _) | (with_reducible show wpAny _ _ (subscriptTail _ (PySem.Expr.Slice (some _) (some _) _ _) (Value.str _ _) (Value.ref _)) _ _ _) | (with_reducible show wpAny _ _ (compareOp CmpOp.In (Value.str _ _) (Value.ref _)) _ _ _) | (with_reducible show wpAny _ _ (compareOp CmpOp.NotIn (Value.str _ _) (Value.ref _)) _ _ _) | (with_reducible show wpAny _ _ (setItem (Value.ref _) (Value.str _ _) _) _ _ _) | (with_reducible show wpAny _ _ (getItem (Value.ref _) (Value.str _ _)) _ _ _) | (with_reducible show wpAny _ _ (subscriptTail _ _ (Value.ref _) (Value.str _ _)) _ _ _)) | (first | (with_reducible show wpAny _ _ (eval (PySem.Expr.ListComp _ _ _ _) _) _ _ _) | (with_reducible show wpAny _ _ (exec (PySem.Stmt.Assign _ (PySem.Expr.ListComp _ _ _ _) _) _) _ _ _) | (with_reducible show wpAny _ _ (exec (PySem.Stmt.While _ _ _ _) _) _ _ _) | (with_reducible show wpAny _ _ (exec (PySem.Stmt.For _ _ _ _ _) _) _ _ _) | (with_reducible show wpAny _ _ (exec (PySem.Stmt.Assign [PySem.Expr.Name (PySem.Str.ofString "sign") _] _ _) _) _ _ _) | (with_reducible show wpAny _ _ (eval (PySem.Expr.GeneratorExp _ _ _ _) _) _ _ _) | (with_reducible show CompAt _ _ _ _ _ _ _ _ _ _ _ _ _ _ _ _) | (with_reducible show ForAt _ _ _ _ _ _ _ _ _ _) | (with_reducible show Kp _ _ _ ∧ _) | (with_reducible show wpAny _ _ (PySem.call (Value.ref _) _ _) _ _ _))))); (first | ((with_reducible show ite _ _ _); first | (refine PySem.W.ite_pos (by with_reducible assumption) ?_) | (refine PySem.W.ite_neg (by with_reducible assumption) ?_)) | walk1 | (dsimp only; walk1)))))
          rename Fr _ _ _ _ => F12
          rename News _ _ _ _ => N12
          refine hQ7 _ _ (fin _ _ _ _ _ (some (.bool b)) D9 us F12 ?_ (N12.get (by k_mem)) (N12.get (by k_mem)) (N12.get (by k_mem)) (N12.get (by k_mem)) (N12.get (by k_mem)) (N12.fresh (by k_mem : (D9, _) ∈ _)) ?_ ?_ (N12.get (by k_mem)) hd9 hf9 hI9)
          · ((intro y; (by_cases e1 : y = Str.ofString "below"); (subst e1; rfl); (by_cases e2 : y = Str.ofString "module"); (subst e2; rfl); (by_cases e3 : y = Str.ofString "book"); (subst e3; rfl); (by_cases e4 : y = Str.ofString "due"); (subst e4; rfl); simp only [e1, e2, e3, e4, if_false]))
          · exact l9 (h3.objs.size, oIt) (by k_mem)
          · exact l9 (h'.objs.size, o9) (by k_mem)
  · rintro m s' ⟨ld, ys, n, oB, kvs, bv, mv, hgk, hDk, hAk, rfl, hl5, hl6, hgl, hld, hJ, hbk, hdB, hfB, h7, tk7, rfl⟩ hn7
    have F7 : Fr g L' h7 _ := ⟨hn7, hgk, F3.above⟩
    have N7 : News g L' h7 [] := News.nil
    clear F3 N3
    dsimp only
    (show wpAny _ _ _ _ _ _); (try k_fold)
    (repeat' (first | (k_unfold; (try dsimp only)) | ((fail_if_success ((first | (first | (with_reducible show Exists _) | (with_reducible show wpAny _ _ (eval (PySem.Expr.IfExp _ _ _ _) _) _ _ _) | (with_reducible show ValAt _ _ _ _ _ _ _ _) | (with_reducible show wpAny _ _ (binaryOp _ (Value.ref _) (Value.ref _)) _ _ _) | (with_reducible show wpAny _ _ (compareOp CmpOp.NotEq (Value.ref _) (Value.ref _)) _ _ _) | (with_reducible show wpAny _ _ (newList [Value.str _ _, Value.str _ _]) _ _ _) | (with_reducible show wpAny _ _ (subscriptTail _ (PySem.Expr.Slice (some _) (some _) _ _) (Value.str _ _) (Value.ref _)) _ _ _) | (with_reducible show wpAny _ _ (compareOp CmpOp.In (Value.str _ _) (Value.ref _)) _ _ _) | (with_reducible show wpAny _ _ (compareOp CmpOp.NotIn (Value.str _ _) (Value.ref _)) _ _ _) | (with_reducible show wpAny _ _ (setItem (Value.ref _) (Value.str _ _) _) _ _ _) | (with_reducible show wpAny _ _ (getItem (Value.ref _) (Value.str _ _)) _ _ _) | (with_reducible show wpAny _ _ (subscriptTail _ _ (Value.ref _) (Value.str _ _)) _ _ _)) | (first | (with_reducible show wpAny _ _ (eval (PySem.Expr.ListComp _ _ _ _) _) _ _ _) | (with_reducible show wpAny _ _ (exec (PySem.Stmt.Assign _ (PySem.Expr.ListComp _ _ _ _) _) _) _ _ _) | (with_reducible show wpAny _ _ (exec (PySem.Stmt.While _ _ _ _) _) _ _ _) | (with_reducible show wpAny _ _ (exec (PySem.Stmt.For _ _ _ _ _) _) _ _ _) | (with_reducible show wpAny _ _ (exec (PySem.Stmt.Assign [PySem.Expr.Name (PySem.Str.ofString "sign") _] _ _) _) _ _ _) | (with_reducible show wpAny _ _ (eval (PySem.Expr.GeneratorExp _ _ _ _) _) _ _ _) | (with_reducible show CompAt _ _ _ _ _ _ _ _ _ _ _ _ _ _ _ _) | (with_reducible show ForAt _ _ _ _ _ _ _ _ _ _) | (with_reducible show Kp _ _ _ ∧ _) | (with_reducible show wpAny _ _ (PySem.call (Value.ref _) _ _) _ _ _))))); (first | ((with_reducible show ite _ _ _); first | (refine PySem.W.ite_pos (by with_reducible assumption) ?_) | (refine PySem.W.ite_neg (by with_reducible assumption) ?_)) | walk1 | (dsimp only; walk1)))))
    have hJ' : IntsAre ys (runQ (dueA nms) qs).1 := by
      have : qs.take asks.toArray.size = qs := List.take_of_length_le (by rw [List.size_toArray, hal]; exact Nat.le_refl _)
      rw [← this]; exact hJ
    refine hQ ld ys n h7 tk7 (Kp.of fun b o e => ?_) (Heap.get?_none_of_le (by omega)) hld hJ'
    by_cases q1 : b = D
    · rw [q1] at e ⊢
      rw [(N (D, _) (.head _)).1] at e; cases e; exact hDk
    · by_cases q2 : b = As
      · rw [q2] at e ⊢
        rw [(N (As, _) (.tail _ (.head _))).1] at e; cases e; exact hAk
      · exact hgk b o (by rw [eg]; exact hideAll_get _ e (by simpa using ⟨q1, q2⟩))
end
section
theorem ld_builtR {M : Model} {A : Around} {E : Value → Shared → Prop} {s : Shared} {K : Frag} {h₀ : Heap} {L C : Addr} {m mg mb : Str → Option Value} {p : Program} {loose : List Str} {scope : Scope} {cl : List (Str × Addr)} {env : Env} {x : Str} {pos : Pos} {v : Value} {Q : Value → Shared → Prop}
    (F : Fr h₀ L s.heap m) (X : K.In h₀) (T : TopRead p loose mg mb h₀) (e : nsIn K mainGlobals x = some none) (hv : bootBuiltins x = some v) (hn : x ≠ "__name__") (h : Q v s) (hg : env.globals = mainGlobals := by rfl) (hb : env.builtins = builtinsNs := by rfl)
    (hk : (compEnvC scope cl C env).scope.kind = .function := by rfl) (hx : (compEnvC scope cl C env).kindOf x = some .globalImplicit := by rfl) (hd : (x == ("__debug__" : Str)) = false := by decide) :
    wpAny M A (eval (.Name x pos) (compEnvC scope cl C env)) Q E s :=
  Name_function_global hk hx (loadGlobal_builtin (env := compEnvC scope cl C env) (show s.heap.Ns env.globals mg from hg ▸ (T.keeps F.keep).g) (mg_none_of X T.g e) (show s.heap.Ns env.builtins mb from hb ▸ (T.keeps F.keep).b) ((T.builtins x hn).trans hv) h) hd
theorem rm (k : Nat) {dp n R : Nat} (h : dp + n < R) (hk : k + 1 ≤ n) : dp + 1 + k < R := by omega
theorem um (k : Nat) {un n R : Nat} (h : un + n < R) (hk : k ≤ n) : un + k < R := by omega
theorem small8 {n : Nat} (h : n ≤ 8) : Builtin.Range.small 0 (n : Int) 1 = true := small_one (by decide) (by decide) (by omega) (by omega)
theorem size8 {n : Nat} : Builtin.Range.rangeSize 0 (n : Int) 1 = ((n : Nat) : Int) := by rw [rangeSize_nat]; omega
theorem lt63 {n : Nat} (h : n ≤ 20) : (n : Int) < 2 ^ 63 := by omega
theorem ge63 (n : Nat) : -(2 ^ 63 : Int) ≤ (n : Int) := by omega
theorem mod5_len : ∀ j : Nat, j < 8 → (Str.ofString "m" ++ Str.ofString (toString ((j : Int).fmod 5))).length ≤ 100 := by decide +kernel
theorem mod6_len : ∀ j : Nat, j < 8 → (Str.ofString "n" ++ Str.ofString (toString ((j : Int).fmod 6))).length ≤ 100 := by decide +kernel
theorem strs_app : ∀ {vs us : List Value} {a b : List Str}, StrsAre vs a → StrsAre us b → StrsAre (vs ++ us) (a ++ b)
  | _, _, _, _, .nil, h => h
  | _, _, _, _, .cons z u r, h => .cons z u (strs_app r h)
theorem lens_snoc {ms : List Str} {x : Str} (h : ∀ m ∈ ms, m.length ≤ 100) (hx : x.length ≤ 100) : ∀ m ∈ ms ++ [x], m.length ≤ 100 := by
  intro m hm
  rcases List.mem_append.mp hm with q | q
  · exact h m q
  · rw [List.mem_singleton.mp q]; exact hx
/-- the tuples that a list refers to, as a ledger -/
noncomputable def tupL (h : Heap) (acc : List Value) : List (Addr × Obj) := acc.filterMap fun v => match v with
  | .ref T => (h.get? T).map fun o => (T, o)
  | _ => none
theorem tupL_mem {h : Heap} {acc : List Value} {T : Addr} {o : Obj} (hm : .ref T ∈ acc) (e : h.get? T = some o) : (T, o) ∈ tupL h acc := by
  unfold tupL
  refine List.mem_filterMap.mpr ⟨.ref T, hm, ?_⟩
  show (h.get? T).map _ = _
  rw [e]; rfl
theorem tupL_of {h : Heap} {acc : List Value} {p : Addr × Obj} (hp : p ∈ tupL h acc) : .ref p.1 ∈ acc ∧ h.get? p.1 = some p.2 := by
  unfold tupL at hp
  obtain ⟨v, hv, e⟩ := List.mem_filterMap.mp hp
  cases v <;> first | (cases e; done) | skip
  rename_i T
  have e' : (h.get? T).map (fun o => (T, o)) = some p := e
  cases q : h.get? T with
  | none => rw [q] at e'; cases e'
  | some o => rw [q] at e'; cases e'; exact ⟨hv, q⟩
noncomputable def qsOf (ft mt : List Str) (f1 : Str) : List (Option Str × Str) := (ft.zip mt).map (fun p => (some p.1, p.2)) ++ [(some f1, Str.ofString "<string>"), (none, Str.ofString "o"), (some (Str.ofString "/opt.py"), Str.ofString "p")]
theorem strs_put {a : Str} : ∀ {vs : List Value} {ss : List Str} {i : Nat}, StrsAre vs ss → ss[i]? = some a → ∃ t, vs[i]? = some (.str a t)
  | _, _, _, .nil, h => by simp at h
  | _, _, 0, .cons y t _, h => by simp at h; subst h; exact ⟨t, by simp⟩
  | _, _, i + 1, .cons y t r, h => by
    obtain ⟨t', e⟩ := strs_put (i := i) r (by simpa using h)
    exact ⟨t', by simpa using e⟩
theorem asks_ok {h : Heap} {fv mo : List Value} {ft mt : List Str} {acc : List Value} {tl : List (Addr × Obj)} {T1 T2 T3 : Addr} {f1 : Str} {a1 a2 a3 a4 a5 : Tok} (hf : StrsAre fv ft) (hm : StrsAre mo mt) (hfl : ft.length = mt.length) (hal : acc.length = ft.length)
    (ht1 : ∀ (j : Nat) x y, fv[j]? = some x → mo[j]? = some y → ∃ T, acc[j]? = some (.ref T) ∧ (T, ({ cls := .type "tuple", data := .seq #[x, y] } : Obj)) ∈ tl)
    (N : ∀ p ∈ tl, h.get? p.1 = some p.2)
    (g1 : h.get? T1 = some { cls := .type "tuple", data := .seq #[.str f1 a1, .str (Str.ofString "<string>") a2] })
    (g2 : h.get? T2 = some { cls := .type "tuple", data := .seq #[.none, .str (Str.ofString "o") a3] })
    (g3 : h.get? T3 = some { cls := .type "tuple", data := .seq #[.str (Str.ofString "/opt.py") a4, .str (Str.ofString "p") a5] }) :
    ∀ (i : Nat) v q, (acc ++ [.ref T1, .ref T2, .ref T3])[i]? = some v → (qsOf ft mt f1)[i]? = some q → AskIs h v q := by
  intro i v q hv hq
  unfold qsOf at hq
  have hzl : ((ft.zip mt).map (fun p => ((some p.1, p.2) : Option Str × Str))).length = acc.length := by
    rw [List.length_map, List.length_zip, ← hfl, Nat.min_self, hal]
  by_cases hi : i < acc.length
  · rw [List.getElem?_append_left hi] at hv
    rw [List.getElem?_append_left (by rw [hzl]; exact hi), List.getElem?_map] at hq
    have ea : ft[i]? = some (ft[i]'(by omega)) := List.getElem?_eq_getElem _
    have eb : mt[i]? = some (mt[i]'(by omega)) := List.getElem?_eq_getElem _
    obtain ⟨ta, ha⟩ := strs_put hf ea
    obtain ⟨tb, hb⟩ := strs_put hm eb
    obtain ⟨T, b1, b2⟩ := ht1 i _ _ ha hb
    rw [b1] at hv
    cases hv
    have ez : (ft.zip mt)[i]? = some (ft[i]'(by omega), mt[i]'(by omega)) := by
      rw [List.getElem?_zip_eq_some]; exact ⟨ea, eb⟩
    rw [ez] at hq
    cases hq
    exact ⟨T, _, tb, rfl, ⟨_, N _ b2, rfl, _, rfl⟩, ta, rfl⟩
  · rw [List.getElem?_append_right (by omega)] at hv
    rw [List.getElem?_append_right (by rw [hzl]; omega), hzl] at hq
    generalize i - acc.length = k at hv hq
    rcases k with _ | _ | _ | k
    · simp at hv hq; subst hv; subst hq
      exact ⟨T1, _, a2, rfl, ⟨_, g1, rfl, _, rfl⟩, a1, rfl⟩
    · simp at hv hq; subst hv; subst hq
      exact ⟨T2, _, a3, rfl, ⟨_, g2, rfl, _, rfl⟩, rfl⟩
    · simp at hv hq; subst hv; subst hq
      exact ⟨T3, _, a5, rfl, ⟨_, g3, rfl, _, rfl⟩, a4, rfl⟩
    · simp at hv
theorem tab_at {h h' : Heap} {ps : Array Value} {g : Heap} (x : TabOk h 27 23 ps) (h27 : ∃ o27, g.get? 27 = some o27) (k1 : ∀ o, g.get? 27 = some o → h.get? 27 = some o) (k2 : ∀ o, g.get? 27 = some o → h'.get? 27 = some o) (k3 : h'.get? 23 = some { cls := .none, data := .fields ps }) : TabOk h' 27 23 ps := by
  obtain ⟨o27, e⟩ := h27
  refine x.at2 (fun o q => ?_) (fun o q => ?_)
  · rw [k1 _ e] at q; cases q; exact k2 _ e
  · rw [x.tab.2] at q; cases q; exact k3
theorem qs_bound {ft mt : List Str} {f1 : Str} (hft : ∀ f ∈ ft, f.length ≤ 55) (hmt : ∀ m ∈ mt, m.length ≤ 100) (hf1 : f1.length ≤ 55) : ∀ q ∈ qsOf ft mt f1, q.2.length ≤ 1000 ∧ ∀ f, q.1 = some f → f.length ≤ 1000 := by
  intro q hq
  unfold qsOf at hq
  rcases List.mem_append.mp hq with hq | hq
  · obtain ⟨p, hp, rfl⟩ := List.mem_map.mp hq
    have e := List.of_mem_zip (a := p.1) (b := p.2) hp
    exact ⟨Nat.le_trans (hmt _ e.2) (by decide), fun f h => by cases h; exact Nat.le_trans (hft _ e.1) (by decide)⟩
  · simp only [List.mem_cons, List.not_mem_nil, or_false] at hq
    rcases hq with rfl | rfl | rfl
    · exact ⟨show (Str.ofString "<string>").length ≤ 1000 by decide +kernel, fun f h => by cases h; exact Nat.le_trans hf1 (by decide)⟩
    · exact ⟨by decide +kernel, fun f h => by cases h⟩
    · exact ⟨by decide +kernel, fun f h => by cases h; decide +kernel⟩
theorem qs_len {ft mt : List Str} {f1 : Str} (h : ft.length = mt.length) : (qsOf ft mt f1).length = ft.length + 3 := by
  unfold qsOf
  rw [List.length_append, List.length_map, List.length_zip, ← h, Nat.min_self]; rfl
theorem file_le (x : Int) : (fileOf (lawNm x)).length ≤ 55 := by
  rw [file_len]; have := law_len x; omega
theorem files_mem {xs : List Int} {f : Str} (h : f ∈ xs.map fun x => fileOf (lawNm x)) : ∃ x : Int, f = fileOf (lawNm x) := by
  obtain ⟨x, _, e⟩ := List.mem_map.mp h
  exact ⟨x, e.symm⟩
theorem qs_ans {xs rows : List Int} {mt : List Str} {f1 : Str} (hf1 : f1 ∈ xs.map fun x => fileOf (lawNm x)) : ∀ q ∈ qsOf (xs.map fun x => fileOf (lawNm x)) mt f1, ansQ (rows.map lawNm) q.1 = dueA (rows.map lawNm) q.1 := by
  have hn : ∀ nm ∈ rows.map lawNm, 47 ∉ nm.cps.toList := by
    intro nm h
    obtain ⟨x, _, rfl⟩ := List.mem_map.mp h
    exact law_noslash x
  have key : ∀ f ∈ xs.map (fun x => fileOf (lawNm x)), ansQ (rows.map lawNm) (some f) = dueA (rows.map lawNm) (some f) := by
    intro f hf
    obtain ⟨x, rfl⟩ := files_mem hf
    exact ans_file hn (law_noslash x)
  intro q hq
  unfold qsOf at hq
  rcases List.mem_append.mp hq with hq | hq
  · obtain ⟨p, hp, rfl⟩ := List.mem_map.mp hq
    exact key p.1 (List.of_mem_zip (a := p.1) (b := p.2) hp).1
  · simp only [List.mem_cons, List.not_mem_nil, or_false] at hq
    rcases hq with rfl | rfl | rfl
    · exact key f1 hf1
    · rfl
    · exact ans_opt _
theorem flat_rep (n : Nat) (v : Value) : (List.replicate n [v]).flatten = List.replicate n v := by
  induction n with
  | zero => rfl
  | succ n ih => rw [List.replicate_succ, List.flatten_cons, ih]; rfl
theorem eq_reps {prog : Program} {w : World} {A : Around} {E : Value → Shared → Prop} {s : Shared} {Q : Value → Shared → Prop} {a b : Addr} {v : Value} {n : Nat} (ha : s.heap.IsList a (List.replicate n v).toArray) (hb : s.heap.IsList b (List.replicate n v).toArray) (hu : A.units < cLine) (h : Q (.bool true) s) :
    wpAny (model prog w) A (compareOp .Eq (.ref a) (.ref b)) Q E s := by
  refine SeqAt.eq_listAt (e := fun _ => true) ha hb rfl hu (fun j h1 h2 => ?_) ?_
  · exact SeqAt.EqAt.same _
  · have : (List.range (List.replicate n v).toArray.size).all (fun _ => true) = true := by simp
    rw [this]; exact h
theorem after_compA {g h1 h2 h3 : Heap} {L D : Addr} {m m' : Str → Option Value} {news : List (Addr × Obj)} {o : Obj} (F : Fr g L h1 m) (N : News g L h1 news) (k : Kp [] h1 h2) (k2 : ∀ b o, b < h1.objs.size → b ≠ L → h2.get? b = some o → h3.get? b = some o)
    (hn : h3.Ns L m') (hD : h1.objs.size < D) (hg : h3.get? D = some o) : Fr g L h3 m' ∧ News g L h3 ((D, o) :: news) ∧ ∀ p ∈ news, p.1 < D := by
  refine ⟨⟨hn, fun b o e => k2 b o (Heap.lt_size (F.keep b o e)) (fun q => ?_) (k.all _ _ (F.keep b o e)), F.above⟩, fun p hp => ?_, fun p hp => Nat.lt_trans (Heap.lt_size (N p hp).1) hD⟩
  · rw [q] at e; exact absurd (Nat.lt_of_lt_of_le (Heap.lt_size e) F.above) (Nat.lt_irrefl _)
  · rcases List.mem_cons.mp hp with rfl | hp
    · refine ⟨hg, Ne.symm (Nat.ne_of_lt (Nat.lt_trans F.ns.lt hD)), ?_⟩
      cases q : g.get? D with
      | none => rfl
      | some o => exact absurd (Nat.lt_trans (Heap.lt_size (F.keep _ _ q)) hD) (Nat.lt_irrefl _)
    · exact ⟨k2 _ _ (Heap.lt_size (N p hp).1) (N p hp).2.1 (k.all _ _ (N p hp).1), (N p hp).2⟩
theorem ints_get {v : Value} : ∀ {vs : List Value} {ns : List Int} {i : Nat}, IntsAre vs ns → vs[i]? = some v → ∃ r t, v = .int r t ∧ ns[i]? = some r
  | _, _, _, .nil, h => by simp at h
  | _, _, 0, .cons y t _, h => by simp at h; exact ⟨y, t, h.symm, by simp⟩
  | _, _, i + 1, .cons y t r, h => by
    have h' := by simpa using h
    obtain ⟨r', t', e, q⟩ := ints_get (i := i) r h'
    exact ⟨r', t', e, by simpa using q⟩
theorem take_map_snoc {f : Int → Str} {l : List Int} {i : Nat} {r : Int} (h : l[i]? = some r) : (l.take (i + 1)).map f = (l.take i).map f ++ [f r] := by
  rw [List.take_add_one, h, List.map_append]; rfl
theorem fnil {α : Type} {P : α → Prop} : ∀ p ∈ ([] : List α), P p := fun _ h => nomatch h
theorem fcons {α : Type} {P : α → Prop} {a : α} {r : List α} (h : P a) (hs : ∀ p ∈ r, P p) : ∀ p ∈ a :: r, P p := List.forall_mem_cons.mpr ⟨h, hs⟩
theorem ncons {g h : Heap} {L : Addr} {p : Addr × Obj} {r : List (Addr × Obj)} (x : h.get? p.1 = some p.2 ∧ p.1 ≠ L ∧ g.get? p.1 = none) (y : News g L h r) : News g L h (p :: r) := List.forall_mem_cons.mpr ⟨x, y⟩
theorem lawC {w : World} {dp un : Nat} {fr : Option (List Env)} {gd : Option (List Code)} {s : Shared} {p : Program} {loose : List Str} {mg mb : Str → Option Value} {Q E : Value → Shared → Prop} {scr : Addr} {sv : List Value} {ns : List Int} {bm : Addr} {ob : Obj} {ps : Array Value}
    (hdp : dp + 100 < recursionLimit) (hun : un + 300 < cLine) (X : (hd.heap_39 w.params).In s.heap) (T : TopRead p loose mg mb s.heap) (hB : BMod s.heap mainGlobals mg bm ob) (hTab : TabOk s.heap 27 23 ps) (hG : AllBare s.gens)
    (hl : s.heap.IsList scr sv.toArray) (hI : IntsAre sv ns) (hlen : ns.length ≤ 63)
    (hQ : ∀ s', Kp [23] s.heap s'.heap → s'.os = s.os → AllBare s'.gens → (∃ ps', TabOk s'.heap 27 23 ps') → Q (.bool true) s') :
    wpAny (model PySem.Challenge.pw_ny0071_01 w) (AA dp un fr gd) (call (.ref 115) [.ref scr]) Q E s := by
  w_on
  have hg0 : ∀ b o, b ≠ 23 → s.heap.get? b = some o → (hideAll s.heap [23]).get? b = some o := fun b o hb e => hideAll_get _ e (by simpa using hb)
  have X0 : (hd.heap_39 w.params).In (hideAll s.heap [23]) := fun a o e => hg0 a o (fun q => by subst q; exact absurd e (by rw [show (hd.heap_39 w.params).lookup 23 = none from rfl]; simp)) (X a o e)
  have T0 : TopRead p loose mg mb (hideAll s.heap [23]) := ⟨T.g.at' fun o e => hg0 _ o (by decide) e, T.b.at' fun o e => hg0 _ o (by decide) e, (let ⟨mc, hn, hnn⟩ := T.nolimit; ⟨mc, hn.at' fun o e => hg0 _ o (by decide) e, hnn⟩), T.builtins, T.free⟩
  have hk : ∀ b o, (hideAll s.heap [23]).get? b = some o → s.heap.get? b = some o := fun b o e => of_hideAll _ e
  have N : ∀ p ∈ [((23 : Addr), ({ cls := .none, data := .fields ps } : Obj))], s.heap.get? p.1 = some p.2 ∧ (hideAll s.heap [23]).get? p.1 = none := by
    intro p hp
    rw [List.mem_singleton.mp hp]
    exact ⟨hTab.tab.2, hideAll_none _ (by simp)⟩
  clear X T
  have X := X0
  have T := T0
  clear X0 T0
  k_dflt (refine' enterN (binds := [(Str.ofString "script", .ref scr)]) (news := [((23 : Addr), ({ cls := .none, data := .fields ps } : Obj))]) ?kk ?kX ?kT ?kN ?k6 ?k7 ?k8 ?k9 ?kB ?_ ?c2 ?c3 ?c4 ?c5; (case kk => assumption); (case kX => k_asm); (case kT => k_asm); (case kN => assumption); (case k6 => k_is); (case k7 => k_is); (case k8 => (dsimp only; omega)); (case k9 => first | assumption | exact BindsTo.of_eq rfl | exact binds_K (X.keeps hk) rfl (by k_is) rfl rfl rfl); (case c5 => decide); (case kB => exact locs rfl); (case c2 => exact rfl); (case c3 => exact rfl); (case c4 => exact rfl); k_whole)
  intro g L' h' eg eL X' T' F' N'
  clear X T
  show wpAny _ _ _ _ _ _
  k_fold
  have hlg : g.IsList scr sv.toArray := by
    obtain ⟨o, ho, hc, r⟩ := hl
    refine ⟨o, ?_, hc, r⟩
    rw [eg]
    refine hideAll_get _ ho ?_
    simp only [List.map_cons, List.map_nil, List.mem_singleton]
    intro q
    rw [q, hTab.tab.2] at ho
    cases ho; cases hc
  (repeat' (first | (k_unfold; (try dsimp only)) | ((fail_if_success ((first | (first | (with_reducible show wpAny _ _ (binaryOp _ (Value.ref _) (Value.ref _)) _ _ _) | (with_reducible show wpAny _ _ (binaryOp _ (Value.ref _) (Value.int _ _)) _ _ _) | (with_reducible show wpAny _ _ (compareOp CmpOp.Eq (Value.ref _) (Value.ref _)) _ _ _) | (with_reducible show wpAny _ _ (call (Value.type "zip") _ _) _ _ _) | (with_reducible show wpAny _ _ (call (Value.type "list") _ _) _ _ _)) | (first | (with_reducible show wpAny _ _ (eval (PySem.Expr.ListComp _ _ _ _) _) _ _ _) | (with_reducible show wpAny _ _ (exec (PySem.Stmt.Assign _ (PySem.Expr.ListComp _ _ _ _) _) _) _ _ _) | (with_reducible show wpAny _ _ (exec (PySem.Stmt.While _ _ _ _) _) _ _ _) | (with_reducible show wpAny _ _ (exec (PySem.Stmt.For _ _ _ _ _) _) _ _ _) | (with_reducible show wpAny _ _ (exec (PySem.Stmt.Assign [PySem.Expr.Name (PySem.Str.ofString "sign") _] _ _) _) _ _ _) | (with_reducible show wpAny _ _ (eval (PySem.Expr.GeneratorExp _ _ _ _) _) _ _ _) | (with_reducible show CompAt _ _ _ _ _ _ _ _ _ _ _ _ _ _ _ _) | (with_reducible show ForAt _ _ _ _ _ _ _ _ _ _) | (with_reducible show Kp _ _ _ ∧ _) | (with_reducible show wpAny _ _ (PySem.call (Value.ref _) _ _) _ _ _))))); (first | ((with_reducible show ite _ _ _); first | (refine PySem.W.ite_pos (by with_reducible assumption) ?_) | (refine PySem.W.ite_neg (by with_reducible assumption) ?_)) | (k_here; (with_reducible show wpAny _ _ (eval (PySem.Expr.Name _ _) (compEnvC _ _ _ _)) _ _ _); k_dflt (refine ld_builtR (by k_asm) (by k_asm) (by k_asm) (by k_is) (by boot_by_name) (by decide) ?_)) | walk1 | (dsimp only; walk1)))))
  rename_i D1 ws hh1 hI1 hC1 hL1 l1 hh2 l2 hh3 F1 N1 l3 hh4 F2 N2
  clear F1 N1
  dsimp only at F2 N2 ⊢
  have hcl : (ns.take 8).length ≤ 8 := by rw [List.length_take]; omega
  generalize ns.take 8 = cut at hI1 hcl
  revert cut
  refine barrier ?_
  intro cut hI1 hcl
  clear hC1 hL1
  have hI2 := IntsAre.pick hI1 none none (some 2)
  have hl2 := length_pickNums_le hI1 none none (some 2)
  generalize pickNums cut none none (some 2) = half at hI2 hl2
  revert half
  refine barrier ?_
  intro half hI2 hl2
  have hb2 : hh4.IsList (hh3.objs.size + 1) (slicePick ws.toArray none none (some 2)).toList.toArray := by rw [Array.toArray_toList]; exact list_of_get (N2.get (.head _))
  k_dflt (refine kmk_add_ints F2 N2 (list_of_get (N2.get (.tail _ (.head _)))) hb2 (.cons _ _ (.cons _ _ (.cons _ _ (.cons _ _ (.cons _ _ .nil))))) hI2 ?_ ?_)
  rotate_left
  · exact Nat.le_trans (Nat.add_le_add_left (Nat.le_trans hl2 hcl) 5) (by decide)
  intro D3 rv h3 F3 N3 l4 hI3
  have hrl : ([330, 795, 122, 906, 845] ++ half).length ≤ 13 := by rw [List.length_append]; exact Nat.add_le_add_left (Nat.le_trans hl2 hcl) 5
  have hrp : 0 < ([330, 795, 122, 906, 845] ++ half).length := by rw [List.length_append]; exact Nat.lt_of_lt_of_le (by decide : 0 < 5) (Nat.le_add_right 5 _)
  generalize [330, 795, 122, 906, 845] ++ half = rows at hI3 hrl hrp
  revert rows
  refine barrier ?_
  intro rows hI3 hrl hrp
  have N3' : News g L' h3 [(D3, W.listOf rv.toArray 0), (D1, W.listOf ws.toArray 0), (23, { cls := Value.none, data := Data.fields ps })] := ncons (N3 _ (by k_mem)) (ncons (N3 _ (by k_mem)) (ncons (N3 _ (by k_mem)) News.nil))
  clear F2 N2 N3 hb2 hI2 hl2 l3
  dsimp only
  (repeat' (first | (k_unfold; (try dsimp only)) | ((fail_if_success ((first | (first | (with_reducible show wpAny _ _ (binaryOp _ (Value.ref _) (Value.ref _)) _ _ _) | (with_reducible show wpAny _ _ (binaryOp _ (Value.ref _) (Value.int _ _)) _ _ _) | (with_reducible show wpAny _ _ (compareOp CmpOp.Eq (Value.ref _) (Value.ref _)) _ _ _) | (with_reducible show wpAny _ _ (call (Value.type "zip") _ _) _ _ _) | (with_reducible show wpAny _ _ (call (Value.type "list") _ _) _ _ _)) | (first | (with_reducible show wpAny _ _ (eval (PySem.Expr.ListComp _ _ _ _) _) _ _ _) | (with_reducible show wpAny _ _ (exec (PySem.Stmt.Assign _ (PySem.Expr.ListComp _ _ _ _) _) _) _ _ _) | (with_reducible show wpAny _ _ (exec (PySem.Stmt.While _ _ _ _) _) _ _ _) | (with_reducible show wpAny _ _ (exec (PySem.Stmt.For _ _ _ _ _) _) _ _ _) | (with_reducible show wpAny _ _ (exec (PySem.Stmt.Assign [PySem.Expr.Name (PySem.Str.ofString "sign") _] _ _) _) _ _ _) | (with_reducible show wpAny _ _ (eval (PySem.Expr.GeneratorExp _ _ _ _) _) _ _ _) | (with_reducible show CompAt _ _ _ _ _ _ _ _ _ _ _ _ _ _ _ _) | (with_reducible show ForAt _ _ _ _ _ _ _ _ _ _) | (with_reducible show Kp _ _ _ ∧ _) | (with_reducible show wpAny _ _ (PySem.call (Value.ref _) _ _) _ _ _))))); (first | ((with_reducible show ite _ _ _); first | (refine PySem.W.ite_pos (by with_reducible assumption) ?_) | (refine PySem.W.ite_neg (by with_reducible assumption) ?_)) | (k_here; (with_reducible show wpAny _ _ (eval (PySem.Expr.Name _ _) (compEnvC _ _ _ _)) _ _ _); k_dflt (refine ld_builtR (by k_asm) (by k_asm) (by k_asm) (by k_is) (by boot_by_name) (by decide) ?_)) | walk1 | (dsimp only; walk1)))))
  k_dflt (refine reset s ?_)
  intro tkr1
  (((with_reducible refine lc_assign (by with_unfolding_all rfl) (by with_unfolding_all rfl) (by with_unfolding_all rfl) (by decide) ?_ (by intro _; with_unfolding_all rfl)); k_fold))
  (repeat' (first | (k_unfold; (try dsimp only)) | ((fail_if_success ((first | (first | (with_reducible show wpAny _ _ (binaryOp _ (Value.ref _) (Value.ref _)) _ _ _) | (with_reducible show wpAny _ _ (binaryOp _ (Value.ref _) (Value.int _ _)) _ _ _) | (with_reducible show wpAny _ _ (compareOp CmpOp.Eq (Value.ref _) (Value.ref _)) _ _ _) | (with_reducible show wpAny _ _ (call (Value.type "zip") _ _) _ _ _) | (with_reducible show wpAny _ _ (call (Value.type "list") _ _) _ _ _)) | (first | (with_reducible show wpAny _ _ (eval (PySem.Expr.ListComp _ _ _ _) _) _ _ _) | (with_reducible show wpAny _ _ (exec (PySem.Stmt.Assign _ (PySem.Expr.ListComp _ _ _ _) _) _) _ _ _) | (with_reducible show wpAny _ _ (exec (PySem.Stmt.While _ _ _ _) _) _ _ _) | (with_reducible show wpAny _ _ (exec (PySem.Stmt.For _ _ _ _ _) _) _ _ _) | (with_reducible show wpAny _ _ (exec (PySem.Stmt.Assign [PySem.Expr.Name (PySem.Str.ofString "sign") _] _ _) _) _ _ _) | (with_reducible show wpAny _ _ (eval (PySem.Expr.GeneratorExp _ _ _ _) _) _ _ _) | (with_reducible show CompAt _ _ _ _ _ _ _ _ _ _ _ _ _ _ _ _) | (with_reducible show ForAt _ _ _ _ _ _ _ _ _ _) | (with_reducible show Kp _ _ _ ∧ _) | (with_reducible show wpAny _ _ (PySem.call (Value.ref _) _ _) _ _ _))))); (first | ((with_reducible show ite _ _ _); first | (refine PySem.W.ite_pos (by with_reducible assumption) ?_) | (refine PySem.W.ite_neg (by with_reducible assumption) ?_)) | (k_here; (with_reducible show wpAny _ _ (eval (PySem.Expr.Name _ _) (compEnvC _ _ _ _)) _ _ _); k_dflt (refine ld_builtR (by k_asm) (by k_asm) (by k_asm) (by k_is) (by boot_by_name) (by decide) ?_)) | walk1 | (dsimp only; walk1)))))
  rename_i h5 F4 l5 h6 F5 N5 l6
  k_dflt (refine kmk_add_ints F5 N5 (list_of_get (N5.get (.head _))) (list_of_get (N5.get (by k_mem : (D1, _) ∈ _))) (.cons _ _ (.cons _ _ (.cons _ _ (.cons _ _ (.cons _ _ (.cons _ _ (.cons _ _ (.cons _ _ (.cons _ _ .nil))))))))) hI1 ?_ ?_)
  rotate_left
  · exact Nat.le_trans (Nat.add_le_add_left hcl 9) (by decide)
  intro D7 xv h7 F7 N7 l7 hI7
  have hxl : ([748, 385, 795, 734, 188, 0, 748, 906, 845] ++ cut).length = 9 + cut.length := by rw [List.length_append]; rfl
  generalize [748, 385, 795, 734, 188, 0, 748, 906, 845] ++ cut = xs at hI7 hxl
  revert xs
  refine barrier ?_
  intro xs hI7 hxl
  have hx17 : xs.length ≤ 17 := by rw [hxl]; exact Nat.add_le_add_left hcl 9
  have hx9 : 9 ≤ xs.length := by rw [hxl]; exact Nat.le_add_right _ _
  clear F5 N5
  have l8 : ∀ p ∈ [(D3, W.listOf rv.toArray 0), (D1, W.listOf ws.toArray 0), (23, ({ cls := Value.none, data := Data.fields ps } : Obj))], p.1 < D7 := fcons (l7 _ (by k_mem)) (fcons (l7 _ (by k_mem)) (fcons (l7 _ (by k_mem)) fnil))
  have N8 : News g L' h7 [(D7, W.listOf xv.toArray 0), (D3, W.listOf rv.toArray 0), (D1, W.listOf ws.toArray 0), (23, { cls := Value.none, data := Data.fields ps })] := ncons (N7 _ (by k_mem)) (ncons (N7 _ (by k_mem)) (ncons (N7 _ (by k_mem)) (ncons (N7 _ (by k_mem)) News.nil)))
  clear N7 l7
  have hxv : xv.length = xs.length := hI7.length
  k_dflt (refine lc_nameA (M := []) (its := xv.toArray) (fun i ys s' => StrsAre ys ((xs.take i).map fun x => fileOf (lawNm x)) ∧ ∃ h tk, s' = { s with heap := h, toks := tk }) (by decide) (by rfl) (by rfl) (by rfl) (by rfl) (by rfl) (list_of_get (N8.get (.head _))) (by simp) (by simp) (by rw [List.size_toArray]; exact Nat.le_trans (show xv.length ≤ 17 by rw [hxv]; exact hx17) (by decide)) F7.ns (by simp) ?_ ?_ ?_ ?_)
  · rintro i ys s' h' tk ⟨j, h, tk', rfl⟩ _
    exact ⟨j, h', tk, rfl⟩
  · exact ⟨.nil, _, _, rfl⟩
  · rintro i ys v C m₂ s' hv _ ⟨hJ, h9, tk9, rfl⟩ hC hn hx hk9
    obtain ⟨r, t9, rfl, hr⟩ := ints_get hI7 (by simpa using hv)
    obtain ⟨oC, hoC, N9⟩ := news_comp F7 N8 hk9 hn hC
    have F9 := fr_kp F7 hk9
    clear F7 N8
    refine wpAny_tests_nil ?_
    (show wpAny _ _ _ _ _ _); k_fold
    (repeat' (first | (k_unfold; (try dsimp only)) | ((fail_if_success ((first | (first | (with_reducible show wpAny _ _ (binaryOp _ (Value.ref _) (Value.ref _)) _ _ _) | (with_reducible show wpAny _ _ (binaryOp _ (Value.ref _) (Value.int _ _)) _ _ _) | (with_reducible show wpAny _ _ (compareOp CmpOp.Eq (Value.ref _) (Value.ref _)) _ _ _) | (with_reducible show wpAny _ _ (call (Value.type "zip") _ _) _ _ _) | (with_reducible show wpAny _ _ (call (Value.type "list") _ _) _ _ _)) | (first | (with_reducible show wpAny _ _ (eval (PySem.Expr.ListComp _ _ _ _) _) _ _ _) | (with_reducible show wpAny _ _ (exec (PySem.Stmt.Assign _ (PySem.Expr.ListComp _ _ _ _) _) _) _ _ _) | (with_reducible show wpAny _ _ (exec (PySem.Stmt.While _ _ _ _) _) _ _ _) | (with_reducible show wpAny _ _ (exec (PySem.Stmt.For _ _ _ _ _) _) _ _ _) | (with_reducible show wpAny _ _ (exec (PySem.Stmt.Assign [PySem.Expr.Name (PySem.Str.ofString "sign") _] _ _) _) _ _ _) | (with_reducible show wpAny _ _ (eval (PySem.Expr.GeneratorExp _ _ _ _) _) _ _ _) | (with_reducible show CompAt _ _ _ _ _ _ _ _ _ _ _ _ _ _ _ _) | (with_reducible show ForAt _ _ _ _ _ _ _ _ _ _) | (with_reducible show Kp _ _ _ ∧ _) | (with_reducible show wpAny _ _ (PySem.call (Value.ref _) _ _) _ _ _))))); (first | ((with_reducible show ite _ _ _); first | (refine PySem.W.ite_pos (by with_reducible assumption) ?_) | (refine PySem.W.ite_neg (by with_reducible assumption) ?_)) | (k_here; (with_reducible show wpAny _ _ (eval (PySem.Expr.Name _ _) (compEnvC _ _ _ _)) _ _ _); k_dflt (refine ld_builtR (by k_asm) (by k_asm) (by k_asm) (by k_is) (by boot_by_name) (by decide) ?_)) | walk1 | (dsimp only; walk1)))))
    rename Fr _ _ _ _ => F9
    rename News _ _ _ _ => N9
    k_dflt (refine lawName (rm 10 hdp (by decide)) (X'.keeps F9.keep) (T'.keeps F9.keep) ?_)
    intro t10 h10 tk10 k10
    have hnl := law_len r
    have F10 := fr_kp F9 k10
    have N10 := news_kp N9 k10
    clear F9 N9
    (repeat' (first | (k_unfold; (try dsimp only)) | ((fail_if_success ((first | (first | (with_reducible show wpAny _ _ (binaryOp _ (Value.ref _) (Value.ref _)) _ _ _) | (with_reducible show wpAny _ _ (binaryOp _ (Value.ref _) (Value.int _ _)) _ _ _) | (with_reducible show wpAny _ _ (compareOp CmpOp.Eq (Value.ref _) (Value.ref _)) _ _ _) | (with_reducible show wpAny _ _ (call (Value.type "zip") _ _) _ _ _) | (with_reducible show wpAny _ _ (call (Value.type "list") _ _) _ _ _)) | (first | (with_reducible show wpAny _ _ (eval (PySem.Expr.ListComp _ _ _ _) _) _ _ _) | (with_reducible show wpAny _ _ (exec (PySem.Stmt.Assign _ (PySem.Expr.ListComp _ _ _ _) _) _) _ _ _) | (with_reducible show wpAny _ _ (exec (PySem.Stmt.While _ _ _ _) _) _ _ _) | (with_reducible show wpAny _ _ (exec (PySem.Stmt.For _ _ _ _ _) _) _ _ _) | (with_reducible show wpAny _ _ (exec (PySem.Stmt.Assign [PySem.Expr.Name (PySem.Str.ofString "sign") _] _ _) _) _ _ _) | (with_reducible show wpAny _ _ (eval (PySem.Expr.GeneratorExp _ _ _ _) _) _ _ _) | (with_reducible show CompAt _ _ _ _ _ _ _ _ _ _ _ _ _ _ _ _) | (with_reducible show ForAt _ _ _ _ _ _ _ _ _ _) | (with_reducible show Kp _ _ _ ∧ _) | (with_reducible show wpAny _ _ (PySem.call (Value.ref _) _ _) _ _ _))))); (first | ((with_reducible show ite _ _ _); first | (refine PySem.W.ite_pos (by with_reducible assumption) ?_) | (refine PySem.W.ite_neg (by with_reducible assumption) ?_)) | (k_here; (with_reducible show wpAny _ _ (eval (PySem.Expr.Name _ _) (compEnvC _ _ _ _)) _ _ _); k_dflt (refine ld_builtR (by k_asm) (by k_asm) (by k_asm) (by k_is) (by boot_by_name) (by decide) ?_)) | walk1 | (dsimp only; walk1)))))
    refine ⟨k10, ?_, _, _, rfl⟩
    rw [take_map_snoc hr]
    exact strs_snoc hJ
  · rintro D9 fv s' h10 tk10 ⟨hJ, h9, tk9, rfl⟩ hD9 hg9 hk9 hk10 hn10
    have hJf : StrsAre fv (xs.map fun x => fileOf (lawNm x)) := by
      have h0 : xs.take xv.toArray.size = xs := List.take_of_length_le (by rw [List.size_toArray, hxv]; exact Nat.le_refl _)
      rw [h0] at hJ; exact hJ
    obtain ⟨F9, N9, l9⟩ := after_compA F7 N8 hk9 hk10 hn10 hD9 hg9
    clear F7 N8
    dsimp only
    (repeat' (first | (k_unfold; (try dsimp only)) | ((fail_if_success ((first | (first | (with_reducible show wpAny _ _ (binaryOp _ (Value.ref _) (Value.ref _)) _ _ _) | (with_reducible show wpAny _ _ (binaryOp _ (Value.ref _) (Value.int _ _)) _ _ _) | (with_reducible show wpAny _ _ (compareOp CmpOp.Eq (Value.ref _) (Value.ref _)) _ _ _) | (with_reducible show wpAny _ _ (call (Value.type "zip") _ _) _ _ _) | (with_reducible show wpAny _ _ (call (Value.type "list") _ _) _ _ _)) | (first | (with_reducible show wpAny _ _ (eval (PySem.Expr.ListComp _ _ _ _) _) _ _ _) | (with_reducible show wpAny _ _ (exec (PySem.Stmt.Assign _ (PySem.Expr.ListComp _ _ _ _) _) _) _ _ _) | (with_reducible show wpAny _ _ (exec (PySem.Stmt.While _ _ _ _) _) _ _ _) | (with_reducible show wpAny _ _ (exec (PySem.Stmt.For _ _ _ _ _) _) _ _ _) | (with_reducible show wpAny _ _ (exec (PySem.Stmt.Assign [PySem.Expr.Name (PySem.Str.ofString "sign") _] _ _) _) _ _ _) | (with_reducible show wpAny _ _ (eval (PySem.Expr.GeneratorExp _ _ _ _) _) _ _ _) | (with_reducible show CompAt _ _ _ _ _ _ _ _ _ _ _ _ _ _ _ _) | (with_reducible show ForAt _ _ _ _ _ _ _ _ _ _) | (with_reducible show Kp _ _ _ ∧ _) | (with_reducible show wpAny _ _ (PySem.call (Value.ref _) _ _) _ _ _))))); (first | ((with_reducible show ite _ _ _); first | (refine PySem.W.ite_pos (by with_reducible assumption) ?_) | (refine PySem.W.ite_neg (by with_reducible assumption) ?_)) | (k_here; (with_reducible show wpAny _ _ (eval (PySem.Expr.Name _ _) (compEnvC _ _ _ _)) _ _ _); k_dflt (refine ld_builtR (by k_asm) (by k_asm) (by k_asm) (by k_is) (by boot_by_name) (by decide) ?_)) | walk1 | (dsimp only; walk1)))))
    k_dflt (refine reset s ?_)
    intro tkr2
    ((k_dflt (refine lc_eval (by with_unfolding_all rfl) (by rfl) (by decide) ?_); k_fold))
    (repeat' (first | (k_unfold; (try dsimp only)) | ((fail_if_success ((first | (first | (with_reducible show wpAny _ _ (binaryOp _ (Value.ref _) (Value.ref _)) _ _ _) | (with_reducible show wpAny _ _ (binaryOp _ (Value.ref _) (Value.int _ _)) _ _ _) | (with_reducible show wpAny _ _ (compareOp CmpOp.Eq (Value.ref _) (Value.ref _)) _ _ _) | (with_reducible show wpAny _ _ (call (Value.type "zip") _ _) _ _ _) | (with_reducible show wpAny _ _ (call (Value.type "list") _ _) _ _ _)) | (first | (with_reducible show wpAny _ _ (eval (PySem.Expr.ListComp _ _ _ _) _) _ _ _) | (with_reducible show wpAny _ _ (exec (PySem.Stmt.Assign _ (PySem.Expr.ListComp _ _ _ _) _) _) _ _ _) | (with_reducible show wpAny _ _ (exec (PySem.Stmt.While _ _ _ _) _) _ _ _) | (with_reducible show wpAny _ _ (exec (PySem.Stmt.For _ _ _ _ _) _) _ _ _) | (with_reducible show wpAny _ _ (exec (PySem.Stmt.Assign [PySem.Expr.Name (PySem.Str.ofString "sign") _] _ _) _) _ _ _) | (with_reducible show wpAny _ _ (eval (PySem.Expr.GeneratorExp _ _ _ _) _) _ _ _) | (with_reducible show CompAt _ _ _ _ _ _ _ _ _ _ _ _ _ _ _ _) | (with_reducible show ForAt _ _ _ _ _ _ _ _ _ _) | (with_reducible show Kp _ _ _ ∧ _) | (with_reducible show wpAny _ _ (PySem.call (Value.ref _) _ _) _ _ _))))); (first | ((with_reducible show ite _ _ _); first | (refine PySem.W.ite_pos (by with_reducible assumption) ?_) | (refine PySem.W.ite_neg (by with_reducible assumption) ?_)) | (k_here; (with_reducible show wpAny _ _ (eval (PySem.Expr.Name _ _) (compEnvC _ _ _ _)) _ _ _); k_dflt (refine ld_builtR (by k_asm) (by k_asm) (by k_asm) (by k_is) (by boot_by_name) (by decide) ?_)) | walk1 | (dsimp only; walk1)))))
    rename IsRange _ _ _ _ _ _ _ _ => hr11
    rename Fr _ _ _ _ => F11
    rename News _ _ _ _ => N11
    refine lc_range (n := 7) (M := []) (fun i ys s' => (∃ ms, StrsAre ys ms ∧ ms.length = i ∧ ∀ m ∈ ms, m.length ≤ 100) ∧ ∃ h tk, s' = { s with heap := h, toks := tk }) (by decide) (by rfl) (by rfl) (by rfl) hr11 (by decide) (by decide) (by simp) (by decide) ?_ ?_ ?_ ?_
    · rintro i ys s' h' tk ⟨j, h, tk', rfl⟩ _
      exact ⟨j, h', tk, rfl⟩
    · exact ⟨⟨[], .nil, rfl, fun m hm => by simp at hm⟩, _, _, rfl⟩
    · rintro i ys t C m₂ s' hi _ ⟨⟨ms, hms, hml, hmb⟩, h12, tk12, rfl⟩ hC hn hx hk12
      obtain ⟨oC, hoC, N12⟩ := news_comp F11 N11 hk12 hn hC
      have F12 := fr_kp F11 hk12
      clear F11 N11 hr11
      refine wpAny_tests_nil ?_
      simp only [if_true]
      rw [Int.zero_add] at hx
      k_fold
      (repeat' (first | (k_unfold; (try dsimp only)) | ((fail_if_success ((first | (first | (with_reducible show wpAny _ _ (binaryOp _ (Value.ref _) (Value.ref _)) _ _ _) | (with_reducible show wpAny _ _ (binaryOp _ (Value.ref _) (Value.int _ _)) _ _ _) | (with_reducible show wpAny _ _ (compareOp CmpOp.Eq (Value.ref _) (Value.ref _)) _ _ _) | (with_reducible show wpAny _ _ (call (Value.type "zip") _ _) _ _ _) | (with_reducible show wpAny _ _ (call (Value.type "list") _ _) _ _ _)) | (first | (with_reducible show wpAny _ _ (eval (PySem.Expr.ListComp _ _ _ _) _) _ _ _) | (with_reducible show wpAny _ _ (exec (PySem.Stmt.Assign _ (PySem.Expr.ListComp _ _ _ _) _) _) _ _ _) | (with_reducible show wpAny _ _ (exec (PySem.Stmt.While _ _ _ _) _) _ _ _) | (with_reducible show wpAny _ _ (exec (PySem.Stmt.For _ _ _ _ _) _) _ _ _) | (with_reducible show wpAny _ _ (exec (PySem.Stmt.Assign [PySem.Expr.Name (PySem.Str.ofString "sign") _] _ _) _) _ _ _) | (with_reducible show wpAny _ _ (eval (PySem.Expr.GeneratorExp _ _ _ _) _) _ _ _) | (with_reducible show CompAt _ _ _ _ _ _ _ _ _ _ _ _ _ _ _ _) | (with_reducible show ForAt _ _ _ _ _ _ _ _ _ _) | (with_reducible show Kp _ _ _ ∧ _) | (with_reducible show wpAny _ _ (PySem.call (Value.ref _) _ _) _ _ _))))); (first | ((with_reducible show ite _ _ _); first | (refine PySem.W.ite_pos (by with_reducible assumption) ?_) | (refine PySem.W.ite_neg (by with_reducible assumption) ?_)) | (k_here; (with_reducible show wpAny _ _ (eval (PySem.Expr.Name _ _) (compEnvC _ _ _ _)) _ _ _); k_dflt (refine ld_builtR (by k_asm) (by k_asm) (by k_asm) (by k_is) (by boot_by_name) (by decide) ?_)) | walk1 | (dsimp only; walk1)))))
      exact ⟨Kp.refl, ⟨ms ++ [_], strs_snoc hms, by rw [List.length_append, hml]; rfl, lens_snoc hmb (mod5_len i (Nat.lt_trans hi (by decide)))⟩, _, _, rfl⟩
    · rintro D12 mv s' ⟨⟨ms, hms, hml, hmb⟩, h12, tk12, rfl⟩ hD12 hg12 hk12
      have N12 := news_add F11 N11 hk12 (Nat.le_of_lt hD12) hg12
      have F12 := fr_kp F11 hk12
      clear F11 N11 hr11
      (repeat' (first | (k_unfold; (try dsimp only)) | ((fail_if_success ((first | (first | (with_reducible show wpAny _ _ (binaryOp _ (Value.ref _) (Value.ref _)) _ _ _) | (with_reducible show wpAny _ _ (binaryOp _ (Value.ref _) (Value.int _ _)) _ _ _) | (with_reducible show wpAny _ _ (compareOp CmpOp.Eq (Value.ref _) (Value.ref _)) _ _ _) | (with_reducible show wpAny _ _ (call (Value.type "zip") _ _) _ _ _) | (with_reducible show wpAny _ _ (call (Value.type "list") _ _) _ _ _)) | (first | (with_reducible show wpAny _ _ (eval (PySem.Expr.ListComp _ _ _ _) _) _ _ _) | (with_reducible show wpAny _ _ (exec (PySem.Stmt.Assign _ (PySem.Expr.ListComp _ _ _ _) _) _) _ _ _) | (with_reducible show wpAny _ _ (exec (PySem.Stmt.While _ _ _ _) _) _ _ _) | (with_reducible show wpAny _ _ (exec (PySem.Stmt.For _ _ _ _ _) _) _ _ _) | (with_reducible show wpAny _ _ (exec (PySem.Stmt.Assign [PySem.Expr.Name (PySem.Str.ofString "sign") _] _ _) _) _ _ _) | (with_reducible show wpAny _ _ (eval (PySem.Expr.GeneratorExp _ _ _ _) _) _ _ _) | (with_reducible show CompAt _ _ _ _ _ _ _ _ _ _ _ _ _ _ _ _) | (with_reducible show ForAt _ _ _ _ _ _ _ _ _ _) | (with_reducible show Kp _ _ _ ∧ _) | (with_reducible show wpAny _ _ (PySem.call (Value.ref _) _ _) _ _ _))))); (first | ((with_reducible show ite _ _ _); first | (refine PySem.W.ite_pos (by with_reducible assumption) ?_) | (refine PySem.W.ite_neg (by with_reducible assumption) ?_)) | (k_here; (with_reducible show wpAny _ _ (eval (PySem.Expr.Name _ _) (compEnvC _ _ _ _)) _ _ _); k_dflt (refine ld_builtR (by k_asm) (by k_asm) (by k_asm) (by k_is) (by boot_by_name) (by decide) ?_)) | walk1 | (dsimp only; walk1)))))
      rename Fr _ _ _ _ => F13
      rename News _ _ _ _ => N13
      k_dflt (refine kmk_add_lit F13 N13 (list_of_get (N13.get (.tail _ (.head _)))) (list_of_get (N13.get (.head _))) rfl ?_ ?_)
      rotate_left
      · exact Nat.le_trans (show mv.length + 2 ≤ 9 by rw [strs_len hms, hml]; decide) (by decide)
      intro D14 h14 F14 N14 l14
      clear F13 N13
      (repeat' (first | (k_unfold; (try dsimp only)) | ((fail_if_success ((first | (first | (with_reducible show wpAny _ _ (binaryOp _ (Value.ref _) (Value.ref _)) _ _ _) | (with_reducible show wpAny _ _ (binaryOp _ (Value.ref _) (Value.int _ _)) _ _ _) | (with_reducible show wpAny _ _ (compareOp CmpOp.Eq (Value.ref _) (Value.ref _)) _ _ _) | (with_reducible show wpAny _ _ (call (Value.type "zip") _ _) _ _ _) | (with_reducible show wpAny _ _ (call (Value.type "list") _ _) _ _ _)) | (first | (with_reducible show wpAny _ _ (eval (PySem.Expr.ListComp _ _ _ _) _) _ _ _) | (with_reducible show wpAny _ _ (exec (PySem.Stmt.Assign _ (PySem.Expr.ListComp _ _ _ _) _) _) _ _ _) | (with_reducible show wpAny _ _ (exec (PySem.Stmt.While _ _ _ _) _) _ _ _) | (with_reducible show wpAny _ _ (exec (PySem.Stmt.For _ _ _ _ _) _) _ _ _) | (with_reducible show wpAny _ _ (exec (PySem.Stmt.Assign [PySem.Expr.Name (PySem.Str.ofString "sign") _] _ _) _) _ _ _) | (with_reducible show wpAny _ _ (eval (PySem.Expr.GeneratorExp _ _ _ _) _) _ _ _) | (with_reducible show CompAt _ _ _ _ _ _ _ _ _ _ _ _ _ _ _ _) | (with_reducible show ForAt _ _ _ _ _ _ _ _ _ _) | (with_reducible show Kp _ _ _ ∧ _) | (with_reducible show wpAny _ _ (PySem.call (Value.ref _) _ _) _ _ _))))); (first | ((with_reducible show ite _ _ _); first | (refine PySem.W.ite_pos (by with_reducible assumption) ?_) | (refine PySem.W.ite_neg (by with_reducible assumption) ?_)) | (k_here; (with_reducible show wpAny _ _ (eval (PySem.Expr.Name _ _) (compEnvC _ _ _ _)) _ _ _); k_dflt (refine ld_builtR (by k_asm) (by k_asm) (by k_asm) (by k_is) (by boot_by_name) (by decide) ?_)) | walk1 | (dsimp only; walk1)))))
      k_dflt (refine reset s ?_)
      intro tkr3
      ((k_dflt (refine lc_eval (by with_unfolding_all rfl) (by rfl) (by decide) ?_); k_fold))
      (repeat' (first | (k_unfold; (try dsimp only)) | ((fail_if_success ((first | (first | (with_reducible show wpAny _ _ (binaryOp _ (Value.ref _) (Value.ref _)) _ _ _) | (with_reducible show wpAny _ _ (binaryOp _ (Value.ref _) (Value.int _ _)) _ _ _) | (with_reducible show wpAny _ _ (compareOp CmpOp.Eq (Value.ref _) (Value.ref _)) _ _ _) | (with_reducible show wpAny _ _ (call (Value.type "zip") _ _) _ _ _) | (with_reducible show wpAny _ _ (call (Value.type "list") _ _) _ _ _)) | (first | (with_reducible show wpAny _ _ (eval (PySem.Expr.ListComp _ _ _ _) _) _ _ _) | (with_reducible show wpAny _ _ (exec (PySem.Stmt.Assign _ (PySem.Expr.ListComp _ _ _ _) _) _) _ _ _) | (with_reducible show wpAny _ _ (exec (PySem.Stmt.While _ _ _ _) _) _ _ _) | (with_reducible show wpAny _ _ (exec (PySem.Stmt.For _ _ _ _ _) _) _ _ _) | (with_reducible show wpAny _ _ (exec (PySem.Stmt.Assign [PySem.Expr.Name (PySem.Str.ofString "sign") _] _ _) _) _ _ _) | (with_reducible show wpAny _ _ (eval (PySem.Expr.GeneratorExp _ _ _ _) _) _ _ _) | (with_reducible show CompAt _ _ _ _ _ _ _ _ _ _ _ _ _ _ _ _) | (with_reducible show ForAt _ _ _ _ _ _ _ _ _ _) | (with_reducible show Kp _ _ _ ∧ _) | (with_reducible show wpAny _ _ (PySem.call (Value.ref _) _ _) _ _ _))))); (first | ((with_reducible show ite _ _ _); first | (refine PySem.W.ite_pos (by with_reducible assumption) ?_) | (refine PySem.W.ite_neg (by with_reducible assumption) ?_)) | (k_here; (with_reducible show wpAny _ _ (eval (PySem.Expr.Name _ _) (compEnvC _ _ _ _)) _ _ _); k_dflt (refine ld_builtR (by k_asm) (by k_asm) (by k_asm) (by k_is) (by boot_by_name) (by decide) ?_)) | walk1 | (dsimp only; walk1)))))
      rename IsRange _ _ _ _ _ _ _ _ => hr15
      rename Fr _ _ _ _ => F15
      rename News _ _ _ _ => N15
      refine lc_range (n := cut.length) (M := []) (fun i ys s' => (∃ ms, StrsAre ys ms ∧ ms.length = i ∧ ∀ m ∈ ms, m.length ≤ 100) ∧ ∃ h tk, s' = { s with heap := h, toks := tk }) (by decide) (by rfl) (by rfl) (by rfl) hr15 (small8 hcl) size8 (by simp) (Nat.le_trans hcl (by decide)) ?_ ?_ ?_ ?_
      · rintro i ys s' h' tk ⟨j, h, tk', rfl⟩ _
        exact ⟨j, h', tk, rfl⟩
      · exact ⟨⟨[], .nil, rfl, fun m hm => by simp at hm⟩, _, _, rfl⟩
      · rintro i ys t C m₂ s' hi _ ⟨⟨ms, hms, hml, hmb⟩, h12, tk12, rfl⟩ hC hn hx hk12
        obtain ⟨oC, hoC, N12⟩ := news_comp F15 N15 hk12 hn hC
        have F12 := fr_kp F15 hk12
        clear F15 N15 hr15
        refine wpAny_tests_nil ?_
        simp only [if_true]
        rw [Int.zero_add] at hx
        k_fold
        (repeat' (first | (k_unfold; (try dsimp only)) | ((fail_if_success ((first | (first | (with_reducible show wpAny _ _ (binaryOp _ (Value.ref _) (Value.ref _)) _ _ _) | (with_reducible show wpAny _ _ (binaryOp _ (Value.ref _) (Value.int _ _)) _ _ _) | (with_reducible show wpAny _ _ (compareOp CmpOp.Eq (Value.ref _) (Value.ref _)) _ _ _) | (with_reducible show wpAny _ _ (call (Value.type "zip") _ _) _ _ _) | (with_reducible show wpAny _ _ (call (Value.type "list") _ _) _ _ _)) | (first | (with_reducible show wpAny _ _ (eval (PySem.Expr.ListComp _ _ _ _) _) _ _ _) | (with_reducible show wpAny _ _ (exec (PySem.Stmt.Assign _ (PySem.Expr.ListComp _ _ _ _) _) _) _ _ _) | (with_reducible show wpAny _ _ (exec (PySem.Stmt.While _ _ _ _) _) _ _ _) | (with_reducible show wpAny _ _ (exec (PySem.Stmt.For _ _ _ _ _) _) _ _ _) | (with_reducible show wpAny _ _ (exec (PySem.Stmt.Assign [PySem.Expr.Name (PySem.Str.ofString "sign") _] _ _) _) _ _ _) | (with_reducible show wpAny _ _ (eval (PySem.Expr.GeneratorExp _ _ _ _) _) _ _ _) | (with_reducible show CompAt _ _ _ _ _ _ _ _ _ _ _ _ _ _ _ _) | (with_reducible show ForAt _ _ _ _ _ _ _ _ _ _) | (with_reducible show Kp _ _ _ ∧ _) | (with_reducible show wpAny _ _ (PySem.call (Value.ref _) _ _) _ _ _))))); (first | ((with_reducible show ite _ _ _); first | (refine PySem.W.ite_pos (by with_reducible assumption) ?_) | (refine PySem.W.ite_neg (by with_reducible assumption) ?_)) | (k_here; (with_reducible show wpAny _ _ (eval (PySem.Expr.Name _ _) (compEnvC _ _ _ _)) _ _ _); k_dflt (refine ld_builtR (by k_asm) (by k_asm) (by k_asm) (by k_is) (by boot_by_name) (by decide) ?_)) | walk1 | (dsimp only; walk1)))))
        exact ⟨Kp.refl, ⟨ms ++ [_], strs_snoc hms, by rw [List.length_append, hml]; rfl, lens_snoc hmb (mod6_len i (Nat.lt_of_lt_of_le hi hcl))⟩, _, _, rfl⟩
      · rintro D16 nv s' ⟨⟨ms2, hms2, hml2, hmb2⟩, h16, tk16, rfl⟩ hD16 hg16 hk16
        have N16 := news_add F15 N15 hk16 (Nat.le_of_lt hD16) hg16
        have F16 := fr_kp F15 hk16
        clear F15 N15 hr15
        k_dflt (refine kmk_add_lit F16 N16 (list_of_get (N16.get (.tail _ (.head _)))) (list_of_get (N16.get (.head _))) rfl ?_ ?_)
        rotate_left
        · have e1 := strs_len hms
          have e2 := strs_len hms2
          refine Nat.le_trans (?_ : _ ≤ 17) (by decide)
          simp only [List.length_append, List.length_cons, List.length_nil]
          omega
        intro D17 h17 F17 N17 l17
        have hmod : StrsAre ((mv.toArray.toList ++ (#[Value.str (Str.ofString "q0") tk12, Value.str (Str.ofString "q1") (tk12 + 1)] : Array Value).toList).toArray.toList ++ nv.toArray.toList) (ms ++ [Str.ofString "q0", Str.ofString "q1"] ++ ms2) := strs_app (strs_app hms (.cons _ _ (.cons _ _ .nil))) hms2
        have hmtl : (ms ++ [Str.ofString "q0", Str.ofString "q1"] ++ ms2).length = xs.length := by
          simp only [List.length_append, List.length_cons, List.length_nil]; omega
        have hmtb : ∀ m ∈ ms ++ [Str.ofString "q0", Str.ofString "q1"] ++ ms2, m.length ≤ 100 := by
          intro m hm
          rcases List.mem_append.mp hm with hm | hm
          · rcases List.mem_append.mp hm with hm | hm
            · exact hmb m hm
            · simp only [List.mem_cons, List.not_mem_nil, or_false] at hm
              rcases hm with rfl | rfl <;> decide +kernel
          · exact hmb2 m hm
        generalize (mv.toArray.toList ++ (#[Value.str (Str.ofString "q0") tk12, Value.str (Str.ofString "q1") (tk12 + 1)] : Array Value).toList).toArray.toList ++ nv.toArray.toList = mo at N17 hmod
        revert mo
        refine barrier ?_
        intro mo N17 hmod
        generalize ms ++ [Str.ofString "q0", Str.ofString "q1"] ++ ms2 = mt at hmod hmtl hmtb
        revert mt
        refine barrier ?_
        intro mt hmod hmtl hmtb
        have N18 : News g L' h17 [(D17, W.listOf mo.toArray 0), (D9, lst fv), (D3, W.listOf rv.toArray 0), (23, { cls := Value.none, data := Data.fields ps })] := ncons (N17 _ (by k_mem)) (ncons (N17 _ (by k_mem)) (ncons (N17 _ (by k_mem)) (ncons (N17 _ (by k_mem)) News.nil)))
        have q1 : @LT.lt Nat _ D9 D17 := l17 (D9, lst fv) (by k_mem)
        have q2 : @LT.lt Nat _ D3 D9 := l9 (D3, W.listOf rv.toArray 0) (by k_mem)
        have q3 : @LT.lt Nat _ 23 D3 := by
          have := l4 (23, { cls := Value.none, data := Data.fields ps }) (by k_mem)
          exact this
        clear F16 N16 N17 l17 hms2 hml2 hmb2 hms hml hmb l9 l14 l8
        dsimp only
        (repeat' (first | (k_unfold; (try dsimp only)) | ((fail_if_success ((first | (first | (with_reducible show wpAny _ _ (binaryOp _ (Value.ref _) (Value.ref _)) _ _ _) | (with_reducible show wpAny _ _ (binaryOp _ (Value.ref _) (Value.int _ _)) _ _ _) | (with_reducible show wpAny _ _ (compareOp CmpOp.Eq (Value.ref _) (Value.ref _)) _ _ _) | (with_reducible show wpAny _ _ (call (Value.type "zip") _ _) _ _ _) | (with_reducible show wpAny _ _ (call (Value.type "list") _ _) _ _ _)) | (first | (with_reducible show wpAny _ _ (eval (PySem.Expr.ListComp _ _ _ _) _) _ _ _) | (with_reducible show wpAny _ _ (exec (PySem.Stmt.Assign _ (PySem.Expr.ListComp _ _ _ _) _) _) _ _ _) | (with_reducible show wpAny _ _ (exec (PySem.Stmt.While _ _ _ _) _) _ _ _) | (with_reducible show wpAny _ _ (exec (PySem.Stmt.For _ _ _ _ _) _) _ _ _) | (with_reducible show wpAny _ _ (exec (PySem.Stmt.Assign [PySem.Expr.Name (PySem.Str.ofString "sign") _] _ _) _) _ _ _) | (with_reducible show wpAny _ _ (eval (PySem.Expr.GeneratorExp _ _ _ _) _) _ _ _) | (with_reducible show CompAt _ _ _ _ _ _ _ _ _ _ _ _ _ _ _ _) | (with_reducible show ForAt _ _ _ _ _ _ _ _ _ _) | (with_reducible show Kp _ _ _ ∧ _) | (with_reducible show wpAny _ _ (PySem.call (Value.ref _) _ _) _ _ _))))); (first | ((with_reducible show ite _ _ _); first | (refine PySem.W.ite_pos (by with_reducible assumption) ?_) | (refine PySem.W.ite_neg (by with_reducible assumption) ?_)) | (k_here; (with_reducible show wpAny _ _ (eval (PySem.Expr.Name _ _) (compEnvC _ _ _ _)) _ _ _); k_dflt (refine ld_builtR (by k_asm) (by k_asm) (by k_asm) (by k_is) (by boot_by_name) (by decide) ?_)) | walk1 | (dsimp only; walk1)))))
        rename Fr _ _ _ _ => F19
        rename News _ _ _ _ => N19
        rename Heap => h19
        have hfvl : fv.length = xs.length := by rw [strs_len hJf, List.length_map]
        have hmol : mo.length = xs.length := by rw [strs_len hmod, hmtl]
        k_dflt (refine call_zip_2 (list_of_get (N19.get (.tail _ (.head _)))) (list_of_get (N19.get (.head _))) ?_)
        intro h20 z1 z2 z3 z4 z5 z6 kz
        have Dz := zipApart_new (Heap.lt_size (N19.get (.tail _ (.head _)))) (Heap.lt_size (N19.get (.head _)))
        have F20 := fr_kp F19 (Kp.of kz)
        have N20 := news_kp N19 (Kp.of kz)
        have hL19 : @LT.lt Nat _ L' h19.objs.size := F19.ns.lt
        have hD17 : @LT.lt Nat _ D17 h19.objs.size := Heap.lt_size (N19.get (.head _))
        clear F19 N19
        dsimp only at z1 z2 z3 z4 z5 z6 Dz ⊢
        (repeat' (first | (k_unfold; (try dsimp only)) | ((fail_if_success ((first | (first | (with_reducible show wpAny _ _ (binaryOp _ (Value.ref _) (Value.ref _)) _ _ _) | (with_reducible show wpAny _ _ (binaryOp _ (Value.ref _) (Value.int _ _)) _ _ _) | (with_reducible show wpAny _ _ (compareOp CmpOp.Eq (Value.ref _) (Value.ref _)) _ _ _) | (with_reducible show wpAny _ _ (call (Value.type "zip") _ _) _ _ _) | (with_reducible show wpAny _ _ (call (Value.type "list") _ _) _ _ _)) | (first | (with_reducible show wpAny _ _ (eval (PySem.Expr.ListComp _ _ _ _) _) _ _ _) | (with_reducible show wpAny _ _ (exec (PySem.Stmt.Assign _ (PySem.Expr.ListComp _ _ _ _) _) _) _ _ _) | (with_reducible show wpAny _ _ (exec (PySem.Stmt.While _ _ _ _) _) _ _ _) | (with_reducible show wpAny _ _ (exec (PySem.Stmt.For _ _ _ _ _) _) _ _ _) | (with_reducible show wpAny _ _ (exec (PySem.Stmt.Assign [PySem.Expr.Name (PySem.Str.ofString "sign") _] _ _) _) _ _ _) | (with_reducible show wpAny _ _ (eval (PySem.Expr.GeneratorExp _ _ _ _) _) _ _ _) | (with_reducible show CompAt _ _ _ _ _ _ _ _ _ _ _ _ _ _ _ _) | (with_reducible show ForAt _ _ _ _ _ _ _ _ _ _) | (with_reducible show Kp _ _ _ ∧ _) | (with_reducible show wpAny _ _ (PySem.call (Value.ref _) _ _) _ _ _))))); (first | ((with_reducible show ite _ _ _); first | (refine PySem.W.ite_pos (by with_reducible assumption) ?_) | (refine PySem.W.ite_neg (by with_reducible assumption) ?_)) | (k_here; (with_reducible show wpAny _ _ (eval (PySem.Expr.Name _ _) (compEnvC _ _ _ _)) _ _ _); k_dflt (refine ld_builtR (by k_asm) (by k_asm) (by k_asm) (by k_is) (by boot_by_name) (by decide) ?_)) | walk1 | (dsimp only; walk1)))))
        rename Fr _ _ _ _ => F20
        rename News _ _ _ _ => N20
        have hmin : min fv.toArray.size mo.toArray.size = xs.length := by rw [List.size_toArray, List.size_toArray, hfvl, hmol, Nat.min_self]
        k_dflt (refine list_zipped (by rfl) Dz (by rw [hmin]; exact Nat.lt_of_lt_of_le (by decide) hx9) (by rw [hmin]; exact Nat.le_trans hx17 (by decide)) z1 z2 z3 z4 z5 (list_of_get (N20.get (.tail _ (.head _)))) (list_of_get (N20.get (.head _))) ?_)
        intro acc c21 h21 tk21 k21 hg21 hac htup
        dsimp only at k21 hg21 htup ⊢
        rw [hmin] at hac
        have hM : ∀ b ∈ [h19.objs.size + 4, h19.objs.size + 3, h19.objs.size, h19.objs.size + 1], h19.objs.size ≤ b := fcons (Nat.le_add_right _ _) (fcons (Nat.le_add_right _ _) (fcons (Nat.le_refl _) (fcons (Nat.le_add_right _ _) fnil)))
        have hgh : ∀ b, h19.objs.size ≤ b → g.get? b = none := fun b hb => Heap.get?_none_of_le (Nat.le_trans F20.above (Nat.le_trans (Nat.le_of_lt hL19) hb))
        have F21 := fr_kpM F20 k21 (fun q => absurd (hM _ q) (Nat.not_le.mpr hL19)) (fun b hb => hgh b (hM b hb))
        have old : ∀ b o, b < h19.objs.size → h20.get? b = some o → h21.get? b = some o := fun b o hb e => k21 b o (fun q => absurd (hM _ q) (Nat.not_le.mpr hb)) e
        have ht1 : ∀ (j : Nat) x y, fv[j]? = some x → mo[j]? = some y → ∃ T, acc.toList[j]? = some (.ref T) ∧ (T, ({ cls := .type "tuple", data := .seq #[x, y] } : Obj)) ∈ tupL h21 acc.toList ∧ h20.objs.size ≤ T ∧ T ≠ h20.objs.size := by
          intro j x y hx hy
          obtain ⟨T, b1, b2, b3, b4⟩ := htup j x y (by simpa using hx) (by simpa using hy)
          have b1' : acc.toList[j]? = some (.ref T) := by rw [Array.getElem?_toList]; exact b1
          exact ⟨T, b1', tupL_mem (List.mem_of_getElem? b1') b2, b3, b4⟩
        have ht2 : ∀ p ∈ tupL h21 acc.toList, h21.get? p.1 = some p.2 ∧ h20.objs.size < p.1 := by
          intro p hp
          obtain ⟨m1, m2⟩ := tupL_of hp
          obtain ⟨j, hj, e⟩ := List.getElem_of_mem m1
          have hj' : j < xs.length := by rw [← hac]; simpa using hj
          obtain ⟨T, b1, _, b3, b4⟩ := ht1 j (fv[j]'(by rw [hfvl]; exact hj')) (mo[j]'(by rw [hmol]; exact hj')) (List.getElem?_eq_getElem _) (List.getElem?_eq_getElem _)
          rw [List.getElem?_eq_getElem hj, e] at b1
          cases b1
          exact ⟨m2, Nat.lt_of_le_of_ne b3 (Ne.symm b4)⟩
        have o21 : ∀ p ∈ [(D17, W.listOf mo.toArray 0), (D9, lst fv), (D3, W.listOf rv.toArray 0), ((23 : Addr), ({ cls := Value.none, data := Data.fields ps } : Obj))], @LT.lt Nat _ p.1 h19.objs.size := fcons hD17 (fcons (Nat.lt_trans q1 hD17) (fcons (Nat.lt_trans q2 (Nat.lt_trans q1 hD17)) (fcons (Nat.lt_trans q3 (Nat.lt_trans q2 (Nat.lt_trans q1 hD17))) fnil)))
        have N21 : News g L' h21 ((h20.objs.size, W.listOf acc c21) :: (D17, W.listOf mo.toArray 0) :: (D9, lst fv) :: (D3, W.listOf rv.toArray 0) :: (23, { cls := Value.none, data := Data.fields ps }) :: tupL h21 acc.toList) := by
          have hz : @LT.lt Nat _ h19.objs.size h20.objs.size := by rw [z6]; exact Nat.lt_add_of_pos_right (by decide)
          intro p hp
          rcases List.mem_cons.mp hp with rfl | hp
          · exact ⟨hg21, Nat.ne_of_gt (Nat.lt_trans hL19 hz), hgh _ (Nat.le_of_lt hz)⟩
          · rcases List.mem_append.mp (show p ∈ [(D17, W.listOf mo.toArray 0), (D9, lst fv), (D3, W.listOf rv.toArray 0), ((23 : Addr), ({ cls := Value.none, data := Data.fields ps } : Obj))] ++ tupL h21 acc.toList from hp) with hp | hp
            · exact ⟨old _ _ (o21 p hp) (N20 p hp).1, (N20 p hp).2⟩
            · obtain ⟨m1, m2⟩ := ht2 p hp
              exact ⟨m1, Nat.ne_of_gt (Nat.lt_trans hL19 (Nat.lt_trans hz m2)), hgh _ (Nat.le_of_lt (Nat.lt_trans hz m2))⟩
        generalize tupL h21 acc.toList = tl at ht1 ht2 N21
        revert tl
        refine barrier ?_
        intro tl ht1 ht2 N21
        clear F20 N20 k21 hg21 htup old z1 z2 z3 z4 z5 kz Dz hM
        obtain ⟨v0, v1, fvr, rfl⟩ : ∃ v0 v1 fvr, fv = v0 :: v1 :: fvr := by
          rcases fv with _ | ⟨v0, _ | ⟨v1, fvr⟩⟩
          · rw [← hfvl] at hx9; simp at hx9
          · rw [← hfvl] at hx9; simp at hx9
          · exact ⟨v0, v1, fvr, rfl⟩
        obtain ⟨f1, tf1, rfl, hf1⟩ := strs_get (i := 1) (v := v1) hJf rfl
        (repeat' (first | (k_unfold; (try dsimp only)) | ((fail_if_success ((first | (first | (with_reducible show wpAny _ _ (binaryOp _ (Value.ref _) (Value.ref _)) _ _ _) | (with_reducible show wpAny _ _ (binaryOp _ (Value.ref _) (Value.int _ _)) _ _ _) | (with_reducible show wpAny _ _ (compareOp CmpOp.Eq (Value.ref _) (Value.ref _)) _ _ _) | (with_reducible show wpAny _ _ (call (Value.type "zip") _ _) _ _ _) | (with_reducible show wpAny _ _ (call (Value.type "list") _ _) _ _ _)) | (first | (with_reducible show wpAny _ _ (eval (PySem.Expr.ListComp _ _ _ _) _) _ _ _) | (with_reducible show wpAny _ _ (exec (PySem.Stmt.Assign _ (PySem.Expr.ListComp _ _ _ _) _) _) _ _ _) | (with_reducible show wpAny _ _ (exec (PySem.Stmt.While _ _ _ _) _) _ _ _) | (with_reducible show wpAny _ _ (exec (PySem.Stmt.For _ _ _ _ _) _) _ _ _) | (with_reducible show wpAny _ _ (exec (PySem.Stmt.Assign [PySem.Expr.Name (PySem.Str.ofString "sign") _] _ _) _) _ _ _) | (with_reducible show wpAny _ _ (eval (PySem.Expr.GeneratorExp _ _ _ _) _) _ _ _) | (with_reducible show CompAt _ _ _ _ _ _ _ _ _ _ _ _ _ _ _ _) | (with_reducible show ForAt _ _ _ _ _ _ _ _ _ _) | (with_reducible show Kp _ _ _ ∧ _) | (with_reducible show wpAny _ _ (PySem.call (Value.ref _) _ _) _ _ _))))); (first | ((with_reducible show ite _ _ _); first | (refine PySem.W.ite_pos (by with_reducible assumption) ?_) | (refine PySem.W.ite_neg (by with_reducible assumption) ?_)) | (k_here; (with_reducible show wpAny _ _ (eval (PySem.Expr.Name _ _) (compEnvC _ _ _ _)) _ _ _); k_dflt (refine ld_builtR (by k_asm) (by k_asm) (by k_asm) (by k_is) (by boot_by_name) (by decide) ?_)) | walk1 | (dsimp only; walk1)))))
        rename_i T1 hx1 lx1 T2 hx2 lx2 T3 hx3 lx3 l22 h22 F22 N22 lx4
        k_dflt (refine kmk_add_lit F22 N22 (list_of_get (N22.get (.tail _ (.tail _ (.tail _ (.tail _ (.head _))))))) (list_of_get (N22.get (.head _))) rfl ?_ ?_)
        rotate_left
        · refine Nat.le_trans (?_ : _ ≤ 20) (by decide)
          have : acc.toList.length = xs.length := by simpa using hac
          rw [this]
          exact Nat.add_le_add_right hx17 3
        intro D23 h23 F23 N23 l23
        have hask : ∀ h : Heap, (∀ p ∈ (T3, ({ cls := .type "tuple", data := .seq #[.str (Str.ofString "/opt.py") (tk21 + 1 + 1 + 1), .str (Str.ofString "p") (tk21 + 1 + 1 + 1 + 1)] } : Obj)) :: (T2, ({ cls := .type "tuple", data := .seq #[.none, .str (Str.ofString "o") (tk21 + 1 + 1)] } : Obj)) :: (T1, ({ cls := .type "tuple", data := .seq #[.str f1 tf1, .str (Str.ofString "<string>") (tk21 + 1)] } : Obj)) :: tl, h.get? p.1 = some p.2) →
            ∀ (i : Nat) v q, (acc.toList ++ (#[Value.ref T1, .ref T2, .ref T3] : Array Value).toList)[i]? = some v → (qsOf (xs.map fun x => fileOf (lawNm x)) mt f1)[i]? = some q → AskIs h v q := fun h hN =>
          asks_ok hJf hmod (by rw [List.length_map, hmtl]) (by rw [List.length_map]; simpa using hac) (fun j x y hx hy => let ⟨T, b1, b2, _⟩ := ht1 j x y hx hy; ⟨T, b1, b2⟩) (fun p hp => hN p (.tail _ (.tail _ (.tail _ hp)))) (hN _ (.tail _ (.tail _ (.head _)))) (hN _ (.tail _ (.head _))) (hN _ (.head _))
        have hne2 : ∀ p ∈ (T3, ({ cls := .type "tuple", data := .seq #[.str (Str.ofString "/opt.py") (tk21 + 1 + 1 + 1), .str (Str.ofString "p") (tk21 + 1 + 1 + 1 + 1)] } : Obj)) :: (T2, ({ cls := .type "tuple", data := .seq #[.none, .str (Str.ofString "o") (tk21 + 1 + 1)] } : Obj)) :: (T1, ({ cls := .type "tuple", data := .seq #[.str f1 tf1, .str (Str.ofString "<string>") (tk21 + 1)] } : Obj)) :: tl, p.1 ≠ 23 := by
          have a1 : @LT.lt Nat _ 23 T1 := lx1.2.2.2.2.1
          have a2 : @LT.lt Nat _ T1 T2 := lx2.1
          have a3 : @LT.lt Nat _ T2 T3 := lx3.1
          refine fcons (Nat.ne_of_gt (Nat.lt_trans a1 (Nat.lt_trans a2 a3))) (fcons (Nat.ne_of_gt (Nat.lt_trans a1 a2)) (fcons (Nat.ne_of_gt a1) fun p hp => ?_))
          · have a4 := (ht2 p hp).2
            exact Nat.ne_of_gt (Nat.lt_trans (Nat.lt_trans q3 (Nat.lt_trans q2 (Nat.lt_trans q1 hD17))) (Nat.lt_trans (by rw [z6]; exact Nat.lt_add_of_pos_right (by decide)) a4))
        have hasl : (acc.toList ++ (#[Value.ref T1, .ref T2, .ref T3] : Array Value).toList).length = xs.length + 3 := by
          rw [List.length_append]
          have : acc.toList.length = xs.length := by simpa using hac
          rw [this]; rfl
        have N24 : News g L' h23 ((D23, W.listOf (acc.toList ++ (#[Value.ref T1, .ref T2, .ref T3] : Array Value).toList).toArray 0) :: (D3, W.listOf rv.toArray 0) :: (23, { cls := Value.none, data := Data.fields ps }) :: (T3, ({ cls := .type "tuple", data := .seq #[.str (Str.ofString "/opt.py") (tk21 + 1 + 1 + 1), .str (Str.ofString "p") (tk21 + 1 + 1 + 1 + 1)] } : Obj)) :: (T2, ({ cls := .type "tuple", data := .seq #[.none, .str (Str.ofString "o") (tk21 + 1 + 1)] } : Obj)) :: (T1, ({ cls := .type "tuple", data := .seq #[.str f1 tf1, .str (Str.ofString "<string>") (tk21 + 1)] } : Obj)) :: tl) := ncons (N23 _ (by k_mem)) (ncons (N23 _ (by k_mem)) (ncons (N23 _ (by k_mem)) (ncons (N23 _ (by k_mem)) (ncons (N23 _ (by k_mem)) (ncons (N23 _ (by k_mem)) (fun p hp => N23 p (.tail _ (.tail _ (.tail _ (.tail _ (.tail _ (.tail _ (.tail _ (.tail _ (.tail _ (.tail _ hp))))))))))))))))
        have q4 : @LT.lt Nat _ D3 D23 := l23 (D3, W.listOf rv.toArray 0) (by k_mem)
        generalize acc.toList ++ (#[Value.ref T1, .ref T2, .ref T3] : Array Value).toList = av at hask hasl N24
        revert av
        refine barrier ?_
        intro av hask hasl N24
        generalize ((T3, ({ cls := .type "tuple", data := .seq #[.str (Str.ofString "/opt.py") (tk21 + 1 + 1 + 1), .str (Str.ofString "p") (tk21 + 1 + 1 + 1 + 1)] } : Obj)) :: (T2, ({ cls := .type "tuple", data := .seq #[.none, .str (Str.ofString "o") (tk21 + 1 + 1)] } : Obj)) :: (T1, ({ cls := .type "tuple", data := .seq #[.str f1 tf1, .str (Str.ofString "<string>") (tk21 + 1)] } : Obj)) :: tl) = tl2 at hask N24 hne2
        revert tl2
        refine barrier ?_
        intro tl2 hask N24 hne2
        have hqg : g.get? 23 = none := N24.fresh (by k_mem : (23, _) ∈ _)
        have hB' : BMod g mainGlobals mg bm ob := by
          have hbm : bm ≠ 23 := by
            intro q
            have := hB.obj
            rw [q, hTab.tab.2] at this
            have e := hB.cls
            cases this; cases e
          exact ⟨hB.ns.at' fun o e => eg ▸ hideAll_get _ e (by simp; decide), hB.name, hB.ne, eg ▸ hideAll_get _ hB.obj (by simpa using hbm), hB.cls, hB.dict, hB.data⟩
        have h27 : ∃ o27, g.get? 27 = some o27 := ⟨_, X' _ _ (show (hd.heap_39 w.params).lookup 27 = _ from rfl)⟩
        clear F22 N22 N23 l23 lx1 lx2 lx3 lx4 ht1 ht2 o21 hgh
        dsimp only
        (repeat' (first | (k_unfold; (try dsimp only)) | ((fail_if_success ((first | (first | (with_reducible show wpAny _ _ (binaryOp _ (Value.ref _) (Value.ref _)) _ _ _) | (with_reducible show wpAny _ _ (binaryOp _ (Value.ref _) (Value.int _ _)) _ _ _) | (with_reducible show wpAny _ _ (compareOp CmpOp.Eq (Value.ref _) (Value.ref _)) _ _ _) | (with_reducible show wpAny _ _ (call (Value.type "zip") _ _) _ _ _) | (with_reducible show wpAny _ _ (call (Value.type "list") _ _) _ _ _)) | (first | (with_reducible show wpAny _ _ (eval (PySem.Expr.ListComp _ _ _ _) _) _ _ _) | (with_reducible show wpAny _ _ (exec (PySem.Stmt.Assign _ (PySem.Expr.ListComp _ _ _ _) _) _) _ _ _) | (with_reducible show wpAny _ _ (exec (PySem.Stmt.While _ _ _ _) _) _ _ _) | (with_reducible show wpAny _ _ (exec (PySem.Stmt.For _ _ _ _ _) _) _ _ _) | (with_reducible show wpAny _ _ (exec (PySem.Stmt.Assign [PySem.Expr.Name (PySem.Str.ofString "sign") _] _ _) _) _ _ _) | (with_reducible show wpAny _ _ (eval (PySem.Expr.GeneratorExp _ _ _ _) _) _ _ _) | (with_reducible show CompAt _ _ _ _ _ _ _ _ _ _ _ _ _ _ _ _) | (with_reducible show ForAt _ _ _ _ _ _ _ _ _ _) | (with_reducible show Kp _ _ _ ∧ _) | (with_reducible show wpAny _ _ (PySem.call (Value.ref _) _ _) _ _ _))))); (first | ((with_reducible show ite _ _ _); first | (refine PySem.W.ite_pos (by with_reducible assumption) ?_) | (refine PySem.W.ite_neg (by with_reducible assumption) ?_)) | (k_here; (with_reducible show wpAny _ _ (eval (PySem.Expr.Name _ _) (compEnvC _ _ _ _)) _ _ _); k_dflt (refine ld_builtR (by k_asm) (by k_asm) (by k_asm) (by k_is) (by boot_by_name) (by decide) ?_)) | walk1 | (dsimp only; walk1)))))
        k_dflt (refine reset s ?_)
        intro tkr4
        ((k_dflt (refine lc_eval (by with_unfolding_all rfl) (by rfl) (by decide) ?_); k_fold))
        (repeat' (first | (k_unfold; (try dsimp only)) | ((fail_if_success ((first | (first | (with_reducible show wpAny _ _ (binaryOp _ (Value.ref _) (Value.ref _)) _ _ _) | (with_reducible show wpAny _ _ (binaryOp _ (Value.ref _) (Value.int _ _)) _ _ _) | (with_reducible show wpAny _ _ (compareOp CmpOp.Eq (Value.ref _) (Value.ref _)) _ _ _) | (with_reducible show wpAny _ _ (call (Value.type "zip") _ _) _ _ _) | (with_reducible show wpAny _ _ (call (Value.type "list") _ _) _ _ _)) | (first | (with_reducible show wpAny _ _ (eval (PySem.Expr.ListComp _ _ _ _) _) _ _ _) | (with_reducible show wpAny _ _ (exec (PySem.Stmt.Assign _ (PySem.Expr.ListComp _ _ _ _) _) _) _ _ _) | (with_reducible show wpAny _ _ (exec (PySem.Stmt.While _ _ _ _) _) _ _ _) | (with_reducible show wpAny _ _ (exec (PySem.Stmt.For _ _ _ _ _) _) _ _ _) | (with_reducible show wpAny _ _ (exec (PySem.Stmt.Assign [PySem.Expr.Name (PySem.Str.ofString "sign") _] _ _) _) _ _ _) | (with_reducible show wpAny _ _ (eval (PySem.Expr.GeneratorExp _ _ _ _) _) _ _ _) | (with_reducible show CompAt _ _ _ _ _ _ _ _ _ _ _ _ _ _ _ _) | (with_reducible show ForAt _ _ _ _ _ _ _ _ _ _) | (with_reducible show Kp _ _ _ ∧ _) | (with_reducible show wpAny _ _ (PySem.call (Value.ref _) _ _) _ _ _))))); (first | ((with_reducible show ite _ _ _); first | (refine PySem.W.ite_pos (by with_reducible assumption) ?_) | (refine PySem.W.ite_neg (by with_reducible assumption) ?_)) | (k_here; (with_reducible show wpAny _ _ (eval (PySem.Expr.Name _ _) (compEnvC _ _ _ _)) _ _ _); k_dflt (refine ld_builtR (by k_asm) (by k_asm) (by k_asm) (by k_is) (by boot_by_name) (by decide) ?_)) | walk1 | (dsimp only; walk1)))))
        rename Fr _ _ _ _ => F24
        rename News _ _ _ _ => N24
        rename Heap => h24
        have hTab24 : TabOk h24 27 23 ps := tab_at hTab h27 (fun o e => hk _ _ (by rw [eg] at e; exact e)) (fun o e => F24.keep _ _ e) (N24.get (by k_mem))
        have hs27 : @LT.lt Nat _ 27 h24.objs.size := by obtain ⟨o, e⟩ := h27; exact Heap.lt_size (F24.keep _ _ e)
        have hs23 : @LT.lt Nat _ 23 h24.objs.size := Heap.lt_size (N24.get (by k_mem : (23, _) ∈ _))
        have hrvl : rv.length = rows.length := hI3.length
        have hL23 : L' ≠ 23 := by have := Heap.lt_size hTab.tab.2; rw [eL]; exact Nat.ne_of_gt this
        k_dflt (refine lc_name (M := [23]) (its := rv.toArray) (fun i ys s' => StrsAre ys ((rows.take i).map fun x => Str.ofString "/opt/" ++ lawNm x) ∧ s'.os = s.os ∧ AllBare s'.gens ∧ ∃ ps', TabOk s'.heap 27 23 ps') (by decide) (by rfl) (by rfl) (by rfl) (list_of_get (N24.get (by k_mem : (D3, _) ∈ _))) (by simpa using Nat.ne_of_gt q3) (by simpa using hs23) (by rw [List.size_toArray]; exact Nat.le_trans (show rv.length ≤ 13 by rw [hrvl]; exact hrl) (by decide)) ?_ ?_ ?_ ?_)
        · rintro i ys s' h' tk ⟨j1, j2, j3, ps', j4⟩ hup
          exact ⟨j1, j2, j3, ps', j4.at2 (fun o e => hup _ _ hs27 e) (fun o e => hup _ _ hs23 e)⟩
        · exact ⟨.nil, rfl, hG, ps, hTab24⟩
        · rintro i ys v C m₂ s' hv _ ⟨hJ, j2, j3, ps5, j4⟩ hC hn hx hk5
          obtain ⟨r, t9, rfl, hr⟩ := ints_get hI3 (by simpa using hv)
          have F9 := fr_kpM F24 hk5 (by simpa using hL23) (by simpa using hqg)
          obtain ⟨oC, hoC, N9⟩ := news_ns F24 hC (News.nil : News g L' s'.heap []) hn
          clear F24 N24
          refine wpAny_tests_nil ?_
          (show wpAny _ _ _ _ _ _); k_fold
          (repeat' (first | (k_unfold; (try dsimp only)) | ((fail_if_success ((first | (first | (with_reducible show wpAny _ _ (binaryOp _ (Value.ref _) (Value.ref _)) _ _ _) | (with_reducible show wpAny _ _ (binaryOp _ (Value.ref _) (Value.int _ _)) _ _ _) | (with_reducible show wpAny _ _ (compareOp CmpOp.Eq (Value.ref _) (Value.ref _)) _ _ _) | (with_reducible show wpAny _ _ (call (Value.type "zip") _ _) _ _ _) | (with_reducible show wpAny _ _ (call (Value.type "list") _ _) _ _ _)) | (first | (with_reducible show wpAny _ _ (eval (PySem.Expr.ListComp _ _ _ _) _) _ _ _) | (with_reducible show wpAny _ _ (exec (PySem.Stmt.Assign _ (PySem.Expr.ListComp _ _ _ _) _) _) _ _ _) | (with_reducible show wpAny _ _ (exec (PySem.Stmt.While _ _ _ _) _) _ _ _) | (with_reducible show wpAny _ _ (exec (PySem.Stmt.For _ _ _ _ _) _) _ _ _) | (with_reducible show wpAny _ _ (exec (PySem.Stmt.Assign [PySem.Expr.Name (PySem.Str.ofString "sign") _] _ _) _) _ _ _) | (with_reducible show wpAny _ _ (eval (PySem.Expr.GeneratorExp _ _ _ _) _) _ _ _) | (with_reducible show CompAt _ _ _ _ _ _ _ _ _ _ _ _ _ _ _ _) | (with_reducible show ForAt _ _ _ _ _ _ _ _ _ _) | (with_reducible show Kp _ _ _ ∧ _) | (with_reducible show wpAny _ _ (PySem.call (Value.ref _) _ _) _ _ _))))); (first | ((with_reducible show ite _ _ _); first | (refine PySem.W.ite_pos (by with_reducible assumption) ?_) | (refine PySem.W.ite_neg (by with_reducible assumption) ?_)) | (k_here; (with_reducible show wpAny _ _ (eval (PySem.Expr.Name _ _) (compEnvC _ _ _ _)) _ _ _); k_dflt (refine ld_builtR (by k_asm) (by k_asm) (by k_asm) (by k_is) (by boot_by_name) (by decide) ?_)) | walk1 | (dsimp only; walk1)))))
          rename Fr _ _ _ _ => F9
          rename News _ _ _ _ => N9
          k_dflt (refine lawRow (rm 5 hdp (by decide)) (X'.keeps F9.keep) (T'.keeps F9.keep) ?_)
          intro Dz1 u10 u11 u12 hz1 tkz1 nz1 kz1 hDz1 hgz1
          have N10 := news_add F9 N9 kz1 (Nat.le_of_lt hDz1) hgz1
          have F10 := fr_kp F9 kz1
          clear F9 N9
          (repeat' (first | (k_unfold; (try dsimp only)) | ((fail_if_success ((first | (first | (with_reducible show wpAny _ _ (binaryOp _ (Value.ref _) (Value.ref _)) _ _ _) | (with_reducible show wpAny _ _ (binaryOp _ (Value.ref _) (Value.int _ _)) _ _ _) | (with_reducible show wpAny _ _ (compareOp CmpOp.Eq (Value.ref _) (Value.ref _)) _ _ _) | (with_reducible show wpAny _ _ (call (Value.type "zip") _ _) _ _ _) | (with_reducible show wpAny _ _ (call (Value.type "list") _ _) _ _ _)) | (first | (with_reducible show wpAny _ _ (eval (PySem.Expr.ListComp _ _ _ _) _) _ _ _) | (with_reducible show wpAny _ _ (exec (PySem.Stmt.Assign _ (PySem.Expr.ListComp _ _ _ _) _) _) _ _ _) | (with_reducible show wpAny _ _ (exec (PySem.Stmt.While _ _ _ _) _) _ _ _) | (with_reducible show wpAny _ _ (exec (PySem.Stmt.For _ _ _ _ _) _) _ _ _) | (with_reducible show wpAny _ _ (exec (PySem.Stmt.Assign [PySem.Expr.Name (PySem.Str.ofString "sign") _] _ _) _) _ _ _) | (with_reducible show wpAny _ _ (eval (PySem.Expr.GeneratorExp _ _ _ _) _) _ _ _) | (with_reducible show CompAt _ _ _ _ _ _ _ _ _ _ _ _ _ _ _ _) | (with_reducible show ForAt _ _ _ _ _ _ _ _ _ _) | (with_reducible show Kp _ _ _ ∧ _) | (with_reducible show wpAny _ _ (PySem.call (Value.ref _) _ _) _ _ _))))); (first | ((with_reducible show ite _ _ _); first | (refine PySem.W.ite_pos (by with_reducible assumption) ?_) | (refine PySem.W.ite_neg (by with_reducible assumption) ?_)) | (k_here; (with_reducible show wpAny _ _ (eval (PySem.Expr.Name _ _) (compEnvC _ _ _ _)) _ _ _); k_dflt (refine ld_builtR (by k_asm) (by k_asm) (by k_asm) (by k_is) (by boot_by_name) (by decide) ?_)) | walk1 | (dsimp only; walk1)))))
          rename Fr _ _ _ _ => F9
          rename News _ _ _ _ => N9
          k_dflt (refine lawRow (rm 5 hdp (by decide)) (X'.keeps F9.keep) (T'.keeps F9.keep) ?_)
          intro Dz2 u20 u21 u22 hz2 tkz2 nz2 kz2 hDz2 hgz2
          have N10 := news_add F9 N9 kz2 (Nat.le_of_lt hDz2) hgz2
          have F10 := fr_kp F9 kz2
          clear F9 N9
          (repeat' (first | (k_unfold; (try dsimp only)) | ((fail_if_success ((first | (first | (with_reducible show wpAny _ _ (binaryOp _ (Value.ref _) (Value.ref _)) _ _ _) | (with_reducible show wpAny _ _ (binaryOp _ (Value.ref _) (Value.int _ _)) _ _ _) | (with_reducible show wpAny _ _ (compareOp CmpOp.Eq (Value.ref _) (Value.ref _)) _ _ _) | (with_reducible show wpAny _ _ (call (Value.type "zip") _ _) _ _ _) | (with_reducible show wpAny _ _ (call (Value.type "list") _ _) _ _ _)) | (first | (with_reducible show wpAny _ _ (eval (PySem.Expr.ListComp _ _ _ _) _) _ _ _) | (with_reducible show wpAny _ _ (exec (PySem.Stmt.Assign _ (PySem.Expr.ListComp _ _ _ _) _) _) _ _ _) | (with_reducible show wpAny _ _ (exec (PySem.Stmt.While _ _ _ _) _) _ _ _) | (with_reducible show wpAny _ _ (exec (PySem.Stmt.For _ _ _ _ _) _) _ _ _) | (with_reducible show wpAny _ _ (exec (PySem.Stmt.Assign [PySem.Expr.Name (PySem.Str.ofString "sign") _] _ _) _) _ _ _) | (with_reducible show wpAny _ _ (eval (PySem.Expr.GeneratorExp _ _ _ _) _) _ _ _) | (with_reducible show CompAt _ _ _ _ _ _ _ _ _ _ _ _ _ _ _ _) | (with_reducible show ForAt _ _ _ _ _ _ _ _ _ _) | (with_reducible show Kp _ _ _ ∧ _) | (with_reducible show wpAny _ _ (PySem.call (Value.ref _) _ _) _ _ _))))); (first | ((with_reducible show ite _ _ _); first | (refine PySem.W.ite_pos (by with_reducible assumption) ?_) | (refine PySem.W.ite_neg (by with_reducible assumption) ?_)) | (k_here; (with_reducible show wpAny _ _ (eval (PySem.Expr.Name _ _) (compEnvC _ _ _ _)) _ _ _); k_dflt (refine ld_builtR (by k_asm) (by k_asm) (by k_asm) (by k_is) (by boot_by_name) (by decide) ?_)) | walk1 | (dsimp only; walk1)))))
          rename Fr _ _ _ _ => F9
          rename News _ _ _ _ => N9
          k_dflt (refine lawRow (rm 5 hdp (by decide)) (X'.keeps F9.keep) (T'.keeps F9.keep) ?_)
          intro Dz3 u30 u31 u32 hz3 tkz3 nz3 kz3 hDz3 hgz3
          have N10 := news_add F9 N9 kz3 (Nat.le_of_lt hDz3) hgz3
          have F10 := fr_kp F9 kz3
          clear F9 N9
          (repeat' (first | (k_unfold; (try dsimp only)) | ((fail_if_success ((first | (first | (with_reducible show wpAny _ _ (binaryOp _ (Value.ref _) (Value.ref _)) _ _ _) | (with_reducible show wpAny _ _ (binaryOp _ (Value.ref _) (Value.int _ _)) _ _ _) | (with_reducible show wpAny _ _ (compareOp CmpOp.Eq (Value.ref _) (Value.ref _)) _ _ _) | (with_reducible show wpAny _ _ (call (Value.type "zip") _ _) _ _ _) | (with_reducible show wpAny _ _ (call (Value.type "list") _ _) _ _ _)) | (first | (with_reducible show wpAny _ _ (eval (PySem.Expr.ListComp _ _ _ _) _) _ _ _) | (with_reducible show wpAny _ _ (exec (PySem.Stmt.Assign _ (PySem.Expr.ListComp _ _ _ _) _) _) _ _ _) | (with_reducible show wpAny _ _ (exec (PySem.Stmt.While _ _ _ _) _) _ _ _) | (with_reducible show wpAny _ _ (exec (PySem.Stmt.For _ _ _ _ _) _) _ _ _) | (with_reducible show wpAny _ _ (exec (PySem.Stmt.Assign [PySem.Expr.Name (PySem.Str.ofString "sign") _] _ _) _) _ _ _) | (with_reducible show wpAny _ _ (eval (PySem.Expr.GeneratorExp _ _ _ _) _) _ _ _) | (with_reducible show CompAt _ _ _ _ _ _ _ _ _ _ _ _ _ _ _ _) | (with_reducible show ForAt _ _ _ _ _ _ _ _ _ _) | (with_reducible show Kp _ _ _ ∧ _) | (with_reducible show wpAny _ _ (PySem.call (Value.ref _) _ _) _ _ _))))); (first | ((with_reducible show ite _ _ _); first | (refine PySem.W.ite_pos (by with_reducible assumption) ?_) | (refine PySem.W.ite_neg (by with_reducible assumption) ?_)) | (k_here; (with_reducible show wpAny _ _ (eval (PySem.Expr.Name _ _) (compEnvC _ _ _ _)) _ _ _); k_dflt (refine ld_builtR (by k_asm) (by k_asm) (by k_asm) (by k_is) (by boot_by_name) (by decide) ?_)) | walk1 | (dsimp only; walk1)))))
          rename Fr _ _ _ _ => F9
          rename News _ _ _ _ => N9
          have kall : Kp [] s'.heap hz3 := (kz1.trans kz2).trans kz3
          k_dflt (refine platform (rm 10 hdp (by decide)) (X'.keeps F9.keep) (T'.keeps F9.keep) ⟨hB'.ns.at' fun o e => F9.keep _ _ e, hB'.name, hB'.ne, F9.keep _ _ hB'.obj, hB'.cls, hB'.dict, hB'.data⟩ (j4.kp kall (by simp) (by simp)) j3 (tab_len _ (rowT_mem r 0)) (tab_len _ (rowT_mem r 1)) (tab_len _ (rowT_mem r 2)) ?_)
          intro t13 s13 k13 os13 g13 tab13
          have F13 := fr_kpM F9 k13 (by simpa using hL23) (by simpa using hqg)
          have N13 : News g L' s13.heap [] := News.nil
          clear F9 N9
          have hpl : platT [rowT r 0, rowT r 1, rowT r 2] = lawNm r := plat_law r
          rw [hpl]
          have hnl := law_len r
          (repeat' (first | (k_unfold; (try dsimp only)) | ((fail_if_success ((first | (first | (with_reducible show wpAny _ _ (binaryOp _ (Value.ref _) (Value.ref _)) _ _ _) | (with_reducible show wpAny _ _ (binaryOp _ (Value.ref _) (Value.int _ _)) _ _ _) | (with_reducible show wpAny _ _ (compareOp CmpOp.Eq (Value.ref _) (Value.ref _)) _ _ _) | (with_reducible show wpAny _ _ (call (Value.type "zip") _ _) _ _ _) | (with_reducible show wpAny _ _ (call (Value.type "list") _ _) _ _ _)) | (first | (with_reducible show wpAny _ _ (eval (PySem.Expr.ListComp _ _ _ _) _) _ _ _) | (with_reducible show wpAny _ _ (exec (PySem.Stmt.Assign _ (PySem.Expr.ListComp _ _ _ _) _) _) _ _ _) | (with_reducible show wpAny _ _ (exec (PySem.Stmt.While _ _ _ _) _) _ _ _) | (with_reducible show wpAny _ _ (exec (PySem.Stmt.For _ _ _ _ _) _) _ _ _) | (with_reducible show wpAny _ _ (exec (PySem.Stmt.Assign [PySem.Expr.Name (PySem.Str.ofString "sign") _] _ _) _) _ _ _) | (with_reducible show wpAny _ _ (eval (PySem.Expr.GeneratorExp _ _ _ _) _) _ _ _) | (with_reducible show CompAt _ _ _ _ _ _ _ _ _ _ _ _ _ _ _ _) | (with_reducible show ForAt _ _ _ _ _ _ _ _ _ _) | (with_reducible show Kp _ _ _ ∧ _) | (with_reducible show wpAny _ _ (PySem.call (Value.ref _) _ _) _ _ _))))); (first | ((with_reducible show ite _ _ _); first | (refine PySem.W.ite_pos (by with_reducible assumption) ?_) | (refine PySem.W.ite_neg (by with_reducible assumption) ?_)) | (k_here; (with_reducible show wpAny _ _ (eval (PySem.Expr.Name _ _) (compEnvC _ _ _ _)) _ _ _); k_dflt (refine ld_builtR (by k_asm) (by k_asm) (by k_asm) (by k_is) (by boot_by_name) (by decide) ?_)) | walk1 | (dsimp only; walk1)))))
          refine ⟨(kall.mono (by simp)).trans k13, ?_, os13.trans j2, g13, tab13⟩
          rw [take_map_snoc hr]
          exact strs_snoc hJ
        · rintro D25 dv s' ⟨hJ, j2, j3, ps5, j4⟩ hD25 hg25 hk25
          have hJ' : StrsAre dv ((rows.map lawNm).map (Str.ofString "/opt/" ++ ·)) := by
            have h0 : rows.take rv.toArray.size = rows := List.take_of_length_le (by rw [List.size_toArray, hrvl]; exact Nat.le_refl _)
            rw [h0] at hJ
            rw [List.map_map]; exact hJ
          have F25 := fr_kpM F24 hk25 (by simpa using hL23) (by simpa using hqg)
          have N24b : News g L' h24 ((D23, W.listOf av.toArray 0) :: (D3, W.listOf rv.toArray 0) :: tl2) := ncons (N24 _ (by k_mem)) (ncons (N24 _ (by k_mem)) (fun p hp => N24 p (.tail _ (.tail _ (.tail _ hp)))))
          have N25b := news_kpM N24b hk25 (fcons (fun q => Nat.ne_of_gt (Nat.lt_trans q3 q4) (List.mem_singleton.mp q)) (fcons (fun q => Nat.ne_of_gt q3 (List.mem_singleton.mp q)) fun p hp q => hne2 p hp (List.mem_singleton.mp q)))
          have N25 : News g L' s'.heap ((D25, lst dv) :: (D23, W.listOf av.toArray 0) :: (D3, W.listOf rv.toArray 0) :: (23, { cls := Value.none, data := Data.fields ps5 }) :: tl2) :=
            ncons ⟨hg25, Nat.ne_of_gt (Nat.lt_trans F24.ns.lt hD25), Heap.get?_none_of_le (Nat.le_trans F24.above (Nat.le_of_lt (Nat.lt_trans F24.ns.lt hD25)))⟩
              (ncons (N25b _ (by k_mem)) (ncons (N25b _ (by k_mem)) (ncons ⟨j4.tab.2, Ne.symm hL23, hqg⟩ (fun p hp => N25b p (.tail _ (.tail _ hp))))))
          clear F24 N24 hg25 N24b N25b
          obtain ⟨h25, gn25, dr25, tk25, os25⟩ := s'
          dsimp only at F25 N25 hk25 j2 j3 j4 ⊢
          have hf1m : f1 ∈ xs.map fun x => fileOf (lawNm x) := List.mem_of_getElem? hf1
          have hftl : (xs.map fun x => fileOf (lawNm x)).length = mt.length := by rw [List.length_map, hmtl]
          have hqb := qs_bound (ft := xs.map fun x => fileOf (lawNm x)) (mt := mt) (f1 := f1) (fun f hf => by obtain ⟨x, rfl⟩ := files_mem hf; exact file_le x) hmtb (by obtain ⟨x, rfl⟩ := files_mem hf1m; exact file_le x)
          have hql := qs_len (f1 := f1) hftl
          rw [List.length_map] at hql
          have hans := runQ_congr (qs_ans (rows := rows) (mt := mt) hf1m)
          have hnms : ∀ nm ∈ rows.map lawNm, NmP nm := by
            intro nm h
            obtain ⟨x, _, rfl⟩ := List.mem_map.mp h
            exact law_nmP x
          generalize qsOf (xs.map fun x => fileOf (lawNm x)) mt f1 = qs at hqb hql hans hask
          revert qs
          refine barrier ?_
          intro qs hqb hql hans hask
          have hdvl : dv.length = rows.length := by rw [strs_len hJ', List.length_map, List.length_map]
          have hal := hasl.trans hql.symm
          have hq500 : qs.length ≤ 500 := by rw [hql]; exact Nat.le_trans (Nat.add_le_add_right hx17 3) (by decide)
          have hav20 : av.length ≤ 20 := by rw [hasl]; exact Nat.add_le_add_right hx17 3
          (repeat' (first | (k_unfold; (try dsimp only)) | ((fail_if_success ((first | (first | (with_reducible show wpAny _ _ (binaryOp _ (Value.ref _) (Value.ref _)) _ _ _) | (with_reducible show wpAny _ _ (binaryOp _ (Value.ref _) (Value.int _ _)) _ _ _) | (with_reducible show wpAny _ _ (compareOp CmpOp.Eq (Value.ref _) (Value.ref _)) _ _ _) | (with_reducible show wpAny _ _ (call (Value.type "zip") _ _) _ _ _) | (with_reducible show wpAny _ _ (call (Value.type "list") _ _) _ _ _)) | (first | (with_reducible show wpAny _ _ (eval (PySem.Expr.ListComp _ _ _ _) _) _ _ _) | (with_reducible show wpAny _ _ (exec (PySem.Stmt.Assign _ (PySem.Expr.ListComp _ _ _ _) _) _) _ _ _) | (with_reducible show wpAny _ _ (exec (PySem.Stmt.While _ _ _ _) _) _ _ _) | (with_reducible show wpAny _ _ (exec (PySem.Stmt.For _ _ _ _ _) _) _ _ _) | (with_reducible show wpAny _ _ (exec (PySem.Stmt.Assign [PySem.Expr.Name (PySem.Str.ofString "sign") _] _ _) _) _ _ _) | (with_reducible show wpAny _ _ (eval (PySem.Expr.GeneratorExp _ _ _ _) _) _ _ _) | (with_reducible show CompAt _ _ _ _ _ _ _ _ _ _ _ _ _ _ _ _) | (with_reducible show ForAt _ _ _ _ _ _ _ _ _ _) | (with_reducible show Kp _ _ _ ∧ _) | (with_reducible show wpAny _ _ (PySem.call (Value.ref _) _ _) _ _ _))))); (first | ((with_reducible show ite _ _ _); first | (refine PySem.W.ite_pos (by with_reducible assumption) ?_) | (refine PySem.W.ite_neg (by with_reducible assumption) ?_)) | (k_here; (with_reducible show wpAny _ _ (eval (PySem.Expr.Name _ _) (compEnvC _ _ _ _)) _ _ _); k_dflt (refine ld_builtR (by k_asm) (by k_asm) (by k_asm) (by k_is) (by boot_by_name) (by decide) ?_)) | walk1 | (dsimp only; walk1)))))
          rename Fr _ _ _ _ => F25
          rename News _ _ _ _ => N25
          k_dflt (refine toldC (h₀ := g) (nD := dv.length) (nA := 0) (nms := rows.map lawNm) (qs := qs) (rm 60 hdp (by decide)) F25.keep X' T' ?_ hnms hJ' (by rw [hdvl]; exact Nat.le_trans hrl (by decide)) (by rw [hdvl]; exact hrp) hal hq500 (hask h25 ?_) hqb ?_)
          · exact fcons ⟨(N25 _ (.head _)).1, (N25 _ (.head _)).2.2⟩ (fcons ⟨(N25 _ (.tail _ (.head _))).1, (N25 _ (.tail _ (.head _))).2.2⟩ fnil)
          · exact fun p hp => (N25 p (.tail _ (.tail _ (.tail _ (.tail _ hp))))).1
          · intro R ys h28 tk28 k28 hR hg28 hI28
            have N28 := news_new F25 N25 k28 hR hg28
            have F28 := fr_kp F25 k28
            have k27 : ∀ o, g.get? 27 = some o → h25.get? 27 = some o := fun o e => F25.keep _ _ e
            clear F25 N25
            (repeat' (first | (k_unfold; (try dsimp only)) | ((fail_if_success ((first | (first | (with_reducible show wpAny _ _ (binaryOp _ (Value.ref _) (Value.ref _)) _ _ _) | (with_reducible show wpAny _ _ (binaryOp _ (Value.ref _) (Value.int _ _)) _ _ _) | (with_reducible show wpAny _ _ (compareOp CmpOp.Eq (Value.ref _) (Value.ref _)) _ _ _) | (with_reducible show wpAny _ _ (call (Value.type "zip") _ _) _ _ _) | (with_reducible show wpAny _ _ (call (Value.type "list") _ _) _ _ _)) | (first | (with_reducible show wpAny _ _ (eval (PySem.Expr.ListComp _ _ _ _) _) _ _ _) | (with_reducible show wpAny _ _ (exec (PySem.Stmt.Assign _ (PySem.Expr.ListComp _ _ _ _) _) _) _ _ _) | (with_reducible show wpAny _ _ (exec (PySem.Stmt.While _ _ _ _) _) _ _ _) | (with_reducible show wpAny _ _ (exec (PySem.Stmt.For _ _ _ _ _) _) _ _ _) | (with_reducible show wpAny _ _ (exec (PySem.Stmt.Assign [PySem.Expr.Name (PySem.Str.ofString "sign") _] _ _) _) _ _ _) | (with_reducible show wpAny _ _ (eval (PySem.Expr.GeneratorExp _ _ _ _) _) _ _ _) | (with_reducible show CompAt _ _ _ _ _ _ _ _ _ _ _ _ _ _ _ _) | (with_reducible show ForAt _ _ _ _ _ _ _ _ _ _) | (with_reducible show Kp _ _ _ ∧ _) | (with_reducible show wpAny _ _ (PySem.call (Value.ref _) _ _) _ _ _))))); (first | ((with_reducible show ite _ _ _); first | (refine PySem.W.ite_pos (by with_reducible assumption) ?_) | (refine PySem.W.ite_neg (by with_reducible assumption) ?_)) | (k_here; (with_reducible show wpAny _ _ (eval (PySem.Expr.Name _ _) (compEnvC _ _ _ _)) _ _ _); k_dflt (refine ld_builtR (by k_asm) (by k_asm) (by k_asm) (by k_is) (by boot_by_name) (by decide) ?_)) | walk1 | (dsimp only; walk1)))))
            k_dflt (refine reset ⟨h25, gn25, dr25, tk25, os25⟩ ?_)
            intro tkr5
            ((k_dflt (refine lc_eval (by with_unfolding_all rfl) (by rfl) (by decide) ?_); k_fold))
            (repeat' (first | (k_unfold; (try dsimp only)) | ((fail_if_success ((first | (first | (with_reducible show wpAny _ _ (binaryOp _ (Value.ref _) (Value.ref _)) _ _ _) | (with_reducible show wpAny _ _ (binaryOp _ (Value.ref _) (Value.int _ _)) _ _ _) | (with_reducible show wpAny _ _ (compareOp CmpOp.Eq (Value.ref _) (Value.ref _)) _ _ _) | (with_reducible show wpAny _ _ (call (Value.type "zip") _ _) _ _ _) | (with_reducible show wpAny _ _ (call (Value.type "list") _ _) _ _ _)) | (first | (with_reducible show wpAny _ _ (eval (PySem.Expr.ListComp _ _ _ _) _) _ _ _) | (with_reducible show wpAny _ _ (exec (PySem.Stmt.Assign _ (PySem.Expr.ListComp _ _ _ _) _) _) _ _ _) | (with_reducible show wpAny _ _ (exec (PySem.Stmt.While _ _ _ _) _) _ _ _) | (with_reducible show wpAny _ _ (exec (PySem.Stmt.For _ _ _ _ _) _) _ _ _) | (with_reducible show wpAny _ _ (exec (PySem.Stmt.Assign [PySem.Expr.Name (PySem.Str.ofString "sign") _] _ _) _) _ _ _) | (with_reducible show wpAny _ _ (eval (PySem.Expr.GeneratorExp _ _ _ _) _) _ _ _) | (with_reducible show CompAt _ _ _ _ _ _ _ _ _ _ _ _ _ _ _ _) | (with_reducible show ForAt _ _ _ _ _ _ _ _ _ _) | (with_reducible show Kp _ _ _ ∧ _) | (with_reducible show wpAny _ _ (PySem.call (Value.ref _) _ _) _ _ _))))); (first | ((with_reducible show ite _ _ _); first | (refine PySem.W.ite_pos (by with_reducible assumption) ?_) | (refine PySem.W.ite_neg (by with_reducible assumption) ?_)) | (k_here; (with_reducible show wpAny _ _ (eval (PySem.Expr.Name _ _) (compEnvC _ _ _ _)) _ _ _); k_dflt (refine ld_builtR (by k_asm) (by k_asm) (by k_asm) (by k_is) (by boot_by_name) (by decide) ?_)) | walk1 | (dsimp only; walk1)))))
            rename Fr _ _ _ _ => F28
            rename News _ _ _ _ => N28
            rename Heap => h28b
            have hysl : ys.length = qs.length := by rw [hI28.length, runQ_len1]
            k_dflt (refine lc_name (M := []) (its := ys.toArray) (fun i zs s'' => zs = List.replicate i (Value.type "int") ∧ ∃ h tk, s'' = { heap := h, gens := gn25, drawn := dr25, toks := tk, os := os25 }) (by decide) (by rfl) (by rfl) (by rfl) (list_of_get (N28.get (.head _))) (by simp) (by simp) (by rw [List.size_toArray]; exact Nat.le_trans (show ys.length ≤ 20 by rw [hysl, ← hal]; exact hav20) (by decide)) ?_ ?_ ?_ ?_)
            · rintro i ys s' h' tk ⟨j, h, tk', rfl⟩ _
              exact ⟨j, h', tk, rfl⟩
            · exact ⟨rfl, _, _, rfl⟩
            · rintro i zs v C m₂ s' hv _ ⟨hJz, h9, tk9, rfl⟩ hC hn hx hk9
              obtain ⟨r, t9, rfl, hr⟩ := ints_get hI28 (by simpa using hv)
              obtain ⟨oC, hoC, N9⟩ := news_comp F28 N28 hk9 hn hC
              have F9 := fr_kp F28 hk9
              clear F28 N28
              refine wpAny_tests_nil ?_
              (show wpAny _ _ _ _ _ _); k_fold
              (repeat' (first | (k_unfold; (try dsimp only)) | ((fail_if_success ((first | (first | (with_reducible show wpAny _ _ (binaryOp _ (Value.ref _) (Value.ref _)) _ _ _) | (with_reducible show wpAny _ _ (binaryOp _ (Value.ref _) (Value.int _ _)) _ _ _) | (with_reducible show wpAny _ _ (compareOp CmpOp.Eq (Value.ref _) (Value.ref _)) _ _ _) | (with_reducible show wpAny _ _ (call (Value.type "zip") _ _) _ _ _) | (with_reducible show wpAny _ _ (call (Value.type "list") _ _) _ _ _)) | (first | (with_reducible show wpAny _ _ (eval (PySem.Expr.ListComp _ _ _ _) _) _ _ _) | (with_reducible show wpAny _ _ (exec (PySem.Stmt.Assign _ (PySem.Expr.ListComp _ _ _ _) _) _) _ _ _) | (with_reducible show wpAny _ _ (exec (PySem.Stmt.While _ _ _ _) _) _ _ _) | (with_reducible show wpAny _ _ (exec (PySem.Stmt.For _ _ _ _ _) _) _ _ _) | (with_reducible show wpAny _ _ (exec (PySem.Stmt.Assign [PySem.Expr.Name (PySem.Str.ofString "sign") _] _ _) _) _ _ _) | (with_reducible show wpAny _ _ (eval (PySem.Expr.GeneratorExp _ _ _ _) _) _ _ _) | (with_reducible show CompAt _ _ _ _ _ _ _ _ _ _ _ _ _ _ _ _) | (with_reducible show ForAt _ _ _ _ _ _ _ _ _ _) | (with_reducible show Kp _ _ _ ∧ _) | (with_reducible show wpAny _ _ (PySem.call (Value.ref _) _ _) _ _ _))))); (first | ((with_reducible show ite _ _ _); first | (refine PySem.W.ite_pos (by with_reducible assumption) ?_) | (refine PySem.W.ite_neg (by with_reducible assumption) ?_)) | (k_here; (with_reducible show wpAny _ _ (eval (PySem.Expr.Name _ _) (compEnvC _ _ _ _)) _ _ _); k_dflt (refine ld_builtR (by k_asm) (by k_asm) (by k_asm) (by k_is) (by boot_by_name) (by decide) ?_)) | walk1 | (dsimp only; walk1)))))
              refine ⟨Kp.refl, ?_, _, _, rfl⟩
              rw [hJz, List.replicate_succ']
            · rintro D29 zs s' ⟨hJz, h29, tk29, rfl⟩ hD29 hg29 hk29
              have N29 := news_add F28 N28 hk29 (Nat.le_of_lt hD29) hg29
              have F29 := fr_kp F28 hk29
              clear F28 N28
              dsimp only at F29 N29
              (repeat' (first | (k_unfold; (try dsimp only)) | ((fail_if_success ((first | (first | (with_reducible show wpAny _ _ (binaryOp _ (Value.ref _) (Value.ref _)) _ _ _) | (with_reducible show wpAny _ _ (binaryOp _ (Value.ref _) (Value.int _ _)) _ _ _) | (with_reducible show wpAny _ _ (compareOp CmpOp.Eq (Value.ref _) (Value.ref _)) _ _ _) | (with_reducible show wpAny _ _ (call (Value.type "zip") _ _) _ _ _) | (with_reducible show wpAny _ _ (call (Value.type "list") _ _) _ _ _)) | (first | (with_reducible show wpAny _ _ (eval (PySem.Expr.ListComp _ _ _ _) _) _ _ _) | (with_reducible show wpAny _ _ (exec (PySem.Stmt.Assign _ (PySem.Expr.ListComp _ _ _ _) _) _) _ _ _) | (with_reducible show wpAny _ _ (exec (PySem.Stmt.While _ _ _ _) _) _ _ _) | (with_reducible show wpAny _ _ (exec (PySem.Stmt.For _ _ _ _ _) _) _ _ _) | (with_reducible show wpAny _ _ (exec (PySem.Stmt.Assign [PySem.Expr.Name (PySem.Str.ofString "sign") _] _ _) _) _ _ _) | (with_reducible show wpAny _ _ (eval (PySem.Expr.GeneratorExp _ _ _ _) _) _ _ _) | (with_reducible show CompAt _ _ _ _ _ _ _ _ _ _ _ _ _ _ _ _) | (with_reducible show ForAt _ _ _ _ _ _ _ _ _ _) | (with_reducible show Kp _ _ _ ∧ _) | (with_reducible show wpAny _ _ (PySem.call (Value.ref _) _ _) _ _ _))))); (first | ((with_reducible show ite _ _ _); first | (refine PySem.W.ite_pos (by with_reducible assumption) ?_) | (refine PySem.W.ite_neg (by with_reducible assumption) ?_)) | (k_here; (with_reducible show wpAny _ _ (eval (PySem.Expr.Name _ _) (compEnvC _ _ _ _)) _ _ _); k_dflt (refine ld_builtR (by k_asm) (by k_asm) (by k_asm) (by k_is) (by boot_by_name) (by decide) ?_)) | walk1 | (dsimp only; walk1)))))
              rename Fr _ _ _ _ => F30
              rename News _ _ _ _ => N30
              k_dflt (refine Calls.call_len_list (list_of_get (N30.get (by k_mem : (D23, _) ∈ _))) (by rw [List.size_toArray]; exact lt63 hav20) ?_)
              dsimp only
              k_dflt (refine KMa.mul (x := ((av.toArray.size : Nat) : Int)) F30 N30 (list_of_get (N30.get (.head _))) (ge63 _) (by rw [List.size_toArray]; exact lt63 hav20) (by rw [List.size_toArray, Int.toNat_natCast]; show 1 * av.length ≤ 256; rw [Nat.one_mul]; exact Nat.le_trans hav20 (by decide)) (flat_rep _ _) ?_)
              intro D31 h31 F31 N31 l31
              clear F30 N30
              have hnn : (((av.toArray.size : Nat) : Int)).toNat = ys.toArray.size := by rw [Int.toNat_natCast, List.size_toArray, List.size_toArray]; exact hal.trans hysl.symm
              rw [hnn] at N31
              subst hJz
              k_dflt (refine eq_reps (list_of_get (N31.get (by k_mem : (D29, _) ∈ _))) (list_of_get (N31.get (.head _))) (um 3 hun (by decide)) ?_)
              (repeat' (first | (k_unfold; (try dsimp only)) | ((fail_if_success ((first | (first | (with_reducible show wpAny _ _ (binaryOp _ (Value.ref _) (Value.ref _)) _ _ _) | (with_reducible show wpAny _ _ (binaryOp _ (Value.ref _) (Value.int _ _)) _ _ _) | (with_reducible show wpAny _ _ (compareOp CmpOp.Eq (Value.ref _) (Value.ref _)) _ _ _) | (with_reducible show wpAny _ _ (call (Value.type "zip") _ _) _ _ _) | (with_reducible show wpAny _ _ (call (Value.type "list") _ _) _ _ _)) | (first | (with_reducible show wpAny _ _ (eval (PySem.Expr.ListComp _ _ _ _) _) _ _ _) | (with_reducible show wpAny _ _ (exec (PySem.Stmt.Assign _ (PySem.Expr.ListComp _ _ _ _) _) _) _ _ _) | (with_reducible show wpAny _ _ (exec (PySem.Stmt.While _ _ _ _) _) _ _ _) | (with_reducible show wpAny _ _ (exec (PySem.Stmt.For _ _ _ _ _) _) _ _ _) | (with_reducible show wpAny _ _ (exec (PySem.Stmt.Assign [PySem.Expr.Name (PySem.Str.ofString "sign") _] _ _) _) _ _ _) | (with_reducible show wpAny _ _ (eval (PySem.Expr.GeneratorExp _ _ _ _) _) _ _ _) | (with_reducible show CompAt _ _ _ _ _ _ _ _ _ _ _ _ _ _ _ _) | (with_reducible show ForAt _ _ _ _ _ _ _ _ _ _) | (with_reducible show Kp _ _ _ ∧ _) | (with_reducible show wpAny _ _ (PySem.call (Value.ref _) _ _) _ _ _))))); (first | ((with_reducible show ite _ _ _); first | (refine PySem.W.ite_pos (by with_reducible assumption) ?_) | (refine PySem.W.ite_neg (by with_reducible assumption) ?_)) | (k_here; (with_reducible show wpAny _ _ (eval (PySem.Expr.Name _ _) (compEnvC _ _ _ _)) _ _ _); k_dflt (refine ld_builtR (by k_asm) (by k_asm) (by k_asm) (by k_is) (by boot_by_name) (by decide) ?_)) | walk1 | (dsimp only; walk1)))))
              k_dflt (refine reset ⟨h25, gn25, dr25, tk25, os25⟩ ?_)
              intro tkr6
              ((k_dflt (refine lc_eval (by with_unfolding_all rfl) (by rfl) (by decide) ?_); k_fold))
              (repeat' (first | (k_unfold; (try dsimp only)) | ((fail_if_success ((first | (first | (with_reducible show wpAny _ _ (binaryOp _ (Value.ref _) (Value.ref _)) _ _ _) | (with_reducible show wpAny _ _ (binaryOp _ (Value.ref _) (Value.int _ _)) _ _ _) | (with_reducible show wpAny _ _ (compareOp CmpOp.Eq (Value.ref _) (Value.ref _)) _ _ _) | (with_reducible show wpAny _ _ (call (Value.type "zip") _ _) _ _ _) | (with_reducible show wpAny _ _ (call (Value.type "list") _ _) _ _ _)) | (first | (with_reducible show wpAny _ _ (eval (PySem.Expr.ListComp _ _ _ _) _) _ _ _) | (with_reducible show wpAny _ _ (exec (PySem.Stmt.Assign _ (PySem.Expr.ListComp _ _ _ _) _) _) _ _ _) | (with_reducible show wpAny _ _ (exec (PySem.Stmt.While _ _ _ _) _) _ _ _) | (with_reducible show wpAny _ _ (exec (PySem.Stmt.For _ _ _ _ _) _) _ _ _) | (with_reducible show wpAny _ _ (exec (PySem.Stmt.Assign [PySem.Expr.Name (PySem.Str.ofString "sign") _] _ _) _) _ _ _) | (with_reducible show wpAny _ _ (eval (PySem.Expr.GeneratorExp _ _ _ _) _) _ _ _) | (with_reducible show CompAt _ _ _ _ _ _ _ _ _ _ _ _ _ _ _ _) | (with_reducible show ForAt _ _ _ _ _ _ _ _ _ _) | (with_reducible show Kp _ _ _ ∧ _) | (with_reducible show wpAny _ _ (PySem.call (Value.ref _) _ _) _ _ _))))); (first | ((with_reducible show ite _ _ _); first | (refine PySem.W.ite_pos (by with_reducible assumption) ?_) | (refine PySem.W.ite_neg (by with_reducible assumption) ?_)) | (k_here; (with_reducible show wpAny _ _ (eval (PySem.Expr.Name _ _) (compEnvC _ _ _ _)) _ _ _); k_dflt (refine ld_builtR (by k_asm) (by k_asm) (by k_asm) (by k_is) (by boot_by_name) (by decide) ?_)) | walk1 | (dsimp only; walk1)))))
              rename Fr _ _ _ _ => F32
              rename News _ _ _ _ => N32
              rename Heap => h32
              k_dflt (refine lc_name (M := []) (its := rv.toArray) (fun i zs s'' => StrsAre zs ((rows.take i).map lawNm) ∧ ∃ h tk, s'' = { heap := h, gens := gn25, drawn := dr25, toks := tk, os := os25 }) (by decide) (by rfl) (by rfl) (by rfl) (list_of_get (N32.get (by k_mem : (D3, _) ∈ _))) (by simp) (by simp) (by rw [List.size_toArray]; exact Nat.le_trans (show rv.length ≤ 13 by rw [hrvl]; exact hrl) (by decide)) ?_ ?_ ?_ ?_)
              · rintro i ys s' h' tk ⟨j, h, tk', rfl⟩ _
                exact ⟨j, h', tk, rfl⟩
              · exact ⟨.nil, _, _, rfl⟩
              · rintro i zs v C m₂ s' hv _ ⟨hJz, h9, tk9, rfl⟩ hC hn hx hk9
                obtain ⟨r, t9, rfl, hr⟩ := ints_get hI3 (by simpa using hv)
                obtain ⟨oC, hoC, N9⟩ := news_comp F32 N32 hk9 hn hC
                have F9 := fr_kp F32 hk9
                clear F32 N32
                refine wpAny_tests_nil ?_
                (show wpAny _ _ _ _ _ _); k_fold
                (repeat' (first | (k_unfold; (try dsimp only)) | ((fail_if_success ((first | (first | (with_reducible show wpAny _ _ (binaryOp _ (Value.ref _) (Value.ref _)) _ _ _) | (with_reducible show wpAny _ _ (binaryOp _ (Value.ref _) (Value.int _ _)) _ _ _) | (with_reducible show wpAny _ _ (compareOp CmpOp.Eq (Value.ref _) (Value.ref _)) _ _ _) | (with_reducible show wpAny _ _ (call (Value.type "zip") _ _) _ _ _) | (with_reducible show wpAny _ _ (call (Value.type "list") _ _) _ _ _)) | (first | (with_reducible show wpAny _ _ (eval (PySem.Expr.ListComp _ _ _ _) _) _ _ _) | (with_reducible show wpAny _ _ (exec (PySem.Stmt.Assign _ (PySem.Expr.ListComp _ _ _ _) _) _) _ _ _) | (with_reducible show wpAny _ _ (exec (PySem.Stmt.While _ _ _ _) _) _ _ _) | (with_reducible show wpAny _ _ (exec (PySem.Stmt.For _ _ _ _ _) _) _ _ _) | (with_reducible show wpAny _ _ (exec (PySem.Stmt.Assign [PySem.Expr.Name (PySem.Str.ofString "sign") _] _ _) _) _ _ _) | (with_reducible show wpAny _ _ (eval (PySem.Expr.GeneratorExp _ _ _ _) _) _ _ _) | (with_reducible show CompAt _ _ _ _ _ _ _ _ _ _ _ _ _ _ _ _) | (with_reducible show ForAt _ _ _ _ _ _ _ _ _ _) | (with_reducible show Kp _ _ _ ∧ _) | (with_reducible show wpAny _ _ (PySem.call (Value.ref _) _ _) _ _ _))))); (first | ((with_reducible show ite _ _ _); first | (refine PySem.W.ite_pos (by with_reducible assumption) ?_) | (refine PySem.W.ite_neg (by with_reducible assumption) ?_)) | (k_here; (with_reducible show wpAny _ _ (eval (PySem.Expr.Name _ _) (compEnvC _ _ _ _)) _ _ _); k_dflt (refine ld_builtR (by k_asm) (by k_asm) (by k_asm) (by k_is) (by boot_by_name) (by decide) ?_)) | walk1 | (dsimp only; walk1)))))
                rename Fr _ _ _ _ => F9
                rename News _ _ _ _ => N9
                k_dflt (refine lawName (rm 10 hdp (by decide)) (X'.keeps F9.keep) (T'.keeps F9.keep) ?_)
                intro t10 h10 tk10 k10
                refine ⟨k10, ?_, _, _, rfl⟩
                rw [take_map_snoc hr]
                exact strs_snoc hJz
              · rintro D33 nv s' ⟨hJz, h33, tk33, rfl⟩ hD33 hg33 hk33
                have hJn : StrsAre nv (rows.map lawNm) := by
                  have h0 : rows.take rv.toArray.size = rows := List.take_of_length_le (by rw [List.size_toArray, hrvl]; exact Nat.le_refl _)
                  rw [h0] at hJz; exact hJz
                have N33 := news_add F32 N32 hk33 (Nat.le_of_lt hD33) hg33
                have F33 := fr_kp F32 hk33
                clear F32 N32
                dsimp only at F33 N33
                have hnvl : nv.length = rows.length := by rw [strs_len hJn, List.length_map]
                (repeat' (first | (k_unfold; (try dsimp only)) | ((fail_if_success ((first | (first | (with_reducible show wpAny _ _ (binaryOp _ (Value.ref _) (Value.ref _)) _ _ _) | (with_reducible show wpAny _ _ (binaryOp _ (Value.ref _) (Value.int _ _)) _ _ _) | (with_reducible show wpAny _ _ (compareOp CmpOp.Eq (Value.ref _) (Value.ref _)) _ _ _) | (with_reducible show wpAny _ _ (call (Value.type "zip") _ _) _ _ _) | (with_reducible show wpAny _ _ (call (Value.type "list") _ _) _ _ _)) | (first | (with_reducible show wpAny _ _ (eval (PySem.Expr.ListComp _ _ _ _) _) _ _ _) | (with_reducible show wpAny _ _ (exec (PySem.Stmt.Assign _ (PySem.Expr.ListComp _ _ _ _) _) _) _ _ _) | (with_reducible show wpAny _ _ (exec (PySem.Stmt.While _ _ _ _) _) _ _ _) | (with_reducible show wpAny _ _ (exec (PySem.Stmt.For _ _ _ _ _) _) _ _ _) | (with_reducible show wpAny _ _ (exec (PySem.Stmt.Assign [PySem.Expr.Name (PySem.Str.ofString "sign") _] _ _) _) _ _ _) | (with_reducible show wpAny _ _ (eval (PySem.Expr.GeneratorExp _ _ _ _) _) _ _ _) | (with_reducible show CompAt _ _ _ _ _ _ _ _ _ _ _ _ _ _ _ _) | (with_reducible show ForAt _ _ _ _ _ _ _ _ _ _) | (with_reducible show Kp _ _ _ ∧ _) | (with_reducible show wpAny _ _ (PySem.call (Value.ref _) _ _) _ _ _))))); (first | ((with_reducible show ite _ _ _); first | (refine PySem.W.ite_pos (by with_reducible assumption) ?_) | (refine PySem.W.ite_neg (by with_reducible assumption) ?_)) | (k_here; (with_reducible show wpAny _ _ (eval (PySem.Expr.Name _ _) (compEnvC _ _ _ _)) _ _ _); k_dflt (refine ld_builtR (by k_asm) (by k_asm) (by k_asm) (by k_is) (by boot_by_name) (by decide) ?_)) | walk1 | (dsimp only; walk1)))))
                rename Fr _ _ _ _ => F34
                rename News _ _ _ _ => N34
                k_dflt (refine dueC (h₀ := g) (nD := nv.length) (nA := 0) (nms := rows.map lawNm) (qs := qs) (rm 60 hdp (by decide)) (um 203 hun (by decide)) F34.keep X' T' ?_ (fun nm h => (hnms nm h).len) hJn (by rw [hnvl]; exact Nat.le_trans hrl (by decide)) hal hq500 (hask h33 ?_) hqb ?_)
                · exact fcons ⟨(N34 _ (.head _)).1, (N34 _ (.head _)).2.2⟩ (fcons (have hm := N34 (D23, W.listOf av.toArray 0) (by k_mem); ⟨hm.1, hm.2.2⟩) fnil)
                · exact fun p hp => (N34 p (.tail _ (.tail _ (.tail _ (.tail _ (.tail _ (.tail _ (.tail _ (.tail _ (.tail _ hp)))))))))).1
                · intro R2 us n35 h35 tk35 k35 hR2 hg35 hI35
                  have N35 := news_new F34 N34 k35 hR2 hg35
                  have F35 := fr_kp F34 k35
                  clear F34 N34
                  k_dflt (refine ke_eq_ints (list_of_get (N35.get (by k_mem : (R, _) ∈ _))) (list_of_get (N35.get (.head _))) hI28 hI35 (um 67 hun (by decide)) ?_)
                  rw [hans, decide_eq_true rfl]
                  refine hQ _ (fun b o hb e => F35.keep b o (by rw [eg]; exact hideAll_get _ e (by simpa using hb))) j2 j3 ⟨ps5, tab_at j4 h27 k27 (fun o e => F35.keep _ _ e) (N35.get (by k_mem : ((23 : Addr), _) ∈ _))⟩
end
section
theorem tab0 {w : World} {loose : List Str} {mean : ExcName → Option Value} {mg mb : Str → Option Value} {h : Heap} (T : Top hd.view_39 loose mean mg mb h) (X : (hd.heap_39 w.params).In h) : TabOk h 27 23 #[] := by
  have hs : ((recsOf hd.view_39).find? fun e => e.name == Str.ofString "_platform").isSome = true := by kernel_rfl
  obtain ⟨d, hd1⟩ := Option.isSome_iff_exists.mp hs
  obtain ⟨hc, hP⟩ := PySem.W.tab_of (c := 27) (P := 23) T X hd1 (by kernel_rfl)
  have ht := hc.tab hP
  obtain ⟨o, vs, file, tf, flags, tg, inF, text, tt, e1, e2, e3, e4, e5, e6, e7, e8, e9, e10⟩ := hc
  exact ⟨⟨o, vs, file, tf, flags, tg, inF, text, tt, _, e1, e3, e5, e6, e7, e8, e9, hP, rfl, by first | constructor | trivial | simp [TriplesOk], e10⟩, ht⟩
theorem oldk {h h' : Heap} {ps : Array Value} (t0 : TabOk h 27 23 #[]) (k : Kp [23] h h') (t1 : TabOk h' 27 23 ps) : OldK h h' := by
  have key : ∀ b o, h.get? b = some o → (b = 23 ∧ o = { cls := .none, data := .fields #[] }) ∨ h'.get? b = some o := by
    intro b o e
    by_cases q : b = 23
    · subst q
      rw [t0.tab.2] at e; cases e
      exact .inl ⟨rfl, rfl⟩
    · exact .inr (k b o (by simpa using q) e)
  refine ⟨fun b o e => ?_, fun b o e => ?_⟩
  · rcases key b o e with ⟨rfl, rfl⟩ | e'
    · exact .inr (.inl ⟨t0.tab.isCodeTable, rfl, #[], ps, rfl, by simpa using t1.tab.2⟩)
    · exact .inl e'
  · rcases key b o e with ⟨rfl, rfl⟩ | e'
    · exact ⟨_, t1.tab.2⟩
    · exact ⟨o, e'⟩
set_option maxHeartbeats 8000000 in
theorem theLaw : PySem.Challenge.rw_ny0071_01.Holds := hd (by
  w_on
  k_fill
  intro w s₀ s₁ mg mb G Y fa o pm cd doc dV kV ho hdd hcd hD hmg hg args vals as hpre hlay hrd hwl hlo
  have KX := kIn_of Y
  have X := (Ground.X G).1
  have V := (Ground.X G).2
  refine Ground.open G ?_
  intro T B D TE TW
  try (refine guard_noD D (by decide +kernel) ?_; clear D)
  obtain ⟨bm, ob, M⟩ := bmod_of_top T
  have hfa := mg_of (n := Str.ofString "law") (v := .ref 115) KX T.g (by kernel_rfl)
  have hfa' := hmg.symm.trans hfa
  clear hdd hcd hD
  cases hfa'
  wrow_args hpre hlay hrd hwl hlo
  rename_i ns _ _ _ _ _ _ _ scr sv _ hL _ _ _ hI _ hcond _
  have t0 := tab0 T KX
  show wpAny (model PySem.Challenge.pw_ny0071_01 w) (AA callerA.depth 4 (some []) (some [])) (call (.ref 115) [.ref scr]) _ _ s₁
  refine lawC (by decide) (by decide) KX (topRead_of T) M t0 (AllBare.of_eq hg) hL hI (by omega) ?_
  intro s' k os' g' tab'
  obtain ⟨ps', t1⟩ := tab'
  refine ⟨.inl ⟨.bool true, .bool true, [], rfl, fun _ => rfl, ?_, ?_, ?_⟩, oldk t0 k t1, os', g'⟩
  · constructor
  · wrow_post
  · intro _; exact ⟨List.nodup_nil, fun a ha => by simp at ha⟩)
end
end Mine
end

theorem PySem.Challenge.cw_ny0071_01_holds : PySem.Challenge.rw_ny0071_01.Holds :=
  Mine.theLaw
