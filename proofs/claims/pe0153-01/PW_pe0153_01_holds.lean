import PyProof.Rows.All
import Wide.All
import OpenK.AllK
import Wide.FinOn
import PySem.Challenge.RW_pe0153_01
open PySem PySem.W PyProof.Rows
set_option Elab.async false
set_option rowWalk.seconds 0
set_option linter.all false

section
open PySem PySem.W PyProof.Rows
namespace Mine
set_option maxRecDepth 100000 in
set_option maxHeartbeats 8000000 in
open_top hd for PySem.Challenge.rw_pe0153_01
end Mine
end

section
open PySem PySem.W PyProof.Rows PySem.Calls PySem.Spec
set_option maxRecDepth 100000
namespace Mine

/-- the heap h' keeps all of h -/
noncomputable def Kp (h h' : Heap) : Prop := ∀ b o, h.get? b = some o → h'.get? b = some o
theorem Kp.refl (h : Heap) : Kp h h := fun _ _ e => e
theorem Kp.trans {a b c : Heap} (x : Kp a b) (y : Kp b c) : Kp a c := fun i o e => y i o (x i o e)
theorem Kp.fr {h₀ h h' : Heap} {L : Addr} {m : Str → Option Value} (k : Kp h h') (F : Fr h₀ L h m) : Fr h₀ L h' m :=
  ⟨F.ns.keeps k, fun b o e => k b o (F.keep b o e), F.above⟩
theorem Kp.news {h₀ h h' : Heap} {L : Addr} {news : List (Addr × Obj)} (k : Kp h h') (N : News h₀ L h news) : News h₀ L h' news :=
  fun p hp => ⟨k _ _ (N p hp).1, (N p hp).2⟩

/-- entering a def of the written part: only the objects in `news` are hidden from the callee's base -/
theorem callM {prog : Program} {w : World} {A A₀ : Around} {s : Shared} {K : Frag} {L : Addr} {h₀ base : Heap} {m mg mb : Str → Option Value} {news : List (Addr × Obj)} {p : Program} {loose : List Str} {mean : ExcName → Option Value}
    {env : Env} {outer : List Env} {R : Result → Shared → Prop} {name qual : Str} {params : Arguments} {body : List Stmt} {scope : Scope} {dV kV doc pm cdv ct oc : Value} {an od : Option Addr} {osl : Array (Option Value)} {f : Addr} {args : Args} {binds : List (Str × Value)}
    (B : Below A₀ base outer h₀) (F : Fr h₀ L s.heap m) (X₀ : K.In h₀) (N : News h₀ L s.heap news) (T : Top p loose mean mg mb h₀) (hA : A.frames = some (env :: outer)) (hf : env.frame = some L) (hke : env.scope.kind = .function)
    (ho : K.lookup f = some ⟨oc, od, .func (fnOf name qual params body scope dV kV doc pm an cdv ct), osl⟩) (hcd : codeIn K cdv qual = true) (hroom : A.depth < recursionLimit)
    (hbind : BindsTo s (fnOf name qual params body scope dV kV doc pm an cdv ct) args binds) (hloc : ∀ y ∈ binds, scope.names.lookup y.1 = some .local)
    (h : ∀ g L' h₁, Fr h₀ L g m → Fr g L' h₁ (fun y => binds.reverse.lookup y) → News g L' h₁ news → Below A base (env :: outer) g → K.In g → Top p loose mean mg mb g →
      (∀ b o, s.heap.get? b = some o → b ∉ news.map (·.1) → g.get? b = some o) → s.heap.objs.size = L' →
      wpAny (model prog w) (A.deeper (envOf qual scope L' f cdv)) (execs body (envOf qual scope L' f cdv))
        (fun fl s' => LeaveK h₀ L m g R (match fl with | .ret v => v | _ => .none) s')
        (fun e s' => wpAny (model prog w) (A.deeper (envOf qual scope L' f cdv)) (leaving (envOf qual scope L' f cdv) e) (fun _ s'' => R (.error e) s'') (fun e' s'' => R (.error e') s'') s')
        { s with heap := h₁, toks := s.toks + binds.length })
    (hco : scope.isCoroutine = false) (hgen : scope.isGenerator = false) (hk : scope.kind = .function)
    (hcell : ∀ x ∈ scope.names, x.2 ≠ .cell) : codeAny (model prog w) A (.call (.ref f) args) R s := by
  obtain ⟨FG, BG, st, lv⟩ := groundX (R := R) B F N hA hf hke
  refine codeAny_call_def (fd := fnX name qual params body scope [] dV kV doc pm an cdv ct) (body := body) (binds := binds) hroom ((X₀.keeps F.keep) _ _ ho) rfl (T.nolimit.keeps F.keep) (codeRec_of (X₀.keeps F.keep) hcd) rfl hbind hcell hloc (fun h₁ hns hk₁ => ?_) hco hgen hk
  exact wpAny_mono (h _ s.heap.objs.size h₁ FG ⟨hns, fun b o e => hk₁ b o (of_hideAll _ e), Nat.le_of_eq (hideAll_size _ _)⟩
    (fun p hp => ⟨hk₁ _ _ (N p hp).1, Nat.ne_of_lt (Heap.lt_size (N p hp).1), hideAll_none _ (List.mem_map_of_mem hp)⟩) BG (X₀.keeps st) (T.keeps st) (fun b o e hb => hideAll_get _ e hb) rfl) (fun fl s' hl => lv _ _ hl) fun _ _ y => y

/-- the same for any function object of the heap (a closure too) -/
theorem callH {prog : Program} {w : World} {A A₀ : Around} {s : Shared} {K : Frag} {L : Addr} {h₀ base : Heap} {m mg mb : Str → Option Value} {news : List (Addr × Obj)} {p : Program} {loose : List Str} {mean : ExcName → Option Value}
    {env : Env} {outer : List Env} {R : Result → Shared → Prop} {name qual : Str} {params : Arguments} {body : List Stmt} {scope : Scope} {cl : List (Str × Addr)} {dV kV doc pm cdv ct : Value} {an : Option Addr} {fo : Obj} {f : Addr} {args : Args} {binds : List (Str × Value)}
    (B : Below A₀ base outer h₀) (F : Fr h₀ L s.heap m) (X₀ : K.In h₀) (N : News h₀ L s.heap news) (T : Top p loose mean mg mb h₀) (hA : A.frames = some (env :: outer)) (hf : env.frame = some L) (hke : env.scope.kind = .function)
    (ho : s.heap.get? f = some fo) (hd : fo.data = .func (fnX name qual params body scope cl dV kV doc pm an cdv ct)) (hcd : s.heap.CodeRec cdv qual) (hroom : A.depth < recursionLimit)
    (hbind : BindsTo s (fnX name qual params body scope cl dV kV doc pm an cdv ct) args binds) (hloc : ∀ y ∈ binds, scope.names.lookup y.1 = some .local)
    (h : ∀ g L' h₁, Fr h₀ L g m → Fr g L' h₁ (fun y => binds.reverse.lookup y) → News g L' h₁ news → Below A base (env :: outer) g → K.In g → Top p loose mean mg mb g →
      (∀ b o, s.heap.get? b = some o → b ∉ news.map (·.1) → g.get? b = some o) → s.heap.objs.size = L' →
      wpAny (model prog w) (A.deeper (envX qual scope L' f cdv cl)) (execs body (envX qual scope L' f cdv cl))
        (fun fl s' => LeaveK h₀ L m g R (match fl with | .ret v => v | _ => .none) s')
        (fun e s' => wpAny (model prog w) (A.deeper (envX qual scope L' f cdv cl)) (leaving (envX qual scope L' f cdv cl) e) (fun _ s'' => R (.error e) s'') (fun e' s'' => R (.error e') s'') s')
        { s with heap := h₁, toks := s.toks + binds.length })
    (hco : scope.isCoroutine = false) (hgen : scope.isGenerator = false) (hk : scope.kind = .function)
    (hcell : ∀ x ∈ scope.names, x.2 ≠ .cell) : codeAny (model prog w) A (.call (.ref f) args) R s := by
  obtain ⟨FG, BG, st, lv⟩ := groundX (R := R) B F N hA hf hke
  refine codeAny_call_def (fd := fnX name qual params body scope cl dV kV doc pm an cdv ct) (body := body) (binds := binds) hroom ho hd (T.nolimit.keeps F.keep) hcd rfl hbind hcell hloc (fun h₁ hns hk₁ => ?_) hco hgen hk
  exact wpAny_mono (h _ s.heap.objs.size h₁ FG ⟨hns, fun b o e => hk₁ b o (of_hideAll _ e), Nat.le_of_eq (hideAll_size _ _)⟩
    (fun p hp => ⟨hk₁ _ _ (N p hp).1, Nat.ne_of_lt (Heap.lt_size (N p hp).1), hideAll_none _ (List.mem_map_of_mem hp)⟩) BG (X₀.keeps st) (T.keeps st) (fun b o e hb => hideAll_get _ e hb) rfl) (fun fl s' hl => lv _ _ hl) fun _ _ y => y

/-- a def of the written part with cells of its own -/
theorem callMC {prog : Program} {w : World} {A A₀ : Around} {s : Shared} {K : Frag} {L : Addr} {h₀ base : Heap} {m mg mb : Str → Option Value} {news : List (Addr × Obj)} {p : Program} {loose : List Str} {mean : ExcName → Option Value}
    {env : Env} {outer : List Env} {R : Result → Shared → Prop} {name qual : Str} {params : Arguments} {body : List Stmt} {scope : Scope} {dV kV doc pm cdv ct oc : Value} {an od : Option Addr} {osl : Array (Option Value)} {f : Addr} {args : Args} {binds : List (Str × Value)}
    (B : Below A₀ base outer h₀) (F : Fr h₀ L s.heap m) (X₀ : K.In h₀) (N : News h₀ L s.heap news) (T : Top p loose mean mg mb h₀) (hA : A.frames = some (env :: outer)) (hf : env.frame = some L) (hke : env.scope.kind = .function)
    (ho : K.lookup f = some ⟨oc, od, .func (fnOf name qual params body scope dV kV doc pm an cdv ct), osl⟩) (hcd : codeIn K cdv qual = true) (hroom : A.depth < recursionLimit)
    (hbind : BindsTo s (fnOf name qual params body scope dV kV doc pm an cdv ct) args binds) (hkind : (binds.all fun y => scope.names.lookup y.1 == some .local || scope.names.lookup y.1 == some .cell) = true)
    (hnd : ((cellsFrom 0 scope.names []).map (·.1)).Nodup)
    (h : ∀ g L' h₁ tk cells, Fr h₀ L g m → Fr g L' h₁ (bindL (envOfC qual scope L' f cdv).kindOf binds fun _ => none) → News g L' h₁ (cells ++ news) →
      CellsAre (bindC (envOfC qual scope L' f cdv).kindOf binds fun _ => none) (cellsFrom (L' + 1) scope.names []) cells → Below A base (env :: outer) g → K.In g → Top p loose mean mg mb g → (∀ p ∈ news, p.1 < L') →
      (∀ b o, s.heap.get? b = some o → b ∉ news.map (·.1) → g.get? b = some o) → s.heap.objs.size = L' →
      wpAny (model prog w) (A.deeper (envOfC qual scope L' f cdv)) (execs body (envOfC qual scope L' f cdv))
        (fun fl s' => LeaveK h₀ L m g R (match fl with | .ret v => v | _ => .none) s')
        (fun e s' => wpAny (model prog w) (A.deeper (envOfC qual scope L' f cdv)) (leaving (envOfC qual scope L' f cdv) e) (fun _ s'' => R (.error e) s'') (fun e' s'' => R (.error e') s'') s')
        { s with heap := h₁, toks := tk })
    (hco : scope.isCoroutine = false) (hgen : scope.isGenerator = false) (hk : scope.kind = .function) : codeAny (model prog w) A (.call (.ref f) args) R s := by
  obtain ⟨FG, BG, st, lv⟩ := groundX (R := R) B F N hA hf hke
  refine codeAny_call_function (fd := fnX name qual params body scope [] dV kV doc pm an cdv ct) hroom ((X₀.keeps F.keep) _ _ ho) rfl hco hgen rfl (codeRec_of (X₀.keeps F.keep) hcd) (hbind _ _ _ _ ?_)
  refine wpAny_newFunctionEnv_cells hk (kindsX hkind _) fun env' he s' x => ?_
  subst he
  refine ⟨(T.nolimit.keeps F.keep).keeps x.toInCall.keep, codeAny_func ?_⟩
  obtain ⟨h₁, tk, rfl, _⟩ := x.done
  have hk₁ := x.toInCall.keep
  obtain ⟨cells, NC, Y⟩ := Cl.news (h₀ := s.heap) (Nat.le_refl _) fun n c hm => ⟨x.cell n c (lookup_of_mem_nodup (cellsFrom_names scope.names 0 (s.heap.objs.size + 1) [] [] rfl ▸ hnd) hm), x.above n c hm⟩
  refine wpAny_mono (h _ s.heap.objs.size h₁ tk cells FG ⟨x.toInCall.ns, fun b o e => hk₁ b o (of_hideAll _ e), Nat.le_of_eq (hideAll_size _ _)⟩ (fun p hp => ?_) Y BG (X₀.keeps st) (T.keeps st) (fun p hp => Heap.lt_size (N p hp).1) (fun b o e hb => hideAll_get _ e hb) rfl) (fun fl s' hl => lv _ _ hl) fun _ _ y => y
  rcases List.mem_append.mp hp with hp | hp
  · refine ⟨(NC p hp).1, (NC p hp).2.1, ?_⟩
    cases q : (hideAll s.heap (news.map (·.1))).get? p.1 with
    | none => rfl
    | some o => have := of_hideAll _ q; rw [(NC p hp).2.2] at this; cases this
  · exact ⟨hk₁ _ _ (N p hp).1, Nat.ne_of_lt (Heap.lt_size (N p hp).1), hideAll_none _ (List.mem_map_of_mem hp)⟩

/-- a free name whose cell is part of what the callee found -/
theorem nameX_H {M : Model} {A : Around} {E : Value → Shared → Prop} {s : Shared} {h₀ : Heap} {L a : Addr} {m : Str → Option Value} {cn : Str} {cs : Scope} {ccd : Value} {cl : List (Str × Addr)} {x : Str} {pos : Pos} {v : Value} {Q : Value → Shared → Prop} {c : Addr} {o : Obj}
    (F : Fr h₀ L s.heap m) (hc : cl.lookup x = some c) (hv : h₀.get? c = some o) (hd : o.data = .cell (some v)) (h : Q v s)
    (hk : cs.kind = .function := by rfl) (hx : (envX cn cs L a ccd cl).kindOf x = some .free := by rfl) (hb : (x == ("__debug__" : Str)) = false := by decide) (hn : (x == ("__classdict__" : Str)) = false := by decide) :
    wpAny M A (eval (.Name x pos) (envX cn cs L a ccd cl)) Q E s := wpAny_Name (wpAny_loadName_free hk hx hc ⟨_, F.keep _ _ hv, hd⟩ h hn) hb

theorem callWith_H {M : Model} {A : Around} {E : Value → Shared → Prop} {s : Shared} {h₀ : Heap} {L : Addr} {m : Str → Option Value} {env : Env} {pos : Pos} {first : List Value} {Q : Value → Shared → Prop} {q : Addr} {fo : Obj} {fd : FuncData} {e : PySem.Expr} {rest : List PySem.Expr} (F : Fr h₀ L s.heap m) (hq : h₀.get? q = some fo) (hfd : fo.data = .func fd)
    (h : wpAny M A (spliced (backTo pos (starEach (e :: rest) env))) (fun vs s₁ => FnAt q s₁.heap ∧ wpAny M A (call (.ref q) (first ++ vs)) Q E s₁) E s)
    (he : starEach (e :: rest) env = (false, eval e env) :: starEach rest env := by rfl) (hplain : (backTo pos (starEach rest env)).any (·.1) = false := by rfl) :
    wpAny M A (callWith pos (.ref q) first (backTo pos (starEach (e :: rest) env)) []) Q E s := by
  refine callWith_F ?_ h he hplain
  obtain ⟨oc, od, dt, sl⟩ := fo
  cases hfd
  exact ⟨oc, od, fd, sl, F.keep _ _ hq⟩
theorem fnAt_H {h₀ h : Heap} {L : Addr} {m : Str → Option Value} {q : Addr} {fo : Obj} {fd : FuncData} (F : Fr h₀ L h m) (hq : h₀.get? q = some fo) (hfd : fo.data = .func fd) : FnAt q h := by
  obtain ⟨oc, od, dt, sl⟩ := fo
  cases hfd
  exact ⟨oc, od, fd, sl, F.keep _ _ hq⟩

/-- all of h is kept but what lies at P -/
noncomputable def KpB (P : Addr) (h h' : Heap) : Prop := ∀ b o, b ≠ P → h.get? b = some o → h'.get? b = some o
theorem KpB.refl (P : Addr) (h : Heap) : KpB P h h := fun _ _ _ e => e
theorem KpB.trans {P : Addr} {a b c : Heap} (x : KpB P a b) (y : KpB P b c) : KpB P a c := fun i o n e => y i o n (x i o n e)
theorem Kp.but {P : Addr} {a b : Heap} (x : Kp a b) : KpB P a b := fun i o _ e => x i o e
theorem newsU {h₀ h h' : Heap} {L P : Addr} {o o' : Obj} {news : List (Addr × Obj)} {g : Obj → List (Addr × Obj)} (N : News h₀ L h news) (U : UpdF P o news g) (k : KpB P h h') (e : h'.get? P = some o') : News h₀ L h' (g o') := by
  obtain ⟨pre, post, rfl, hg, h1, h2⟩ := U.split
  rw [hg]
  have hP := N (P, o) (List.mem_append_right _ (.head _))
  intro p hp
  rcases List.mem_append.mp hp with q | q
  · have := N p (List.mem_append_left _ q)
    exact ⟨k _ _ (h1 p q) this.1, this.2⟩
  · rcases List.mem_cons.mp q with rfl | q
    · exact ⟨e, hP.2⟩
    · have := N p (List.mem_append_right _ (.tail _ q))
      exact ⟨k _ _ (h2 p q) this.1, this.2⟩
theorem frU {h₀ h h' : Heap} {L P : Addr} {o : Obj} {m : Str → Option Value} {news : List (Addr × Obj)} {g : Obj → List (Addr × Obj)} (F : Fr h₀ L h m) (N : News h₀ L h news) (U : UpdF P o news g) (k : KpB P h h') : Fr h₀ L h' m := by
  obtain ⟨pre, post, rfl, hg, h1, h2⟩ := U.split
  have hP := N (P, o) (List.mem_append_right _ (.head _))
  obtain ⟨oL, es, ep, hL, r⟩ := F.ns
  refine ⟨⟨oL, es, ep, k _ _ (Ne.symm hP.2.1) hL, r⟩, fun b o e => k b o (fun q => ?_) (F.keep b o e), F.above⟩
  rw [q, hP.2.2] at e; cases e
theorem memU {P : Addr} {o : Obj} {news : List (Addr × Obj)} {g : Obj → List (Addr × Obj)} (U : UpdF P o news g) : (P, o) ∈ news := by
  obtain ⟨pre, post, rfl, hg, h1, h2⟩ := U.split
  exact List.mem_append_right _ (.head _)
theorem news1 {h₀ h : Heap} {L P : Addr} {o : Obj} {news : List (Addr × Obj)} {g : Obj → List (Addr × Obj)} (N : News h₀ L h news) (U : UpdF P o news g) : News h₀ L h [(P, o)] :=
  fun p hp => by rw [List.mem_singleton.mp hp]; exact N _ (memU U)

theorem newsC {h₀ h : Heap} {L l : Addr} {o : Obj} {news other : List (Addr × Obj)} (N : News h₀ L h news) (K : News h₀ L h other) (hm : (l, o) ∈ other) : News h₀ L h ((l, o) :: news) := fun p hp => by
  rcases List.mem_cons.mp hp with rfl | hp
  · exact K _ hm
  · exact N p hp

/-- all of h is kept but the two code tables -/
noncomputable def KpB2 (h h' : Heap) : Prop := ∀ b o, b ≠ 47 → b ≠ 54 → h.get? b = some o → h'.get? b = some o
theorem KpB2.trans {a b c : Heap} (x : KpB2 a b) (y : KpB2 b c) : KpB2 a c := fun i o n1 n2 e => y i o n1 n2 (x i o n1 n2 e)
theorem KpB2.of47 {a b : Heap} (x : KpB 47 a b) : KpB2 a b := fun i o n1 _ e => x i o n1 e
theorem KpB2.of54 {a b : Heap} (x : KpB 54 a b) : KpB2 a b := fun i o _ n2 e => x i o n2 e
theorem newsU2 {h₀ h h' : Heap} {L : Addr} {o47 o54 o47' o54' : Obj} {news : List (Addr × Obj)} {g1 : Obj → List (Addr × Obj)} {g2 : Obj → Obj → List (Addr × Obj)} (N : News h₀ L h news) (U1 : UpdF 47 o47 news g1) (U2 : ∀ o, UpdF 54 o54 (g1 o) (g2 o)) (k : KpB2 h h') (e1 : h'.get? 47 = some o47') (e2 : h'.get? 54 = some o54') :
    News h₀ L h' (g2 o47' o54') := by
  obtain ⟨pre, post, rfl, hg, a1, a2⟩ := U1.split
  obtain ⟨pre2, post2, q, hg2, b1, b2⟩ := (U2 o47').split
  rw [hg2]
  rw [hg] at q
  have h47 := N (47, o47) (List.mem_append_right _ (.head _))
  have old : ∀ p ∈ pre2 ++ (54, o54) :: post2, p.1 ≠ 54 → h'.get? p.1 = some p.2 ∧ p.1 ≠ L ∧ h₀.get? p.1 = none := by
    intro p hp hne
    rw [← q] at hp
    rcases List.mem_append.mp hp with hp | hp
    · have := N p (List.mem_append_left _ hp)
      exact ⟨k _ _ (a1 p hp) hne this.1, this.2⟩
    · rcases List.mem_cons.mp hp with rfl | hp
      · exact ⟨e1, h47.2⟩
      · have := N p (List.mem_append_right _ (.tail _ hp))
        exact ⟨k _ _ (a2 p hp) hne this.1, this.2⟩
  have h54 : (54 : Addr) ≠ L ∧ h₀.get? 54 = none := by
    have hm : ((54 : Addr), o54) ∈ pre ++ (47, o47') :: post := by rw [q]; exact List.mem_append_right _ (.head _)
    rcases List.mem_append.mp hm with hp | hp
    · exact (N _ (List.mem_append_left _ hp)).2
    · rcases List.mem_cons.mp hp with e | hp
      · cases e
      · exact (N _ (List.mem_append_right _ (.tail _ hp))).2
  intro p hp
  rcases List.mem_append.mp hp with hp | hp
  · exact old p (List.mem_append_left _ hp) (b1 p hp)
  · rcases List.mem_cons.mp hp with rfl | hp
    · exact ⟨e2, h54⟩
    · exact old p (List.mem_append_right _ (.tail _ hp)) (b2 p hp)
theorem mem54 {o47 o54 : Obj} {news : List (Addr × Obj)} {g1 : Obj → List (Addr × Obj)} {g2 : Obj → Obj → List (Addr × Obj)} (U1 : UpdF 47 o47 news g1) (U2 : ∀ o, UpdF 54 o54 (g1 o) (g2 o)) : ((54 : Addr), o54) ∈ news := by
  obtain ⟨pre, post, rfl, hg, a1, a2⟩ := U1.split
  have := memU (U2 o47)
  rw [hg] at this
  exact this

/-- a new object that a call handed back, onto the ledger -/
theorem news_add {h₀ h h' : Heap} {L t : Addr} {o : Obj} {m : Str → Option Value} {news : List (Addr × Obj)} (F : Fr h₀ L h m) (N : News h₀ L h news) (k : Kp h h') (hs : h.objs.size ≤ t) (e : h'.get? t = some o) :
    News h₀ L h' ((t, o) :: news) ∧ (∀ p ∈ news, p.1 < t) ∧ @LT.lt Nat _ L t := by
  have hL : @LT.lt Nat _ L t := Nat.lt_of_lt_of_le F.ns.lt hs
  refine ⟨fun p hp => ?_, fun p hp => Nat.lt_of_lt_of_le (Heap.lt_size (N p hp).1) hs, hL⟩
  rcases List.mem_cons.mp hp with rfl | hp
  · exact ⟨e, Nat.ne_of_gt hL, Heap.get?_none_of_le (Nat.le_trans F.above (Nat.le_of_lt hL))⟩
  · exact ⟨k _ _ (N p hp).1, (N p hp).2⟩
/-- a locals' map with a known place written out -/
theorem mp1 {m : Str → Option Value} {x : Str} {v : Option Value} (h : m x = v) : m = fun y => if y = x then v else m y := by
  funext y
  by_cases h1 : y = x
  · simp [h1, h]
  · simp [h1]
theorem mp2 {m : Str → Option Value} {x1 x2 : Str} {v1 v2 : Option Value} (h1 : m x1 = v1) (h2 : m x2 = v2) : m = fun y => if y = x1 then v1 else if y = x2 then v2 else m y := by
  funext y
  by_cases e1 : y = x1
  · simp [e1, h1]
  · simp only [if_neg e1]; exact congrFun (mp1 h2) y
theorem mp3 {m : Str → Option Value} {x1 x2 x3 : Str} {v1 v2 v3 : Option Value} (h1 : m x1 = v1) (h2 : m x2 = v2) (h3 : m x3 = v3) : m = fun y => if y = x1 then v1 else if y = x2 then v2 else if y = x3 then v3 else m y := by
  funext y
  by_cases e1 : y = x1
  · simp [e1, h1]
  · simp only [if_neg e1]; exact congrFun (mp2 h2 h3) y
theorem mp4 {m : Str → Option Value} {x1 x2 x3 x4 : Str} {v1 v2 v3 v4 : Option Value} (h1 : m x1 = v1) (h2 : m x2 = v2) (h3 : m x3 = v3) (h4 : m x4 = v4) : m = fun y => if y = x1 then v1 else if y = x2 then v2 else if y = x3 then v3 else if y = x4 then v4 else m y := by
  funext y
  by_cases e1 : y = x1
  · simp [e1, h1]
  · simp only [if_neg e1]; exact congrFun (mp3 h2 h3 h4) y
theorem mp5 {m : Str → Option Value} {x1 x2 x3 x4 x5 : Str} {v1 v2 v3 v4 v5 : Option Value} (h1 : m x1 = v1) (h2 : m x2 = v2) (h3 : m x3 = v3) (h4 : m x4 = v4) (h5 : m x5 = v5) : m = fun y => if y = x1 then v1 else if y = x2 then v2 else if y = x3 then v3 else if y = x4 then v4 else if y = x5 then v5 else m y := by
  funext y
  by_cases e1 : y = x1
  · simp [e1, h1]
  · simp only [if_neg e1]; exact congrFun (mp4 h2 h3 h4 h5) y
theorem mp6 {m : Str → Option Value} {x1 x2 x3 x4 x5 x6 : Str} {v1 v2 v3 v4 v5 v6 : Option Value} (h1 : m x1 = v1) (h2 : m x2 = v2) (h3 : m x3 = v3) (h4 : m x4 = v4) (h5 : m x5 = v5) (h6 : m x6 = v6) : m = fun y => if y = x1 then v1 else if y = x2 then v2 else if y = x3 then v3 else if y = x4 then v4 else if y = x5 then v5 else if y = x6 then v6 else m y := by
  funext y
  by_cases e1 : y = x1
  · simp [e1, h1]
  · simp only [if_neg e1]; exact congrFun (mp5 h2 h3 h4 h5 h6) y

/-- a name for an address that the walk made -/
theorem nameRef {h₀ h : Heap} {L a : Addr} {m : Str → Option Value} (_F : Fr h₀ L h m) (x : Str) (_e : m x = some (.ref a)) : ∃ b : Addr, b = a := ⟨a, rfl⟩
theorem nameHead {h₀ h : Heap} {L a : Addr} {o : Obj} {rest : List (Addr × Obj)} (_N : News h₀ L h ((a, o) :: rest)) : ∃ b : Addr, b = a := ⟨a, rfl⟩

noncomputable def AllNe (I : Addr) : List (Addr × Obj) → Prop
  | [] => True
  | p :: r => @Ne Nat p.1 I ∧ AllNe I r
theorem allOff {I : Addr} : ∀ {l : List (Addr × Obj)}, AllNe I l → ∀ p ∈ l, p.1 ≠ I
  | [], _, _, h => nomatch h
  | _ :: _, x, p, h => by
    rcases List.mem_cons.mp h with rfl | h
    · exact x.1
    · exact allOff x.2 p h

/-- a mark at which the walk halts -/
noncomputable def Stp (P : Prop) : Prop := P
theorem Stp.out {P : Prop} (h : Stp P) : P := h
theorem Stp.into {P : Prop} (h : P) : Stp P := h

section
variable {prog : Program} {w : World} {A : Around} {E : Value → Shared → Prop} {s : Shared} {env : Env} {h₀ : Heap} {x : Str} {body : List Stmt} {Q : Flow → Shared → Prop}
theorem unrPost_mono {L I : Addr} {it : Obj} {P P' : (Str → Option Value) → List (Addr × Obj) → Prop} {s₁ s₂ : Shared} {f : Flow} (h : ∀ m n, P m n → P' m n) (x : UnrPost h₀ L s₁ I it P Q f s₂) : UnrPost h₀ L s₁ I it P' Q f s₂ := by
  cases f with
  | ret v => exact x
  | brk => exact x
  | next => obtain ⟨h', tk, m', news', e, F, N, o, r⟩ := x; exact ⟨h', tk, m', news', e, F, N, o, h _ _ r⟩
  | cont => obtain ⟨h', tk, m', news', e, F, N, o, r⟩ := x; exact ⟨h', tk, m', news', e, F, N, o, h _ _ r⟩
theorem revRest_ind {I : Addr} {lp : Addr × Obj} (Inv : List Value → (Str → Option Value) → List (Addr × Obj) → Prop)
    (done : ∀ m news, Inv [] m news → ∀ h tk, Fr h₀ env.locals h m → News h₀ env.locals h news → Q .next { s with heap := h, toks := tk })
    (turn : ∀ v r m news, Inv (v :: r) m news → ∀ (it : Obj) h tk, it.cls = .type "list_reverseiterator" → Fr h₀ env.locals h (fun y => if y = x then some v else m y) → News h₀ env.locals h ((I, it) :: news) →
      wpAny (model prog w) A (execs body env) (UnrPost h₀ env.locals { s with heap := h, toks := tk } I it (fun m' n' => lp ∈ n' ∧ Inv r m' n') Q) E { s with heap := h, toks := tk }) :
    ∀ vs m news, Inv vs m news → RevRest prog w A E h₀ env x body Q s I lp vs m news := by
  intro vs
  induction vs with
  | nil => exact fun m news hi => RevRest.zero (done m news hi)
  | cons v r ih =>
    exact fun m news hi => RevRest.succ fun it h tk hc F N => wpAny_mono (turn v r m news hi it h tk hc F N) (fun f s₂ q => unrPost_mono (fun m' n' z => ⟨z.1, ih m' n' z.2⟩) q) fun _ _ e => e
theorem listRest_ind {I : Addr} {lp : Addr × Obj} (Inv : List Value → (Str → Option Value) → List (Addr × Obj) → Prop)
    (done : ∀ m news, Inv [] m news → ∀ h tk, Fr h₀ env.locals h m → News h₀ env.locals h news → Q .next { s with heap := h, toks := tk })
    (turn : ∀ v r m news, Inv (v :: r) m news → ∀ (it : Obj) h tk, it.cls = .type "list_iterator" → Fr h₀ env.locals h (fun y => if y = x then some v else m y) → News h₀ env.locals h ((I, it) :: news) →
      wpAny (model prog w) A (execs body env) (UnrPost h₀ env.locals { s with heap := h, toks := tk } I it (fun m' n' => lp ∈ n' ∧ Inv r m' n') Q) E { s with heap := h, toks := tk }) :
    ∀ vs m news, Inv vs m news → ListRest prog w A E h₀ env x body Q s I lp vs m news := by
  intro vs
  induction vs with
  | nil => exact fun m news hi => ListRest.zero (done m news hi)
  | cons v r ih =>
    exact fun m news hi => ListRest.succ fun it h tk hc F N => wpAny_mono (turn v r m news hi it h tk hc F N) (fun f s₂ q => unrPost_mono (fun m' n' z => ⟨z.1, ih m' n' z.2⟩) q) fun _ _ e => e
theorem rangeRest_ind {I : Addr} {a : Int} {n : Nat} (Inv : Nat → (Str → Option Value) → List (Addr × Obj) → Prop)
    (done : ∀ m news, Inv n m news → ∀ h tk, Fr h₀ env.locals h m → News h₀ env.locals h news → Q .next { s with heap := h, toks := tk })
    (turn : ∀ i m news, i < n → Inv i m news → ∀ t h tk, Fr h₀ env.locals h (fun y => if y = x then some (.int (a + (i : Int)) t) else m y) → News h₀ env.locals h ((I, itR (a + ((i + 1 : Nat) : Int)) ((n : Int) - ((i + 1 : Nat) : Int))) :: news) →
      wpAny (model prog w) A (execs body env) (UnrPost h₀ env.locals { s with heap := h, toks := tk } I (itR (a + ((i + 1 : Nat) : Int)) ((n : Int) - ((i + 1 : Nat) : Int))) (Inv (i + 1)) Q) E { s with heap := h, toks := tk }) :
    ∀ k i m news, i + k = n → Inv i m news → RangeRest prog w A E h₀ env x body Q s I a n k i m news := by
  intro k
  induction k with
  | zero =>
    intro i m news e hi
    have : i = n := by omega
    subst this
    exact RangeRest.zero (done m news hi)
  | succ k ih =>
    intro i m news e hi
    exact RangeRest.succ fun t h tk F N => wpAny_mono (turn i m news (by omega) hi t h tk F N) (fun f s₂ q => unrPost_mono (fun m' n' z => ih (i + 1) m' n' (by omega) z) q) fun _ _ e => e
end
theorem map1 {m m₀ : Str → Option Value} {x1 : Str} (h : ∀ y, y ≠ x1 → m y = m₀ y) : m = fun y => if y = x1 then m x1 else m₀ y := by
  funext y
  by_cases h1 : y = x1
  · simp [h1]
  · simp only [if_neg h1]; exact h y h1
theorem map2 {m m₀ : Str → Option Value} {x1 x2 : Str} (h : ∀ y, y ≠ x1 → y ≠ x2 → m y = m₀ y) : m = fun y => if y = x1 then m x1 else if y = x2 then m x2 else m₀ y := by
  funext y
  by_cases h1 : y = x1
  · simp [h1]
  · by_cases h2 : y = x2
    · simp only [if_neg h1]; simp [h2]
    · simp only [if_neg h1, if_neg h2]; exact h y h1 h2
theorem map3 {m m₀ : Str → Option Value} {x1 x2 x3 : Str} (h : ∀ y, y ≠ x1 → y ≠ x2 → y ≠ x3 → m y = m₀ y) : m = fun y => if y = x1 then m x1 else if y = x2 then m x2 else if y = x3 then m x3 else m₀ y := by
  funext y
  by_cases h1 : y = x1
  · simp [h1]
  · by_cases h2 : y = x2
    · simp only [if_neg h1]; simp [h2]
    · by_cases h3 : y = x3
      · simp only [if_neg h1, if_neg h2]; simp [h3]
      · simp only [if_neg h1, if_neg h2, if_neg h3]; exact h y h1 h2 h3

/-- a code table's state: its inner def's code is not made yet, or it is there -/
structure Tb (pos : Pos) (qual : Str) (ps : Array Value) (h : Heap) : Prop where
  tri : TriplesOk ps.toList
  st : codeAmong pos ps.toList = none ∨ ∃ c', codeAmong pos ps.toList = some (.ref c') ∧ c' ≠ 47 ∧ c' ≠ 54 ∧ h.CodeRec (.ref c') qual
theorem codeRec_but {P : Addr} {h h' : Heap} {c' : Addr} {qual : Str} (x : h.CodeRec (.ref c') qual) (k : KpB P h h') (hc : c' ≠ P) : h'.CodeRec (.ref c') qual := by
  obtain ⟨c, o, vs, t, e, ho, r⟩ := x
  cases e
  exact ⟨c', o, vs, t, rfl, k _ _ hc ho, r⟩
theorem Tb.but {P : Addr} {pos : Pos} {qual : Str} {ps : Array Value} {h h' : Heap} (x : Tb pos qual ps h) (k : KpB P h h') (hP : P = 47 ∨ P = 54) : Tb pos qual ps h' :=
  ⟨x.tri, x.st.imp id fun ⟨c', a, b, c, d⟩ => ⟨c', a, b, c, codeRec_but d k (by rcases hP with rfl | rfl; exact b; exact c)⟩⟩
theorem Tb.but2 {pos : Pos} {qual : Str} {ps : Array Value} {h h' : Heap} (x : Tb pos qual ps h) (k : KpB2 h h') : Tb pos qual ps h' :=
  ⟨x.tri, x.st.imp id fun ⟨c', a, b, c, d⟩ => ⟨c', a, b, c, by
    obtain ⟨c₀, o, vs, t, e, ho, r⟩ := d
    cases e
    exact ⟨c', o, vs, t, rfl, k _ _ b c ho, r⟩⟩⟩
theorem Tb.mono {pos : Pos} {qual : Str} {ps : Array Value} {h h' : Heap} (x : Tb pos qual ps h) (k : Kp h h') : Tb pos qual ps h' := x.but (P := 47) k.but (.inl rfl)
theorem Tb.made {pos : Pos} {qual : Str} {ps : Array Value} {h : Heap} {c' : Addr} (tri : TriplesOk ps.toList) (hn : codeAmong pos ps.toList = none) (h1 : c' ≠ 47) (h2 : c' ≠ 54) (hc : h.CodeRec (.ref c') qual) :
    Tb pos qual (ps ++ #[rawInt (pos.line : Nat), rawInt (pos.col : Nat), .ref c']) h := by
  have e : (ps ++ #[rawInt (pos.line : Nat), rawInt (pos.col : Nat), Value.ref c']).toList = ps.toList ++ [rawInt (pos.line : Nat), rawInt (pos.col : Nat), .ref c'] := by simp
  exact ⟨by rw [e]; exact TriplesOk_snoc _ _ _ _ tri, .inr ⟨c', by rw [e]; exact codeAmong_snoc _ tri hn, h1, h2, hc⟩⟩
theorem Tb.start {pos : Pos} {qual : Str} {h : Heap} : Tb pos qual #[] h := ⟨trivial, .inl rfl⟩

theorem leN {a b : Nat} (h : a ≤ b) : @LE.le Nat _ a b := h
theorem sub_cons {p : Addr × Obj} {l all : List (Addr × Obj)} (h1 : p ∈ all) (h2 : ∀ q ∈ l, q ∈ all) : ∀ q ∈ p :: l, q ∈ all := fun q hq => by
  rcases List.mem_cons.mp hq with rfl | hq
  · exact h1
  · exact h2 q hq
theorem off_cons {I : Addr} {p : Addr × Obj} {l : List (Addr × Obj)} (h1 : @Ne Nat p.1 I) (h2 : ∀ q ∈ l, q.1 ≠ I) : ∀ q ∈ p :: l, q.1 ≠ I := fun q hq => by
  rcases List.mem_cons.mp hq with rfl | hq
  · exact h1
  · exact h2 q hq
theorem offI_of {I : Addr} {it : Obj} : ∀ {l : List (Addr × Obj)}, (∀ p ∈ l, p.1 ≠ I) → OffI I it l
  | [], _ => trivial
  | p :: _, h => ⟨.inl (h p (.head _)), offI_of fun q hq => h q (.tail _ hq)⟩
/-- the state of a code table as a frame knows it: the inner def's code is not made yet, or it lies in the frame's base, or in the ledger's tail X -/
structure TbX (pos : Pos) (qual : Str) (ps : Array Value) (h₀ : Heap) (X : List (Addr × Obj)) : Prop where
  tri : TriplesOk ps.toList
  st : codeAmong pos ps.toList = none ∨ ∃ c', codeAmong pos ps.toList = some (.ref c') ∧ c' ≠ 47 ∧ c' ≠ 54 ∧ (h₀.CodeRec (.ref c') qual ∨ ∃ oc vs t, (c', oc) ∈ X ∧ oc.data = .fields vs ∧ vs[1]? = some (.str qual t))
theorem TbX.tb {pos : Pos} {qual : Str} {ps : Array Value} {h₀ h : Heap} {L : Addr} {m : Str → Option Value} {X news : List (Addr × Obj)} (x : TbX pos qual ps h₀ X) (F : Fr h₀ L h m) (N : News h₀ L h news) (hX : ∀ q ∈ X, q ∈ news) : Tb pos qual ps h :=
  ⟨x.tri, x.st.imp id fun ⟨c', a, b, c, d⟩ => ⟨c', a, b, c, by
    rcases d with d | ⟨oc, vs, t, hm, h1, h2⟩
    · exact d.keeps F.keep
    · exact ⟨c', oc, vs, t, rfl, (N _ (hX _ hm)).1, h1, h2⟩⟩⟩
theorem TbX.mono {pos : Pos} {qual : Str} {ps : Array Value} {h₀ : Heap} {X Y : List (Addr × Obj)} (x : TbX pos qual ps h₀ X) (hX : ∀ q ∈ X, q ∈ Y) : TbX pos qual ps h₀ Y :=
  ⟨x.tri, x.st.imp id fun ⟨c', a, b, c, d⟩ => ⟨c', a, b, c, d.imp id fun ⟨oc, vs, t, hm, h1, h2⟩ => ⟨oc, vs, t, hX _ hm, h1, h2⟩⟩⟩
theorem TbX.start {pos : Pos} {qual : Str} {h₀ : Heap} {X : List (Addr × Obj)} : TbX pos qual #[] h₀ X := ⟨trivial, .inl rfl⟩
theorem TbX.of_base {pos : Pos} {qual : Str} {ps : Array Value} {h₀ : Heap} {X : List (Addr × Obj)} (x : Tb pos qual ps h₀) : TbX pos qual ps h₀ X :=
  ⟨x.tri, x.st.imp id fun ⟨c', a, b, c, d⟩ => ⟨c', a, b, c, .inl d⟩⟩
theorem TbX.made {pos : Pos} {qual : Str} {ps : Array Value} {h₀ : Heap} {c' : Addr} {oc : Obj} {vs : Array Value} {t : Tok} {X : List (Addr × Obj)} (tri : TriplesOk ps.toList) (hn : codeAmong pos ps.toList = none) (h1 : c' ≠ 47) (h2 : c' ≠ 54) (hm : (c', oc) ∈ X) (hd : oc.data = .fields vs) (hv : vs[1]? = some (.str qual t)) :
    TbX pos qual (ps ++ #[rawInt (pos.line : Nat), rawInt (pos.col : Nat), .ref c']) h₀ X := by
  have e : (ps ++ #[rawInt (pos.line : Nat), rawInt (pos.col : Nat), Value.ref c']).toList = ps.toList ++ [rawInt (pos.line : Nat), rawInt (pos.col : Nat), .ref c'] := by simp
  exact ⟨by rw [e]; exact TriplesOk_snoc _ _ _ _ tri, .inr ⟨c', by rw [e]; exact codeAmong_snoc _ tri hn, h1, h2, .inr ⟨oc, vs, t, hm, hd, hv⟩⟩⟩
/-- what a call did to a code table: whoever knew its state before knows it now -/
noncomputable def TbT (pos : Pos) (qual : Str) (ps ps' : Array Value) (Y' : List (Addr × Obj)) : Prop := ∀ h₀ Z, TbX pos qual ps h₀ Z → TbX pos qual ps' h₀ (Z ++ Y')
theorem TbT.same {pos : Pos} {qual : Str} {ps : Array Value} {Y' : List (Addr × Obj)} : TbT pos qual ps ps Y' := fun _ _ x => x.mono fun _ hq => List.mem_append_left _ hq
theorem TbT.mono {pos : Pos} {qual : Str} {ps ps' : Array Value} {Y Y' : List (Addr × Obj)} (x : TbT pos qual ps ps' Y) (h : ∀ q ∈ Y, q ∈ Y') : TbT pos qual ps ps' Y' := fun h₀ Z t => (x h₀ Z t).mono fun q hq => by
  rcases List.mem_append.mp hq with hq | hq
  · exact List.mem_append_left _ hq
  · exact List.mem_append_right _ (h q hq)
theorem TbT.trans {pos : Pos} {qual : Str} {a b c : Array Value} {Y Z : List (Addr × Obj)} (x : TbT pos qual a b Y) (y : TbT pos qual b c Z) : TbT pos qual a c (Y ++ Z) := fun h₀ W t => by
  have := y h₀ _ (x h₀ W t)
  rwa [List.append_assoc] at this
theorem TbT.made {pos : Pos} {qual : Str} {ps : Array Value} {c' : Addr} {oc : Obj} {vs : Array Value} {t : Tok} {Y : List (Addr × Obj)} (tri : TriplesOk ps.toList) (hn : codeAmong pos ps.toList = none) (h1 : c' ≠ 47) (h2 : c' ≠ 54) (hm : (c', oc) ∈ Y) (hd : oc.data = .fields vs) (hv : vs[1]? = some (.str qual t)) :
    TbT pos qual ps (ps ++ #[rawInt (pos.line : Nat), rawInt (pos.col : Nat), .ref c']) Y := fun _ _ _ => TbX.made tri hn h1 h2 (List.mem_append_right _ hm) hd hv
theorem newsA {h₀ h : Heap} {L l : Addr} {o : Obj} {news other : List (Addr × Obj)} (N : News h₀ L h news) (K : News h₀ L h other) (hm : (l, o) ∈ other) : News h₀ L h (news ++ [(l, o)]) := fun p hp => by
  rcases List.mem_append.mp hp with hp | hp
  · exact N p hp
  · rw [List.mem_singleton.mp hp]; exact K _ hm
theorem newsB {h₀ h : Heap} {L : Addr} {news other Y : List (Addr × Obj)} (N : News h₀ L h news) (K : News h₀ L h other) (hm : ∀ q ∈ Y, q ∈ other) : News h₀ L h (news ++ Y) := fun p hp => by
  rcases List.mem_append.mp hp with hp | hp
  · exact N p hp
  · exact K _ (hm p hp)
theorem newsA0 {h₀ h : Heap} {L : Addr} {news : List (Addr × Obj)} (N : News h₀ L h news) : News h₀ L h (news ++ []) := by rw [List.append_nil]; exact N
theorem allNe_lo {l : List (Addr × Obj)} {b d : Nat} (h : ∀ p ∈ l, @LE.le Nat _ b p.1) (hb : d < b) : ∀ p ∈ l, p.1 ≠ d := fun p hp e => by
  have := h p hp; rw [e] at this; exact absurd hb (Nat.not_lt.mpr this)
theorem allNe_hi {l : List (Addr × Obj)} {b d : Nat} (h : ∀ p ∈ l, @LT.lt Nat _ p.1 b) (hb : b ≤ d) : ∀ p ∈ l, p.1 ≠ d := fun p hp e => by
  have := h p hp; rw [e] at this; exact absurd this (Nat.not_lt.mpr hb)
theorem allLt_mem {d : Addr} : ∀ {l : List (Addr × Obj)}, AllLt d l → ∀ p ∈ l, @LT.lt Nat _ p.1 d
  | [], _, _, h => nomatch h
  | _ :: _, x, p, h => by
    rcases List.mem_cons.mp h with rfl | h
    · exact x.1
    · exact allLt_mem x.2 p h

/-- parts of the program's text -/
noncomputable def topStmt (i : Nat) : Stmt := PySem.Challenge.pw_pe0153_01.main.body.getD i (.Pass ⟨0, 0, 0, 0⟩)
noncomputable def fnBody : Stmt → List Stmt
  | .FunctionDef _ _ b _ _ _ _ _ _ _ => b
  | _ => []
noncomputable def fnScope : Stmt → Scope
  | .FunctionDef _ _ _ _ _ _ sc _ _ _ => sc
  | _ => default
noncomputable def fnParams : Stmt → Arguments
  | .FunctionDef _ a _ _ _ _ _ _ _ _ => a
  | _ => default
noncomputable def headStmt : List Stmt → Stmt
  | s :: _ => s
  | [] => .Pass ⟨0, 0, 0, 0⟩

/-- fills the walk's own table of the written part -/
theorem filled (w : World) : (hd.heap_39 w.params).In ({} : Heap) → PySem.Challenge.rw_pe0153_01.foot = 4 := by
  k_fill
  intro _; rfl
end Mine
end

section
open PySem PySem.W PyProof.Rows PySem.Calls PySem.Spec
namespace Mine
theorem tnS {L R : Int} (h0 : 0 ≤ L) (h : L ≤ R) : R.toNat - L.toNat = (R - L).toNat := by
  obtain ⟨a, rfl⟩ := Int.eq_ofNat_of_zero_le h0
  obtain ⟨b, rfl⟩ := Int.eq_ofNat_of_zero_le (Int.le_trans h0 h)
  exact (Int.toNat_sub b a).symm
theorem tnA {L M R : Int} (h : L ≤ M) (h' : M ≤ R) : (R - L).toNat = (M - L).toNat + (R - M).toNat := by
  have e : R - L = (M - L) + (R - M) := by omega
  rw [e, Int.toNat_add (Int.sub_nonneg_of_le h) (Int.sub_nonneg_of_le h')]
theorem tnM {M R : Int} (h : M ≤ R) : M.toNat + (R.toNat - M.toNat) = R.toNat := Nat.add_sub_of_le (Int.toNat_le_toNat h)
theorem tn1 {L : Int} (h : 0 ≤ L) : (L + 1).toNat = L.toNat + 1 := by rw [Int.toNat_add h (by decide)]; rfl
theorem tnO (L : Int) : (L + 1 - L).toNat = 1 := by rw [show L + 1 - L = 1 by omega]; rfl
theorem tnL {M : Int} {k : Nat} (h : M ≤ k) : M.toNat ≤ k := Int.toNat_le.mpr h
theorem cutN {L M : Int} {k : Nat} (h0 : 0 ≤ L) (h : L ≤ M) (h2 : M ≤ k) : min L.toNat k + (M - L).toNat = M.toNat := by
  rw [Nat.min_eq_left (tnL (Int.le_trans h h2)), ← tnS h0 h, tnM h]
theorem cutK {L M : Int} {k : Nat} (h0 : 0 ≤ L) (h : L ≤ M) (h2 : M ≤ k) : min L.toNat k + (M - L).toNat + (k - M.toNat) = k := by
  rw [cutN h0 h h2, Nat.add_sub_of_le (tnL h2)]
theorem midLo {L R : Int} (h : L + 1 < R) : L < (L + R) / 2 := by omega
theorem midGe {L R : Int} (h : L < R) : L ≤ (L + R) / 2 := by omega
theorem midRi {L R : Int} (h : L < R) : (L + R) / 2 < R := by omega
theorem cases6 {k : Int} (h0 : 0 ≤ k) (h : k < 6) : k = 0 ∨ k = 1 ∨ k = 2 ∨ k = 3 ∨ k = 4 ∨ k = 5 := by
  obtain ⟨n, rfl⟩ := Int.eq_ofNat_of_zero_le h0
  exact (by decide : ∀ m : Fin 6, ((m.val : Nat) : Int) = 0 ∨ ((m.val : Nat) : Int) = 1 ∨ ((m.val : Nat) : Int) = 2 ∨ ((m.val : Nat) : Int) = 3 ∨ ((m.val : Nat) : Int) = 4 ∨ ((m.val : Nat) : Int) = 5) ⟨n, Int.ofNat_lt.mp h⟩
theorem decr {a b : Nat} (h : b + 1 ≤ a) : a - b = a - (b + 1) + 1 := by omega
theorem sk1 {s k n : Nat} (h : s + (k + 1) = n) : s + 1 + k = n := (Nat.succ_add_eq_add_succ s k).trans h
theorem sk2 {s k n : Nat} (h : s + (k + 1) = n) : s < n := h ▸ Nat.lt_add_of_pos_right (Nat.succ_pos k)
theorem step_lt {n d q f : Nat} (h : n - d < f + 1) (hd : d < n) (hq : d < q) : n - q < f := Nat.lt_of_lt_of_le (Nat.sub_lt_sub_left hd hq) (Nat.le_of_lt_succ h)
theorem min3 {n i : Nat} (h : min 3 (n - i) = 3) : i + 3 ≤ n := by
  have h2 : 3 ≤ n - i := h ▸ Nat.min_le_right 3 (n - i)
  have h3 : i < n := Nat.lt_of_sub_pos (Nat.lt_of_lt_of_le (by decide) h2)
  exact Nat.add_le_of_le_sub' (Nat.le_of_lt h3) h2
theorem neg1 (n : Nat) : ((-1 : Int) + ((n : Int) + 1)).toNat = n := by
  rw [Int.add_comm (n : Int) 1, Int.neg_add_cancel_left]; exact Int.toNat_natCast n
theorem max0 (i : Nat) : (max 0 (i : Int)).toNat = i := by rw [Int.max_eq_right (Int.natCast_nonneg i)]; exact Int.toNat_natCast i
theorem mod3 (x : Int) : x.fmod 3 = 0 ∨ x.fmod 3 = 1 ∨ x.fmod 3 = 2 := by
  rw [Int.fmod_eq_emod_of_nonneg _ (by decide)]
  obtain ⟨n, hn⟩ := Int.eq_ofNat_of_zero_le (Int.emod_nonneg x (by decide : (3 : Int) ≠ 0))
  have h3 := Int.emod_lt_of_pos x (by decide : (0 : Int) < 3)
  rw [hn] at h3 ⊢
  exact (by decide : ∀ m : Fin 3, ((m.val : Nat) : Int) = 0 ∨ ((m.val : Nat) : Int) = 1 ∨ ((m.val : Nat) : Int) = 2) ⟨n, Int.ofNat_lt.mp h3⟩
theorem mod4 (n : Nat) : 12 + n % 4 = 12 ∨ 12 + n % 4 = 13 ∨ 12 + n % 4 = 14 ∨ 12 + n % 4 = 15 :=
  (by decide : ∀ m : Fin 4, 12 + m.val = 12 ∨ 12 + m.val = 13 ∨ 12 + m.val = 14 ∨ 12 + m.val = 15) ⟨n % 4, Nat.mod_lt _ (by decide)⟩
/-- small terms for lists of places -/
theorem subN {α : Type} {ys : List α} : ∀ q ∈ ([] : List α), q ∈ ys := fun _ h => nomatch h
theorem subR {α : Type} (xs : List α) : ∀ q ∈ xs, q ∈ xs := fun _ h => h
theorem subT {α : Type} {y : α} {xs ys : List α} (h : ∀ q ∈ xs, q ∈ ys) : ∀ q ∈ xs, q ∈ y :: ys := fun q m => .tail _ (h q m)
theorem subC {α : Type} {x : α} {xs ys : List α} (h : x ∈ ys) (t : ∀ q ∈ xs, q ∈ ys) : ∀ q ∈ x :: xs, q ∈ ys := fun q m => by
  cases m with
  | head => exact h
  | tail _ m => exact t q m
theorem subA {α : Type} {xs ys zs : List α} (h : ∀ q ∈ xs, q ∈ zs) (t : ∀ q ∈ ys, q ∈ zs) : ∀ q ∈ xs ++ ys, q ∈ zs := fun q m => (List.mem_append.mp m).elim (h q) (t q)
theorem subL {α : Type} {xs ys zs : List α} (h : ∀ q ∈ xs, q ∈ ys) : ∀ q ∈ xs, q ∈ ys ++ zs := fun q m => List.mem_append_left _ (h q m)
theorem subG {α : Type} {xs ys zs : List α} (h : ∀ q ∈ xs, q ∈ zs) : ∀ q ∈ xs, q ∈ ys ++ zs := fun q m => List.mem_append_right _ (h q m)
theorem offN {I : Addr} : ∀ p ∈ ([] : List (Addr × Obj)), p.1 ≠ I := fun _ h => nomatch h
theorem offM {a I : Addr} {o : Obj} {l : List (Addr × Obj)} (h : @Ne Nat a I) (t : ∀ p ∈ l, p.1 ≠ I) : ∀ p ∈ (a, o) :: l, p.1 ≠ I := fun p m => by
  cases m with
  | head => exact h
  | tail _ m => exact t p m
theorem offA {I : Addr} {l k : List (Addr × Obj)} (h : ∀ p ∈ l, p.1 ≠ I) (t : ∀ p ∈ k, p.1 ≠ I) : ∀ p ∈ l ++ k, p.1 ≠ I := fun p m => (List.mem_append.mp m).elim (h p) (t p)
theorem item_at {prog : Program} {w : World} {A : Around} {E : Value → Shared → Prop} {s : Shared} {value slice : PySem.Expr} {l : Addr} {vs : List Value} {i : Nat} {u : Tok} {v : Value} {Q : Value → Shared → Prop}
    (hl : s.heap.IsList l vs.toArray) (hhi : i < 1000) (hx : vs[i]? = some v) (h : Q v s)
    (hs : subscripted slice false (.ref l) (.int (i : Int) u) = operate [.ref l, .int (i : Int) u] (getItem (.ref l) (.int (i : Int) u)) := by with_unfolding_all rfl) :
    wpAny (model prog w) A (subscriptTail value slice (.ref l) (.int (i : Int) u)) Q E s :=
  tail_any hl.typeIs slot_list_getitem.lookup (wpAny_getItem_list hl (Int.natCast_nonneg _) (Int.ofNat_lt.mpr (Nat.lt_trans hhi (by decide))) (by simpa using hx) h) hs
theorem pow_s {prog : Program} {w : World} {A : Around} {E : Value → Shared → Prop} {s : Shared} {a : Int} {n : Nat} {k : Int} {t u : Tok} {Q : Value → Shared → Prop} (hk : k = (n : Int)) (hn : n ≤ 1000) (ha : a.natAbs < 2 ^ 64) (h : Q (.int (a ^ n) s.toks) { s with toks := s.toks + 1 }) :
    wpAny (model prog w) A (binaryOp .Pow (.int a t) (.int k u)) Q E s := by
  subst hk
  exact pow_int_small (by omega) (by omega) ha (by simpa using h)
/-- a place of six, not known -/
theorem six_at {n0 n1 n2 n3 n4 n5 : Int} {t0 t1 t2 t3 t4 t5 : Tok} {k : Int} (h0 : 0 ≤ k) (h : k < 6) : ∃ (i : Nat) (v : Int) (t : Tok), k = (i : Int) ∧ i < 6 ∧ [n0, n1, n2, n3, n4, n5].getD i 0 = v ∧
    [Value.int n0 t0, .int n1 t1, .int n2 t2, .int n3 t3, .int n4 t4, .int n5 t5][i]? = some (.int v t) := by
  rcases cases6 h0 h with rfl | rfl | rfl | rfl | rfl | rfl
  · exact ⟨0, n0, t0, rfl, by decide, rfl, rfl⟩
  · exact ⟨1, n1, t1, rfl, by decide, rfl, rfl⟩
  · exact ⟨2, n2, t2, rfl, by decide, rfl, rfl⟩
  · exact ⟨3, n3, t3, rfl, by decide, rfl, rfl⟩
  · exact ⟨4, n4, t4, rfl, by decide, rfl, rfl⟩
  · exact ⟨5, n5, t5, rfl, by decide, rfl, rfl⟩
/-- small closers for side goals -/
theorem cj1 {a1 a2 : Prop} (h : a1 ∧ a2) : a1 := h.1
theorem cj2 {a1 a2 a3 : Prop} (h : a1 ∧ a2 ∧ a3) : a2 := h.2.1
theorem cj3 {a1 a2 a3 a4 : Prop} (h : a1 ∧ a2 ∧ a3 ∧ a4) : a3 := h.2.2.1
theorem cj4 {a1 a2 a3 a4 a5 : Prop} (h : a1 ∧ a2 ∧ a3 ∧ a4 ∧ a5) : a4 := h.2.2.2.1
theorem cj5 {a1 a2 a3 a4 a5 a6 : Prop} (h : a1 ∧ a2 ∧ a3 ∧ a4 ∧ a5 ∧ a6) : a5 := h.2.2.2.2.1
theorem cj6 {a1 a2 a3 a4 a5 a6 a7 : Prop} (h : a1 ∧ a2 ∧ a3 ∧ a4 ∧ a5 ∧ a6 ∧ a7) : a6 := h.2.2.2.2.2.1
theorem cj7 {a1 a2 a3 a4 a5 a6 a7 a8 : Prop} (h : a1 ∧ a2 ∧ a3 ∧ a4 ∧ a5 ∧ a6 ∧ a7 ∧ a8) : a7 := h.2.2.2.2.2.2.1
theorem ce2 {a1 a2 : Prop} (h : a1 ∧ a2) : a2 := h.2
theorem ce3 {a1 a2 a3 : Prop} (h : a1 ∧ a2 ∧ a3) : a3 := h.2.2
theorem ce4 {a1 a2 a3 a4 : Prop} (h : a1 ∧ a2 ∧ a3 ∧ a4) : a4 := h.2.2.2
theorem ce5 {a1 a2 a3 a4 a5 : Prop} (h : a1 ∧ a2 ∧ a3 ∧ a4 ∧ a5) : a5 := h.2.2.2.2
theorem ce6 {a1 a2 a3 a4 a5 a6 : Prop} (h : a1 ∧ a2 ∧ a3 ∧ a4 ∧ a5 ∧ a6) : a6 := h.2.2.2.2.2
theorem ce7 {a1 a2 a3 a4 a5 a6 a7 : Prop} (h : a1 ∧ a2 ∧ a3 ∧ a4 ∧ a5 ∧ a6 ∧ a7) : a7 := h.2.2.2.2.2.2
theorem nlt {a b : Nat} (h : a < b) : @Ne Nat a b := Nat.ne_of_lt h
theorem ngt {a b : Nat} (h : b < a) : @Ne Nat a b := Nat.ne_of_gt h
theorem nsu {a b : Nat} (h : @Ne Nat b a) : @Ne Nat a b := Ne.symm h
theorem le_c {n b c : Nat} (h : n ≤ b) (k : Nat.ble b c = true) : n ≤ c := Nat.le_trans h (Nat.le_of_ble_eq_true k)
theorem add_c {d a b R : Nat} (h : d + b < R) (k : Nat.ble a b = true) : d + a < R := Nat.lt_of_le_of_lt (Nat.add_le_add_left (Nat.le_of_ble_eq_true k) d) h
theorem add_c2 {d a e b R : Nat} (h : d + b < R) (k : Nat.ble (a + e) b = true) : d + a + e < R := Nat.add_assoc d a e ▸ add_c h k
theorem add_0 {d b R : Nat} (h : d + b < R) : d < R := Nat.lt_of_le_of_lt (Nat.le_add_right d b) h
end Mine
end

section
theorem Mine.woff_CDiv {M : PySem.Model} {A : PySem.Around} {E Q : PySem.Value → PySem.Shared → Prop} {s : PySem.Shared} (h : PySem.wpAny M A (PySem.call (.builtin "no") []) Q E s) : PySem.wpAny M A (PySem.call (.builtin "no") []) Q E s := by
  w_top off
  first | (walk1; fail) | exact h
open PySem PySem.W PyProof.Rows PySem.Calls PySem.Spec
set_option maxRecDepth 100000
namespace Mine
theorem filled1 (w : World) : (hd.heap_39 w.params).In ({} : Heap) → PySem.Challenge.rw_pe0153_01.foot = 4 := by
  k_fill
  intro _; rfl

theorem divmod_M {prog : Program} {w : World} {A : Around} {E : Value → Shared → Prop} {s : Shared} {Q : Value → Shared → Prop} {a b : Int} {t u : Tok} {h₀ : Heap} {L : Addr} {m : Str → Option Value} {news : List (Addr × Obj)}
    (F : Fr h₀ L s.heap m) (N : News h₀ L s.heap news) (hb : b ≠ 0) (hb2 : b.natAbs.log2 < 9000)
    (h : ∀ d h' t1 t2 tk, Fr h₀ L h' m → News h₀ L h' ((d, { cls := .type "tuple", data := .seq #[.int (a.fdiv b) t1, .int (a.fmod b) t2] }) :: news) → L < d → (∀ p ∈ news, p.1 < d) →
      Q (.ref d) { s with toks := tk, heap := h' }) :
    wpAny (model prog w) A (call (.builtin "divmod") [.int a t, .int b u]) Q E s :=
  divmod_N F N hb (fun h' F' N' => h _ h' _ _ _ F' N' F.ns.lt (fun p hp => Heap.lt_size (N p hp).1)) (Or.inl (PyProof.noPylong_of_log2 hb2))
local macro_rules | `(tactic| walk_at "call builtin:divmod") => `(tactic| (refine Stp.out ?_))

set_option maxHeartbeats 4000000 in
theorem con_div {w : World} {p : Program} {loose : List Str} {mean : ExcName → Option Value} {mg mb : Str → Option Value}
    {dp un : Nat} {gd : Option (List Code)} {cn : Str} {cs : Scope} {a : Addr} {ccd : Value} {cl : List (Str × Addr)} {outer : List Env} {A₀ : Around} {base h₀ : Heap} {L : Addr} {m : Str → Option Value} {s : Shared} {Q E : Value → Shared → Prop}
    {x b n : Int} {tx tb tn : Tok}
    (B : Below A₀ base outer h₀) (F : Fr h₀ L s.heap m) (X : (hd.heap_39 w.params).In h₀) (T : Top p loose mean mg mb h₀) (hk : cs.kind = .function)
    (hx : Builtin.Int.intBits x ≤ 3000) (hb : 0 < b) (hb2 : b.natAbs.log2 < 9000) (hn : 0 ≤ n) (hdp : dp + 1 < recursionLimit)
    (hret : ∀ t h' tk' k1 k2, Kp s.heap h' → s.heap.objs.size ≤ t → h'.get? t = some { cls := .type "tuple", data := .seq #[.int (x.fdiv b) k1, .int (x.fmod b) k2] } → Q (.ref t) { s with heap := h', toks := tk' }) :
    wpAny (model PySem.Challenge.rw_pe0153_01.prog w) (ktrTop dp un gd cn cs L a ccd cl outer) (call (.ref 38) [.int x tx, .int b tb, .int n tn]) Q E s := by
  refine wpAny_call ?_
  (refine' callM (K := hd.heap_39 w.params) (news := []) (T := T) ?k1 ?k2 ?k3 ?k4 ?kA ?kF ?kK ?k6 ?k7 ?k8 ?k9 ?kB ?_ ?c2 ?c3 ?c4 ?c5; (case kA => exact rfl); (case kF => exact rfl); (case kK => assumption); (case k1 => k_asm); (case k2 => k_asm); (case k3 => k_asm); (case k4 => exact News.nil);  (case k6 => k_is); (case k7 => k_is); (case k8 => ktr_room); (case k9 => exact BindsTo.of_eq rfl); (case c5 => decide); (case kB => exact locs rfl); (case c2 => exact rfl); (case c3 => exact rfl); (case c4 => exact rfl))
  intro g' L' h' FG' F' N' B' X' T' hg hL
  (try dsimp only); (try k_lift B'); (try k_fold)
  k_steps
  refine Stp.into ?_
  (refine' divmod_M ?k1 ?k2 ?k3 ?k4 ?_; (case k1 => k_asm); (case k2 => k_asm); (case k3 => omega); (case k4 => assumption))
  intro d9 h9 u1 u2 tk9 F9 N9 l0 l9
  (try k_lt l9)
  k_lt2 l0
  k_steps
  exact hret _ _ _ _ _ (fun b o e => Fr.keep (h₀ := g') (L := L') (by assumption) b o (hg b o e (by simp))) (by omega) (News.get (h₀ := g') (L := L') (by assumption) (by k_mem))
end Mine
end

section
open Mine PySem PySem.W PyProof.Rows PySem.Calls PySem.Spec
local macro_rules | `(tactic| walk_at "eval Name") => `(tactic| (k_here; k_dflt (refine' nameX_H ?F ?c ?v ?d ?_ ?a ?b; (case a => rfl); (case b => rfl); (case F => k_asm); (case c => rfl); (case v => k_asm); (case d => k_asm); k_whole)))
local macro_rules | `(tactic| walk_at "callWith ref") => `(tactic| (k_here; k_dflt (refine' callWith_H ?k1 ?k2 ?k3 ?_; (case k1 => k_asm); (case k2 => assumption); (case k3 => rfl); k_whole)))
local macro_rules | `(tactic| walk_at "FnAt") => `(tactic| (k_dflt (exact fnAt_H (by k_asm) (by assumption) rfl)))
local macro_rules | `(tactic| walk_at "binaryOp LShift int int") => `(tactic| (refine lshift_int (by assumption) (by assumption) ?_))
section
theorem Mine.woff_CDig {M : PySem.Model} {A : PySem.Around} {E Q : PySem.Value → PySem.Shared → Prop} {s : PySem.Shared} (h : PySem.wpAny M A (PySem.call (.builtin "no") []) Q E s) : PySem.wpAny M A (PySem.call (.builtin "no") []) Q E s := by
  w_top off
  first | (walk1; fail) | exact h
open PySem PySem.W PyProof.Rows PySem.Calls PySem.Spec
set_option maxRecDepth 100000
namespace Mine
theorem filled2 (w : World) : (hd.heap_39 w.params).In ({} : Heap) → PySem.Challenge.rw_pe0153_01.foot = 4 := by
  k_fill
  intro _; rfl

noncomputable def dIn : Stmt := headStmt (fnBody (topStmt 6))
noncomputable abbrev dB : {b : List Stmt // fnBody dIn = b} := by
  refine' ⟨_, ?h⟩
  case h => conv => lhs; whnf
noncomputable abbrev dS : {b : Scope // fnScope dIn = b} := by
  refine' ⟨_, ?h⟩
  case h => conv => lhs; whnf
noncomputable abbrev dP : {b : Arguments // fnParams dIn = b} := by
  refine' ⟨_, ?h⟩
  case h => conv => lhs; whnf

noncomputable def dval (n : Nat) : List Int → Int
  | [] => 0
  | d :: r => d + 2 ^ n * dval n r
theorem dval_append (n : Nat) : ∀ (a b : List Int), dval n (a ++ b) = dval n a + 2 ^ (n * a.length) * dval n b
  | [], b => by simp [dval]
  | d :: a, b => by
    simp only [List.cons_append, dval, dval_append n a b, List.length_cons, Nat.mul_succ, Int.pow_add, Int.mul_add, Int.add_assoc, ← Int.mul_assoc]
    congr 2
    rw [Int.mul_comm (2 ^ n) (2 ^ (n * a.length))]
theorem dval_bounds (n : Nat) : ∀ (a : List Int), (∀ x ∈ a, 0 ≤ x ∧ x < 2 ^ n) → 0 ≤ dval n a ∧ dval n a < 2 ^ (n * a.length)
  | [], _ => by simp [dval]
  | d :: a, h => by
    have h1 := h d (.head _)
    have h2 := dval_bounds n a (fun x hx => h x (.tail _ hx))
    have hp : (0 : Int) < 2 ^ n := Int.pow_pos (by decide)
    simp only [dval, List.length_cons, Nat.mul_succ, Int.pow_add]
    have h3 : 0 ≤ 2 ^ n * dval n a := Int.mul_nonneg (Int.le_of_lt hp) h2.1
    refine ⟨by omega, ?_⟩
    have h4 : 2 ^ n * dval n a ≤ 2 ^ n * (2 ^ (n * a.length) - 1) := Int.mul_le_mul_of_nonneg_left (by omega) (Int.le_of_lt hp)
    rw [Int.mul_sub, Int.mul_one] at h4
    rw [Int.mul_comm (2 ^ (n * a.length)) (2 ^ n)]
    omega
theorem dval_cut (n : Nat) (ns : List Int) (l m r : Nat) (h1 : l ≤ m) (h2 : m ≤ r) (h3 : r ≤ ns.length) :
    dval n ((ns.drop l).take (r - l)) = dval n ((ns.drop l).take (m - l)) + 2 ^ (n * (m - l)) * dval n ((ns.drop m).take (r - m)) := by
  have e : (ns.drop l).take (r - l) = (ns.drop l).take (m - l) ++ (ns.drop m).take (r - m) := by
    have : r - l = (m - l) + (r - m) := by omega
    rw [this, List.take_add, List.drop_drop]
    have : l + (m - l) = m := by omega
    rw [this]
  rw [e, dval_append]
  congr 4
  simp
  omega
theorem dval_part_bounds (n : Nat) (ns : List Int) (hb : ∀ x ∈ ns, 0 ≤ x ∧ x < 2 ^ n) (l k : Nat) : 0 ≤ dval n ((ns.drop l).take k) ∧ dval n ((ns.drop l).take k) < 2 ^ (n * k) := by
  have h := dval_bounds n ((ns.drop l).take k) fun x hx => hb x (List.mem_of_mem_drop (List.mem_of_mem_take hx))
  refine ⟨h.1, Int.lt_of_lt_of_le h.2 ?_⟩
  have : ((ns.drop l).take k).length ≤ k := by simp; omega
  have h5 : n * ((ns.drop l).take k).length ≤ n * k := Nat.mul_le_mul_left _ this
  exact_mod_cast Nat.pow_le_pow_right (by decide) h5
theorem bits_of_lt {x : Int} {k : Nat} (h0 : 0 ≤ x) (h : x < 2 ^ k) : Builtin.Int.intBits x ≤ k := by
  refine intBits_le_iff.mpr ?_
  have : ((x.natAbs : Nat) : Int) < ((2 ^ k : Nat) : Int) := by
    rw [Int.natAbs_of_nonneg h0]; exact_mod_cast h
  exact_mod_cast this

/-- what a call of _digits2int.<locals>.inner finds in the heap -/
noncomputable def DIn (h : Heap) (f dl : Addr) (n : Nat) : Prop := ∃ cD cI cN c' oD oI oN doc pm ctv tn,
  h.get? f = some (fnMade (Str.ofString "inner") (Str.ofString "_digits2int.<locals>.inner") dP.1 dB.1 dS.1 [(Str.ofString "n", cN), (Str.ofString "inner", cI), (Str.ofString "digits", cD)] doc pm c' ctv) ∧
  h.CodeRec (.ref c') (Str.ofString "_digits2int.<locals>.inner") ∧
  h.get? cD = some oD ∧ oD.data = .cell (some (.ref dl)) ∧ h.get? cI = some oI ∧ oI.data = .cell (some (.ref f)) ∧ h.get? cN = some oN ∧ oN.data = .cell (some (.int n tn))
theorem DIn.mono {h h' : Heap} {f dl : Addr} {n : Nat} (x : DIn h f dl n) (k : Kp h h') : DIn h' f dl n := by
  obtain ⟨cD, cI, cN, c', oD, oI, oN, doc, pm, ctv, tn, h1, h2, h3, h4, h5, h6, h7, h8⟩ := x
  exact ⟨cD, cI, cN, c', oD, oI, oN, doc, pm, ctv, tn, k _ _ h1, h2.keeps k, k _ _ h3, h4, k _ _ h5, h6, k _ _ h7, h8⟩

section

set_option maxHeartbeats 4000000 in
theorem con_dinner (k : Nat) : ∀ {w : World} {p : Program} {loose : List Str} {mean : ExcName → Option Value} {mg mb : Str → Option Value}
    {dp un : Nat} {gd : Option (List Code)} {cn : Str} {cs : Scope} {a : Addr} {ccd : Value} {cl : List (Str × Addr)} {outer : List Env} {A₀ : Around} {base h₀ : Heap} {L : Addr} {m : Str → Option Value} {s : Shared} {Q E : Value → Shared → Prop}
    {f dl : Addr} {vs : List Value} {ns : List Int} {n : Nat} {Lx Rx : Int} {t1 t2 : Tok}
    (B : Below A₀ base outer h₀) (F : Fr h₀ L s.heap m) (X : (hd.heap_39 w.params).In h₀) (T : Top p loose mean mg mb h₀) (hk : cs.kind = .function)
    (hin : DIn s.heap f dl n) (hl : s.heap.IsList dl vs.toArray) (hi : IntsAre vs ns) (hn : n ≤ 1000) (hlen : ns.length ≤ 60) (hb : ∀ x ∈ ns, 0 ≤ x ∧ x < 2 ^ n)
    (h0 : 0 ≤ Lx) (h1 : Lx < Rx) (h2 : Rx ≤ ns.length) (h3 : Rx - Lx ≤ k)
    (hdp : dp + k < recursionLimit) (hu : un + 8 * k < cLine)
    (hret : ∀ t h' tk', Kp s.heap h' → Q (.int (dval n ((ns.drop Lx.toNat).take (Rx - Lx).toNat)) t) { s with heap := h', toks := tk' }),
    wpAny (model PySem.Challenge.rw_pe0153_01.prog w) (ktrTop dp un gd cn cs L a ccd cl outer) (call (.ref f) [.int Lx t1, .int Rx t2]) Q E s := by
  induction k with
  | zero => intros; omega
  | succ k ih =>
  intro w p loose mean mg mb dp un gd cn cs a ccd cl outer A₀ base h₀ L m s Q E f dl vs ns n Lx Rx t1 t2 B F X T hk hin hl hi hn hlen hb h0 h1 h2 h3 hdp hu hret
  obtain ⟨cD, cI, cN, c', oD, oI, oN, doc, pm, ctv, tn, hf, hc, hD, hD', hI, hI', hN, hN'⟩ := id hin
  refine wpAny_call ?_
  (refine' callH (K := hd.heap_39 w.params) (news := []) (T := T) ?k1 ?k2 ?k3 ?k4 ?kA ?kF ?kK hf rfl hc ?k8 ?k9 ?kB ?_ ?c2 ?c3 ?c4 ?c5; (case kA => exact rfl); (case kF => exact rfl); (case kK => assumption); (case k1 => k_asm); (case k2 => k_asm); (case k3 => k_asm); (case k4 => exact News.nil); (case k8 => ktr_room); (case k9 => exact BindsTo.of_eq rfl); (case c5 => decide); (case kB => exact locs rfl); (case c2 => exact rfl); (case c3 => exact rfl); (case c4 => exact rfl))
  intro g' L' h' FG' F' N' B' X' T' hg hL

  have hg' : Kp s.heap g' := fun b o e => hg b o e (by simp)
  have hf2 := hg' _ _ hf
  have hD2 := hg' _ _ hD
  have hI2 := hg' _ _ hI
  have hN2 := hg' _ _ hN
  have hl2 : g'.IsList dl vs.toArray := hl.at fun o e => hg' _ _ e
  dsimp only
  k_unmd
  k_fold
  k_steps
  · rename Lx + 1 = Rx => he
    subst he
    have e : dval n ((ns.drop Lx.toNat).take (Lx + 1 - Lx).toNat) = ns.getD Lx.toNat 0 := by
      have e1 := tnO Lx
      have hlt : Lx.toNat < ns.length := by omega
      rw [e1, List.drop_eq_getElem_cons hlt]
      simp only [List.take_succ_cons, List.take_zero, dval, Int.mul_zero, Int.add_zero]
      rw [List.getD_eq_getElem?_getD, List.getElem?_eq_getElem hlt]; rfl
    rw [← e]
    exact hret _ _ _ (fun b o e => Fr.keep (h₀ := g') (L := L') (by assumption) b o (hg' b o e))
  · (rename Fr _ _ _ _ => F9); (rename News _ _ _ _ => N9)
    have hM : (Lx + Rx).fdiv (2 ^ Int.toNat 1) = (Lx + Rx) / 2 := by
      show (Lx + Rx).fdiv 2 = _
      rw [Int.fdiv_eq_ediv_of_nonneg _ (by decide)]
    have hM1 : Lx < (Lx + Rx).fdiv (2 ^ Int.toNat 1) := by rw [hM]; exact midLo (Int.lt_iff_le_and_ne.mpr ⟨h1, by assumption⟩)
    have hM2 : (Lx + Rx).fdiv (2 ^ Int.toNat 1) < Rx := by rw [hM]; exact midRi h1
    have kp9 : Kp s.heap _ := fun b o e => F9.keep b o (hg' b o e)
    refine' ih (B := B') (F := F9) (X := X') (T := T') rfl (hin := hin.mono kp9) (hl := hl.at fun o e => kp9 _ _ e) (hi := hi) hn hlen hb ?y1 ?y2 ?y3 ?y4 ?y5 ?y6 ?_
    case y1 => omega
    case y2 => omega
    case y3 => omega
    case y4 => omega
    case y5 => show dp + 1 + k < _; omega
    case y6 => show un + 3 + 8 * k < _; omega
    intro t9 h9 tk9 kp
    have F9 := kp.fr F9
    have N9 := kp.news N9
    generalize (Lx + Rx).fdiv (2 ^ Int.toNat 1) = M at *
    have hv := dval_part_bounds n ns hb M.toNat (Rx - M).toNat
    have hs0 : 0 ≤ (M - Lx) * (n : Int) := Int.mul_nonneg (by omega) (by omega)
    have hs1 : ((Builtin.Int.intBits (dval n ((ns.drop M.toNat).take (Rx - M).toNat)) : Nat) : Int) + (M - Lx) * (n : Int) ≤ 2 ^ 27 := by
      have q1 := bits_of_lt hv.1 hv.2
      have q2 : n * (Rx - M).toNat ≤ 1000 * 60 := Nat.mul_le_mul hn (by omega)
      have q3 : (M - Lx) * (n : Int) ≤ 60 * 1000 := Int.mul_le_mul (by omega) (by omega) (by omega) (by omega)
      omega
    dsimp only
    k_steps
    (rename Fr _ _ _ _ => F9); (rename News _ _ _ _ => N9)
    have kp9 : Kp s.heap _ := fun b o e => F9.keep b o (hg' b o e)
    refine' ih (B := B') (F := F9) (X := X') (T := T') rfl (hin := hin.mono kp9) (hl := hl.at fun o e => kp9 _ _ e) (hi := hi) hn hlen hb ?y1 ?y2 ?y3 ?y4 ?y5 ?y6 ?_
    case y1 => omega
    case y2 => omega
    case y3 => omega
    case y4 => omega
    case y5 => show dp + 1 + k < _; omega
    case y6 => show un + 3 + 8 * k < _; omega
    intro t9 h9 tk9 kp
    have F9 := kp.fr F9
    have N9 := kp.news N9
    dsimp only
    k_steps
    have e : dval n ((ns.drop Lx.toNat).take (Rx - Lx).toNat) = dval n ((ns.drop M.toNat).take (Rx - M).toNat) * 2 ^ ((M - Lx) * (n : Int)).toNat + dval n ((ns.drop Lx.toNat).take (M - Lx).toNat) := by
      have c := dval_cut n ns Lx.toNat M.toNat Rx.toNat (Int.toNat_le_toNat (Int.le_of_lt hM1)) (Int.toNat_le_toNat (Int.le_of_lt hM2)) (tnL h2)
      have e1 := tnS h0 (Int.le_of_lt h1)
      have e2 := tnS h0 (Int.le_of_lt hM1)
      have e3 := tnS (Int.le_trans h0 (Int.le_of_lt hM1)) (Int.le_of_lt hM2)
      have e4 : ((M - Lx) * (n : Int)).toNat = n * (M - Lx).toNat := by
        have : (M - Lx) * (n : Int) = ((n * (M - Lx).toNat : Nat) : Int) := by
          rw [Int.natCast_mul, Int.toNat_of_nonneg (by omega), Int.mul_comm]
        rw [this]; rfl
      rw [e1, e2, e3] at c
      rw [c, e4, Int.mul_comm, Int.add_comm]
    rw [← e]
    exact hret _ _ _ (fun b o e => Fr.keep (h₀ := g') (L := L') (by assumption) b o (hg' b o e))
end
end Mine
end

section
theorem Mine.woff_CDig2 {M : PySem.Model} {A : PySem.Around} {E Q : PySem.Value → PySem.Shared → Prop} {s : PySem.Shared} (h : PySem.wpAny M A (PySem.call (.builtin "no") []) Q E s) : PySem.wpAny M A (PySem.call (.builtin "no") []) Q E s := by
  w_top off
  first | (walk1; fail) | exact h
open PySem PySem.W PyProof.Rows PySem.Calls PySem.Spec
set_option maxRecDepth 100000
namespace Mine
theorem filled3 (w : World) : (hd.heap_39 w.params).In ({} : Heap) → PySem.Challenge.rw_pe0153_01.foot = 4 := by
  k_fill
  intro _; rfl
noncomputable abbrev dPos : Pos := ⟨48, 4, 53, 55⟩
noncomputable abbrev dQual : Str := Str.ofString "_digits2int.<locals>.inner"

local macro_rules | `(tactic| kn_triples) => `(tactic| assumption)
local macro_rules | `(tactic| kn_among) => `(tactic| assumption)
local macro_rules | `(tactic| kn_hit) => `(tactic| assumption)
set_option maxHeartbeats 4000000 in
theorem con_dig {w : World} {p : Program} {loose : List Str} {mean : ExcName → Option Value} {mg mb : Str → Option Value}
    {dp un : Nat} {gd : Option (List Code)} {cn : Str} {cs : Scope} {a : Addr} {ccd : Value} {cl : List (Str × Addr)} {outer : List Env} {A₀ : Around} {base h₀ : Heap} {L : Addr} {m : Str → Option Value} {s : Shared} {Q E : Value → Shared → Prop}
    {news : List (Addr × Obj)} {g : Obj → List (Addr × Obj)} {p54 : Array Value} {Y : List (Addr × Obj)} {dl : Addr} {vs : List Value} {ns : List Int} {n : Nat} {tn : Tok}
    (B : Below A₀ base outer h₀) (F : Fr h₀ L s.heap m) (X : (hd.heap_39 w.params).In h₀) (T : Top p loose mean mg mb h₀) (hk : cs.kind = .function) (N : News h₀ L s.heap news) (U : UpdF 54 (tabObj p54) news g) (C : CodeHd h₀ 58 54) (tbx : TbX dPos dQual p54 h₀ Y) (hY : ∀ q ∈ Y, q ∈ news)
    (hl : s.heap.IsList dl vs.toArray) (hi : IntsAre vs ns) (hn : n ≤ 1000) (hlen : ns.length ≤ 60) (hb : ∀ x ∈ ns, 0 ≤ x ∧ x < 2 ^ n)
    (hdp : dp + 62 < recursionLimit) (hu : un + 500 < cLine)
    (hret : ∀ t h' tk' p' Y', Fr h₀ L h' m → News h₀ L h' (g (tabObj p') ++ Y') → TbT dPos dQual p54 p' Y' → (∀ q ∈ Y', @LE.le Nat _ s.heap.objs.size q.1) → Q (.int (dval n ns) t) { s with heap := h', toks := tk' }) :
    wpAny (model PySem.Challenge.rw_pe0153_01.prog w) (ktrTop dp un gd cn cs L a ccd cl outer) (call (.ref 59) [.ref dl, .int n tn]) Q E s := by
  refine wpAny_call ?_
  (refine' callMC (K := hd.heap_39 w.params) (news := [(54, tabObj p54)]) (T := T) ?k1 ?k2 ?k3 ?k4 ?kA ?kF ?kK ?k6 ?k7 ?k8 ?k9 ?kB ?kD ?_ ?c2 ?c3 ?c4; (case kA => exact rfl); (case kF => exact rfl); (case kK => assumption); (case k1 => k_asm); (case k2 => k_asm); (case k3 => k_asm); (case k4 => exact news1 N U);  (case k6 => k_is); (case k7 => k_is); (case k8 => ktr_room); (case k9 => exact BindsTo.of_eq rfl); (case kB => exact rfl); (case kD => decide +kernel); (case c2 => exact rfl); (case c3 => exact rfl); (case c4 => exact rfl))
  intro g' L' h' tk' cells' FG' F' N' Y' B' X' T' l1 hg hL
  (try k_lt l1); k_cells Y'; (try simp only [List.cons_append, List.nil_append] at N')
  (try dsimp only); (try k_lift B'); (try k_fold)

  have hne : dl ≠ 54 := fun q => by
    obtain ⟨o, e, hc, _⟩ := hl
    rw [q, (N _ (memU U)).1] at e; cases e; cases hc
  have hg' : ∀ b o, b ≠ 54 → s.heap.get? b = some o → g'.get? b = some o := fun b o hb e => hg b o e (by simpa using hb)
  have hl2 : g'.IsList dl vs.toArray := hl.at fun o e => hg' _ _ hne e
  have C2 : CodeHd g' 58 54 := C.keeps FG'.keep
  have tb := tbx.tb F N hY
  have ht := tb.tri
  rcases tb.st with hn0 | ⟨c9, hn0, hc1, hc2, hc3⟩
  · k_steps
    · (rename Fr _ _ _ _ => F9); (rename News _ _ _ _ => N9)
      have kpb : KpB 54 s.heap _ := fun b o hb e => Fr.keep (h₀ := g') (L := L') F9 b o (hg' b o hb e)
      refine' con_dinner 60 (B := B') (F := F9) (X := X') (T := T') rfl (hin := ?din) (hl := hl.at fun o e => kpb _ _ hne e) (hi := hi) hn hlen hb (Int.le_refl 0) ?y2 (Int.le_refl _) ?y4 ?y5 ?y6 ?_
      case din =>
        refine' ⟨_, _, _, _, _, _, _, _, _, _, _, News.get N9 (List.Mem.head _), ?a2, News.get N9 ?a3, ?a4, News.get N9 ?a5, ?a6, News.get N9 ?a7, ?a8⟩
        case a2 => exact codeRec_news N9 (by k_mem) (by assumption) (by assumption)
        case a3 => k_mem
        case a5 => k_mem
        case a7 => k_mem
        case a4 => assumption
        case a6 => assumption
        case a8 => assumption
      case y2 => omega
      case y4 => omega
      case y5 => show dp + 1 + 60 < _; omega
      case y6 => show un + 3 + 8 * 60 < _; omega
      intro t9 h9 tk9 kp
      have F9 := kp.fr F9
      have N9 := kp.news N9
      have e : (ns.drop (Int.toNat 0)).take (((ns.length : Nat) : Int) - 0).toNat = ns := by
        simp
      rw [e]
      dsimp only
      k_steps
      have kpb : KpB 54 s.heap _ := fun b o hb e => Fr.keep (h₀ := g') (L := L') F9 b o (hg' b o hb e)
      (rename News h₀ _ _ _ => kN)
      refine' hret _ _ _ _ [(_, _)] (by assumption) (newsA (newsU N U kpb (News.get N9 ?q1)) kN ?q2) (TbT.made (pos := dPos) ht hn0 (neN ?q3) (neN ?q4) (.head _) (by assumption) (by assumption)) ?q5
      case q1 => k_mem
      case q2 => k_mem
      case q3 => omega
      case q4 => omega
      case q5 => exact List.forall_mem_singleton.mpr (leN (by omega))
    · (rename Fr g' _ _ _ => F9); (rename News g' _ _ _ => N9)
      have hnil : ns = [] := List.eq_nil_of_length_eq_zero (by omega)
      subst hnil
      have kpb : KpB 54 s.heap _ := fun b o hb e => Fr.keep (h₀ := g') (L := L') F9 b o (hg' b o hb e)
      (rename News h₀ _ _ _ => kN)
      refine' hret _ _ _ _ [(_, _)] (by assumption) (newsA (newsU N U kpb (News.get N9 ?q1)) kN ?q2) (TbT.made (pos := dPos) ht hn0 (neN ?q3) (neN ?q4) (.head _) (by assumption) (by assumption)) ?q5
      case q1 => k_mem
      case q2 => k_mem
      case q3 => omega
      case q4 => omega
      case q5 => exact List.forall_mem_singleton.mpr (leN (by omega))
  · k_steps
    · (rename Fr _ _ _ _ => F9); (rename News _ _ _ _ => N9)
      have kpb : KpB 54 s.heap _ := fun b o hb e => Fr.keep (h₀ := g') (L := L') F9 b o (hg' b o hb e)
      refine' con_dinner 60 (B := B') (F := F9) (X := X') (T := T') rfl (hin := ?din) (hl := hl.at fun o e => kpb _ _ hne e) (hi := hi) hn hlen hb (Int.le_refl 0) ?y2 (Int.le_refl _) ?y4 ?y5 ?y6 ?_
      case din =>
        refine' ⟨_, _, _, _, _, _, _, _, _, _, _, News.get N9 (List.Mem.head _), ?a2, News.get N9 ?a3, ?a4, News.get N9 ?a5, ?a6, News.get N9 ?a7, ?a8⟩
        case a2 => exact codeRec_but hc3 kpb hc2
        case a3 => k_mem
        case a5 => k_mem
        case a7 => k_mem
        case a4 => assumption
        case a6 => assumption
        case a8 => assumption
      case y2 => omega
      case y4 => omega
      case y5 => show dp + 1 + 60 < _; omega
      case y6 => show un + 3 + 8 * 60 < _; omega
      intro t9 h9 tk9 kp
      have F9 := kp.fr F9
      have N9 := kp.news N9
      have e : (ns.drop (Int.toNat 0)).take (((ns.length : Nat) : Int) - 0).toNat = ns := by
        simp
      rw [e]
      dsimp only
      k_steps
      have kpb : KpB 54 s.heap _ := fun b o hb e => Fr.keep (h₀ := g') (L := L') F9 b o (hg' b o hb e)
      exact hret _ _ _ _ [] (by assumption) (newsA0 (newsU N U kpb (News.get N9 (by k_mem)))) TbT.same (fun _ h => absurd h List.not_mem_nil)
    · (rename Fr g' _ _ _ => F9); (rename News g' _ _ _ => N9)
      have hnil : ns = [] := List.eq_nil_of_length_eq_zero (by omega)
      subst hnil
      have kpb : KpB 54 s.heap _ := fun b o hb e => Fr.keep (h₀ := g') (L := L') F9 b o (hg' b o hb e)
      exact hret _ _ _ _ [] (by assumption) (newsA0 (newsU N U kpb (News.get N9 (by k_mem)))) TbT.same (fun _ h => absurd h List.not_mem_nil)
end Mine
end

section
theorem Mine.woff_CInt {M : PySem.Model} {A : PySem.Around} {E Q : PySem.Value → PySem.Shared → Prop} {s : PySem.Shared} (h : PySem.wpAny M A (PySem.call (.builtin "no") []) Q E s) : PySem.wpAny M A (PySem.call (.builtin "no") []) Q E s := by
  w_top off
  first | (walk1; fail) | exact h
open PySem PySem.W PyProof.Rows PySem.Calls PySem.Spec
set_option maxRecDepth 100000
namespace Mine
theorem filled4 (w : World) : (hd.heap_39 w.params).In ({} : Heap) → PySem.Challenge.rw_pe0153_01.foot = 4 := by
  k_fill
  intro _; rfl
noncomputable def iIn : Stmt := match fnBody (topStmt 5) with | _ :: s :: _ => s | _ => .Pass ⟨0, 0, 0, 0⟩
noncomputable abbrev iB : {b : List Stmt // fnBody iIn = b} := by
  refine' ⟨_, ?h⟩
  case h => conv => lhs; whnf
noncomputable abbrev iS : {b : Scope // fnScope iIn = b} := by
  refine' ⟨_, ?h⟩
  case h => conv => lhs; whnf
noncomputable abbrev iP : {b : Arguments // fnParams iIn = b} := by
  refine' ⟨_, ?h⟩
  case h => conv => lhs; whnf
noncomputable abbrev iPos : Pos := ⟨33, 4, 42, 28⟩
noncomputable abbrev iQual : Str := Str.ofString "_int2digits.<locals>.inner"

/-- the digits of x, base 2^n, k of them -/
noncomputable def digs (n : Nat) : Nat → Int → List Int
  | 0, _ => []
  | k + 1, x => x % 2 ^ n :: digs n k (x / 2 ^ n)

theorem nat_and_high (x s : Nat) : x &&& (x / 2 ^ s * 2 ^ s) = x / 2 ^ s * 2 ^ s := by
  apply Nat.eq_of_testBit_eq
  intro i
  rw [Nat.testBit_and, ← Nat.shiftLeft_eq, Nat.testBit_shiftLeft, ← Nat.shiftRight_eq_div_pow, Nat.testBit_shiftRight]
  by_cases h : i ≥ s
  · simp [h]
  · simp [h]
theorem bitAnd_nat (x y : Nat) : Builtin.bitAnd (x : Int) (y : Int) = ((x &&& y : Nat) : Int) := by
  unfold Builtin.bitAnd
  simp
theorem xor_low {x : Int} (h : 0 ≤ x) (s : Nat) : Builtin.bitXor x (x.fdiv (2 ^ s) * 2 ^ s) = x % 2 ^ s := by
  obtain ⟨k, rfl⟩ := Int.eq_ofNat_of_zero_le h
  have e : ((k : Nat) : Int).fdiv (2 ^ s) * 2 ^ s = ((k / 2 ^ s * 2 ^ s : Nat) : Int) := by
    rw [Int.fdiv_eq_ediv_of_nonneg _ (Int.le_of_lt (Int.pow_pos (by decide)))]
    push_cast
    rfl
  rw [e, bitXor_and, bitAnd_nat, nat_and_high]
  have e2 := Nat.div_add_mod k (2 ^ s)
  have e3 : ((k : Nat) : Int) % 2 ^ s = ((k % 2 ^ s : Nat) : Int) := by push_cast; rfl
  rw [e3]
  rw [Nat.mul_comm] at e2
  generalize k / 2 ^ s * 2 ^ s = u at *
  generalize k % 2 ^ s = v at *
  omega
theorem digs_length (n : Nat) : ∀ (k : Nat) (x : Int), (digs n k x).length = k
  | 0, _ => rfl
  | k + 1, x => by simp [digs, digs_length n k]
theorem digs_append (n : Nat) : ∀ (a b : Nat) (x : Int), digs n (a + b) x = digs n a (x % 2 ^ (n * a)) ++ digs n b (x / 2 ^ (n * a))
  | 0, b, x => by simp [digs]
  | a + 1, b, x => by
    have hp : (0 : Int) < 2 ^ n := Int.pow_pos (by decide)
    have e : a + 1 + b = (a + b) + 1 := by omega
    rw [e]
    simp only [digs, List.cons_append]
    rw [digs_append n a b]
    have e1 : (2 : Int) ^ (n * (a + 1)) = 2 ^ n * 2 ^ (n * a) := by rw [Nat.mul_succ, Nat.add_comm, Int.pow_add]
    rw [e1, Int.ediv_ediv_of_nonneg (Int.le_of_lt hp)]
    have e2 : x % (2 ^ n * 2 ^ (n * a)) % 2 ^ n = x % 2 ^ n := Int.emod_emod_of_dvd x (Int.dvd_mul_right _ _)
    have e3 : x % (2 ^ n * 2 ^ (n * a)) / 2 ^ n = x / 2 ^ n % 2 ^ (n * a) := by
      have hq : x % (2 ^ n * 2 ^ (n * a)) = x % 2 ^ n + 2 ^ n * (x / 2 ^ n % 2 ^ (n * a)) := by
        rw [Int.emod_def x (2 ^ n * 2 ^ (n * a)), Int.emod_def x (2 ^ n), Int.emod_def (x / 2 ^ n), Int.ediv_ediv_of_nonneg (Int.le_of_lt hp), Int.mul_sub, Int.mul_assoc]
        omega
      rw [hq, Int.add_mul_ediv_left _ _ (Int.ne_of_gt hp), Int.ediv_eq_zero_of_lt (Int.emod_nonneg _ (Int.ne_of_gt hp)) (Int.emod_lt_of_pos _ hp), Int.zero_add]
    rw [e2, e3]

noncomputable def IIn (h : Heap) (f al : Addr) (n : Nat) : Prop := ∃ cA cI cN c' oA oI oN doc pm ctv tn,
  h.get? f = some (fnMade (Str.ofString "inner") iQual iP.1 iB.1 iS.1 [(Str.ofString "n", cN), (Str.ofString "inner", cI), (Str.ofString "a_digits", cA)] doc pm c' ctv) ∧
  h.CodeRec (.ref c') iQual ∧
  h.get? cA = some oA ∧ oA.data = .cell (some (.ref al)) ∧ h.get? cI = some oI ∧ oI.data = .cell (some (.ref f)) ∧ h.get? cN = some oN ∧ oN.data = .cell (some (.int n tn)) ∧
  f ≠ al ∧ cA ≠ al ∧ cI ≠ al ∧ cN ≠ al ∧ c' ≠ al
theorem IIn.but {h h' : Heap} {f al : Addr} {n : Nat} (x : IIn h f al n) (k : KpB al h h') : IIn h' f al n := by
  obtain ⟨cA, cI, cN, c', oA, oI, oN, doc, pm, ctv, tn, h1, h2, h3, h4, h5, h6, h7, h8, n1, n2, n3, n4, n5⟩ := x
  exact ⟨cA, cI, cN, c', oA, oI, oN, doc, pm, ctv, tn, k _ _ n1 h1, codeRec_but h2 k n5, k _ _ n2 h3, h4, k _ _ n3 h5, h6, k _ _ n4 h7, h8, n1, n2, n3, n4, n5⟩
noncomputable abbrev lstO (vs : List Value) (e : Nat) : Obj := W.listOf vs.toArray e
section
local macro_rules | `(tactic| walk_at "binaryOp RShift int int") => `(tactic| (refine rshift_int (by first | assumption | decide) ?_))

set_option maxHeartbeats 4000000 in
theorem con_iinner (k : Nat) : ∀ {w : World} {p : Program} {loose : List Str} {mean : ExcName → Option Value} {mg mb : Str → Option Value}
    {dp un : Nat} {gd : Option (List Code)} {cn : Str} {cs : Scope} {a : Addr} {ccd : Value} {cl : List (Str × Addr)} {outer : List Env} {A₀ : Around} {base h₀ : Heap} {L : Addr} {m : Str → Option Value} {s : Shared} {Q E : Value → Shared → Prop}
    {news : List (Addr × Obj)} {g : Obj → List (Addr × Obj)} {f al : Addr} {vs : List Value} {ep : Nat} {ns : List Int} {n : Nat} {x Lx Rx : Int} {t0 t1 t2 : Tok}
    (B : Below A₀ base outer h₀) (F : Fr h₀ L s.heap m) (X : (hd.heap_39 w.params).In h₀) (T : Top p loose mean mg mb h₀) (hk : cs.kind = .function) (N : News h₀ L s.heap news) (U : UpdF al (lstO vs ep) news g)
    (hin : IIn s.heap f al n) (hi : IntsAre vs ns) (hn : n ≤ 1000) (hlen : ns.length ≤ 60) (hx0 : 0 ≤ x) (hx : x < 2 ^ (n * (Rx - Lx).toNat))
    (h0 : 0 ≤ Lx) (h1 : Lx < Rx) (h2 : Rx ≤ ns.length) (h3 : Rx - Lx ≤ k)
    (hdp : dp + k < recursionLimit) (hu : un + 8 * k < cLine)
    (hret : ∀ h' tk' vs', Fr h₀ L h' m → News h₀ L h' (g (lstO vs' ep)) → KpB al s.heap h' → IntsAre vs' (ns.take Lx.toNat ++ digs n (Rx - Lx).toNat x ++ ns.drop Rx.toNat) → Q .none { s with heap := h', toks := tk' }),
    wpAny (model PySem.Challenge.rw_pe0153_01.prog w) (ktrTop dp un gd cn cs L a ccd cl outer) (call (.ref f) [.int x t0, .int Lx t1, .int Rx t2]) Q E s := by
  induction k with
  | zero => intros; omega
  | succ k ih =>
  intro w p loose mean mg mb dp un gd cn cs a ccd cl outer A₀ base h₀ L m s Q E news g f al vs ep ns n x Lx Rx t0 t1 t2 B F X T hk N U hin hi hn hlen hx0 hx h0 h1 h2 h3 hdp hu hret
  obtain ⟨cA, cI, cN, c', oA, oI, oN, doc, pm, ctv, tn, hf, hc, hA, hA', hI, hI', hN, hN', n1, n2, n3, n4, n5⟩ := id hin
  refine wpAny_call ?_
  (refine' callH (K := hd.heap_39 w.params) (news := [(al, lstO vs ep)]) (T := T) ?k1 ?k2 ?k3 ?k4 ?kA ?kF ?kK hf rfl hc ?k8 ?k9 ?kB ?_ ?c2 ?c3 ?c4 ?c5; (case kA => exact rfl); (case kF => exact rfl); (case kK => assumption); (case k1 => k_asm); (case k2 => k_asm); (case k3 => k_asm); (case k4 => exact news1 N U); (case k8 => ktr_room); (case k9 => exact BindsTo.of_eq rfl); (case c5 => decide); (case kB => exact locs rfl); (case c2 => exact rfl); (case c3 => exact rfl); (case c4 => exact rfl))
  intro g' L' h' FG' F' N' B' X' T' hg hL

  have hg' : ∀ b o, b ≠ al → s.heap.get? b = some o → g'.get? b = some o := fun b o hb e => hg b o e (by simpa using hb)
  have hf2 := hg' _ _ n1 hf
  have hA2 := hg' _ _ n2 hA
  have hI2 := hg' _ _ n3 hI
  have hN2 := hg' _ _ n4 hN
  have hlv := hi.length
  have hM : (Lx + Rx).fdiv (2 ^ Int.toNat 1) = (Lx + Rx) / 2 := by
    show (Lx + Rx).fdiv 2 = _
    rw [Int.fdiv_eq_ediv_of_nonneg _ (by decide)]
  have hM1 : Lx ≤ (Lx + Rx).fdiv (2 ^ Int.toNat 1) := by rw [hM]; exact midGe h1
  have hM2 : (Lx + Rx).fdiv (2 ^ Int.toNat 1) < Rx := by rw [hM]; exact midRi h1
  have hM3 : Lx + 1 < Rx → Lx < (Lx + Rx).fdiv (2 ^ Int.toNat 1) := by rw [hM]; exact midLo
  have hs0 : 0 ≤ ((Lx + Rx).fdiv (2 ^ Int.toNat 1) - Lx) * (n : Int) := Int.mul_nonneg (by omega) (by omega)
  have hs1 : ((Builtin.Int.intBits (x.fdiv (2 ^ (((Lx + Rx).fdiv (2 ^ Int.toNat 1) - Lx) * (n : Int)).toNat)) : Nat) : Int) + ((Lx + Rx).fdiv (2 ^ Int.toNat 1) - Lx) * (n : Int) ≤ 2 ^ 27 := by
    have q1 := intBits_fdiv_le (y := 2 ^ (((Lx + Rx).fdiv (2 ^ Int.toNat 1) - Lx) * (n : Int)).toNat) (bits_of_lt hx0 hx)
    have q2 : n * (Rx - Lx).toNat ≤ 1000 * 60 := Nat.mul_le_mul hn (by omega)
    have q3 : ((Lx + Rx).fdiv (2 ^ Int.toNat 1) - Lx) * (n : Int) ≤ 60 * 1000 := Int.mul_le_mul (by omega) (by omega) (by omega) (by omega)
    omega
  dsimp only
  k_unmd
  k_fold
  k_steps
  · rename Lx + 1 = Rx => he
    (rename Fr g' _ _ _ => F9); (rename News g' _ _ _ => N9)
    have kpb : KpB al s.heap _ := fun b o hb e => F9.keep b o (hg' b o hb e)
    refine hret _ _ _ (by assumption) (newsU N U kpb (News.get N9 (by k_mem))) kpb ?_
    subst he
    have e1 := tnO Lx
    have e2 := tn1 h0
    rw [e1, Nat.mul_one] at hx
    rw [e1, e2]
    have e3 : ns.take Lx.toNat ++ digs n 1 x ++ ns.drop (Lx.toNat + 1) = ns.set Lx.toNat x := by
      rw [List.set_eq_take_append_cons_drop, if_pos (by omega)]
      simp [digs, Int.emod_eq_of_lt hx0 hx]
    rw [e3]
    assumption
  · rename Lx + 1 ≠ Rx => he
    have hM4 := hM3 (Int.lt_iff_le_and_ne.mpr ⟨h1, he⟩)
    (rename Fr _ _ _ _ => F9); (rename News _ _ _ _ => N9)
    have kpb : KpB al s.heap _ := fun b o hb e => F9.keep b o (hg' b o hb e)
    have hlow := xor_low hx0 (((Lx + Rx).fdiv (2 ^ Int.toNat 1) - Lx) * (n : Int)).toNat
    have hup : x.fdiv (2 ^ (((Lx + Rx).fdiv (2 ^ Int.toNat 1) - Lx) * (n : Int)).toNat) = x / (2 ^ (((Lx + Rx).fdiv (2 ^ Int.toNat 1) - Lx) * (n : Int)).toNat) := Int.fdiv_eq_ediv_of_nonneg _ (Int.le_of_lt (Int.pow_pos (by decide)))
    have e4 : (((Lx + Rx).fdiv (2 ^ Int.toNat 1) - Lx) * (n : Int)).toNat = n * ((Lx + Rx).fdiv (2 ^ Int.toNat 1) - Lx).toNat := by
      have : ((Lx + Rx).fdiv (2 ^ Int.toNat 1) - Lx) * (n : Int) = ((n * ((Lx + Rx).fdiv (2 ^ Int.toNat 1) - Lx).toNat : Nat) : Int) := by
        rw [Int.natCast_mul, Int.toNat_of_nonneg (by omega), Int.mul_comm]
      rw [this]; rfl
    have hp : (0 : Int) < 2 ^ (n * ((Lx + Rx).fdiv (2 ^ Int.toNat 1) - Lx).toNat) := Int.pow_pos (by decide)
    refine' ih (B := B') (F := F9) (X := X') (T := T') rfl (N := N9) (U := ?u) (hin := hin.but kpb) (hi := hi) hn hlen ?z1 ?z2 ?y1 ?y2 ?y3 ?y4 ?y5 ?y6 ?_
    case u => k_updF
    case z1 => rw [hlow]; exact Int.emod_nonneg _ (Int.ne_of_gt (Int.pow_pos (by decide)))
    case z2 => rw [hlow, e4]; exact Int.emod_lt_of_pos _ hp
    case y1 => omega
    case y2 => omega
    case y3 => omega
    case y4 => omega
    case y5 => show dp + 1 + k < _; omega
    case y6 => show un + 3 + 8 * k < _; omega
    intro h9 tk9 vs9 F9 N9 kpb2 hi9
    have kpb := kpb.trans kpb2
    generalize hMM : (Lx + Rx).fdiv (2 ^ Int.toNat 1) = M at *
    have hlv9 := hi9.length
    have hdl := digs_length n (M - Lx).toNat (Builtin.bitXor x (x.fdiv (2 ^ ((M - Lx) * (n : Int)).toNat) * 2 ^ ((M - Lx) * (n : Int)).toNat))
    have hlen9 : (ns.take Lx.toNat ++ digs n (M - Lx).toNat (Builtin.bitXor x (x.fdiv (2 ^ ((M - Lx) * (n : Int)).toNat) * 2 ^ ((M - Lx) * (n : Int)).toNat)) ++ ns.drop M.toNat).length = ns.length := by
      simp only [List.length_append, List.length_take, List.length_drop, hdl]; exact cutK h0 hM1 (Int.le_trans (Int.le_of_lt hM2) h2)
    dsimp only
    k_steps
    (rename Fr _ _ _ _ => F9); (rename News _ _ _ _ => N9)
    refine' ih (B := B') (F := F9) (X := X') (T := T') rfl (N := N9) (U := ?u) (hin := hin.but (fun b o hb e => F9.keep b o (hg' b o hb e))) (hi := hi9) hn ?z0 ?z1 ?z2 ?y1 ?y2 ?y3 ?y4 ?y5 ?y6 ?_
    case u => k_updF
    case z0 => rw [hlen9]; exact hlen
    case z1 => rw [hup]; exact Int.ediv_nonneg hx0 (Int.le_of_lt (Int.pow_pos (by decide)))
    case z2 =>
      rw [hup, e4]
      refine Int.ediv_lt_of_lt_mul hp ?_
      rw [← Int.pow_add, ← Nat.mul_add]
      have : (Rx - M).toNat + (M - Lx).toNat = (Rx - Lx).toNat := by rw [Nat.add_comm]; exact (tnA hM1 (Int.le_of_lt hM2)).symm
      rw [this]; exact hx
    case y1 => omega
    case y2 => omega
    case y3 => rw [hlen9]; omega
    case y4 => omega
    case y5 => show dp + 1 + k < _; omega
    case y6 => show un + 3 + 8 * k < _; omega
    intro h10 tk10 vs10 F10 N10 kpb3 hi10
    dsimp only
    k_steps
    have kpb : KpB al s.heap _ := fun b o hb e => F10.keep b o (hg' b o hb e)
    refine hret _ _ _ (by assumption) (newsU N U kpb (News.get N10 (by k_mem))) kpb ?_
    have e5 : ns.take Lx.toNat ++ digs n (Rx - Lx).toNat x ++ ns.drop Rx.toNat = (ns.take Lx.toNat ++ digs n (M - Lx).toNat (Builtin.bitXor x (x.fdiv (2 ^ ((M - Lx) * (n : Int)).toNat) * 2 ^ ((M - Lx) * (n : Int)).toNat)) ++ ns.drop M.toNat).take M.toNat ++ digs n (Rx - M).toNat (x.fdiv (2 ^ ((M - Lx) * (n : Int)).toNat)) ++ (ns.take Lx.toNat ++ digs n (M - Lx).toNat (Builtin.bitXor x (x.fdiv (2 ^ ((M - Lx) * (n : Int)).toNat) * 2 ^ ((M - Lx) * (n : Int)).toNat)) ++ ns.drop M.toNat).drop Rx.toNat := by
      have q := tnA hM1 (Int.le_of_lt hM2)
      rw [q, digs_append, hlow, hup, e4]
      rw [hlow, e4] at hdl
      have l1 : (ns.take Lx.toNat ++ digs n (M - Lx).toNat (x % 2 ^ (n * (M - Lx).toNat))).length = M.toNat := by
        simp only [List.length_append, List.length_take, hdl]; exact cutN h0 hM1 (Int.le_trans (Int.le_of_lt hM2) h2)
      have l2 : (ns.take Lx.toNat ++ digs n (M - Lx).toNat (x % 2 ^ (n * (M - Lx).toNat))).drop Rx.toNat = [] := List.drop_of_length_le (by rw [l1]; exact Int.toNat_le_toNat (Int.le_of_lt hM2))
      rw [List.take_left' l1, List.drop_append, l1, l2, List.nil_append, List.drop_drop]
      have := tnM (Int.le_of_lt hM2)
      rw [this]
      simp only [List.append_assoc]
    rw [e5]
    exact hi10
end
end Mine
end

end

section
theorem Mine.woff_CInt2 {M : PySem.Model} {A : PySem.Around} {E Q : PySem.Value → PySem.Shared → Prop} {s : PySem.Shared} (h : PySem.wpAny M A (PySem.call (.builtin "no") []) Q E s) : PySem.wpAny M A (PySem.call (.builtin "no") []) Q E s := by
  w_top off
  first | (walk1; fail) | exact h
open PySem PySem.W PyProof.Rows PySem.Calls PySem.Spec
set_option maxRecDepth 100000
namespace Mine
theorem filled5 (w : World) : (hd.heap_39 w.params).In ({} : Heap) → PySem.Challenge.rw_pe0153_01.foot = 4 := by
  k_fill
  intro _; rfl
local macro_rules | `(tactic| kn_triples) => `(tactic| assumption)
local macro_rules | `(tactic| kn_among) => `(tactic| assumption)
local macro_rules | `(tactic| kn_hit) => `(tactic| assumption)
theorem foldl_rep (v : Value) : ∀ (k : Nat) (acc : Array Value), List.foldl (fun x1 x2 => x1 ++ x2) acc (List.replicate k #[v]) = acc ++ (List.replicate k v).toArray
  | 0, acc => by simp
  | k + 1, acc => by
    rw [List.replicate_succ, List.foldl_cons, foldl_rep v k, List.replicate_succ]
    apply Array.ext'
    simp
theorem intsAre_rep (x : Int) (t : Tok) : ∀ k, IntsAre (List.replicate k (.int x t)) (List.replicate k x)
  | 0 => .nil
  | k + 1 => .cons x t (intsAre_rep x t k)
theorem mul_one {prog : Program} {w : World} {A : Around} {E : Value → Shared → Prop} {s : Shared} {h₀ : Heap} {L : Addr} {m : Str → Option Value} {news : List (Addr × Obj)} {l : Addr} {c : Int} {t : Tok} {e : Nat} {x : Int} {u : Tok} {k : Nat} {Q : Value → Shared → Prop}
    (F : Fr h₀ L s.heap m) (N : News h₀ L s.heap news) (hm : (l, W.listOf [Value.int c t].toArray e) ∈ news) (hx : x = (k : Int)) (hk : k ≤ 60)
    (h : ∀ d h', Fr h₀ L h' m → News h₀ L h' ((d, lstO (List.replicate k (.int c t)) 0) :: news) → (∀ p ∈ news, p.1 < d) → L < d → IntsAre (List.replicate k (.int c t)) (List.replicate k c) → (List.replicate k c).length = k → Q (.ref d) { s with heap := h' }) :
    wpAny (model prog w) A (binaryOp .Mult (.ref l) (.int x u)) Q E s := by
  subst hx
  refine mul_list F N (N.get hm) (by omega) (by omega) (by simp; omega) fun h' F' N' => h _ h' F' ?_ (fun p hp => Heap.lt_size (N p hp).1) F.ns.lt (intsAre_rep c t k) List.length_replicate
  have e : List.foldl (fun x1 x2 => x1 ++ x2) #[] (List.replicate (if [Value.int c t].toArray.isEmpty = true then 0 else (k : Int).toNat) [Value.int c t].toArray) = (List.replicate k (Value.int c t)).toArray := by
    simp only [List.isEmpty_toArray, List.isEmpty_cons, Bool.false_eq_true, if_false, Int.toNat_natCast]
    rw [foldl_rep]; simp
  rw [e] at N'
  exact N'
local macro_rules | `(tactic| walk_at "binaryOp Mult ref int") => `(tactic| (refine Stp.out ?_))
/-- the number of digits of x, base 2^n -/
noncomputable def ndig (n : Nat) (x : Int) : Nat := (Builtin.Int.intBits x + n - 1) / n
theorem ndig_fits {n : Nat} {x : Int} (hx : 0 ≤ x) (hn : 1 ≤ n) : x < 2 ^ (n * ndig n x) := by
  have h1 : Builtin.Int.intBits x ≤ n * ndig n x := by
    unfold ndig
    have := Nat.div_add_mod (Builtin.Int.intBits x + n - 1) n
    have := Nat.mod_lt (Builtin.Int.intBits x + n - 1) (show n > 0 by omega)
    omega
  have h2 := intBits_le_iff.mp h1
  have h3 : ((x.natAbs : Nat) : Int) < ((2 ^ (n * ndig n x) : Nat) : Int) := by exact_mod_cast h2
  rw [Int.natAbs_of_nonneg hx] at h3
  exact_mod_cast h3
theorem ndig_pos {n : Nat} {x : Int} (hx : 0 ≤ x) (hn : 1 ≤ n) (h0 : x ≠ 0) : 0 < ndig n x := by
  have := ndig_fits hx hn
  rcases Nat.eq_zero_or_pos (ndig n x) with h | h
  · rw [h] at this; simp at this; omega
  · exact h
set_option maxHeartbeats 4000000 in
theorem con_int {w : World} {p : Program} {loose : List Str} {mean : ExcName → Option Value} {mg mb : Str → Option Value}
    {dp un : Nat} {gd : Option (List Code)} {cn : Str} {cs : Scope} {a : Addr} {ccd : Value} {cl : List (Str × Addr)} {outer : List Env} {A₀ : Around} {base h₀ : Heap} {L : Addr} {m : Str → Option Value} {s : Shared} {Q E : Value → Shared → Prop}
    {news : List (Addr × Obj)} {g : Obj → List (Addr × Obj)} {p47 : Array Value} {Y : List (Addr × Obj)} {x : Int} {n : Nat} {tx tn : Tok}
    (B : Below A₀ base outer h₀) (F : Fr h₀ L s.heap m) (X : (hd.heap_39 w.params).In h₀) (T : Top p loose mean mg mb h₀) (hk : cs.kind = .function) (N : News h₀ L s.heap news) (U : UpdF 47 (tabObj p47) news g) (C : CodeHd h₀ 51 47) (tbx : TbX iPos iQual p47 h₀ Y) (hY : ∀ q ∈ Y, q ∈ news)
    (hx : 0 ≤ x) (hn0 : 1 ≤ n) (hn : n ≤ 1000) (hlen : ndig n x ≤ 60)
    (hdp : dp + 62 < recursionLimit) (hu : un + 500 < cLine)
    (hret : ∀ l h' tk' p' vs' ep Y', Fr h₀ L h' m → News h₀ L h' ((l, lstO vs' ep) :: (g (tabObj p') ++ Y')) → TbT iPos iQual p47 p' Y' → (∀ q ∈ Y', @LE.le Nat _ s.heap.objs.size q.1) → IntsAre vs' (digs n (ndig n x) x) → @LE.le Nat _ s.heap.objs.size l → Q (.ref l) { s with heap := h', toks := tk' }) :
    wpAny (model PySem.Challenge.rw_pe0153_01.prog w) (ktrTop dp un gd cn cs L a ccd cl outer) (call (.ref 52) [.int x tx, .int n tn]) Q E s := by
  refine wpAny_call ?_
  (refine' callMC (K := hd.heap_39 w.params) (news := [(47, tabObj p47)]) (T := T) ?k1 ?k2 ?k3 ?k4 ?kA ?kF ?kK ?k6 ?k7 ?k8 ?k9 ?kB ?kD ?_ ?c2 ?c3 ?c4; (case kA => exact rfl); (case kF => exact rfl); (case kK => assumption); (case k1 => k_asm); (case k2 => k_asm); (case k3 => k_asm); (case k4 => exact news1 N U);  (case k6 => k_is); (case k7 => k_is); (case k8 => ktr_room); (case k9 => exact BindsTo.of_eq rfl); (case kB => exact rfl); (case kD => decide +kernel); (case c2 => exact rfl); (case c3 => exact rfl); (case c4 => exact rfl))
  intro g' L' h' tk' cells' FG' F' N' Y' B' X' T' l1 hg hL
  (try k_lt l1); k_cells Y'; (try simp only [List.cons_append, List.nil_append] at N')
  (try dsimp only); (try k_lift B'); (try k_fold)

  have hg' : ∀ b o, b ≠ 47 → s.heap.get? b = some o → g'.get? b = some o := fun b o hb e => hg b o e (by simpa using hb)
  have C2 : CodeHd g' 51 47 := C.keeps FG'.keep
  have tb := tbx.tb F N hY
  have ht := tb.tri
  have h112 : 112 < s.heap.objs.size := Heap.lt_size (F.keep _ _ (X 112 _ (by k_is)))
  have hnd : ((Builtin.Int.intBits x : Nat) : Int) + (n : Int) - 1 = ((Builtin.Int.intBits x + n - 1 : Nat) : Int) := by omega
  have hnd2 : (((Builtin.Int.intBits x : Nat) : Int) + (n : Int) - 1).fdiv (n : Int) = ((ndig n x : Nat) : Int) := by
    rw [hnd, Int.fdiv_eq_ediv_of_nonneg _ (by omega)]; rfl
  rcases tb.st with hq0 | ⟨c9, hq0, hc1, hc2, hc3⟩
  · k_steps
    refine Stp.into ?_
    (refine' mul_one ?F ?N ?m ?x ?k ?_; (case F => k_asm); (case N => k_asm); (case m => k_mem); (case x => assumption); (case k => assumption))
    intro d8 h8 F8 N8 lm1 lm2 im1 nm1
    (try k_lt lm1)
    k_lt2 lm2
    k_steps
    · (rename Fr _ _ _ _ => F9); (rename News _ _ _ _ => N9)
      have kpb : KpB 47 s.heap _ := fun b o hb e => Fr.keep (h₀ := g') (L := L') F9 b o (hg' b o hb e)
      refine' con_iinner 60 (B := B') (F := F9) (X := X') (T := T') rfl (N := N9) (U := ?u) (hin := ?iin) (hi := by assumption) hn ?y0 hx ?z2 (Int.le_refl 0) ?y2 ?y3 ?y4 ?y5 ?y6 ?_
      case iin =>
        refine' ⟨_, _, _, _, _, _, _, _, _, _, _, News.get N9 (List.Mem.head _), ?a2, News.get N9 ?a3, ?a4, News.get N9 ?a5, ?a6, News.get N9 ?a7, ?a8, ?b1, ?b2, ?b3, ?b4, ?b5⟩
        case a2 => exact codeRec_news N9 (by k_mem) (by assumption) (by assumption)
        case a3 => k_mem
        case a5 => k_mem
        case a7 => k_mem
        case a4 => assumption
        case a6 => assumption
        case a8 => assumption
        case b1 => exact neN (by omega)
        case b2 => exact neN (by omega)
        case b3 => exact neN (by omega)
        case b4 => exact neN (by omega)
        case b5 => exact neN (by omega)
      case u => k_updF
      case y0 => omega
      case z2 =>
        have e1 : (((List.replicate (ndig n x) (0 : Int)).length : Nat) : Int) - 0 = ((ndig n x : Nat) : Int) := by rw [List.length_replicate]; omega
        rw [e1, Int.toNat_natCast]
        exact ndig_fits hx hn0
      case y2 =>
        have := ndig_pos (n := n) hx hn0 (by assumption)
        omega
      case y3 => exact Int.le_refl _
      case y4 => omega
      case y5 => show dp + 1 + 60 < _; omega
      case y6 => show un + 3 + 8 * 60 < _; omega
      intro h9 tk9 vs9 F9 N9 kpb2 hi9
      have e9 : (List.replicate (ndig n x) (0 : Int)).take (Int.toNat 0) ++ digs n ((((List.replicate (ndig n x) (0 : Int)).length : Nat) : Int) - 0).toNat x ++ (List.replicate (ndig n x) (0 : Int)).drop ((((List.replicate (ndig n x) (0 : Int)).length : Nat) : Int)).toNat = digs n (ndig n x) x := by
        simp
      rw [e9] at hi9
      dsimp only
      k_steps
      (rename News h₀ _ _ _ => kN); (rename Fr h₀ _ _ _ => kF)
      have kpb : KpB 47 s.heap _ := fun b o hb e => Fr.keep (h₀ := g') (L := L') F9 b o (hg' b o hb e)
      refine' hret _ _ _ _ _ _ [(_, _)] kF (newsC (newsA (newsU N U kpb (News.get N9 ?q1)) kN ?q2) kN ?q6) (TbT.made (pos := iPos) ht hq0 (neN ?q3) (neN ?q4) (.head _) (by assumption) (by assumption)) ?q5 hi9 ?q7
      case q1 => k_mem
      case q2 => k_mem
      case q6 => k_mem
      case q3 => omega
      case q4 => omega
      case q5 => exact List.forall_mem_singleton.mpr (leN (by omega))
      case q7 => omega
    · (rename Fr g' _ _ _ => F9); (rename News g' _ _ _ => N9); (rename News h₀ _ _ _ => kN); (rename Fr h₀ _ _ _ => kF)
      have hx0 : x = 0 := by first | assumption | omega | (simp_all; done)
      subst hx0
      have e0 : ndig n 0 = 0 := by
        show (0 + n - 1) / n = 0
        exact Nat.div_eq_of_lt (by omega)
      have kpb : KpB 47 s.heap _ := fun b o hb e => Fr.keep (h₀ := g') (L := L') F9 b o (hg' b o hb e)
      refine' hret _ _ _ _ _ _ [(_, _)] kF (newsC (newsA (newsU N U kpb (News.get N9 ?q1)) kN ?q2) kN ?q6) (TbT.made (pos := iPos) ht hq0 (neN ?q3) (neN ?q4) (.head _) (by assumption) (by assumption)) ?q5 ?q8 ?q7
      case q1 => k_mem
      case q2 => k_mem
      case q6 => k_mem
      case q3 => omega
      case q4 => omega
      case q5 => exact List.forall_mem_singleton.mpr (leN (by omega))
      case q7 => omega
      rw [e0]
      exact .nil
  · have hlt9 : @LT.lt Nat _ c9 s.heap.objs.size := by
      obtain ⟨c, o, vs, t, e, ho, _⟩ := hc3
      cases e
      exact Heap.lt_size ho
    k_steps
    refine Stp.into ?_
    (refine' mul_one ?F ?N ?m ?x ?k ?_; (case F => k_asm); (case N => k_asm); (case m => k_mem); (case x => assumption); (case k => assumption))
    intro d8 h8 F8 N8 lm1 lm2 im1 nm1
    (try k_lt lm1)
    k_lt2 lm2
    k_steps
    · (rename Fr _ _ _ _ => F9); (rename News _ _ _ _ => N9)
      have kpb : KpB 47 s.heap _ := fun b o hb e => Fr.keep (h₀ := g') (L := L') F9 b o (hg' b o hb e)
      refine' con_iinner 60 (B := B') (F := F9) (X := X') (T := T') rfl (N := N9) (U := ?u) (hin := ?iin) (hi := by assumption) hn ?y0 hx ?z2 (Int.le_refl 0) ?y2 ?y3 ?y4 ?y5 ?y6 ?_
      case iin =>
        refine' ⟨_, _, _, _, _, _, _, _, _, _, _, News.get N9 (List.Mem.head _), ?a2, News.get N9 ?a3, ?a4, News.get N9 ?a5, ?a6, News.get N9 ?a7, ?a8, ?b1, ?b2, ?b3, ?b4, ?b5⟩
        case a2 => exact codeRec_but hc3 kpb hc1
        case a3 => k_mem
        case a5 => k_mem
        case a7 => k_mem
        case a4 => assumption
        case a6 => assumption
        case a8 => assumption
        case b1 => exact neN (by omega)
        case b2 => exact neN (by omega)
        case b3 => exact neN (by omega)
        case b4 => exact neN (by omega)
        case b5 => exact neN (by omega)
      case u => k_updF
      case y0 => omega
      case z2 =>
        have e1 : (((List.replicate (ndig n x) (0 : Int)).length : Nat) : Int) - 0 = ((ndig n x : Nat) : Int) := by rw [List.length_replicate]; omega
        rw [e1, Int.toNat_natCast]
        exact ndig_fits hx hn0
      case y2 =>
        have := ndig_pos (n := n) hx hn0 (by assumption)
        omega
      case y3 => exact Int.le_refl _
      case y4 => omega
      case y5 => show dp + 1 + 60 < _; omega
      case y6 => show un + 3 + 8 * 60 < _; omega
      intro h9 tk9 vs9 F9 N9 kpb2 hi9
      have e9 : (List.replicate (ndig n x) (0 : Int)).take (Int.toNat 0) ++ digs n ((((List.replicate (ndig n x) (0 : Int)).length : Nat) : Int) - 0).toNat x ++ (List.replicate (ndig n x) (0 : Int)).drop ((((List.replicate (ndig n x) (0 : Int)).length : Nat) : Int)).toNat = digs n (ndig n x) x := by
        simp
      rw [e9] at hi9
      dsimp only
      k_steps
      (rename News h₀ _ _ _ => kN); (rename Fr h₀ _ _ _ => kF)
      have kpb : KpB 47 s.heap _ := fun b o hb e => Fr.keep (h₀ := g') (L := L') F9 b o (hg' b o hb e)
      exact hret _ _ _ _ _ _ [] kF (newsC (newsA0 (newsU N U kpb (News.get N9 (by k_mem)))) kN (by k_mem)) TbT.same (fun _ h => absurd h List.not_mem_nil) hi9 (by omega)
    · (rename Fr g' _ _ _ => F9); (rename News g' _ _ _ => N9); (rename News h₀ _ _ _ => kN); (rename Fr h₀ _ _ _ => kF)
      have hx0 : x = 0 := by first | assumption | omega | (simp_all; done)
      subst hx0
      have e0 : ndig n 0 = 0 := by
        show (0 + n - 1) / n = 0
        exact Nat.div_eq_of_lt (by omega)
      have kpb : KpB 47 s.heap _ := fun b o hb e => Fr.keep (h₀ := g') (L := L') F9 b o (hg' b o hb e)
      refine hret _ _ _ _ _ _ [] kF (newsC (newsA0 (newsU N U kpb (News.get N9 (by k_mem)))) kN (by k_mem)) TbT.same (fun _ h => absurd h List.not_mem_nil) ?_ (by omega)
      rw [e0]
      exact .nil
end Mine
end

section
theorem Mine.woff_CDm {M : PySem.Model} {A : PySem.Around} {E Q : PySem.Value → PySem.Shared → Prop} {s : PySem.Shared} (h : PySem.wpAny M A (PySem.call (.builtin "no") []) Q E s) : PySem.wpAny M A (PySem.call (.builtin "no") []) Q E s := by
  w_top off
  first | (walk1; fail) | exact h
open PySem PySem.W PyProof.Rows PySem.Calls PySem.Spec
set_option maxRecDepth 100000
namespace Mine
theorem filled7 (w : World) : (hd.heap_39 w.params).In ({} : Heap) → PySem.Challenge.rw_pe0153_01.foot = 4 := by
  k_fill
  intro _; rfl
noncomputable abbrev tupO (vs : List Value) : Obj := { cls := .type "tuple", data := .seq vs.toArray }
local macro_rules | `(tactic| walk_at "call ref") => `(tactic| (refine Stp.out ?_))
local macro_rules | `(tactic| walk_at "RevRest") => `(tactic| (refine Stp.out ?_))
local macro_rules | `(tactic| k_all) => `(tactic| exact allNe_lo (by assumption) (by omega))
local macro_rules | `(tactic| k_all) => `(tactic| exact allNe_hi (by assumption) (by omega))
local macro_rules | `(tactic| walk_at "UnrEnd") => `(tactic| (refine Stp.out ?_))
local macro_rules | `(tactic| walk_at "binaryOp LShift int int") => `(tactic| (refine lshift_int (by assumption) (by assumption) ?_))
theorem rev_M {prog : Program} {w : World} {A : Around} {E : Value → Shared → Prop} {s : Shared} {h₀ : Heap} {L D : Addr} {m : Str → Option Value} {news news' : List (Addr × Obj)} {vs : List Value} {n : Nat} {Q : Value → Shared → Prop}
    (F : Fr h₀ L s.heap m) (N : News h₀ L s.heap news) (U : Upd D (lstO vs n) (lstO vs.reverse n) news news') (hz : vs.length ≤ 1000)
    (h : ∀ h', Fr h₀ L h' m → News h₀ L h' news' → Q .none { s with heap := h' }) : wpAny (model prog w) A (call (.builtin "list.reverse") [.ref D]) Q E s :=
  kl_reverse F N (by simp) U (by rw [List.toList_toArray, sizeLine_eq]; omega) h
local macro_rules | `(tactic| walk_at "call builtin:list.reverse") => `(tactic| (refine Stp.out ?_))
/-- the value of digits, the highest first -/
noncomputable def mval (n : Nat) (v : Int) (l : List Int) : Int := l.foldl (fun v d => v * 2 ^ n + d) v
theorem mval_rev (n : Nat) : ∀ (l : List Int), mval n 0 l.reverse = dval n l
  | [] => rfl
  | d :: r => by
    show mval n 0 (List.reverse (d :: r)) = d + 2 ^ n * dval n r
    unfold mval
    rw [List.reverse_cons, List.foldl_append]
    show mval n 0 r.reverse * 2 ^ n + d = _
    rw [mval_rev n r, Int.mul_comm, Int.add_comm]
theorem dval_digs (n : Nat) : ∀ (k : Nat) (x : Int), dval n (digs n k x) = x % 2 ^ (n * k)
  | 0, x => by simp [digs, dval, Int.emod_one]
  | k + 1, x => by
    have hp : (0 : Int) < 2 ^ n := Int.pow_pos (by decide)
    simp only [digs, dval]
    rw [dval_digs n k]
    have e1 : (2 : Int) ^ (n * (k + 1)) = 2 ^ n * 2 ^ (n * k) := by rw [Nat.mul_succ, Nat.add_comm, Int.pow_add]
    rw [e1, Int.emod_def x (2 ^ n * 2 ^ (n * k)), Int.emod_def x (2 ^ n), Int.emod_def (x / 2 ^ n), Int.ediv_ediv_of_nonneg (Int.le_of_lt hp), Int.mul_sub, Int.mul_assoc]
    omega
theorem digs_bounds (n : Nat) : ∀ (k : Nat) (x : Int), ∀ d ∈ digs n k x, 0 ≤ d ∧ d < 2 ^ n
  | 0, _, _, h => nomatch h
  | k + 1, x, d, h => by
    have hp : (0 : Int) < 2 ^ n := Int.pow_pos (by decide)
    rcases List.mem_cons.mp h with rfl | h
    · exact ⟨Int.emod_nonneg _ (Int.ne_of_gt hp), Int.emod_lt_of_pos _ hp⟩
    · exact digs_bounds n k _ d h
theorem intsAre_reverse {vs : List Value} {ns : List Int} (h : IntsAre vs ns) : IntsAre vs.reverse ns.reverse := by
  induction h with
  | nil => exact .nil
  | cons x t _ ih => simp only [List.reverse_cons]; exact IntsAre.append ih (.cons x t .nil)

set_option maxHeartbeats 4000000 in
theorem con_divmod {w : World} {p : Program} {loose : List Str} {mean : ExcName → Option Value} {mg mb : Str → Option Value}
    {dp un : Nat} {gd : Option (List Code)} {cn : Str} {cs : Scope} {a : Addr} {ccd : Value} {cl : List (Str × Addr)} {outer : List Env} {A₀ : Around} {base h₀ : Heap} {L : Addr} {m : Str → Option Value} {s : Shared} {Q E : Value → Shared → Prop}
    {news : List (Addr × Obj)} {g1 : Obj → List (Addr × Obj)} {g2 : Obj → Obj → List (Addr × Obj)} {p47 p54 : Array Value} {Y : List (Addr × Obj)} {x b : Int} {tx tb : Tok}
    (B : Below A₀ base outer h₀) (F : Fr h₀ L s.heap m) (X : (hd.heap_39 w.params).In h₀) (T : Top p loose mean mg mb h₀) (hk : cs.kind = .function) (N : News h₀ L s.heap news) (U1 : UpdF 47 (tabObj p47) news g1) (U2 : ∀ o, UpdF 54 (tabObj p54) (g1 o) (g2 o)) (C1 : CodeHd h₀ 51 47) (C2 : CodeHd h₀ 58 54) (tbi : TbX iPos iQual p47 h₀ Y) (tbd : TbX dPos dQual p54 h₀ Y) (hY : ∀ q ∈ Y, q ∈ news)
    (hx : 0 ≤ x) (hb : 0 < b) (hb1 : Builtin.Int.intBits b ≤ 500) (hx1 : ndig (Builtin.Int.intBits b) x ≤ 50)
    (hdp : dp + 64 < recursionLimit) (hu : un + 600 < cLine)
    (hret : ∀ t h' tk' p' p'' Y' k1 k2, Fr h₀ L h' m → News h₀ L h' ((t, tupO [.int (x / b) k1, .int (x % b) k2]) :: (g2 (tabObj p') (tabObj p'') ++ Y')) → TbT iPos iQual p47 p' Y' → TbT dPos dQual p54 p'' Y' → (∀ q ∈ Y', @LE.le Nat _ s.heap.objs.size q.1) → @LE.le Nat _ s.heap.objs.size t → Q (.ref t) { s with heap := h', toks := tk' }) :
    wpAny (model PySem.Challenge.rw_pe0153_01.prog w) (ktrTop dp un gd cn cs L a ccd cl outer) (call (.ref 66) [.int x tx, .int b tb]) Q E s := by
  have m54 := mem54 U1 U2
  have m47 := memU U1
  refine wpAny_call ?_
  (refine' callM (K := hd.heap_39 w.params) (news := [(47, tabObj p47), (54, tabObj p54)]) (T := T) ?k1 ?k2 ?k3 ?k4 ?kA ?kF ?kK ?k6 ?k7 ?k8 ?k9 ?kB ?_ ?c2 ?c3 ?c4 ?c5; (case kA => exact rfl); (case kF => exact rfl); (case kK => assumption); (case k1 => k_asm); (case k2 => k_asm); (case k3 => k_asm); (case k4 => exact fun p hp => by rcases List.mem_cons.mp hp with rfl | hp; exact N _ m47; rw [List.mem_singleton.mp hp]; exact N _ m54);  (case k6 => k_is); (case k7 => k_is); (case k8 => ktr_room); (case k9 => exact BindsTo.of_eq rfl); (case c5 => decide); (case kB => exact locs rfl); (case c2 => exact rfl); (case c3 => exact rfl); (case c4 => exact rfl))
  intro g' L' h' FG' F' N' B' X' T' hg hL
  (try dsimp only); (try k_lift B'); (try k_fold)

  have hg' : ∀ b o, b ≠ 47 → b ≠ 54 → s.heap.get? b = some o → g'.get? b = some o := fun b o h1 h2 e => hg b o e (by simp [h1, h2])
  have C1' : CodeHd g' 51 47 := C1.keeps FG'.keep
  have C2' : CodeHd g' 58 54 := C2.keeps FG'.keep
  have h112 : 112 < s.heap.objs.size := Heap.lt_size (F.keep _ _ (X 112 _ (by k_is)))
  have kpg : KpB2 s.heap g' := hg'
  have b1 := (tbi.tb F N hY).but2 kpg
  have b2 := (tbd.tb F N hY).but2 kpg
  have hnb : 1 ≤ Builtin.Int.intBits b := by
    unfold Builtin.Int.intBits
    rw [if_neg (by simp; omega)]; omega
  k_steps
  refine Stp.into ?_
  (rename Fr _ _ _ _ => F9); (rename News _ _ _ _ => N9)
  have hLl := F9.ns.lt
  refine' con_int (B := B') (F := F9) (X := X') (T := T') rfl (N := N9) (U := ?u) (C := C1') (Y := []) (tbx := .of_base b1) (fun _ h => absurd h List.not_mem_nil) hx hnb ?n1 ?n2 ?d1 ?d2 ?_
  case u => k_updF
  case n1 => omega
  case n2 => omega
  case d1 => show dp + 1 + 62 < _; omega
  case d2 => show un + 3 + 500 < _; omega
  intro l9 h9 tk9 p9 vs9 ep9 Y1 F9 N9 tb9 hY1 hi9 hsz9
  have hl9L : @LT.lt Nat _ L' l9 := Nat.lt_of_lt_of_le hLl hsz9
  have hY1lo : ∀ q ∈ Y1, @LE.le Nat _ (L' + 1) q.1 := fun q hq => Nat.le_trans hLl (hY1 q hq)
  have hlv9 := hi9.length
  have hdl9 := digs_length (Builtin.Int.intBits b) (ndig (Builtin.Int.intBits b) x) x
  simp only [List.cons_append, List.nil_append] at N9
  dsimp only
  k_steps
  (rename Fr _ _ _ _ => F9); (rename News _ _ _ _ => N9)
  obtain ⟨ql, hql⟩ := nameRef F9 (Str.ofString "q_digits") rfl
  subst hql
  obtain ⟨I9, hI9⟩ := nameHead N9
  subst hI9
  have hYq := allLt_mem (by assumption : @LT.lt Nat _ l9 ql ∧ @LT.lt Nat _ 47 ql ∧ @LT.lt Nat _ 54 ql ∧ AllLt ql Y1).2.2.2
  have hYI := allLt_mem (by assumption : @LT.lt Nat _ ql I9 ∧ @LT.lt Nat _ l9 I9 ∧ @LT.lt Nat _ 47 I9 ∧ @LT.lt Nat _ 54 I9 ∧ AllLt I9 Y1).2.2.2.2
  refine' iter_revUnr (ax := l9) (lo := lstO vs9 ep9) (vs := vs9) (n := ep9) rfl F9 N9 ?off ?mm rfl rfl ?rest
  case off => repeat' (first | exact offI_of (allNe_hi hYI (Nat.le_refl _)) | refine And.intro (.inl (neN (by omega))) ?_)
  case mm => k_mem
  have hB : (0 : Int) < 2 ^ Builtin.Int.intBits b := Int.pow_pos (by decide)
  have hbB : b < 2 ^ Builtin.Int.intBits b := by
    have h := intBits_le_iff.mp (Nat.le_refl (Builtin.Int.intBits b))
    have h' : ((b.natAbs : Nat) : Int) < ((2 ^ Builtin.Int.intBits b : Nat) : Int) := by exact_mod_cast h
    rw [Int.natAbs_of_nonneg (Int.le_of_lt hb)] at h'
    exact_mod_cast h'
  have hlog : b.natAbs.log2 < 9000 := by
    unfold Builtin.Int.intBits at hb1
    rw [if_neg (by simp; omega)] at hb1
    omega
  refine revRest_ind (Inv := fun r m news => ∃ rv rr t qs qv eq tq, IntsAre r rv ∧ mval (Builtin.Int.intBits b) (dval (Builtin.Int.intBits b) qs.reverse * b + rr) rv = x ∧ (∀ d ∈ rv, 0 ≤ d ∧ d < 2 ^ Builtin.Int.intBits b) ∧ 0 ≤ rr ∧ rr < b ∧
      (∀ q ∈ qs, 0 ≤ q ∧ q < 2 ^ Builtin.Int.intBits b) ∧ qs.length + rv.length ≤ 50 ∧ IntsAre qv qs ∧ m (Str.ofString "r") = some (.int rr t) ∧ m (Str.ofString "b") = some (.int b tb) ∧ m (Str.ofString "n") = some (.int (Builtin.Int.intBits b) tq) ∧ m (Str.ofString "q_digits") = some (.ref ql) ∧
      news = (ql, lstO qv eq) :: (l9, lstO vs9 ep9) :: (47, tabObj p9) :: (54, tabObj p54) :: Y1) ?done ?turn _ _ _ ?start
  case start =>
    refine ⟨_, _, _, _, _, _, _, intsAre_reverse hi9, ?_, ?_, Int.le_refl 0, hb, (fun q hq => absurd hq List.not_mem_nil), ?_, .nil, rfl, rfl, rfl, rfl, rfl⟩
    · show mval _ (0 * b + 0) _ = _
      rw [Int.zero_mul, Int.zero_add, mval_rev, dval_digs]
      exact Int.emod_eq_of_lt hx (ndig_fits hx hnb)
    · intro d hd
      exact digs_bounds _ _ _ d (List.mem_reverse.mp hd)
    · simp only [List.length_nil, List.length_reverse, hdl9]; omega
  case turn =>
    rintro v r m1 news1 ⟨rv, rr, t, qs, qv, eq, tq, i1, i2, i3, i4, i5, i6, i7, i8, m1r, m1b, m1n, m1q, rfl⟩ it h1 tk1 hic F1 N1
    rw [mp4 m1r m1b m1n m1q] at F1
    obtain ⟨d, td, rv', rfl, rfl, i1'⟩ : ∃ d td rv', rv = d :: rv' ∧ v = .int d td ∧ IntsAre r rv' := by
      cases i1 with | cons d td h => exact ⟨d, td, _, rfl, rfl, h⟩
    have hd := i3 d (.head _)
    have hs0 : 0 ≤ ((Builtin.Int.intBits b : Nat) : Int) := by omega
    have hs1 : ((Builtin.Int.intBits rr : Nat) : Int) + ((Builtin.Int.intBits b : Nat) : Int) ≤ 2 ^ 27 := by
      have := bits_of_lt i4 (Int.lt_trans i5 hbB)
      omega
    have hql2 := i8.length
    k_steps
    refine Stp.into ?_
    (rename Fr _ _ _ _ => F9); (rename News _ _ _ _ => N9)
    have e2 : (2 : Int) ^ ((Builtin.Int.intBits b : Nat) : Int).toNat = 2 ^ Builtin.Int.intBits b := by simp
    have hnum0 : 0 ≤ rr * 2 ^ ((Builtin.Int.intBits b : Nat) : Int).toNat + d := by
      rw [e2]; have := Int.mul_nonneg i4 (Int.le_of_lt hB); omega
    have hnum1 : rr * 2 ^ ((Builtin.Int.intBits b : Nat) : Int).toNat + d < b * 2 ^ Builtin.Int.intBits b := by
      rw [e2]
      have : (rr + 1) * 2 ^ Builtin.Int.intBits b ≤ b * 2 ^ Builtin.Int.intBits b := Int.mul_le_mul_of_nonneg_right (by omega) (Int.le_of_lt hB)
      rw [Int.add_mul, Int.one_mul] at this
      omega
    have hnum2 : Builtin.Int.intBits (rr * 2 ^ ((Builtin.Int.intBits b : Nat) : Int).toNat + d) ≤ 3000 := by
      have : rr * 2 ^ ((Builtin.Int.intBits b : Nat) : Int).toNat + d < 2 ^ (Builtin.Int.intBits b + Builtin.Int.intBits b) := by
        rw [Int.pow_add]
        exact Int.lt_of_lt_of_le hnum1 (Int.mul_le_mul_of_nonneg_right (Int.le_of_lt hbB) (Int.le_of_lt hB))
      have := bits_of_lt hnum0 this
      omega
    refine' con_div (B := B') (F := F9) (X := X') (T := T') rfl hnum2 hb hlog hs0 ?d1 ?_
    case d1 => show dp + 1 + 1 < _; omega
    intro t9 h9 tk9 k1 k2 kp9 hsz9 hget9
    obtain ⟨N9, l9a, l9b⟩ := news_add F9 N9 kp9 hsz9 hget9
    have F9 := kp9.fr F9
    k_lt l9a
    rw [Int.fdiv_eq_ediv_of_nonneg _ (Int.le_of_lt hb), Int.fmod_eq_emod_of_nonneg _ (Int.le_of_lt hb), e2] at N9
    rw [e2] at hnum0 hnum1
    have hq0 : 0 ≤ (rr * 2 ^ Builtin.Int.intBits b + d) / b := Int.ediv_nonneg hnum0 (Int.le_of_lt hb)
    have hq1 : (rr * 2 ^ Builtin.Int.intBits b + d) / b < 2 ^ Builtin.Int.intBits b := Int.ediv_lt_of_lt_mul hb (by have h := hnum1; rw [Int.mul_comm b] at h; exact h)
    have hr0 : 0 ≤ (rr * 2 ^ Builtin.Int.intBits b + d) % b := Int.emod_nonneg _ (Int.ne_of_gt hb)
    have hr1 : (rr * 2 ^ Builtin.Int.intBits b + d) % b < b := Int.emod_lt_of_pos _ hb
    have hdm := Int.mul_ediv_add_emod (rr * 2 ^ Builtin.Int.intBits b + d) b
    generalize (rr * 2 ^ Builtin.Int.intBits b + d) / b = qd at *
    generalize (rr * 2 ^ Builtin.Int.intBits b + d) % b = rd at *
    dsimp only
    k_steps
    refine Stp.into ?_
    (rename Fr _ _ _ _ => F9); (rename News _ _ _ _ => N9)
    have epush : qv.toArray.push (Value.int qd k1) = (qv ++ [Value.int qd k1]).toArray := by simp
    rw [epush] at N9
    refine UnrEnd.intro F9 N9 ((ql, lstO (qv ++ [Value.int qd k1]) (eq + 1)) :: (l9, lstO vs9 ep9) :: (47, tabObj p9) :: (54, tabObj p54) :: Y1) ?sub ?off ⟨?mem, rv', rd, _, qs ++ [qd], qv ++ [Value.int qd k1], eq + 1, tq, i1', ?_, ?_, hr0, hr1, ?_, ?_, IntsAre.append i8 (.cons _ _ .nil), rfl, rfl, rfl, rfl, rfl⟩
    case sub => repeat' (first | refine sub_cons (by k_mem) ?_ | (intro q hq; k_ownIn))
    case off => repeat' (first | refine off_cons (neN (by omega)) ?_ | exact allNe_hi hYI (Nat.le_refl _))
    case mem => k_mem
    · rw [← i2]
      show _ = mval _ ((dval (Builtin.Int.intBits b) qs.reverse * b + rr) * 2 ^ Builtin.Int.intBits b + d) rv'
      congr 1
      simp only [List.reverse_append, List.reverse_cons, List.reverse_nil, List.nil_append, List.cons_append, dval]
      generalize dval (Builtin.Int.intBits b) qs.reverse = D at *
      generalize (2 : Int) ^ Builtin.Int.intBits b = W at *
      have a1 : (qd + W * D) * b = b * qd + D * b * W := by
        rw [Int.add_mul, Int.mul_comm qd b, Int.mul_assoc, Int.mul_comm W, Int.mul_assoc]
      rw [a1, Int.add_mul]
      omega
    · exact fun d hd => i3 d (.tail _ hd)
    · intro q hq
      rcases List.mem_append.mp hq with hq | hq
      · exact i6 q hq
      · rw [List.mem_singleton.mp hq]; exact ⟨hq0, hq1⟩
    · simp only [List.length_append, List.length_cons, List.length_nil] at i7 ⊢; omega
  case done =>
    rintro m1 news1 ⟨rv, rr, t, qs, qv, eq, tq, i1, i2, i3, i4, i5, i6, i7, i8, m1r, m1b, m1n, m1q, rfl⟩ h1 tk1 F1 N1
    rw [mp4 m1r m1b m1n m1q] at F1
    obtain rfl : rv = [] := by cases i1; rfl
    have hql2 := i8.length
    dsimp only
    k_steps
    refine Stp.into ?_
    (refine' rev_M ?F ?N ?U ?z ?_; (case F => k_asm); (case N => k_asm); (case U => k_upd); (case z => omega))
    intro h8 F8 N8
    k_steps
    refine Stp.into ?_
    (rename Fr _ _ _ _ => F9); (rename News _ _ _ _ => N9)
    have hLl2 := F9.ns.lt
    have i9 := intsAre_reverse i8
    refine' con_dig (B := B') (F := F9) (X := X') (T := T') rfl (N := N9) (U := ?u) (C := C2') (Y := []) (tbx := .of_base b2) (fun _ h => absurd h List.not_mem_nil) (hl := News.isList N9 (.head _)) (hi := i9) (by omega) ?z1 ?z2 ?d1 ?d2 ?_
    case u => k_updF
    case z1 => simp only [List.length_reverse]; omega
    case z2 => exact fun q hq => i6 q (List.mem_reverse.mp hq)
    case d1 => show dp + 1 + 62 < _; omega
    case d2 => show un + 3 + 500 < _; omega
    intro t9 h9 tk9 p9' Y2 F9 N9 tb9' hY2
    simp only [List.cons_append, List.nil_append] at N9
    dsimp only
    k_steps
    (rename Fr g' _ _ _ => F9); (rename News g' _ _ _ => N9); (rename News h₀ _ _ _ => kN); (rename Fr h₀ _ _ _ => kF)
    have hval : dval (Builtin.Int.intBits b) qs.reverse * b + rr = x := i2
    have hxd : x / b = dval (Builtin.Int.intBits b) qs.reverse := by
      rw [← hval, Int.add_comm, Int.add_mul_ediv_right _ _ (Int.ne_of_gt hb), Int.ediv_eq_zero_of_lt i4 i5, Int.zero_add]
    have hxm : x % b = rr := by
      rw [← hval, Int.add_comm, Int.add_mul_emod_self_right, Int.emod_eq_of_lt i4 i5]
    have kp9 : KpB2 s.heap _ := fun b o h1 h2 e => F9.keep b o (hg' b o h1 h2 e)
    have N0 := newsU2 N U1 U2 kp9 (News.get N9 (by k_mem)) (News.get N9 (by k_mem))
    rw [← hxd, ← hxm] at kN
    refine hret _ _ _ _ _ (Y1 ++ Y2) _ _ kF (newsC (newsB N0 kN ?q1) kN (.head _)) (tb9.mono ?q2) (tb9'.mono ?q3) ?q4 ?q5
    case q1 =>
      intro q hq
      k_ownIn
    case q2 => exact fun q hq => List.mem_append_left _ hq
    case q3 => exact fun q hq => List.mem_append_right _ hq
    case q4 =>
      intro q hq
      rcases List.mem_append.mp hq with hq | hq
      · have := hY1lo q hq; omega
      · have := hY2 q hq
        exact Nat.le_trans (Nat.le_of_lt (hL ▸ hLl2)) this
    case q5 => omega
end Mine
end

section
open PySem PySem.W PyProof.Rows PySem.Calls PySem.Spec PySem.Builtin PySem.Builtin.Str
set_option maxRecDepth 100000
namespace Mine
/-- where a text is found between two places -/
noncomputable def fnd (x y : Str) (lo hi : Nat) : Option Nat := (occurrences x y lo hi 1).head?
noncomputable def fndI (x y : Str) (lo hi : Nat) : Int := match fnd x y lo hi with | some k => (k : Int) | none => -1
theorem fnd_spec (x y : Str) (lo hi : Nat) : fnd x y lo hi = (List.range' lo (hi + 1 - lo)).find? (fun i => decide (i + y.length ≤ hi) && subAt x y i) := by
  unfold fnd
  rw [StrLaws.occ_eq]
  rcases StrLaws.occ_first x y hi 1 (Nat.le_refl 1) (List.range' lo (hi + 1 - lo)) lo (fun i h => (List.mem_range'_1.mp h).1) with ⟨h0, hn⟩ | ⟨pre, a, post, e, h0, ha, hn⟩
  · rw [h0]
    symm
    rw [List.find?_eq_none.mpr]
    · rfl
    · intro i hi' hc
      simp only [Bool.and_eq_true, decide_eq_true_eq] at hc
      exact hn i hi' hc
  · generalize (forIn (List.range' lo (hi + 1 - lo)) ((#[] : Array Nat), lo) (StrLaws.occBody x y hi 1)).run.fst = arr at h0
    have h1 : arr.toList.head? = some a := by rw [List.head?_eq_getElem?]; simpa using h0
    rw [h1, e]
    symm
    rw [List.find?_append, List.find?_eq_none.mpr]
    · simp only [Option.none_or, List.find?_cons]
      have : (decide (a + y.length ≤ hi) && subAt x y a) = true := by simp [ha.1, ha.2]
      rw [this]
    · intro i hi' hc
      simp only [Bool.and_eq_true, decide_eq_true_eq] at hc
      exact hn i hi' hc
theorem fnd_le {x y : Str} {lo hi k : Nat} (h : fnd x y lo hi = some k) : k + y.length ≤ hi := by
  rw [fnd_spec] at h
  have := List.find?_some h
  simp only [Bool.and_eq_true, decide_eq_true_eq] at this
  exact this.1
theorem fndI_neg {x y : Str} {lo hi : Nat} (h : fndI x y lo hi < 0) : fnd x y lo hi = none := by
  unfold fndI at h
  cases hf : fnd x y lo hi with
  | none => rfl
  | some k => rw [hf] at h; simp only at h; omega
theorem fndI_pos {x y : Str} {lo hi : Nat} (h : ¬ fndI x y lo hi < 0) : ∃ k : Nat, fnd x y lo hi = some k ∧ fndI x y lo hi = (k : Int) := by
  unfold fndI at h ⊢
  cases hf : fnd x y lo hi with
  | none => rw [hf] at h; simp only at h; omega
  | some k => exact ⟨k, rfl, rfl⟩
theorem gives_find4 (x y : Str) (i j : Nat) (hj : j ≤ x.length) (t u v v' : Tok) : Gives (Builtin.«str.find» ⟨[.str x t, .str y u, .int i v, .int j v'], []⟩) (.int (fndI x y i j)) := by
  show Gives (match occurrences x y (max 0 (if (i : Int) < 0 then (i : Int) + x.length else i)).toNat (min (max 0 (if (j : Int) < 0 then (j : Int) + x.length else j)).toNat x.length) 1 with | k :: _ => retInt k | [] => (do rule "str.find.not-found"; retInt (-1))) _
  have e1 : (max 0 (if (i : Int) < 0 then (i : Int) + x.length else i)).toNat = i := by
    rw [if_neg (Int.not_lt.mpr (Int.natCast_nonneg i))]; exact max0 i
  have e2 : (max 0 (if (j : Int) < 0 then (j : Int) + x.length else j)).toNat = j := by
    rw [if_neg (Int.not_lt.mpr (Int.natCast_nonneg j))]; exact max0 j
  rw [e1, e2, Nat.min_eq_left hj]
  unfold fndI fnd
  cases occurrences x y i j 1 with
  | nil => exact .rule (.of_eq rfl)
  | cons k _ => exact .of_eq rfl
theorem find4 {prog : Program} {w : World} {A : Around} {E : Value → Shared → Prop} {s : Shared} {x y : Str} {t u v v' : Tok} {i j : Nat} {Q : Value → Shared → Prop} (hj : j ≤ x.length) (hq : Q (.int (fndI x y i j) s.toks) { s with toks := s.toks + 1 }) :
    wpAny (model prog w) A (call (.builtin "str.find") [.str x t, .str y u, .int i v, .int j v']) Q E s :=
  call_gives F.slot_str_find (typeIs_str _ _ _) F.entry_str_find (F.args_str_find_4 _ _ _ _) (gives_find4 x y i j hj t u v v') hq

theorem del_M {prog : Program} {w : World} {A : Around} {E : Value → Shared → Prop} {s : Shared} {h₀ : Heap} {L l : Addr} {m : Str → Option Value} {news : List (Addr × Obj)} {g : Obj → List (Addr × Obj)} {vs : List Value} {n k : Nat} {i : Int} {u : Tok} {Q : Unit → Shared → Prop}
    (F : Fr h₀ L s.heap m) (N : News h₀ L s.heap news) (U : UpdF l (W.listOf vs.toArray n) news g) (hi : -1000 ≤ i) (hi2 : i ≤ 1000) (hk : seqIndex? i vs.length = some k) (hl : vs.length ≤ 1000)
    (h : ∀ h' n', Fr h₀ L h' m → News h₀ L h' (g (W.listOf (vs.eraseIdx k).toArray n')) → Q () { s with heap := h' }) : wpAny (model prog w) A (delItem (.ref l) (.int i u)) Q E s := by
  obtain ⟨pre, post, rfl, hg, h1, h2⟩ := U.split
  have hm := N (l, W.listOf vs.toArray n) (List.mem_append_right _ (.head _))
  refine P.delItem_list (n := n) hm.1 (by simp [Builtin.List.listFitsIndex]; omega) (by simpa using hk) ?_ (by rw [List.size_toArray, sizeLine_eq]; omega)
  have e : ∃ n', (Obj.mapSeq fun xs => xs.eraseIdxIfInBounds k) (W.listOf vs.toArray n) = W.listOf (vs.eraseIdx k).toArray n' := by
    have e0 : vs.toArray.eraseIdxIfInBounds k = (vs.eraseIdx k).toArray := List.eraseIdxIfInBounds_toArray ..
    refine ⟨if (vs.toArray.eraseIdxIfInBounds k).size == vs.toArray.size then n else n + 1, ?_⟩
    rw [← e0]
    rfl
  obtain ⟨n', e⟩ := e
  obtain ⟨F', N'⟩ := news_upd (f := Obj.mapSeq fun xs => xs.eraseIdxIfInBounds k) F N h1 h2 e rfl
  exact h _ n' F' (by rw [hg]; exact N')
theorem last_M {prog : Program} {w : World} {A : Around} {E : Value → Shared → Prop} {s : Shared} {h₀ : Heap} {L l : Addr} {news : List (Addr × Obj)} {vs : List Value} {v : Value} {n : Nat} {u : Tok} {value slice : PySem.Expr} {Q : Value → Shared → Prop}
    (N : News h₀ L s.heap news) (hm : (l, W.listOf (vs ++ [v]).toArray n) ∈ news) (h : Q v s)
    (hs : subscripted slice false (.ref l) (.int (-1) u) = operate [.ref l, .int (-1) u] (getItem (.ref l) (.int (-1) u)) := by with_unfolding_all rfl) :
    wpAny (model prog w) A (subscriptTail value slice (.ref l) (.int (-1) u)) Q E s := by
  have hl : s.heap.IsList l (vs ++ [v]).toArray := ⟨_, N.get hm, rfl, _, rfl⟩
  refine tail_any hl.typeIs slot_list_getitem.lookup (wpAny_getItem_list_neg hl (by decide) ?_ (by decide) ?_ h) hs
  · simp; omega
  · have : ((-1 : Int) + ((vs ++ [v]).toArray.size : Nat)).toNat = vs.length := by rw [List.size_toArray, List.length_append]; exact neg1 vs.length
    rw [this]
    simp
end Mine
end

section
theorem Mine.woff_CEll {M : PySem.Model} {A : PySem.Around} {E Q : PySem.Value → PySem.Shared → Prop} {s : PySem.Shared} (h : PySem.wpAny M A (PySem.call (.builtin "no") []) Q E s) : PySem.wpAny M A (PySem.call (.builtin "no") []) Q E s := by
  w_top off
  first | (walk1; fail) | exact h
open PySem PySem.W PyProof.Rows PySem.Calls PySem.Spec
set_option maxRecDepth 100000
namespace Mine
theorem filled8 (w : World) : (hd.heap_39 w.params).In ({} : Heap) → PySem.Challenge.rw_pe0153_01.foot = 4 := by
  k_fill
  intro _; rfl

open PySem.Builtin.Str
/-- the pieces are found one behind the other -/
noncomputable def findAll (got : Str) : List Str → Nat → Nat → Bool
  | [], _, _ => true
  | w :: r, s, e => match fnd got w s e with
    | none => false
    | some k => findAll got r (k + w.length) e
noncomputable def eB' : List Stmt := (fnBody (topStmt 10)).drop 6
noncomputable abbrev eB : {b : List Stmt // eB' = b} := by
  refine' ⟨_, ?h⟩
  case h => conv => lhs; whnf
noncomputable def eS' : Scope := fnScope (topStmt 10)
noncomputable abbrev eS : {b : Scope // eS' = b} := by
  refine' ⟨_, ?h⟩
  case h => conv => lhs; whnf
local macro_rules | `(tactic| walk_at "truthy str") => `(tactic| (k_dflt (refine P.truthy_str (by omega) ?_); (try simp only [ne_eq, Int.natCast_eq_zero, bne_iff_ne])))
local macro_rules | `(tactic| walk_at "subscriptTail Name UnaryOp") => `(tactic| (k_dflt (refine' last_M ?N ?m ?_; (case N => k_asm); (case m => k_mem))))
local macro_rules | `(tactic| walk_at "delItem") => `(tactic| (refine Stp.out ?_))
local macro_rules | `(tactic| walk_at "exec For Name Name cons nil") => `(tactic| (refine Stp.out ?_))
local macro_rules | `(tactic| walk_at "call builtin:str.find") => `(tactic| (k_dflt (refine find4 (by assumption) ?_)))
local macro_rules | `(tactic| walk_at "UnrEnd") => `(tactic| (refine Stp.out ?_))
local macro_rules | `(tactic| walk_at "pyIter ref") => `(tactic| (refine Stp.out ?_))
set_option maxHeartbeats 4000000 in
theorem ell_rest {w : World} {p : Program} {loose : List Str} {mean : ExcName → Option Value} {mg mb : Str → Option Value}
    {dp un : Nat} {gd : Option (List Code)} {outer : List Env} {g' : Heap} {L' : Addr} {m : Str → Option Value} {s : Shared}
    {got wl : Str} {lv : List (Str × Tok)} {kl tg t1 t2 : Tok} {wa : Addr} {n sp : Nat} {Qf : Flow → Shared → Prop}
    (F : Fr g' L' s.heap m) (N : News g' L' s.heap [(wa, W.listOf (strValues (lv ++ [(wl, kl)])).toArray n)]) (X : (hd.heap_39 w.params).In g') (T : Top p loose mean mg mb g')
    (h1 : m (Str.ofString "ws") = some (.ref wa)) (h2 : m (Str.ofString "startpos") = some (.int sp t1)) (h3 : m (Str.ofString "endpos") = some (.int got.length t2)) (h4 : m (Str.ofString "got") = some (.str got tg))
    (hg0 : got.length ≤ 100) (hwl0 : wl.length ≠ 0) (hwl1 : wl.length ≤ 100) (hlv : lv.length ≤ 100) (hlw : ∀ q ∈ lv, q.1.length ≤ 100) (hsp : sp ≤ 100)
    (hret : ∀ h' tk' m', Fr g' L' h' m' → Qf (.ret (.bool (Txt.endswith got wl && decide (sp + wl.length ≤ got.length) && findAll got (lv.map (·.1)) sp (got.length - wl.length)))) { s with heap := h', toks := tk' }) :
    wpAny (model PySem.Challenge.rw_pe0153_01.prog w) (ktrTop dp un gd (Str.ofString "_ellipsis_match") eS.1 L' 73 (.ref 72) [] outer) (execs eB.1 (envOf (Str.ofString "_ellipsis_match") eS.1 L' 73 (.ref 72))) Qf (fun _ _ => False) s := by
  rw [mp4 h1 h2 h3 h4] at F
  have ev : strValues (lv ++ [(wl, kl)]) = strValues lv ++ [Value.str wl kl] := by simp [strValues]
  rw [ev] at N
  have hlen : (strValues lv).length = lv.length := by simp [strValues]
  k_steps
  · refine Stp.into ?_
    rename Txt.endswith _ _ = true => hew
    have hle : wl.length ≤ got.length := by
      simp only [Txt.endswith, Bool.and_eq_true, decide_eq_true_eq] at hew
      omega
    (rename Fr _ _ _ _ => F9); (rename News _ _ _ _ => N9)
    refine' del_M (k := lv.length) F9 N9 ?u (by decide) (by decide) ?k ?l ?_
    case u => k_updF
    case k => rw [seqIndex_neg (by decide) (by simp [hlen]; omega)]; simp [hlen]; omega
    case l => simp [hlen]; omega
    intro h9 n9 F9 N9
    have ee : (strValues lv ++ [Value.str wl kl]).eraseIdx lv.length = strValues lv := by
      rw [← hlen, List.eraseIdx_append_of_length_le (Nat.le_refl _)]; simp
    rw [ee] at N9
    dsimp only
    k_steps
    · rename _ < _ => hlt
      have e1 : decide (sp + wl.length ≤ got.length) = false := by simp; omega
      simp only [hew, e1, Bool.and_false, Bool.false_and] at hret
      exact hret _ _ _ (by assumption)
    · refine Stp.into ?_
      (rename Fr _ _ _ _ => lF')
      (with_unfolding_all refine' For_invVF lF' ?k1 ?k2 ?_; (case k1 => exact rfl); (case k2 => exact rfl))
      k_steps
      refine Stp.into ?_
      rename ¬ _ => hge
      (rename Fr _ _ _ _ => F9); (rename News _ _ _ _ => N9)
      have e1 : decide (sp + wl.length ≤ got.length) = true := by simp; omega
      have e2 : ((got.length : Nat) : Int) - ((wl.length : Nat) : Int) = ((got.length - wl.length : Nat) : Int) := by omega
      rw [e2] at F9
      simp only [hew, e1, Bool.and_true, Bool.true_and] at hret
      have hep : got.length - wl.length ≤ got.length := Nat.sub_le _ _
      have hspe : sp ≤ got.length - wl.length := by omega
      generalize got.length - wl.length = ep at *
      refine' iter_listUnr (ax := wa) (lo := W.listOf (strValues lv).toArray n9) (vs := strValues lv) (n := n9) rfl F9 N9 (.head _) rfl rfl fun I hI => ?_
      have hwI : @LT.lt Nat _ wa I := hI _ (.head _)
      refine listRest_ind (Inv := fun r m news => ∃ pr sp' t1' t2' tg', r = strValues pr ∧ m (Str.ofString "startpos") = some (.int ((sp' : Nat) : Int) t1') ∧ m (Str.ofString "endpos") = some (.int ((ep : Nat) : Int) t2') ∧ m (Str.ofString "got") = some (.str got tg') ∧ (∀ q ∈ pr, q.1.length ≤ 100) ∧ sp' ≤ ep ∧
        news = [(wa, W.listOf (strValues lv).toArray n9)] ∧ findAll got (pr.map (·.1)) sp' ep = findAll got (lv.map (·.1)) sp ep) ?done ?turn _ _ _ ?start
      case start => exact ⟨lv, sp, _, _, _, rfl, rfl, rfl, rfl, hlw, hspe, rfl, rfl⟩
      case done =>
        rintro m1 news1 ⟨pr, sp', t1', t2', tg', i1, m1s, m1e, m1g, i2, i3, rfl, i4⟩ h1 tk1 F1 N1
        obtain rfl : pr = [] := by cases pr; rfl; cases i1
        rw [← i4] at hret
        k_steps
        exact hret _ _ _ (by assumption)
      case turn =>
        rintro v r m1 news1 ⟨pr, sp', t1', t2', tg', i1, m1s, m1e, m1g, i2, i3, rfl, i4⟩ it h1 tk1 hic F1 N1
        obtain ⟨⟨pw, kw⟩, pr', rfl, rfl, rfl⟩ : ∃ q pr', pr = q :: pr' ∧ v = .str q.1 q.2 ∧ r = strValues pr' := by
          cases pr with
          | nil => cases i1
          | cons q pr' => cases i1; exact ⟨q, pr', rfl, rfl, rfl⟩
        have hpw := i2 _ (.head _)
        rw [mp3 m1s m1e m1g] at F1
        k_steps
        · rename _ < _ => hlt
          have hf := fndI_neg hlt
          have e3 : findAll got (List.map (·.1) ((pw, kw) :: pr')) sp' ep = false := by simp only [List.map_cons, findAll, hf]
          rw [← i4, e3] at hret
          exact hret _ _ _ (by assumption)
        · refine Stp.into ?_
          rename ¬ _ => hge2
          obtain ⟨k, hf, hk⟩ := fndI_pos hge2
          have hle2 := fnd_le hf
          (rename Fr _ _ _ _ => F9); (rename News _ _ _ _ => N9)
          rw [hk] at F9
          have e4 : ((k : Nat) : Int) + ((pw.length : Nat) : Int) = ((k + pw.length : Nat) : Int) := by omega
          rw [e4] at F9
          refine UnrEnd.intro F9 N9 [(wa, W.listOf (strValues lv).toArray n9)] ?sub ?off ⟨.head _, pr', k + pw.length, _, _, _, rfl, rfl, rfl, rfl, fun q hq => i2 q (.tail _ hq), hle2, rfl, ?_⟩
          case sub => repeat' (first | refine sub_cons (by k_mem) ?_ | exact fun _ h => absurd h List.not_mem_nil)
          case off => exact off_cons (neN (by omega)) (fun _ h => absurd h List.not_mem_nil)
          rw [← i4]
          simp only [List.map_cons, findAll, hf]
  · rename Txt.endswith _ _ = false => hew
    simp only [hew, Bool.false_and] at hret
    exact hret _ _ _ (by assumption)

/-- what _ellipsis_match answers, by the pattern's parts -/
noncomputable def ellP (w0 : Str) (mid : List Str) (wl got : Str) : Bool :=
  (w0.length == 0 || Txt.startswith got w0) && (Txt.endswith got wl && decide (w0.length + wl.length ≤ got.length) && findAll got (if w0.length == 0 then w0 :: mid else mid) w0.length (got.length - wl.length))
theorem strValues_split {l : List (Str × Tok)} {w0 wl : Str} {mid : List Str} (h : l.map (·.1) = w0 :: (mid ++ [wl])) :
    ∃ k0 ml kl, l = (w0, k0) :: (ml ++ [(wl, kl)]) ∧ ml.map (·.1) = mid := by
  cases l with
  | nil => cases h
  | cons p r =>
    obtain ⟨x, k0⟩ := p
    simp only [List.map_cons, List.cons.injEq] at h
    obtain ⟨rfl, h2⟩ := h
    obtain ⟨ml, ll, rfl, h3, h4⟩ := List.map_eq_append_iff.mp h2
    obtain ⟨q, rfl⟩ : ∃ q, ll = [q] := by
      cases ll with
      | nil => cases h4
      | cons q r => cases r with
        | nil => exact ⟨q, rfl⟩
        | cons _ _ => simp at h4
    obtain ⟨y, kl⟩ := q
    simp only [List.map_cons, List.map_nil, List.cons.injEq, and_true] at h4
    subst h4
    exact ⟨k0, ml, kl, rfl, h3⟩
local macro_rules | `(tactic| walk_at "truthy str") => `(tactic| (refine Stp.out ?_))
local macro_rules | `(tactic| walk_at "execs cons") => `(tactic| ((with_reducible show wpAny _ _ (execs eB.1 _) _ _ _); refine Stp.out ?_))
set_option maxHeartbeats 4000000 in
theorem con_ell {w : World} {p : Program} {loose : List Str} {mean : ExcName → Option Value} {mg mb : Str → Option Value}
    {dp un : Nat} {gd : Option (List Code)} {cn : Str} {cs : Scope} {a : Addr} {ccd : Value} {cl : List (Str × Addr)} {outer : List Env} {A₀ : Around} {base h₀ : Heap} {L : Addr} {m : Str → Option Value} {s : Shared} {Q E : Value → Shared → Prop}
    {want got w0 wl : Str} {mid : List Str} {tx tb : Tok}
    (B : Below A₀ base outer h₀) (F : Fr h₀ L s.heap m) (X : (hd.heap_39 w.params).In h₀) (T : Top p loose mean mg mb h₀) (hk : cs.kind = .function)
    (hw : want.length ≤ 100) (hg0 : got.length ≤ 100) (hin : (occurrences want (Str.ofString "...") 0 want.length 1).isEmpty = false) (hsp : Txt.split want (Str.ofString "...") = w0 :: (mid ++ [wl])) (hwl : wl.length ≠ 0) (hmid : mid.length ≤ 90)
    (hdp : dp + 1 < recursionLimit) (hu : un + 8 < cLine)
    (hret : ∀ h' tk', Kp s.heap h' → Q (.bool (ellP w0 mid wl got)) { s with heap := h', toks := tk' }) :
    wpAny (model PySem.Challenge.rw_pe0153_01.prog w) (ktrTop dp un gd cn cs L a ccd cl outer) (call (.ref 73) [.str want tx, .str got tb]) Q E s := by
  refine wpAny_call ?_
  (refine' callM (K := hd.heap_39 w.params) (news := []) (T := T) ?k1 ?k2 ?k3 ?k4 ?kA ?kF ?kK ?k6 ?k7 ?k8 ?k9 ?kB ?_ ?c2 ?c3 ?c4 ?c5; (case kA => exact rfl); (case kF => exact rfl); (case kK => assumption); (case k1 => k_asm); (case k2 => k_asm); (case k3 => k_asm); (case k4 => exact News.nil);  (case k6 => k_is); (case k7 => k_is); (case k8 => ktr_room); (case k9 => exact BindsTo.of_eq rfl); (case c5 => decide); (case kB => exact locs rfl); (case c2 => exact rfl); (case c3 => exact rfl); (case c4 => exact rfl))
  intro g' L' h' FG' F' N' B' X' T' hg hL
  (try dsimp only); (try k_lift B'); (try k_fold)

  k_steps
  · refine Stp.into ?_
    rename List.map _ _ = Txt.split _ _ => hlk
    rename GetElem?.getElem? _ _ = some _ => hy
    rename (∀ a : Str, a ∈ _ → a.length ≤ _) => hle
    rw [hsp] at hlk
    obtain ⟨k0, ml, kl, rfl, hml⟩ := strValues_split hlk
    simp only [List.map_cons, Int.toNat_zero, List.getElem?_cons_zero, Option.some.injEq] at hy
    subst hy
    have hw0 : w0.length ≤ 100 := Nat.le_trans (hle w0 (.head _)) hw
    have hwl1 : wl.length ≤ 100 := Nat.le_trans (hle wl (by simp)) hw
    have hmle : ∀ q ∈ ml, q.1.length ≤ 100 := fun q hq => Nat.le_trans (hle q.1 (by simp only [List.map_cons, List.map_append]; exact List.mem_cons_of_mem _ (List.mem_append_left _ (List.mem_map_of_mem hq)))) hw
    have hml2 := congrArg List.length hml
    rw [List.length_map] at hml2
    by_cases h0 : w0.length = 0
    · have e0 : ((w0.length : Int) != 0) = false := by simp [h0]
      refine P.truthy_str (by omega) ?_
      rw [e0]
      k_steps
      refine Stp.into ?_
      (rename Fr _ _ _ _ => F9); (rename News _ _ _ _ => N9)
      refine wpAny_noRaise ?_
      refine' ell_rest (lv := (w0, k0) :: ml) (sp := 0) ?F1 ?N1 X' T' ?c1 ?c2 ?c3 ?c4 hg0 hwl hwl1 ?a ?b (by omega) ?_
      case F1 => exact F9
      case c1 => exact rfl
      case c2 => exact rfl
      case c3 => exact rfl
      case c4 => exact rfl
      case N1 => exact fun p hp => N9 p (by simp only [List.mem_singleton] at hp; subst hp; k_mem)
      case a => simp only [List.length_cons]; omega
      case b => intro q hq; rcases List.mem_cons.mp hq with rfl | hq; exact hw0; exact hmle q hq
      intro h9 tk9 m9 F10
      have N10 : News g' L' h9 [] := News.nil
      have er : ellP w0 mid wl got = (Txt.endswith got wl && decide (0 + wl.length ≤ got.length) && findAll got (((w0, k0) :: ml).map (·.1)) 0 (got.length - wl.length)) := by
        unfold ellP
        rw [h0]
        simp only [beq_self_eq_true, Bool.true_or, Bool.true_and, if_true, List.map_cons, hml]
      rw [← er]
      k_steps
      exact hret _ _ (fun b o e => Fr.keep (h₀ := g') (L := L') (by assumption) b o (hg b o e (by simp)))
    · have e0 : ((w0.length : Int) != 0) = true := by simp [h0]
      refine P.truthy_str (by omega) ?_
      rw [e0]
      k_steps
      · refine Stp.into ?_
        rename Txt.startswith _ _ = true => hsw
        (rename Fr _ _ _ _ => F9); (rename News _ _ _ _ => N9)
        refine' del_M (k := 0) F9 N9 ?u (by decide) (by decide) ?k ?l ?_
        case u => k_updF
        case k => simp [strValues, seqIndex?]; omega
        case l => simp [strValues]; omega
        intro h9 n9 F9 N9
        have ee : (strValues ((w0, k0) :: (ml ++ [(wl, kl)]))).eraseIdx 0 = strValues (ml ++ [(wl, kl)]) := rfl
        rw [ee] at N9
        dsimp only
        k_steps
        refine Stp.into ?_
        (rename Fr _ _ _ _ => F9); (rename News _ _ _ _ => N9)
        refine wpAny_noRaise ?_
        refine' ell_rest (lv := ml) (sp := w0.length) ?F1 ?N1 X' T' ?c1 ?c2 ?c3 ?c4 hg0 hwl hwl1 ?a ?b hw0 ?_
        case F1 => exact F9
        case c1 => exact rfl
        case c2 => exact rfl
        case c3 => exact rfl
        case c4 => exact rfl
        case N1 => exact fun p hp => N9 p (by simp only [List.mem_singleton] at hp; subst hp; k_mem)
        case a => omega
        case b => exact hmle
        intro h9 tk9 m9 F10
        have N10 : News g' L' h9 [] := News.nil
        have er : ellP w0 mid wl got = (Txt.endswith got wl && decide (w0.length + wl.length ≤ got.length) && findAll got (ml.map (·.1)) w0.length (got.length - wl.length)) := by
          unfold ellP
          rw [hsw, show (w0.length == 0) = false from by simp [h0]]
          simp only [Bool.or_true, Bool.true_and, Bool.false_eq_true, if_false, hml]
        rw [← er]
        k_steps
        exact hret _ _ (fun b o e => Fr.keep (h₀ := g') (L := L') (by assumption) b o (hg b o e (by simp)))
      · rename Txt.startswith _ _ = false => hsw
        have er : ellP w0 mid wl got = false := by
          unfold ellP
          rw [hsw, show (w0.length == 0) = false from by simp [h0]]
          rfl
        rw [er] at hret
        exact hret _ _ (fun b o e => Fr.keep (h₀ := g') (L := L') (by assumption) b o (hg b o e (by simp)))
  · rename List.map _ _ = Txt.split _ _ => hlk
    rename ¬ _ => h9
    rw [hsp] at hlk
    have := congrArg List.length hlk
    simp only [List.length_map, List.length_cons, List.length_append] at this
    omega
end Mine
end

section
theorem Mine.woff_CRow {M : PySem.Model} {A : PySem.Around} {E Q : PySem.Value → PySem.Shared → Prop} {s : PySem.Shared} (h : PySem.wpAny M A (PySem.call (.builtin "no") []) Q E s) : PySem.wpAny M A (PySem.call (.builtin "no") []) Q E s := by
  w_top off
  first | (walk1; fail) | exact h
open PySem PySem.W PyProof.Rows PySem.Calls PySem.Spec
set_option maxRecDepth 100000
namespace Mine
theorem filled9 (w : World) : (hd.heap_39 w.params).In ({} : Heap) → PySem.Challenge.rw_pe0153_01.foot = 4 := by
  k_fill
  intro _; rfl

noncomputable def rowS (k : Int) : Str := if k = 0 then Str.ofString "a\r\n" else Str.ofString "b\r\n"
noncomputable def rowsS (ns : List Int) : Str := Txt.join (Str.ofString "") (ns.map rowS)
theorem rowS_len (k : Int) : (rowS k).length = 3 := by unfold rowS; split <;> rfl
section
local macro_rules | `(tactic| walk_at "eval ListComp") => `(tactic| (refine Stp.out ?_))
local macro_rules | `(tactic| walk_at "CompSrc") => `(tactic| (refine Stp.out ?_))
local macro_rules | `(tactic| walk_at "call builtin:str.join") => `(tactic| (refine Stp.out ?_))
set_option maxHeartbeats 4000000 in
theorem con_rows {w : World} {p : Program} {loose : List Str} {mean : ExcName → Option Value} {mg mb : Str → Option Value}
    {dp un : Nat} {gd : Option (List Code)} {cn : Str} {cs : Scope} {a : Addr} {ccd : Value} {cl : List (Str × Addr)} {outer : List Env} {A₀ : Around} {base h₀ : Heap} {L : Addr} {m : Str → Option Value} {s : Shared} {Q E : Value → Shared → Prop}
    {l : Addr} {vs : List Value} {ns : List Int}
    (B : Below A₀ base outer h₀) (F : Fr h₀ L s.heap m) (X : (hd.heap_39 w.params).In h₀) (T : Top p loose mean mg mb h₀) (hk : cs.kind = .function)
    (hl : s.heap.IsList l vs.toArray) (hi : IntsAre vs ns) (hb : ∀ x ∈ ns, x = 0 ∨ x = 1) (hlen : ns.length ≤ 20)
    (hdp : dp + 1 < recursionLimit) (hu : un + 16 < cLine) (hret : ∀ h' tk' t, Kp s.heap h' → Q (.str (rowsS ns) t) { s with heap := h', toks := tk' }) :
    wpAny (model PySem.Challenge.rw_pe0153_01.prog w) (ktrTop dp un gd cn cs L a ccd cl outer) (call (.ref 95) [.ref l]) Q E s := by
  refine wpAny_call ?_
  (refine' callM (K := hd.heap_39 w.params) (news := []) (T := T) ?k1 ?k2 ?k3 ?k4 ?kA ?kF ?kK ?k6 ?k7 ?k8 ?k9 ?kB ?_ ?c2 ?c3 ?c4 ?c5; (case kA => exact rfl); (case kF => exact rfl); (case kK => assumption); (case k1 => k_asm); (case k2 => k_asm); (case k3 => k_asm); (case k4 => exact News.nil);  (case k6 => k_is); (case k7 => k_is); (case k8 => ktr_room); (case k9 => exact BindsTo.of_eq rfl); (case c5 => decide); (case kB => exact locs rfl); (case c2 => exact rfl); (case c3 => exact rfl); (case c4 => exact rfl))
  intro g' L' h' FG' F' N' B' X' T' hg hL
  (try dsimp only); (try k_lift B'); (try k_fold)

  have hg' : Kp s.heap g' := fun b o e => hg b o e (by simp)
  have hl2 : g'.IsList l vs.toArray := hl.at fun o e => hg' _ _ e
  have hlv := hi.length
  have hsz : vs.toArray.size ≤ sizeLine := by rw [PySem.sizeLine_eq, List.size_toArray]; omega
  k_steps
  refine Stp.into ?_
  refine LCg.ListComp_U (F₀ := by k_asm) (by with_unfolding_all rfl) (by decide) (by rfl) (by decide) (by rfl) ?_
  k_steps
  refine Stp.into ?_
  refine LCg.CompSrc.base (by rfl) (by k_asm) (by k_asm) (by assumption) (by assumption) ?_
  intro g9
  (refine' kct_list rowS (by assumption) (fun k9 t9 I9 oI9 C9 oC9 D9 m9 ys9 h9 tk9 E9 hk9 hC9 hx9 F9 N9 off9 ne9 hMark9 => ?_) ?_)
  (all_goals (try (simp only [LCg.Off3, and_true] at off9)))
  kcf_last
  (rename (∀ x ∈ _, x = (0:Int) ∨ x = 1) => hb9)
  (rcases hb9 _ hk9 with hq9 | hq9 <;> subst hq9) <;> (try k_fold)
  all_goals k_steps
  · exact kct_el (by decide) rfl rfl
  · exact kct_el (by decide) rfl rfl
  refine Stp.into ?_
  (with_reducible rename CarriedAll _ (List.map _ _) => ktC)
  refine KT.join_B 10 (by first | assumption | is_list | exact News.isList (by k_asm) (by k_mem)) ktC (fun a _ => by rw [rowS_len]; decide) (by first | omega | kt_fact) (by decide) ?_
  intro _ _
  k_steps
  · exact hret _ _ _ (fun b o e => Fr.keep (h₀ := g') (L := L') (by assumption) b o (hg b o e (by simp)))
end
end Mine
end

section
theorem Mine.woff_CLead {M : PySem.Model} {A : PySem.Around} {E Q : PySem.Value → PySem.Shared → Prop} {s : PySem.Shared} (h : PySem.wpAny M A (PySem.call (.builtin "no") []) Q E s) : PySem.wpAny M A (PySem.call (.builtin "no") []) Q E s := by
  w_top off
  first | (walk1; fail) | exact h
open PySem PySem.W PyProof.Rows PySem.Calls PySem.Spec
set_option maxRecDepth 100000
namespace Mine
theorem filled10 (w : World) : (hd.heap_39 w.params).In ({} : Heap) → PySem.Challenge.rw_pe0153_01.foot = 4 := by
  k_fill
  intro _; rfl

local macro_rules | `(tactic| walk_at "exec For Name Call cons nil") => `(tactic| (refine Stp.out ?_))
local macro_rules | `(tactic| walk_at "pyIter ref") => `(tactic| (refine Stp.out ?_))
local macro_rules | `(tactic| walk_at "call ref") => `(tactic| (refine Stp.out ?_))
local macro_rules | `(tactic| walk_at "UnrEnd") => `(tactic| (refine Stp.out ?_))

theorem app_nil (a : Str) : a ++ Str.ofString "" = a := by
  show (⟨a.cps ++ #[]⟩ : Str) = a
  rw [Array.append_empty]
theorem join_cons (a : Str) : ∀ r, Str.join (Str.ofString "") (a :: r) = a ++ Str.join (Str.ofString "") r
  | [] => (app_nil a).symm
  | b :: r => by show a ++ Str.ofString "" ++ Str.join (Str.ofString "") (b :: r) = _; rw [app_nil]
theorem rowsS_cons (x : Int) (r : List Int) : rowsS (x :: r) = rowS x ++ rowsS r := by
  show Builtin.Str.glued _ _ = rowS x ++ Builtin.Str.glued _ _
  rw [StrLaws.glued_eq_join, StrLaws.glued_eq_join]; exact join_cons _ _
theorem rowsS_len : ∀ ns, (rowsS ns).length = 3 * ns.length
  | [] => rfl
  | x :: r => by rw [rowsS_cons, PySem.Str.length_append, rowS_len, rowsS_len r, List.length_cons]; omega
/-- the overlaps of a word with itself -/
noncomputable def leadBits (ns : List Int) : List Int := (List.range ns.length).map fun i => if ellP (Str.ofString "") [] (rowsS (ns.take (i + 1))) (rowsS ns) then 1 else 0
theorem leadBits_succ {ns : List Int} {i : Nat} (h : i < ns.length) : (leadBits ns).take (i + 1) = (leadBits ns).take i ++ [if ellP (Str.ofString "") [] (rowsS (ns.take (i + 1))) (rowsS ns) then 1 else 0] := by
  rw [List.take_add_one]
  simp [leadBits, h]
set_option maxHeartbeats 4000000 in
theorem con_lead {w : World} {p : Program} {loose : List Str} {mean : ExcName → Option Value} {mg mb : Str → Option Value}
    {dp un : Nat} {gd : Option (List Code)} {cn : Str} {cs : Scope} {a : Addr} {ccd : Value} {cl : List (Str × Addr)} {outer : List Env} {A₀ : Around} {base h₀ : Heap} {L : Addr} {m : Str → Option Value} {s : Shared} {Q E : Value → Shared → Prop}
    {news : List (Addr × Obj)} {g : Obj → List (Addr × Obj)} {p54 : Array Value} {Y : List (Addr × Obj)} {l : Addr} {vs : List Value} {ns : List Int} {n : Nat} {tn : Tok}
    (B : Below A₀ base outer h₀) (F : Fr h₀ L s.heap m) (X : (hd.heap_39 w.params).In h₀) (T : Top p loose mean mg mb h₀) (hk : cs.kind = .function) (N : News h₀ L s.heap news) (U : UpdF 54 (tabObj p54) news g) (C : CodeHd h₀ 58 54) (tbx : TbX dPos dQual p54 h₀ Y) (hY : ∀ q ∈ Y, q ∈ news)
    (hl : s.heap.IsList l vs.toArray) (hi : IntsAre vs ns) (hb : ∀ x ∈ ns, x = 0 ∨ x = 1) (hn : n ≤ 1000) (hn1 : 1 ≤ n) (hlen9 : Stp (ns.length ≤ 6))
    (hdp : dp + 63 < recursionLimit) (hu : un + 560 < cLine)
    (hsp : ∀ k, k < ns.length → (Builtin.Str.occurrences (Str.ofString "..." ++ rowsS (ns.take (k + 1))) (Str.ofString "...") 0 (Str.ofString "..." ++ rowsS (ns.take (k + 1))).length 1).isEmpty = false ∧ Txt.split (Str.ofString "..." ++ rowsS (ns.take (k + 1))) (Str.ofString "...") = [Str.ofString "", rowsS (ns.take (k + 1))])
    (hret : ∀ t h' tk' p' Y', Fr h₀ L h' m → News h₀ L h' (g (tabObj p') ++ Y') → TbT dPos dQual p54 p' Y' → (∀ q ∈ Y', @LE.le Nat _ s.heap.objs.size q.1) → Q (.int (dval n (leadBits ns)) t) { s with heap := h', toks := tk' }) :
    wpAny (model PySem.Challenge.rw_pe0153_01.prog w) (ktrTop dp un gd cn cs L a ccd cl outer) (call (.ref 102) [.ref l, .int n tn]) Q E s := by
  refine wpAny_call ?_
  (refine' callM (K := hd.heap_39 w.params) (news := [(54, tabObj p54)]) (T := T) ?k1 ?k2 ?k3 ?k4 ?kA ?kF ?kK ?k6 ?k7 ?k8 ?k9 ?kB ?_ ?c2 ?c3 ?c4 ?c5; (case kA => exact rfl); (case kF => exact rfl); (case kK => assumption); (case k1 => k_asm); (case k2 => k_asm); (case k3 => k_asm); (case k4 => exact news1 N U);  (case k6 => k_is); (case k7 => k_is); (case k8 => ktr_room); (case k9 => exact BindsTo.of_eq rfl); (case c5 => decide); (case kB => exact locs rfl); (case c2 => exact rfl); (case c3 => exact rfl); (case c4 => exact rfl))
  intro g' L' h' FG' F' N' B' X' T' hg hL
  (try dsimp only); (try k_lift B'); (try k_fold)

  have hne : l ≠ 54 := fun q => by
    obtain ⟨o, e, hc, _⟩ := hl
    rw [q, (N _ (memU U)).1] at e; cases e; cases hc
  have hg' : ∀ b o, b ≠ 54 → s.heap.get? b = some o → g'.get? b = some o := fun b o hb e => hg b o e (by simpa using hb)
  have hl2 : g'.IsList l vs.toArray := hl.at fun o e => hg' _ _ hne e
  have C2 : CodeHd g' 58 54 := C.keeps FG'.keep
  have hlv := hi.length
  have hlw : ns.length ≤ 1000 := Nat.le_trans (show ns.length ≤ 6 from hlen9) (by decide)
  k_steps
  refine Stp.into ?_
  (rename Fr _ _ _ _ => lF')
  (with_unfolding_all refine' For_invVF lF' ?k1 ?k2 ?_; (case k1 => exact rfl); (case k2 => exact rfl))
  k_steps
  refine Stp.into ?_
  (rename Fr _ _ _ _ => F9); (rename News _ _ _ _ => N9); (rename IsRange _ _ _ _ _ _ _ _ => hr9)
  obtain ⟨ka, hka⟩ := nameHead N9
  subst hka
  refine' iter_rangeUnr (n := ns.length) rfl hr9 ?sm ?sz F9 N9 fun I hI => ?_
  case sm => exact small_one (by omega) (by omega) (by omega) (by omega)
  case sz => rw [rangeSize_nat]; omega
  have hkI : @LT.lt Nat _ ka I := hI _ (.head _)
  have h54I : @LT.lt Nat _ 54 I := hI (54, _) (.tail _ (.head _))
  refine rangeRest_ind (Inv := fun i m news => ∃ e t2 kv, m (Str.ofString "letters") = some (.ref l) ∧ m (Str.ofString "width") = some (.int n t2) ∧ m (Str.ofString "kept") = some (.ref ka) ∧ news = [(ka, lstO kv e), (54, tabObj p54)] ∧ IntsAre kv ((leadBits ns).take i)) ?done ?turn _ _ _ _ (by omega) ?start
  case start => exact ⟨_, _, [], rfl, rfl, rfl, rfl, .nil⟩
  case done =>
    rintro m1 news1 ⟨e1, t2, kv, q1, q2, q3, rfl, q4⟩ h1 tk1 F1 N1
    rw [mp3 q1 q2 q3] at F1
    have hlen : ns.length ≤ 6 := hlen9
    have lbl : (leadBits ns).length = ns.length := by simp [leadBits]
    have kvl := q4.length
    have hLh1 : @LT.lt Nat _ L' h1.objs.size := F1.ns.lt
    k_steps
    refine Stp.into ?_
    (rename Fr _ _ _ _ => F9); (rename News _ _ _ _ => N9)
    have b2 : Tb dPos dQual p54 g' := (tbx.tb F N hY).but (P := 54) hg' (.inr rfl)
    have htk : (leadBits ns).take ns.length = leadBits ns := by rw [← lbl]; exact List.take_length
    rw [htk] at q4
    refine' con_dig (B := B') (F := F9) (X := X') (T := T') rfl (N := N9) (U := ?u) (C := C2) (Y := []) (tbx := .of_base b2) (fun _ h => absurd h List.not_mem_nil) (hl := News.isList N9 (.head _)) (hi := q4) (by omega) ?z1 ?z2 ?d1 ?d2 ?_
    case u => k_updF
    case z1 => omega
    case z2 =>
      intro q hq
      obtain ⟨j, _, e⟩ := List.mem_map.mp hq
      have h2 : (2 : Int) ≤ 2 ^ n := by
        have : (2 : Nat) ^ 1 ≤ 2 ^ n := Nat.pow_le_pow_right (by decide) hn1
        exact_mod_cast this
      rw [← e]
      split <;> omega
    case d1 => show dp + 1 + 62 < _; omega
    case d2 => show un + 3 + 500 < _; omega
    intro t9 h9 tk9 p9 Y2 F9 N9 tb9 hY2
    simp only [List.cons_append, List.nil_append] at N9
    dsimp only
    k_steps
    (rename Fr g' _ _ _ => F9); (rename News g' _ _ _ => N9); (rename News h₀ _ _ _ => kN); (rename Fr h₀ _ _ _ => kF)
    have kpb : KpB 54 s.heap _ := fun b o hb e => F9.keep b o (hg' b o hb e)
    refine' hret _ _ _ _ Y2 kF (newsB (newsU N U kpb (News.get N9 ?q1)) kN ?q2) tb9 ?q3
    case q1 => k_mem
    case q2 =>
      intro q hq
      k_ownIn
    case q3 => exact fun q hq => Nat.le_trans (Nat.le_of_lt (hL ▸ hLh1)) (hY2 q hq)
  case turn =>
    rintro i m1 news1 hi1 ⟨e1, t2, kv, q1, q2, q3, rfl, q4⟩ t1 h1 tk1 F1 N1
    rw [mp3 q1 q2 q3] at F1
    have hlen : ns.length ≤ 6 := hlen9
    k_steps
    refine Stp.into ?_
    (rename Fr _ _ _ _ => F9); (rename News _ _ _ _ => N9); (rename IntsAre _ (List.take _ _) => hs9)
    have et : (1 + (i : Int)).toNat = i + 1 := by rw [Int.add_comm]; exact Int.toNat_natCast (i + 1)
    rw [et] at hs9
    have ltk : (ns.take (i + 1)).length = i + 1 := by rw [List.length_take]; exact Nat.min_eq_left hi1
    refine' con_rows (B := B') (F := F9) (X := X') (T := T') rfl (hl := News.isList N9 (.head _)) (hi := hs9) ?bq ?l ?d ?u ?_
    case bq => exact fun x hx => hb x (List.mem_of_mem_take hx)
    case l => omega
    case d => show dp + 1 + 1 < _; omega
    case u => show un + 3 + 16 < _; omega
    intro h9 tk9 t9 kp
    have F9 := kp.fr F9
    have N9 := kp.news N9
    have rl1 := rowsS_len (ns.take (i + 1))
    have rl2 := rowsS_len ns
    have hwant : (Str.ofString "..." ++ rowsS (ns.take (i + 1))).length = 3 + 3 * (i + 1) := by rw [PySem.Str.length_append, rl1, ltk]; rfl
    dsimp only
    k_steps
    refine Stp.into ?_
    (rename Fr _ _ _ _ => F9); (rename News _ _ _ _ => N9)
    refine' con_rows (B := B') (F := F9) (X := X') (T := T') rfl (hl := hl2.at fun o e => F9.keep _ _ e) (hi := hi) hb ?l ?d ?u ?_
    case l => omega
    case d => show dp + 1 + 1 < _; omega
    case u => show un + 3 + 16 < _; omega
    intro h9 tk9 t9 kp
    have F9 := kp.fr F9
    have N9 := kp.news N9
    dsimp only
    k_steps
    refine Stp.into ?_
    (rename Fr _ _ _ _ => F9); (rename News _ _ _ _ => N9)
    refine' con_ell (mid := []) (B := B') (F := F9) (X := X') (T := T') rfl ?w ?g (hsp i hi1).1 (hsp i hi1).2 ?wl ?md ?d ?u ?_
    case w => exact Nat.le_trans (Nat.le_of_eq hwant) (Nat.le_trans (Nat.add_le_add_left (Nat.mul_le_mul_left 3 (Nat.le_trans hi1 hlen)) 3) (by decide))
    case g => omega
    case wl => omega
    case md => exact Nat.zero_le _
    case d => show dp + 1 + 1 < _; omega
    case u => show un + 3 + 8 < _; omega
    intro h9 tk9 kp
    have F9 := kp.fr F9
    have N9 := kp.news N9
    dsimp only
    have lb := leadBits_succ hi1
    cases hE : ellP (Str.ofString "") [] (rowsS (ns.take (i + 1))) (rowsS ns)
    · k_steps
      refine Stp.into ?_
      (rename Fr _ _ _ _ => F9); (rename News _ _ _ _ => N9)
      rw [List.push_toArray] at N9
      refine UnrEnd.intro F9 N9 [(ka, lstO (kv ++ [.int 0 tk9]) (e1 + 1)), (54, tabObj p54)] ?sub1 ?off1 ⟨_, _, kv ++ [.int 0 tk9], rfl, rfl, rfl, rfl, ?_⟩
      case sub1 => repeat' (first | refine sub_cons (by k_mem) ?_ | exact fun _ h => absurd h List.not_mem_nil)
      case off1 => exact off_cons (neN (by omega)) (off_cons (neN (by omega)) (fun _ h => absurd h List.not_mem_nil))
      rw [lb, hE]
      exact q4.append (.cons _ _ .nil)
    · k_steps
      refine Stp.into ?_
      (rename Fr _ _ _ _ => F9); (rename News _ _ _ _ => N9)
      rw [List.push_toArray] at N9
      refine UnrEnd.intro F9 N9 [(ka, lstO (kv ++ [.int 1 tk9]) (e1 + 1)), (54, tabObj p54)] ?sub2 ?off2 ⟨_, _, kv ++ [.int 1 tk9], rfl, rfl, rfl, rfl, ?_⟩
      case sub2 => repeat' (first | refine sub_cons (by k_mem) ?_ | exact fun _ h => absurd h List.not_mem_nil)
      case off2 => exact off_cons (neN (by omega)) (off_cons (neN (by omega)) (fun _ h => absurd h List.not_mem_nil))
      rw [lb, hE]
      exact q4.append (.cons _ _ .nil)
end Mine
end

section
open PySem PySem.W PyProof.Rows PySem.Calls PySem.Spec
set_option maxRecDepth 100000
namespace Mine
theorem plainAttrs_pat : PlainAttrs "re.Pattern" :=
  ⟨⟨"object.__getattribute__", by rw [typeLookup_type, builtinLookup_eq_fast]; kernel_rfl, by decide +kernel⟩, by rw [typeLookup_type, builtinLookup_eq_fast]; kernel_rfl⟩
theorem slot_pat_sub : Slot "re.Pattern" "sub" "re.Pattern.sub" :=
  .of (owner := "re.Pattern") (n := "sub") (by rw [typeLookup_type, builtinLookup_eq_fast]; kernel_rfl) (by decide +kernel) (by decide +kernel) (by decide +kernel)
    (by first | exact .inl (by decide +kernel) | exact .inr (by decide +kernel)) (by rw [isSubtype_type]; kernel_rfl)
theorem type_pat_sub : typeOf (.builtin "re.Pattern.sub") = pure (.type "method_descriptor") := by show builtinType _ = _; rw [builtinType_eq_fast]; kernel_rfl
theorem entry_pat_sub : entryFor table "re.Pattern.sub" = some Builtin.«re.Pattern.sub» := entryFor_of_tree (by kernel_rfl)
theorem entry_pat_loop : entryFor table "re.Pattern.sub.loop" = some Builtin.«re.Pattern.sub.loop» := entryFor_of_tree (by kernel_rfl)
theorem owner_pat : Manifest.owners.lookup (String.ofList ['n', 'r', 'e', 't', 't', 'a', 'P', '.', 'e', 'r'].reverse) = some Manifest.«sig_re_Pattern» := by kernel_rfl
theorem args_pat_sub (a b c : Value) : argsOk "re.Pattern.sub" ⟨[a, b, c], []⟩ := by
  unfold argsOk; rw [signature?_of (id := "re.Pattern.sub") (n := ['b', 'u', 's']) (o := ['n', 'r', 'e', 't', 't', 'a', 'P', '.', 'e', 'r']) (by kernel_rfl) owner_pat]; kernel_rfl
open PySem.Builtin PySem.Builtin.Re
open PySem.Sre (M)
theorem runFor_done {m : M} (h : m.outcome.isSome = true) : ∀ n, M.runFor n m = m
  | 0 => rfl
  | n + 1 => by unfold M.runFor; rw [if_pos h]
theorem runFor_succ (n : Nat) (m : M) : M.runFor (n + 1) m = if m.outcome.isSome = true then m else M.runFor n m.step := rfl
theorem runFor_add : ∀ (a b : Nat) (m : M), M.runFor (a + b) m = M.runFor b (M.runFor a m)
  | 0, b, m => by rw [Nat.zero_add]; rfl
  | a + 1, b, m => by
    rw [Nat.add_right_comm]
    by_cases h : m.outcome.isSome = true
    · rw [runFor_done h, runFor_done h, runFor_done h]
    · rw [runFor_succ, runFor_succ, if_neg h, if_neg h]
      exact runFor_add a b m.step
section
variable {Mo : Model} {A : Around} {E : Value → Shared → Prop} {s : Shared}
theorem wp_drive {Q : M → Shared → Prop} : ∀ (n : Nat) (m : M) (T : Nat), (M.runFor (4 * n) m).outcome.isSome = true → 0 < n → n ≤ T → Q (M.runFor (4 * n) m) s → wpAny Mo A (reDrive T m) Q E s
  | 0, _, _, _, h, _, _ => absurd h (Nat.lt_irrefl 0)
  | n + 1, m, T, h, _, hT, hq => by
    obtain ⟨T, rfl⟩ : ∃ k, T = k + 1 := ⟨T - 1, by omega⟩
    have e : 4 * (n + 1) = 4 + 4 * n := by omega
    rw [e, runFor_add] at h hq
    show wpAny Mo A (if (M.runFor 4 m).outcome.isSome = true then pure (M.runFor 4 m) else (rule "sre.turn" >>= fun _ => reDrive T (M.runFor 4 m))) Q E s
    by_cases hd : (M.runFor 4 m).outcome.isSome = true
    · rw [if_pos hd]
      rw [runFor_done hd] at hq
      exact wpAny_pure hq
    · rw [if_neg hd]
      have hn : 0 < n := by
        rcases Nat.eq_zero_or_pos n with hz | hz
        · rw [hz] at h; exact absurd h hd
        · exact hz
      exact wpAny_bind (wpAny_rule (wp_drive n _ T h hn (by omega) hq))
theorem wp_rules {f : Nat → Bool} {g : Nat → String} {Q : PUnit → Shared → Prop} (hq : Q PUnit.unit s) : ∀ l : List Nat,
    wpAny Mo A (forIn l PUnit.unit fun i _ => (if f i = true then (do rule (g i); pure (ForInStep.yield PUnit.unit)) else pure (ForInStep.yield PUnit.unit) : Sem (ForInStep PUnit))) Q E s
  | [] => by rw [List.forIn_nil]; exact wpAny_pure hq
  | i :: l => by
    rw [List.forIn_cons]
    refine wpAny_bind ?_
    by_cases h : f i = true
    · rw [if_pos h]; exact wpAny_bind (wpAny_rule (wpAny_pure (wp_rules hq l)))
    · rw [if_neg h]; exact wpAny_pure (wp_rules hq l)
/-- what one search tells -/
noncomputable def nextP (code text : Array Nat) (start : Nat) (must : Bool) : Option (Option (Nat × Nat)) :=
  let m := M.runFor 4000 (Sre.forSearch code text 0 start text.size must)
  match m.outcome with
  | some .matched => some (some (m.start, m.handed))
  | some .failed => some none
  | _ => none
theorem wp_next {code text : Array Nat} {start : Nat} {must : Bool} {pat str : Value} {r : Option (Nat × Nat)} {Q : Option M → Shared → Prop} (h : nextP code text start must = some r)
    (hq : ∀ m : Option M, (m.map fun m => (m.start, m.handed)) = r → Q m s) :
    wpAny Mo A (reNextFound ⟨pat, str, code, text, 0, 0, 0, text.size⟩ start must) Q E s := by
  unfold reNextFound reRunToEnd
  dsimp only
  unfold nextP at h
  dsimp only at h
  generalize Sre.forSearch code text 0 start text.size must = m0 at h ⊢
  have hs : (M.runFor 4000 m0).outcome.isSome = true := by
    cases ho : (M.runFor 4000 m0).outcome with
    | none => rw [ho] at h; cases h
    | some o => rfl
  refine wpAny_bind (wp_drive 1000 m0 (2 ^ 64) hs (by decide) (by decide) ?_)
  refine wpAny_bind (wp_rules ?_ _)
  show wpAny Mo A (match (M.runFor 4000 m0).outcome with | some .matched => pure (some (M.runFor 4000 m0)) | some .failed => pure none | some (.stuck why) => _ | none => _) Q E s
  cases ho : (M.runFor 4000 m0).outcome with
  | none => rw [ho] at h; cases h
  | some o =>
    rw [ho] at h
    cases o with
    | matched => cases h; exact wpAny_pure (hq _ rfl)
    | failed => cases h; exact wpAny_pure (hq _ rfl)
    | stuck w => cases h
end
end Mine
end

section
open PySem PySem.W PyProof.Rows PySem.Calls PySem.Spec
set_option maxRecDepth 100000
namespace Mine
open PySem.Builtin PySem.Builtin.Re
/-- the pieces of a substitution, from the place d on -/
noncomputable def subP (code text : Array Nat) (repl : Str) : Nat → Nat → Bool → Option (List Str)
  | 0, _, _ => none
  | f + 1, d, must => match nextP code text d must with
    | none => none
    | some none => some (if d < text.size then [⟨text.extract d text.size⟩] else [])
    | some (some (a, b)) => (subP code text repl f b (b == a)).map fun r => (if d < a then [⟨text.extract d a⟩] else []) ++ (repl :: r)
structure PatAt (h : Heap) (pa : Addr) (code : Array Nat) : Prop where
  ex : ∃ o fs tu ot its n, h.get? pa = some o ∧ o.data = .fields fs ∧ fs.getD 6 .none = .int 0 0 ∧ fs.getD 5 .none = .ref tu ∧ fs.getD 2 .none = .int 0 0 ∧ h.get? tu = some ot ∧ ot.data = .seq its n ∧ (its.map reRawOf).map (·.toNat) = code
theorem PatAt.keep {h h' : Heap} {pa : Addr} {code : Array Nat} (x : PatAt h pa code) (k : Kp h h') : PatAt h' pa code := by
  obtain ⟨o, fs, tu, ot, its, n, ho, hd, h6, h5, h2, hot, hdt, hc⟩ := x.ex
  exact ⟨o, fs, tu, ot, its, n, k _ _ ho, hd, h6, h5, h2, k _ _ hot, hdt, hc⟩
section
variable {prog : Program} {w : World} {A : Around} {E : Value → Shared → Prop} {s : Shared}
theorem wp_whole {pa : Addr} {code : Array Nat} {x : Str} {t : Tok} {Q : ReTarget → Shared → Prop} (P : PatAt s.heap pa code) (hq : Q ⟨.ref pa, .str x t, code, x.cps, 0, 0, 0, x.cps.size⟩ s) :
    wpAny (model prog w) A (reWholeTarget (.ref pa) (.str x t)) Q E s := by
  obtain ⟨o, fs, tu, ot, its, n, ho, hd, h6, h5, h2, hot, hdt, hc⟩ := P.ex
  unfold reWholeTarget
  refine wpAny_bind (wpAny_fieldsOf ho hd ?_)
  refine wpAny_bind (m := reTextOf (.str x t)) (wpAny_pure (a := (x.cps, 0)) ?_)
  dsimp only
  rw [h6, h5, h2]
  refine wpAny_bind (m := reNoCollectionInside (.str x t) 0) (wpAny_pure (a := ()) ?_)
  refine wpAny_bind (m := reRawItems (.ref tu)) ?_
  unfold reRawItems
  refine wpAny_bind (wpAny_seqItems hot hdt ?_)
  refine wpAny_pure (wpAny_pure ?_)
  show Q ⟨.ref pa, .str x t, (its.map reRawOf).map (·.toNat), x.cps, 0, 0, 0, x.cps.size⟩ s
  rw [hc]; exact hq
theorem strV_snoc (l : List (Str × Tok)) (x : Str) (t : Tok) : (strValues l).toArray.push (.str x t) = (strValues (l ++ [(x, t)])).toArray := by
  rw [List.push_toArray]; simp [strValues]
theorem extract0 (x : Array Nat) : (⟨x.extract 0 0⟩ : Str) = Str.ofString "" := by simp; rfl
theorem sub_loop {D pa : Addr} {s0 : Shared} {code : Array Nat} {x repl : Str} {t u : Tok} {R : Result → Shared → Prop} (hP : ∀ h', Heap.SameBut D s0.heap h' → PatAt h' pa code) (hx : x.length ≤ 1000) :
    ∀ (fuel d : Nat) (must : Bool) (n : Int) (l : List (Str × Tok)) (h : Heap) (tk k : Nat) (r : List Str), subP code x.cps repl fuel d must = some r → Heap.SameBut D s0.heap h →
      h.get? D = some { cls := .type "list", data := .seq (strValues l).toArray k } → l.length + 2 * fuel ≤ 10000 → JoinOk (Str.ofString "") (l.map (·.1) ++ r) = true →
      (∀ h' tk' t, Heap.SameBut D s0.heap h' → R (.ok (.ret (.str (Txt.join (Str.ofString "") (l.map (·.1) ++ r)) t))) { s0 with heap := h', toks := tk' }) →
      codeAny (model prog w) A (.builtin "re.Pattern.sub.loop" ⟨[.ref pa, .str x t, .str repl u, rawInt 0, rawInt 0, rawInt n, rawInt d, rawInt d, .bool must, .ref D, .bool false], []⟩) R { s0 with heap := h, toks := tk } := by
  intro fuel
  induction fuel with
  | zero => intro d must n l h tk k r hr; cases hr
  | succ f ih =>
    intro d must n l h tk k r hr hs hD hl hok hq
    refine codeAny_builtin entry_pat_loop ?_
    unfold «re.Pattern.sub.loop»
    dsimp only [rawInt]
    refine wpAny_bind (wp_whole (hP h hs) ?_)
    rw [if_pos (by decide)]
    refine wpAny_bind (m := reLiteralCannotBeTurned (.str repl u)) (wpAny_pure (a := ()) ?_)
    rw [if_neg (by simp), Int.toNat_natCast]
    unfold subP at hr
    cases hn : nextP code x.cps d must with
    | none => rw [hn] at hr; cases hr
    | some o =>
      rw [hn] at hr
      refine wpAny_bind (wp_next hn fun m hm => ?_)
      cases o with
      | none =>
        obtain rfl : m = none := by cases m; rfl; cases hm
        dsimp only at hr ⊢
        cases hr
        have hxs : x.cps.size ≤ 1000 := hx
        by_cases hlt : d < x.cps.size
        · rw [if_pos hlt] at hok hq ⊢
          have e1 : (l ++ [((⟨x.cps.extract d x.cps.size⟩ : Str), tk)]).map (·.1) = l.map (·.1) ++ [⟨x.cps.extract d x.cps.size⟩] := by simp
          refine wpAny_bind (m := reSlice x.cps 0 d x.cps.size) (wpAny_mkStr ?_ (by show (x.cps.extract d x.cps.size).size ≤ _; rw [PySem.sizeLine_eq, Array.size_extract]; omega))
          refine wpAny_bind (wpAny_updateSeq hD rfl ?_ (by rw [PySem.sizeLine_eq]; simp [strValues]; omega) (by rw [PySem.sizeLine_eq]; simp [strValues]; omega))
          have hs1 := hs.trans (Heap.SameBut.update h D (Obj.mapSeq (·.push (Value.str ⟨x.cps.extract d x.cps.size⟩ tk))))
          have hD1 : (h.update D (Obj.mapSeq (·.push (Value.str ⟨x.cps.extract d x.cps.size⟩ tk)))).get? D = some { cls := .type "list", data := .seq (strValues (l ++ [((⟨x.cps.extract d x.cps.size⟩ : Str), tk)])).toArray (k + 1) } := by
            rw [Heap.get?_update_self _ hD (by rw [mapSeq_push]; rfl), mapSeq_push, strV_snoc]
          refine wpAny_bind (m := reSlice x.cps 0 0 0) (wpAny_mkStr ?_ (by show (x.cps.extract 0 0).size ≤ _; simp))
          rw [extract0]
          refine wpAny_bind (wpAny_seqItems hD1 rfl ?_)
          dsimp only [Option.getD_some]
          by_cases hem : (strValues (l ++ [((⟨x.cps.extract d x.cps.size⟩ : Str), tk)])).toArray.isEmpty = true
          · rw [if_pos hem]
            have hnil : l ++ [((⟨x.cps.extract d x.cps.size⟩ : Str), tk)] = [] := by
              cases hc : l ++ [((⟨x.cps.extract d x.cps.size⟩ : Str), tk)] with
              | nil => rfl
              | cons _ _ => rw [hc] at hem; simp [strValues] at hem
            refine wpAny_bind (wpAny_pure ?_)
            rw [if_neg Bool.false_ne_true]
            refine wpAny_pure ?_
            have hq' := hq _ (tk + 1 + 1) (tk + 1) hs1
            rw [← e1, hnil] at hq'
            exact hq'
          · rw [if_neg hem]
            refine wpAny_bind ?_
            rw [if_pos (by decide)]
            refine SC.join (l := l ++ [((⟨x.cps.extract d x.cps.size⟩ : Str), tk)]) ⟨_, hD1, rfl, _, rfl⟩ e1 hok fun t' k' => ?_
            rw [if_neg Bool.false_ne_true]
            exact wpAny_pure (hq _ _ _ hs1)

        · rw [if_neg hlt] at hok hq ⊢
          have e1 : l.map (·.1) = l.map (·.1) ++ [] := by simp
          refine wpAny_bind (m := reSlice x.cps 0 0 0) (wpAny_mkStr ?_ (by show (x.cps.extract 0 0).size ≤ _; simp))
          rw [extract0]
          refine wpAny_bind (wpAny_seqItems hD rfl ?_)
          dsimp only [Option.getD_some]
          by_cases hem : (strValues (l)).toArray.isEmpty = true
          · rw [if_pos hem]
            have hnil : l = [] := by
              cases hc : l with
              | nil => rfl
              | cons _ _ => rw [hc] at hem; simp [strValues] at hem
            refine wpAny_bind (wpAny_pure ?_)
            rw [if_neg Bool.false_ne_true]
            refine wpAny_pure ?_
            have hq' := hq _ (tk + 1) (tk) hs
            rw [← e1, hnil] at hq'
            exact hq'
          · rw [if_neg hem]
            refine wpAny_bind ?_
            rw [if_pos (by decide)]
            refine SC.join (l := l) ⟨_, hD, rfl, _, rfl⟩ e1 hok fun t' k' => ?_
            rw [if_neg Bool.false_ne_true]
            exact wpAny_pure (hq _ _ _ hs)

      | some ab =>
        obtain ⟨m, rfl⟩ : ∃ m', m = some m' := by cases m; cases hm; exact ⟨_, rfl⟩
        cases hm
        dsimp only at hr ⊢
        obtain ⟨r', hr', hr2⟩ := Option.map_eq_some_iff.mp hr
        have hxs : x.cps.size ≤ 1000 := hx
        by_cases hlt : d < m.start
        · rw [if_pos hlt] at hr2 ⊢
          have e1 : (l ++ [((⟨x.cps.extract d m.start⟩ : Str), tk)] ++ [(repl, u)]).map (·.1) ++ r' = l.map (·.1) ++ r := by rw [← hr2]; simp
          refine wpAny_bind (m := reSlice x.cps 0 d m.start) (wpAny_mkStr ?_ (by show (x.cps.extract d m.start).size ≤ _; rw [PySem.sizeLine_eq, Array.size_extract]; omega))
          refine wpAny_bind (wpAny_updateSeq hD rfl ?_ (by rw [PySem.sizeLine_eq]; simp [strValues]; omega) (by rw [PySem.sizeLine_eq]; simp [strValues]; omega))
          have hs1 := hs.trans (Heap.SameBut.update h D (Obj.mapSeq (·.push (Value.str ⟨x.cps.extract d m.start⟩ tk))))
          have hD1 : (h.update D (Obj.mapSeq (·.push (Value.str ⟨x.cps.extract d m.start⟩ tk)))).get? D = some { cls := .type "list", data := .seq (strValues (l ++ [((⟨x.cps.extract d m.start⟩ : Str), tk)])).toArray (k + 1) } := by
            rw [Heap.get?_update_self _ hD (by rw [mapSeq_push]; rfl), mapSeq_push, strV_snoc]
          rw [if_pos (by decide)]
          refine wpAny_bind (wpAny_pure ?_)
          rw [if_pos (by rfl)]
          refine wpAny_bind (wpAny_updateSeq hD1 rfl ?_ (by rw [PySem.sizeLine_eq]; simp [strValues]; omega) (by rw [PySem.sizeLine_eq]; simp [strValues]; omega))
          refine wpAny_pure ⟨plainId_quiet (by decide +kernel) _, ?_⟩
          refine ih m.handed _ (n + 1) (l ++ [((⟨x.cps.extract d m.start⟩ : Str), tk)] ++ [(repl, u)]) _ _ ((k + 1) + 1) r' hr' (hs1.trans (Heap.SameBut.update ..)) ?_ (by simp; omega) (by rw [e1]; exact hok) (by rw [e1]; exact hq)
          rw [Heap.get?_update_self _ hD1 (by rw [mapSeq_push]; rfl), mapSeq_push, strV_snoc]

        · rw [if_neg hlt] at hr2 ⊢
          have e1 : (l ++ [(repl, u)]).map (·.1) ++ r' = l.map (·.1) ++ r := by rw [← hr2]; simp
          rw [if_pos (by decide)]
          refine wpAny_bind (wpAny_pure ?_)
          rw [if_pos (by rfl)]
          refine wpAny_bind (wpAny_updateSeq hD rfl ?_ (by rw [PySem.sizeLine_eq]; simp [strValues]; omega) (by rw [PySem.sizeLine_eq]; simp [strValues]; omega))
          refine wpAny_pure ⟨plainId_quiet (by decide +kernel) _, ?_⟩
          refine ih m.handed _ (n + 1) (l ++ [(repl, u)]) _ _ (k + 1) r' hr' (hs.trans (Heap.SameBut.update ..)) ?_ (by simp; omega) (by rw [e1]; exact hok) (by rw [e1]; exact hq)
          rw [Heap.get?_update_self _ hD (by rw [mapSeq_push]; rfl), mapSeq_push, strV_snoc]

theorem str_nocall : typeLookup (.type "str") "__call__" = pure none := by rw [typeLookup_type, builtinLookup_eq_fast]; kernel_rfl
theorem named_sub (a b : Value) : reNamed "re.Pattern.sub" "sub" ["repl", "string", "count"] 2 [a, b] [] = pure [some a, some b, none] := rfl
theorem pat_sub {pa : Addr} {code : Array Nat} {x repl : Str} {t u : Tok} {r : List Str} {Q : Value → Shared → Prop} (hT : s.TypeIs (.ref pa) "re.Pattern") (hP : PatAt s.heap pa code) (hx : x.length ≤ 1000) (hlit : repl.cps.contains 92 = false)
    (hr : subP code x.cps repl 4000 0 false = some r) (hok : JoinOk (Str.ofString "") r = true) (hq : ∀ h' tk' t', Kp s.heap h' → Q (.str (Txt.join (Str.ofString "") r) t') { s with heap := h', toks := tk' }) :
    wpAny (model prog w) A (call (.builtin "re.Pattern.sub") [.ref pa, .str repl u, .str x t]) Q E s := by
  refine wpAny_call (codeAny_call_builtin slot_pat_sub.plain entry_pat_sub (slot_pat_sub.check _ _ _ _ _ _ _ _ hT (args_pat_sub _ _ _) ?_))
  unfold «re.Pattern.sub» reSubstitute
  dsimp only
  refine wpAny_bind (wpAny_of_eq (named_sub _ _) ?_)
  dsimp only
  refine wpAny_bind (wpAny_pure ?_)
  refine wpAny_bind (wpAny_specialOf (typeIs_str _ _ _) str_nocall ?_)
  rw [if_neg (by simp)]
  refine wpAny_bind (m := asStr? (.str repl u)) (wpAny_pure (a := some repl) ?_)
  dsimp only
  refine wpAny_bind (wpAny_pure ?_)
  rw [if_neg (by simp), if_pos (by rw [hlit]; rfl)]
  refine wpAny_bind (wpAny_pure ?_)
  dsimp only
  refine wpAny_bind (wpAny_holding (wp_whole hP ?_))
  rw [if_neg (by decide)]
  refine wpAny_bind (wpAny_newList ?_)
  refine wpAny_pure ⟨plainId_quiet (by decide +kernel) _, ?_⟩
  have kp : ∀ h', Heap.SameBut s.heap.objs.size (s.heap.push { cls := .type "list", data := .seq ([] : List Value).toArray }) h' → Kp s.heap h' := fun h' hs b o e => by
    rw [hs.2 b (Nat.ne_of_lt (Heap.lt_size e))]; exact Heap.get?_push_of_some _ e
  refine sub_loop (s0 := { s with heap := s.heap.push { cls := .type "list", data := .seq ([] : List Value).toArray } }) (D := s.heap.objs.size) (fun h' hs => hP.keep (kp h' hs)) hx 4000 0 false 0 [] _ _ 0 r hr (.refl _ _) (Heap.get?_push_size _ rfl) (by decide) hok ?_
  intro h' tk' t' hs
  exact hq h' tk' t' (kp h' hs)
end
end Mine
end

section
theorem Mine.woff_CQuo {M : PySem.Model} {A : PySem.Around} {E Q : PySem.Value → PySem.Shared → Prop} {s : PySem.Shared} (h : PySem.wpAny M A (PySem.call (.builtin "no") []) Q E s) : PySem.wpAny M A (PySem.call (.builtin "no") []) Q E s := by
  w_top off
  first | (walk1; fail) | exact h
open PySem PySem.W PyProof.Rows PySem.Calls PySem.Spec
set_option maxRecDepth 100000
namespace Mine
theorem filled11 (w : World) : (hd.heap_39 w.params).In ({} : Heap) → PySem.Challenge.rw_pe0153_01.foot = 4 := by
  k_fill
  intro _; rfl

noncomputable def code1 : Array Nat := #[14, 4, 0, 1, 1, 6, 1, 16, 46, 1]
noncomputable def code2 : Array Nat := #[14, 9, 4, 1, 2, 16, 10, 16, 13, 0, 7, 7, 16, 13, 16, 10, 15, 18, 5, 16, 10, 15, 13, 11, 16, 13, 5, 5, 0, 16, 10, 1, 15, 2, 0, 1]
theorem pat1 {w : World} {h : Heap} (X : (hd.heap_39 w.params).In h) : PatAt h 78 code1 :=
  ⟨_, _, 77, _, _, _, X 78 _ (by k_is), rfl, rfl, rfl, rfl, X 77 _ (by k_is), rfl, by decide +kernel⟩
theorem pat2 {w : World} {h : Heap} (X : (hd.heap_39 w.params).In h) : PatAt h 83 code2 :=
  ⟨_, _, 82, _, _, _, X 83 _ (by k_is), rfl, rfl, rfl, rfl, X 82 _ (by k_is), rfl, by decide +kernel⟩
theorem meth1 {w : World} {h : Heap} (X : (hd.heap_39 w.params).In h) : ∃ o, h.get? 78 = some o ∧ o.cls = .type "re.Pattern" ∧ o.dict = none := ⟨_, X 78 _ (by k_is), rfl, rfl⟩
theorem meth2 {w : World} {h : Heap} (X : (hd.heap_39 w.params).In h) : ∃ o, h.get? 83 = some o ∧ o.cls = .type "re.Pattern" ∧ o.dict = none := ⟨_, X 83 _ (by k_is), rfl, rfl⟩
theorem getM {M : Model} {A : Around} {E : Value → Shared → Prop} {s : Shared} {h₀ : Heap} {L a : Addr} {m : Str → Option Value} {pl : Sem Bool} {Q : Value × List Value → Shared → Prop} (F : Fr h₀ L s.heap m)
    (h : ∃ o, h₀.get? a = some o ∧ o.cls = .type "re.Pattern" ∧ o.dict = none) (hq : Q (.builtin "re.Pattern.sub", [.ref a]) s) : wpAny M A (getMethod (.ref a) (Str.ofString "sub") pl) Q E s := by
  obtain ⟨o, ho, hc, hdd⟩ := h
  exact getMethod_builtin ⟨o, F.keep _ _ ho, hc⟩ plainAttrs_pat slot_pat_sub type_pat_sub (fun b e => by cases e; exact ⟨o, F.keep _ _ ho, hdd⟩) hq
local macro_rules | `(tactic| walk_at "getMethod ref") => `(tactic| ((rename Fr _ _ _ _ => lF'); (rename Frag.In _ _ => lX'); first | refine getM lF' (meth1 lX') ?_ | refine getM lF' (meth2 lX') ?_))
local macro_rules | `(tactic| walk_at "call builtin:re.Pattern.sub") => `(tactic| (refine Stp.out ?_))
set_option maxHeartbeats 4000000 in
theorem con_quote {w : World} {p : Program} {loose : List Str} {mean : ExcName → Option Value} {mg mb : Str → Option Value}
    {dp un : Nat} {gd : Option (List Code)} {cn : Str} {cs : Scope} {a : Addr} {ccd : Value} {cl : List (Str × Addr)} {outer : List Env} {A₀ : Around} {base h₀ : Heap} {L : Addr} {m : Str → Option Value} {s : Shared} {Q E : Value → Shared → Prop}
    {x : Str} {tx : Tok} {r1 r2 : List Str}
    (B : Below A₀ base outer h₀) (F : Fr h₀ L s.heap m) (X : (hd.heap_39 w.params).In h₀) (T : Top p loose mean mg mb h₀) (hk : cs.kind = .function)
    (hx : x.length ≤ 100) (hr1 : subP code2 x.cps (Str.ofString "\r\n") 4000 0 false = some r1) (hok1 : JoinOk (Str.ofString "") r1 = true) (hy : (Txt.join (Str.ofString "") r1).length ≤ 100)
    (hr2 : subP code1 (Txt.join (Str.ofString "") r1).cps (Str.ofString "..") 4000 0 false = some r2) (hok2 : JoinOk (Str.ofString "") r2 = true)
    (hdp : dp + 1 < recursionLimit) (hu : un + 16 < cLine) (hret : ∀ h' tk' t, Kp s.heap h' → Q (.str (Txt.join (Str.ofString "") r2) t) { s with heap := h', toks := tk' }) :
    wpAny (model PySem.Challenge.rw_pe0153_01.prog w) (ktrTop dp un gd cn cs L a ccd cl outer) (call (.ref 90) [.str x tx]) Q E s := by
  refine wpAny_call ?_
  (refine' callM (K := hd.heap_39 w.params) (news := []) (T := T) ?k1 ?k2 ?k3 ?k4 ?kA ?kF ?kK ?k6 ?k7 ?k8 ?k9 ?kB ?_ ?c2 ?c3 ?c4 ?c5; (case kA => exact rfl); (case kF => exact rfl); (case kK => assumption); (case k1 => k_asm); (case k2 => k_asm); (case k3 => k_asm); (case k4 => exact News.nil);  (case k6 => k_is); (case k7 => k_is); (case k8 => ktr_room); (case k9 => exact BindsTo.of_eq rfl); (case c5 => decide); (case kB => exact locs rfl); (case c2 => exact rfl); (case c3 => exact rfl); (case c4 => exact rfl))
  intro g' L' h' FG' F' N' B' X' T' hg hL
  (try dsimp only); (try k_lift B'); (try k_fold)

  have hg' : Kp s.heap g' := fun b o e => hg b o e (by simp)
  k_steps
  refine Stp.into ?_
  (rename Fr _ _ _ _ => F9); (rename Frag.In _ g' => X9)
  refine' pat_sub (hT := ?t) (hP := (pat2 X9).keep F9.keep) (by omega) (by decide +kernel) hr1 hok1 ?_
  case t => obtain ⟨o, ho, hc, _⟩ := meth2 X9; exact ⟨o, F9.keep _ _ ho, hc⟩
  intro h9 tk9 t9 kp
  have F9 := kp.fr F9
  have N9 : News g' L' h9 [] := News.nil
  dsimp only
  k_steps
  refine Stp.into ?_
  (rename Fr _ _ _ _ => F9); (rename Frag.In _ g' => X9)
  refine' pat_sub (hT := ?t2) (hP := (pat1 X9).keep F9.keep) (by omega) (by decide +kernel) hr2 hok2 ?_
  case t2 => obtain ⟨o, ho, hc, _⟩ := meth1 X9; exact ⟨o, F9.keep _ _ ho, hc⟩
  intro h9 tk9 t9 kp
  have F9 := kp.fr F9
  have N9 : News g' L' h9 [] := News.nil
  dsimp only
  k_steps
  exact hret _ _ _ (fun b o e => Fr.keep (h₀ := g') (L := L') (by assumption) b o (hg b o e (by simp)))
end Mine
end

section
theorem Mine.woff_ReE {M : PySem.Model} {A : PySem.Around} {E Q : PySem.Value → PySem.Shared → Prop} {s : PySem.Shared} (h : PySem.wpAny M A (PySem.call (.builtin "no") []) Q E s) : PySem.wpAny M A (PySem.call (.builtin "no") []) Q E s := by
  w_top off
  first | (walk1; fail) | exact h
open PySem PySem.W PyProof.Rows PySem.Calls PySem.Spec
set_option maxRecDepth 100000
namespace Mine
open PySem.Sre (M Op Frame)
/-- the engine's state of the first pattern: a try at the place s -/
noncomputable def S1 (text : Array Nat) (s : Nat) (seen : Sre.Seen) (om : Bool) : M :=
  { code := code1, text, lim := text.size, start := s, lastStart := text.size, pc := 5, pos := s, handed := s, outermost := om, marks := #[], weight := 1,
    frames := [{ wait := .nextStart, pc := 5, pos := s, outermost := om }], seen }
theorem ops_6 : Sre.ops[6]? = some .AT := rfl
theorem start1 (text : Array Nat) (d : Nat) (h : d < text.size) : ∃ seen, Sre.forSearch code1 text 0 d text.size false = S1 text d seen true := by
  refine ⟨({} : Sre.Seen).add 14, ?_⟩
  have h1 : (decide (d > text.size) || decide (text.size - d < 1)) = false := by simp; omega
  unfold Sre.forSearch
  show (if (decide (d > text.size) || decide (text.size - d < 1)) = true then _ else _) = _
  rw [h1]
  rfl
theorem step1_no {text : Array Nat} {s : Nat} {seen : Sre.Seen} {om : Bool} (h : (s == 0 || text.getD (s - 1) 0 == 10) = false) :
    M.step (S1 text s seen om) = { S1 text s ((seen.add 6).add 44) om with answer := some false } := by
  show (if (s == 0 || text.getD (s - 1) 0 == 10) = true then _ else _) = _
  rw [h]
  rfl
theorem step1_yes {text : Array Nat} {s : Nat} {seen : Sre.Seen} {om : Bool} (h : (s == 0 || text.getD (s - 1) 0 == 10) = true) :
    M.step (S1 text s seen om) = { S1 text s ((seen.add 6).add 44) om with pc := 7 } := by
  show (if (s == 0 || text.getD (s - 1) 0 == 10) = true then _ else _) = _
  rw [h]
  rfl
theorem step2_end {text : Array Nat} {s : Nat} {seen : Sre.Seen} {om : Bool} (h : text.size ≤ s) :
    M.step { S1 text s seen om with pc := 7 } = { S1 text s (seen.add 16) om with pc := 7, answer := some false } := by
  show (if s ≥ text.size then _ else _) = _
  rw [if_pos h]
  rfl
theorem step2_no {text : Array Nat} {s : Nat} {seen : Sre.Seen} {om : Bool} (h : s < text.size) (h2 : (text.getD s 0 == 46) = false) :
    M.step { S1 text s seen om with pc := 7 } = { S1 text s (seen.add 16) om with pc := 7, answer := some false } := by
  show (if s ≥ text.size then _ else match (Except.ok (text.getD s 0 == 46, seen.add 16) : Except String (Bool × Sre.Seen)) with
    | .error why => M.stick _ why
    | .ok (false, seen) => _
    | .ok (true, seen) => _) = _
  rw [if_neg (by omega), h2]
  rfl
theorem step2_yes {text : Array Nat} {s : Nat} {seen : Sre.Seen} {om : Bool} (h : s < text.size) (h2 : (text.getD s 0 == 46) = true) :
    M.step { S1 text s seen om with pc := 7 } = { S1 text s (seen.add 16) om with pc := 9, pos := s + 1 } := by
  show (if s ≥ text.size then _ else match (Except.ok (text.getD s 0 == 46, seen.add 16) : Except String (Bool × Sre.Seen)) with
    | .error why => M.stick _ why
    | .ok (false, seen) => _
    | .ok (true, seen) => _) = _
  rw [if_neg (by omega), h2]
  rfl
theorem step3_yes {text : Array Nat} {s : Nat} {seen : Sre.Seen} {om : Bool} :
    M.step { S1 text s seen om with pc := 9, pos := s + 1 } = { S1 text s (seen.add 1) om with pc := 9, pos := s + 1, handed := s + 1, answer := some true } := by
  show (if (om && ((false && (s + 1) != text.size) || (false && (s + 1) == s))) = true then _ else _) = _
  rw [if_neg (by simp)]
  rfl
theorem back_yes {text : Array Nat} {s : Nat} {seen : Sre.Seen} {om : Bool} :
    ∃ m, M.runFor 2 { S1 text s seen om with pc := 9, pos := s + 1, handed := s + 1, answer := some true } = m ∧ m.outcome = some .matched ∧ m.start = s ∧ m.handed = s + 1 := ⟨_, rfl, rfl, rfl, rfl⟩
theorem back_more {text : Array Nat} {s pc : Nat} {seen : Sre.Seen} {om : Bool} (h : s < text.size) :
    M.step { S1 text s seen om with pc := pc, answer := some false } = S1 text (s + 1) seen false := by
  show (if s < text.size then _ else _) = _
  rw [if_pos h]
  rfl
theorem back_end {text : Array Nat} {s pc : Nat} {seen : Sre.Seen} {om : Bool} (h : ¬ s < text.size) :
    ∃ m, M.runFor 2 { S1 text s seen om with pc := pc, answer := some false } = m ∧ m.outcome = some .failed := by
  have e : M.step { S1 text s seen om with pc := pc, answer := some false } = { S1 text s seen om with answer := some false, frames := [], weight := 0 } := by
    show (if s < text.size then _ else _) = _
    rw [if_neg h]
    rfl
  refine ⟨_, rfl, ?_⟩
  rw [runFor_succ, if_neg (by exact Bool.false_ne_true), e]
  rfl
/-- where the first pattern is found -/
noncomputable def find1 (text : Array Nat) : Nat → Nat → Option Nat
  | 0, _ => none
  | k + 1, s => if (s == 0 || text.getD (s - 1) 0 == 10) && text.getD s 0 == 46 then some s else find1 text k (s + 1)
noncomputable def Ends1 (m : M) (r : Option Nat) : Prop := match r with
  | none => m.outcome = some .failed
  | some p => m.outcome = some .matched ∧ m.start = p ∧ m.handed = p + 1
theorem S1_open (text : Array Nat) (s : Nat) (seen : Sre.Seen) (om : Bool) (n : Nat) : M.runFor (n + 1) (S1 text s seen om) = M.runFor n (M.step (S1 text s seen om)) := rfl
theorem run1 (text : Array Nat) : ∀ k s seen om, s + k = text.size → ∃ n, n ≤ 4 * k + 6 ∧ Ends1 (M.runFor n (S1 text s seen om)) (find1 text k s) := by
  intro k
  induction k with
  | zero =>
    intro s seen om hs
    show ∃ n, n ≤ 6 ∧ (M.runFor n (S1 text s seen om)).outcome = some .failed
    cases hb : (s == 0 || text.getD (s - 1) 0 == 10)
    · obtain ⟨m, e, ho⟩ := back_end (pc := 5) (seen := (seen.add 6).add 44) (om := om) (show ¬ s < text.size by omega)
      refine ⟨3, by omega, ?_⟩
      rw [S1_open, step1_no hb]
      have : M.runFor 2 ({ S1 text s ((seen.add 6).add 44) om with answer := some false }) = m := e
      rw [this]; exact ho
    · obtain ⟨m, e, ho⟩ := back_end (pc := 7) (seen := ((seen.add 6).add 44).add 16) (om := om) (show ¬ s < text.size by omega)
      refine ⟨4, by omega, ?_⟩
      rw [S1_open, step1_yes hb]
      have e2 : M.runFor 3 ({ S1 text s ((seen.add 6).add 44) om with pc := 7 }) = M.runFor 2 (M.step ({ S1 text s ((seen.add 6).add 44) om with pc := 7 })) := rfl
      rw [e2, step2_end (by omega), e]; exact ho
  | succ k ih =>
    intro s seen om hs
    unfold find1
    cases hb : (s == 0 || text.getD (s - 1) 0 == 10)
    · obtain ⟨n, hn, he⟩ := ih (s + 1) ((seen.add 6).add 44) false (by omega)
      refine ⟨n + 2, by omega, ?_⟩
      rw [S1_open, step1_no hb]
      have e2 : M.runFor (n + 1) ({ S1 text s ((seen.add 6).add 44) om with answer := some false }) = M.runFor n (M.step ({ S1 text s ((seen.add 6).add 44) om with answer := some false })) := rfl
      have e3 : M.step ({ S1 text s ((seen.add 6).add 44) om with answer := some false }) = _ := back_more (pc := 5) (by omega)
      rw [e2, e3]
      simpa using he
    · cases hc : (text.getD s 0 == 46)
      · obtain ⟨n, hn, he⟩ := ih (s + 1) (((seen.add 6).add 44).add 16) false (by omega)
        refine ⟨n + 3, by omega, ?_⟩
        rw [S1_open, step1_yes hb]
        have e2 : M.runFor (n + 2) ({ S1 text s ((seen.add 6).add 44) om with pc := 7 }) = M.runFor (n + 1) (M.step ({ S1 text s ((seen.add 6).add 44) om with pc := 7 })) := rfl
        rw [e2, step2_no (by omega) hc]
        have e3 : M.runFor (n + 1) ({ S1 text s (((seen.add 6).add 44).add 16) om with pc := 7, answer := some false }) = M.runFor n (M.step ({ S1 text s (((seen.add 6).add 44).add 16) om with pc := 7, answer := some false })) := rfl
        rw [e3, back_more (by omega)]
        simpa using he
      · refine ⟨5, by omega, ?_⟩
        rw [S1_open, step1_yes hb]
        have e2 : M.runFor 4 ({ S1 text s ((seen.add 6).add 44) om with pc := 7 }) = M.runFor 3 (M.step ({ S1 text s ((seen.add 6).add 44) om with pc := 7 })) := rfl
        rw [e2, step2_yes (by omega) hc]
        have e3 : M.runFor 3 ({ S1 text s (((seen.add 6).add 44).add 16) om with pc := 9, pos := s + 1 }) = M.runFor 2 (M.step ({ S1 text s (((seen.add 6).add 44).add 16) om with pc := 9, pos := s + 1 })) := rfl
        rw [e3, step3_yes]
        obtain ⟨m, e, h1, h2, h3⟩ := back_yes (text := text) (s := s) (seen := (((seen.add 6).add 44).add 16).add 1) (om := om)
        rw [e]
        simp only [Bool.and_self, if_true]
        exact ⟨h1, h2, h3⟩
theorem next1 {text : Array Nat} {d : Nat} (h : d < text.size) (ht : text.size ≤ 900) : nextP code1 text d false = some ((find1 text (text.size - d) d).map fun p => (p, p + 1)) := by
  obtain ⟨seen, e⟩ := start1 text d h
  obtain ⟨n, hn, he⟩ := run1 text (text.size - d) d seen true (by omega)
  unfold nextP
  rw [e]
  have hfin : M.runFor 4000 (S1 text d seen true) = M.runFor n (S1 text d seen true) := by
    have : 4000 = n + (4000 - n) := by omega
    rw [this, runFor_add, runFor_done]
    cases hf : find1 text (text.size - d) d with
    | none => rw [hf] at he; rw [show (M.runFor n (S1 text d seen true)).outcome = _ from he]; rfl
    | some p => rw [hf] at he; rw [he.1]; rfl
  rw [hfin]
  generalize M.runFor n (S1 text d seen true) = m at he
  cases hf : find1 text (text.size - d) d with
  | none => rw [hf] at he; have he : m.outcome = _ := he; simp only [he]; rfl
  | some p => rw [hf] at he; obtain ⟨h1, h2, h3⟩ := he; simp only [h1, h2, h3]; rfl
theorem next1_end {text : Array Nat} {d : Nat} (h : ¬ d < text.size) : nextP code1 text d false = some none := by
  have h1 : (decide (d > text.size) || decide (text.size - d < 1)) = true := by simp; omega
  unfold nextP Sre.forSearch
  show (match (M.runFor 4000 (if (decide (d > text.size) || decide (text.size - d < 1)) = true then _ else _)).outcome with | some .matched => _ | some .failed => _ | _ => _) = _
  rw [h1]
  rfl
/-- the second pattern -/
noncomputable def S2 (text : Array Nat) (s : Nat) (seen : Sre.Seen) (om : Bool) : M :=
  { code := code2, text, lim := text.size, start := s, lastStart := text.size, pc := 10, pos := s, handed := s, outermost := om, marks := #[], weight := 1,
    frames := [{ wait := .nextStart, pc := 10, pos := s, outermost := om }], seen }
noncomputable def T2 (text : Array Nat) (s : Nat) (seen : Sre.Seen) (om : Bool) (alt : Nat) : M :=
  { S2 text s seen om with pc := alt + 1, weight := 2, frames := [{ wait := .nextBranch, pc := alt, pos := s, outermost := om }, { wait := .nextStart, pc := 10, pos := s, outermost := om }] }
theorem br0 {text : Array Nat} {p : Nat} {seen : Sre.Seen} {om : Bool} : M.step (S2 text p seen om) = T2 text p (seen.add 7) om 11 := rfl
theorem fail1 {text : Array Nat} {p q pc : Nat} {seen : Sre.Seen} {om : Bool} : M.step { T2 text p seen om 11 with pc := pc, pos := q, answer := some false } = T2 text p seen om 18 := rfl
theorem fail2 {text : Array Nat} {p q pc : Nat} {seen : Sre.Seen} {om : Bool} : M.step { T2 text p seen om 18 with pc := pc, pos := q, answer := some false } = T2 text p seen om 23 := rfl
theorem a13y {text : Array Nat} {p : Nat} {seen : Sre.Seen} {om : Bool} (h : p < text.size) (h2 : (text.getD (p) 0 == 13) = true) :
    M.step ({ T2 text p seen om 11 with pc := 12, pos := p }) = { T2 text p (seen.add 16) om 11 with pc := 14, pos := p + 1 } := by
  show (if p ≥ text.size then _ else match (Except.ok (text.getD (p) 0 == 13, seen.add 16) : Except String (Bool × Sre.Seen)) with
    | .error why => M.stick _ why
    | .ok (false, seen) => _
    | .ok (true, seen) => _) = _
  rw [if_neg (by omega), h2]
  rfl
theorem a13n {text : Array Nat} {p : Nat} {seen : Sre.Seen} {om : Bool} (h : p < text.size) (h2 : (text.getD (p) 0 == 13) = false) :
    M.step ({ T2 text p seen om 11 with pc := 12, pos := p }) = { T2 text p (seen.add 16) om 11 with pc := 12, pos := p, answer := some false } := by
  show (if p ≥ text.size then _ else match (Except.ok (text.getD (p) 0 == 13, seen.add 16) : Except String (Bool × Sre.Seen)) with
    | .error why => M.stick _ why
    | .ok (false, seen) => _
    | .ok (true, seen) => _) = _
  rw [if_neg (by omega), h2]
  rfl
theorem a10y {text : Array Nat} {p : Nat} {seen : Sre.Seen} {om : Bool} (h : p + 1 < text.size) (h2 : (text.getD (p + 1) 0 == 10) = true) :
    M.step ({ T2 text p seen om 11 with pc := 14, pos := p + 1 }) = { T2 text p (seen.add 16) om 11 with pc := 16, pos := p + 2 } := by
  show (if p + 1 ≥ text.size then _ else match (Except.ok (text.getD (p + 1) 0 == 10, seen.add 16) : Except String (Bool × Sre.Seen)) with
    | .error why => M.stick _ why
    | .ok (false, seen) => _
    | .ok (true, seen) => _) = _
  rw [if_neg (by omega), h2]
  rfl
theorem a10n {text : Array Nat} {p : Nat} {seen : Sre.Seen} {om : Bool} (h : p + 1 < text.size) (h2 : (text.getD (p + 1) 0 == 10) = false) :
    M.step ({ T2 text p seen om 11 with pc := 14, pos := p + 1 }) = { T2 text p (seen.add 16) om 11 with pc := 14, pos := p + 1, answer := some false } := by
  show (if p + 1 ≥ text.size then _ else match (Except.ok (text.getD (p + 1) 0 == 10, seen.add 16) : Except String (Bool × Sre.Seen)) with
    | .error why => M.stick _ why
    | .ok (false, seen) => _
    | .ok (true, seen) => _) = _
  rw [if_neg (by omega), h2]
  rfl
theorem a10e {text : Array Nat} {p : Nat} {seen : Sre.Seen} {om : Bool} (h : text.size ≤ p + 1) :
    M.step ({ T2 text p seen om 11 with pc := 14, pos := p + 1 }) = { T2 text p (seen.add 16) om 11 with pc := 14, pos := p + 1, answer := some false } := by
  show (if p + 1 ≥ text.size then _ else _) = _
  rw [if_pos h]
  rfl
theorem b10y {text : Array Nat} {p : Nat} {seen : Sre.Seen} {om : Bool} (h : p < text.size) (h2 : (text.getD (p) 0 == 10) = true) :
    M.step ({ T2 text p seen om 18 with pc := 19, pos := p }) = { T2 text p (seen.add 16) om 18 with pc := 21, pos := p + 1 } := by
  show (if p ≥ text.size then _ else match (Except.ok (text.getD (p) 0 == 10, seen.add 16) : Except String (Bool × Sre.Seen)) with
    | .error why => M.stick _ why
    | .ok (false, seen) => _
    | .ok (true, seen) => _) = _
  rw [if_neg (by omega), h2]
  rfl
theorem b10n {text : Array Nat} {p : Nat} {seen : Sre.Seen} {om : Bool} (h : p < text.size) (h2 : (text.getD (p) 0 == 10) = false) :
    M.step ({ T2 text p seen om 18 with pc := 19, pos := p }) = { T2 text p (seen.add 16) om 18 with pc := 19, pos := p, answer := some false } := by
  show (if p ≥ text.size then _ else match (Except.ok (text.getD (p) 0 == 10, seen.add 16) : Except String (Bool × Sre.Seen)) with
    | .error why => M.stick _ why
    | .ok (false, seen) => _
    | .ok (true, seen) => _) = _
  rw [if_neg (by omega), h2]
  rfl
theorem c13y {text : Array Nat} {p : Nat} {seen : Sre.Seen} {om : Bool} (h : p < text.size) (h2 : (text.getD (p) 0 == 13) = true) :
    M.step ({ T2 text p seen om 23 with pc := 24, pos := p }) = { T2 text p (seen.add 16) om 23 with pc := 26, pos := p + 1 } := by
  show (if p ≥ text.size then _ else match (Except.ok (text.getD (p) 0 == 13, seen.add 16) : Except String (Bool × Sre.Seen)) with
    | .error why => M.stick _ why
    | .ok (false, seen) => _
    | .ok (true, seen) => _) = _
  rw [if_neg (by omega), h2]
  rfl

theorem look0 {text : Array Nat} {p : Nat} {seen : Sre.Seen} {om : Bool} : M.step { T2 text p seen om 23 with pc := 26, pos := p + 1 } = { T2 text p (seen.add 5) om 23 with pc := 29, pos := p + 1, handed := p + 1, outermost := false, weight := 3, frames := { wait := .lookNot, pc := 26, pos := p + 1, outermost := om } :: (T2 text p seen om 23).frames } := rfl
theorem d10n {text : Array Nat} {p : Nat} {seen : Sre.Seen} {om : Bool} (h : p + 1 < text.size) (h2 : (text.getD (p + 1) 0 == 10) = false) :
    M.step ({ T2 text p seen om 23 with pc := 29, pos := p + 1, handed := p + 1, outermost := false, weight := 3, frames := { wait := .lookNot, pc := 26, pos := p + 1, outermost := om } :: (T2 text p seen om 23).frames }) = { T2 text p (seen.add 16) om 23 with pc := 29, pos := p + 1, handed := p + 1, outermost := false, weight := 3, frames := { wait := .lookNot, pc := 26, pos := p + 1, outermost := om } :: (T2 text p seen om 23).frames, answer := some false } := by
  show (if p + 1 ≥ text.size then _ else match (Except.ok (text.getD (p + 1) 0 == 10, seen.add 16) : Except String (Bool × Sre.Seen)) with
    | .error why => M.stick _ why
    | .ok (false, seen) => _
    | .ok (true, seen) => _) = _
  rw [if_neg (by omega), h2]
  rfl
theorem d10e {text : Array Nat} {p : Nat} {seen : Sre.Seen} {om : Bool} (h : text.size ≤ p + 1) :
    M.step ({ T2 text p seen om 23 with pc := 29, pos := p + 1, handed := p + 1, outermost := false, weight := 3, frames := { wait := .lookNot, pc := 26, pos := p + 1, outermost := om } :: (T2 text p seen om 23).frames }) = { T2 text p (seen.add 16) om 23 with pc := 29, pos := p + 1, handed := p + 1, outermost := false, weight := 3, frames := { wait := .lookNot, pc := 26, pos := p + 1, outermost := om } :: (T2 text p seen om 23).frames, answer := some false } := by
  show (if p + 1 ≥ text.size then _ else _) = _
  rw [if_pos h]
  rfl

theorem look1 {text : Array Nat} {p : Nat} {seen : Sre.Seen} {om : Bool} : M.step { T2 text p seen om 23 with pc := 29, pos := p + 1, handed := p + 1, outermost := false, weight := 3, frames := { wait := .lookNot, pc := 26, pos := p + 1, outermost := om } :: (T2 text p seen om 23).frames, answer := some false } = { T2 text p seen om 23 with pc := 32, pos := p + 1, handed := p + 1 } := rfl
noncomputable def Ends2 (m : M) (p e : Nat) : Prop := m.outcome = some .matched ∧ m.start = p ∧ m.handed = e
theorem jump11 {text : Array Nat} {p q : Nat} {seen : Sre.Seen} {om : Bool} : M.step { T2 text p seen om 11 with pc := 16, pos := q } = { T2 text p (seen.add 15) om 11 with pc := 35, pos := q } := rfl
theorem jump18 {text : Array Nat} {p q : Nat} {seen : Sre.Seen} {om : Bool} : M.step { T2 text p seen om 18 with pc := 21, pos := q } = { T2 text p (seen.add 15) om 18 with pc := 35, pos := q } := rfl
theorem jump23 {text : Array Nat} {p q : Nat} {seen : Sre.Seen} {om : Bool} : M.step { T2 text p seen om 23 with pc := 32, pos := q, handed := q } = { T2 text p (seen.add 15) om 23 with pc := 35, pos := q, handed := q } := rfl
theorem succ35 {text : Array Nat} {p q hh alt : Nat} {seen : Sre.Seen} {om : Bool} : M.step { T2 text p seen om alt with pc := 35, pos := q, handed := hh } = { T2 text p (seen.add 1) om alt with pc := 35, pos := q, handed := q, answer := some true } := by
  show (if (om && ((false && q != text.size) || (false && q == p))) = true then _ else _) = _
  rw [if_neg (by simp)]
  rfl
theorem end35 {text : Array Nat} {p q alt : Nat} {seen : Sre.Seen} {om : Bool} : Ends2 (M.runFor 3 { T2 text p seen om alt with pc := 35, pos := q, handed := q, answer := some true }) p q := ⟨rfl, rfl, rfl⟩
theorem open2 {m : M} (h : m.outcome = none) (n : Nat) : M.runFor (n + 1) m = M.runFor n (M.step m) := by rw [runFor_succ, if_neg (by rw [h]; exact Bool.false_ne_true)]
theorem fin11 {text : Array Nat} {p q : Nat} {seen : Sre.Seen} {om : Bool} : Ends2 (M.runFor 5 { T2 text p seen om 11 with pc := 16, pos := q }) p q := by
  rw [open2 rfl, jump11, open2 rfl]
  have e := succ35 (text := text) (p := p) (q := q) (hh := p) (alt := 11) (seen := seen.add 15) (om := om)
  exact (congrArg (fun m => Ends2 (M.runFor 3 m) p q) e).mpr end35
theorem fin18 {text : Array Nat} {p q : Nat} {seen : Sre.Seen} {om : Bool} : Ends2 (M.runFor 5 { T2 text p seen om 18 with pc := 21, pos := q }) p q := by
  rw [open2 rfl, jump18, open2 rfl]
  have e := succ35 (text := text) (p := p) (q := q) (hh := p) (alt := 18) (seen := seen.add 15) (om := om)
  exact (congrArg (fun m => Ends2 (M.runFor 3 m) p q) e).mpr end35
theorem fin23 {text : Array Nat} {p q : Nat} {seen : Sre.Seen} {om : Bool} : Ends2 (M.runFor 5 { T2 text p seen om 23 with pc := 32, pos := q, handed := q }) p q := by
  rw [open2 rfl, jump23, open2 rfl, succ35]
  exact end35
noncomputable def len2 (text : Array Nat) (p : Nat) : Nat := if text.getD p 0 == 13 && decide (p + 1 < text.size) && text.getD (p + 1) 0 == 10 then 2 else 1
theorem run2 {text : Array Nat} {p : Nat} {seen : Sre.Seen} {om : Bool} (h : p < text.size) (hc : text.getD p 0 = 10 ∨ text.getD p 0 = 13) : ∃ n, n ≤ 20 ∧ Ends2 (M.runFor n (S2 text p seen om)) p (p + len2 text p) := by
  rcases hc with hc | hc
  · have h13 : (text.getD p 0 == 13) = false := by rw [hc]; rfl
    have h10 : (text.getD p 0 == 10) = true := by rw [hc]; rfl
    have e : p + len2 text p = p + 1 := by unfold len2; rw [h13]; rfl
    refine ⟨5 + 4, by omega, ?_⟩
    rw [e, open2 rfl, br0, open2 rfl]
    have e1 := a13n (seen := seen.add 7) (om := om) h h13
    have e2 := fail1 (text := text) (p := p) (q := p) (pc := 12) (seen := (seen.add 7).add 16) (om := om)
    have e3 := b10y (seen := (seen.add 7).add 16) (om := om) h h10
    refine (congrArg (fun m => Ends2 (M.runFor (5 + 2) m) p (p + 1)) e1).mpr ?_
    rw [open2 rfl]
    refine (congrArg (fun m => Ends2 (M.runFor (5 + 1) m) p (p + 1)) e2).mpr ?_
    rw [open2 rfl]
    refine (congrArg (fun m => Ends2 (M.runFor 5 m) p (p + 1)) e3).mpr ?_
    exact fin18
  · have h13 : (text.getD p 0 == 13) = true := by rw [hc]; rfl
    have h10 : (text.getD p 0 == 10) = false := by rw [hc]; rfl
    have e1 := a13y (seen := seen.add 7) (om := om) h h13
    by_cases hA : p + 1 < text.size ∧ (text.getD (p + 1) 0 == 10) = true
    · have e : p + len2 text p = p + 2 := by unfold len2; rw [h13, hA.2]; simp [hA.1]
      have e2 := a10y (seen := (seen.add 7).add 16) (om := om) hA.1 hA.2
      refine ⟨5 + 3, by omega, ?_⟩
      rw [e, open2 rfl, br0, open2 rfl]
      refine (congrArg (fun m => Ends2 (M.runFor (5 + 1) m) p (p + 2)) e1).mpr ?_
      rw [open2 rfl]
      refine (congrArg (fun m => Ends2 (M.runFor 5 m) p (p + 2)) e2).mpr ?_
      exact fin11
    · have e : p + len2 text p = p + 1 := by
        unfold len2
        rw [if_neg]
        simp only [Bool.and_eq_true, decide_eq_true_eq]
        exact fun q => hA ⟨q.1.2, q.2⟩
      have hcase : text.size ≤ p + 1 ∨ (p + 1 < text.size ∧ (text.getD (p + 1) 0 == 10) = false) := by
        by_cases hz : p + 1 < text.size
        · exact .inr ⟨hz, by cases hv : (text.getD (p + 1) 0 == 10); rfl; exact absurd ⟨hz, hv⟩ hA⟩
        · exact .inl (by omega)
      have e2 : M.step { T2 text p ((seen.add 7).add 16) om 11 with pc := 14, pos := p + 1 } = { T2 text p (((seen.add 7).add 16).add 16) om 11 with pc := 14, pos := p + 1, answer := some false } := by
        rcases hcase with hz | hz
        · exact a10e hz
        · exact a10n hz.1 hz.2
      have e3 := fail1 (text := text) (p := p) (q := p + 1) (pc := 14) (seen := ((seen.add 7).add 16).add 16) (om := om)
      have e4 := b10n (seen := ((seen.add 7).add 16).add 16) (om := om) h h10
      have e5 := fail2 (text := text) (p := p) (q := p) (pc := 19) (seen := (((seen.add 7).add 16).add 16).add 16) (om := om)
      have e6 := c13y (seen := (((seen.add 7).add 16).add 16).add 16) (om := om) h h13
      have e7 := look0 (text := text) (p := p) (seen := ((((seen.add 7).add 16).add 16).add 16).add 16) (om := om)
      have e8 : ∀ sn, M.step { T2 text p sn om 23 with pc := 29, pos := p + 1, handed := p + 1, outermost := false, weight := 3, frames := { wait := .lookNot, pc := 26, pos := p + 1, outermost := om } :: (T2 text p sn om 23).frames } =
          { T2 text p (sn.add 16) om 23 with pc := 29, pos := p + 1, handed := p + 1, outermost := false, weight := 3, frames := { wait := .lookNot, pc := 26, pos := p + 1, outermost := om } :: (T2 text p sn om 23).frames, answer := some false } := fun sn => by
        rcases hcase with hz | hz
        · exact d10e hz
        · exact d10n hz.1 hz.2
      refine ⟨5 + 10, by omega, ?_⟩
      rw [e, open2 rfl, br0, open2 rfl]
      refine (congrArg (fun m => Ends2 (M.runFor (5 + 8) m) p (p + 1)) e1).mpr ?_
      rw [open2 rfl]
      refine (congrArg (fun m => Ends2 (M.runFor (5 + 7) m) p (p + 1)) e2).mpr ?_
      rw [open2 rfl]
      refine (congrArg (fun m => Ends2 (M.runFor (5 + 6) m) p (p + 1)) e3).mpr ?_
      rw [open2 rfl]
      refine (congrArg (fun m => Ends2 (M.runFor (5 + 5) m) p (p + 1)) e4).mpr ?_
      rw [open2 rfl]
      refine (congrArg (fun m => Ends2 (M.runFor (5 + 4) m) p (p + 1)) e5).mpr ?_
      rw [open2 rfl]
      refine (congrArg (fun m => Ends2 (M.runFor (5 + 3) m) p (p + 1)) e6).mpr ?_
      rw [open2 rfl]
      refine (congrArg (fun m => Ends2 (M.runFor (5 + 2) m) p (p + 1)) e7).mpr ?_
      rw [open2 rfl]
      refine (congrArg (fun m => Ends2 (M.runFor (5 + 1) m) p (p + 1)) (e8 _)).mpr ?_
      rw [open2 rfl]
      refine (congrArg (fun m => Ends2 (M.runFor (5) m) p (p + 1)) look1).mpr ?_
      exact fin23
theorem inSet2 (c : Nat) (seen : Sre.Seen) : ∃ seen', Sre.inSet code2 c 36 5 true seen = .ok (c == 10 || c == 13, seen') := by
  show ∃ seen', (if (c == 10) = true then (.ok (true, seen.add 16) : Except String (Bool × Sre.Seen)) else if (c == 13) = true then .ok (true, (seen.add 16).add 16) else .ok (false, ((seen.add 16).add 16).add 0)) = _
  cases c == 10
  · cases c == 13
    · exact ⟨_, rfl⟩
    · exact ⟨_, rfl⟩
  · exact ⟨_, rfl⟩
noncomputable def find2 (text : Array Nat) : Nat → Nat → Option Nat
  | 0, _ => none
  | k + 1, s => if text.getD s 0 == 10 || text.getD s 0 == 13 then some s else find2 text k (s + 1)
theorem find2_spec {text : Array Nat} : ∀ k s p, find2 text k s = some p → p < s + k ∧ (text.getD p 0 = 10 ∨ text.getD p 0 = 13)
  | 0, _, _, h => by cases h
  | k + 1, s, p, h => by
    unfold find2 at h
    by_cases hc : (text.getD s 0 == 10 || text.getD s 0 == 13) = true
    · rw [if_pos hc] at h; cases h
      simp only [Bool.or_eq_true, beq_iff_eq] at hc
      exact ⟨by omega, hc⟩
    · rw [if_neg hc] at h
      have := find2_spec k (s + 1) p h
      exact ⟨by omega, this.2⟩
theorem admit2 {m : M} {text : Array Nat} (hcode : m.code = code2) (ht : m.text = text) (hl : m.lim = text.size) : ∀ fuel k s seen, s + k = text.size → k < fuel → ∃ seen', M.admitted m fuel s seen = .ok (find2 text k s, seen')
  | 0, _, _, _, _, h => absurd h (Nat.not_lt_zero _)
  | fuel + 1, 0, s, seen, hs, _ => by
    unfold M.admitted
    rw [hl, if_pos (by omega)]
    exact ⟨_, rfl⟩
  | fuel + 1, k + 1, s, seen, hs, hf => by
    unfold M.admitted
    obtain ⟨seen1, e⟩ := inSet2 (text.getD s 0) seen
    rw [hl, if_neg (by omega), hcode, ht, show code2.size = 36 from rfl, e]
    unfold find2
    cases hc : (text.getD s 0 == 10 || text.getD s 0 == 13)
    · exact admit2 hcode ht hl fuel k (s + 1) seen1 (by omega) (by omega)
    · exact ⟨_, rfl⟩
/-- before the first try -/
noncomputable def P2 (text : Array Nat) (d : Nat) : M :=
  { code := code2, text, lim := text.size, start := d, lastStart := text.size, pc := 10, pos := d, handed := d, marks := #[], seen := ({} : Sre.Seen).add 14 }
theorem start2 (text : Array Nat) (d : Nat) (h : d < text.size) : Sre.forSearch code2 text 0 d text.size false = (match M.admitted (P2 text d) (text.size + 1 - d) d (({} : Sre.Seen).add 14) with
    | .ok (some s, seen) => S2 text s seen true
    | .ok (none, seen) => { P2 text d with seen := seen, answer := some false }
    | .error why => (P2 text d).stick why) := by
  have h1 : (decide (d > text.size) || decide (text.size - d < 1)) = false := by simp; omega
  unfold Sre.forSearch
  show (if (decide (d > text.size) || decide (text.size - d < 1)) = true then _ else _) = _
  rw [h1]
  rfl
theorem next2 {text : Array Nat} {d : Nat} (h : d < text.size) : nextP code2 text d false = some ((find2 text (text.size - d) d).map fun p => (p, p + len2 text p)) := by
  obtain ⟨seen, e⟩ := admit2 (m := P2 text d) (text := text) rfl rfl rfl (text.size + 1 - d) (text.size - d) d (({} : Sre.Seen).add 14) (by omega) (by omega)
  unfold nextP
  rw [start2 text d h, e]
  cases hf : find2 text (text.size - d) d with
  | none => rfl
  | some p =>
    have hp := find2_spec _ _ _ hf
    obtain ⟨n, hn, he⟩ := run2 (text := text) (p := p) (seen := seen) (om := true) (by omega) hp.2
    have hfin : M.runFor 4000 (S2 text p seen true) = M.runFor n (S2 text p seen true) := by
      have : 4000 = n + (4000 - n) := by omega
      rw [this, runFor_add, runFor_done]
      rw [he.1]; rfl
    dsimp only
    rw [hfin]
    generalize M.runFor n (S2 text p seen true) = m at he
    obtain ⟨h1, h2, h3⟩ := he
    simp only [h1, h2, h3]
    rfl
theorem next2_end {text : Array Nat} {d : Nat} (h : ¬ d < text.size) : nextP code2 text d false = some none := by
  have h1 : (decide (d > text.size) || decide (text.size - d < 1)) = true := by simp; omega
  unfold nextP Sre.forSearch
  show (match (M.runFor 4000 (if (decide (d > text.size) || decide (text.size - d < 1)) = true then _ else _)).outcome with | some .matched => _ | some .failed => _ | _ => _) = _
  rw [h1]
  rfl
noncomputable def nextS1 (text : Array Nat) (d : Nat) : Option (Nat × Nat) := if d < text.size then (find1 text (text.size - d) d).map fun p => (p, p + 1) else none
noncomputable def nextS2 (text : Array Nat) (d : Nat) : Option (Nat × Nat) := if d < text.size then (find2 text (text.size - d) d).map fun p => (p, p + len2 text p) else none
theorem nextS1_eq {text : Array Nat} {d : Nat} (ht : text.size ≤ 900) : nextP code1 text d false = some (nextS1 text d) := by
  unfold nextS1
  by_cases h : d < text.size
  · rw [if_pos h]; exact next1 h ht
  · rw [if_neg h]; exact next1_end h
theorem nextS2_eq {text : Array Nat} {d : Nat} : nextP code2 text d false = some (nextS2 text d) := by
  unfold nextS2
  by_cases h : d < text.size
  · rw [if_pos h]; exact next2 h
  · rw [if_neg h]; exact next2_end h
noncomputable def subS (text : Array Nat) (repl : Str) (nx : Nat → Option (Nat × Nat)) : Nat → Nat → Option (List Str)
  | 0, _ => none
  | f + 1, d => match nx d with
    | none => some (if d < text.size then [⟨text.extract d text.size⟩] else [])
    | some (a, b) => (subS text repl nx f b).map fun r => (if d < a then [⟨text.extract d a⟩] else []) ++ (repl :: r)
theorem subS_eq {code text : Array Nat} {repl : Str} {nx : Nat → Option (Nat × Nat)} (h : ∀ d, nextP code text d false = some (nx d)) (hb : ∀ d a b, nx d = some (a, b) → a < b) : ∀ f d, subP code text repl f d false = subS text repl nx f d
  | 0, _ => rfl
  | f + 1, d => by
    unfold subP subS
    rw [h d]
    cases hn : nx d with
    | none => rfl
    | some ab =>
      obtain ⟨a, b⟩ := ab
      dsimp only
      have : (b == a) = false := by have := hb d a b hn; simp; omega
      rw [this, subS_eq h hb f b]
theorem lt1 {text : Array Nat} : ∀ d a b, nextS1 text d = some (a, b) → a < b := by
  intro d a b h
  unfold nextS1 at h
  split at h
  · obtain ⟨p, _, e⟩ := Option.map_eq_some_iff.mp h; cases e; omega
  · cases h
theorem lt2 {text : Array Nat} : ∀ d a b, nextS2 text d = some (a, b) → a < b := by
  intro d a b h
  unfold nextS2 at h
  split at h
  · obtain ⟨p, _, e⟩ := Option.map_eq_some_iff.mp h
    have hl : 1 ≤ len2 text p := by unfold len2; split <;> omega
    simp only [Prod.mk.injEq] at e
    omega
  · cases h
end Mine
end

section
theorem Mine.woff_QuoL {M : PySem.Model} {A : PySem.Around} {E Q : PySem.Value → PySem.Shared → Prop} {s : PySem.Shared} (h : PySem.wpAny M A (PySem.call (.builtin "no") []) Q E s) : PySem.wpAny M A (PySem.call (.builtin "no") []) Q E s := by
  w_top off
  first | (walk1; fail) | exact h
open PySem PySem.W PyProof.Rows PySem.Calls PySem.Spec
set_option maxRecDepth 100000
namespace Mine
/-- the second pattern's substitution on lists of signs (the mark: a return was just ahead) -/
noncomputable def f2 : Bool → List Nat → List Nat
  | _, [] => []
  | b, c :: r => if c == 13 then 13 :: 10 :: f2 true r else if c == 10 then (if b then [] else [13, 10]) ++ f2 false r else c :: f2 false r
theorem f2_mark {l : List Nat} (h : (l.head? == some 10) = false) : f2 true l = f2 false l := by
  cases l with
  | nil => rfl
  | cons c r =>
    have h10 : (c == 10) = false := h
    unfold f2
    rw [h10]
    simp
/-- the first pattern's -/
noncomputable def f1 : Bool → List Nat → List Nat
  | _, [] => []
  | b, c :: r => (if b && c == 46 then [46, 46] else [c]) ++ f1 (c == 10) r
theorem drop_at {text : Array Nat} {s : Nat} (h : s < text.size) : text.toList.drop s = text.getD s 0 :: text.toList.drop (s + 1) := by
  rw [List.drop_eq_getElem_cons (by simpa using h)]
  simp [h]
theorem drop_end {text : Array Nat} {s : Nat} (h : text.size ≤ s) : text.toList.drop s = [] := List.drop_eq_nil_of_le (by simpa using h)
/-- the texts of the pieces, one behind the other -/
noncomputable def flat (l : List Str) : List Nat := l.flatMap fun x => x.cps.toList
theorem flat_cons (x : Str) (l : List Str) : flat (x :: l) = x.cps.toList ++ flat l := by simp [flat]
theorem flat_app (a b : List Str) : flat (a ++ b) = flat a ++ flat b := by simp [flat]
theorem piece (text : Array Nat) (d a : Nat) : flat (if d < a then [(⟨text.extract d a⟩ : Str)] else []) = (text.toList.drop d).take (a - d) := by
  by_cases hd : d < a
  · rw [if_pos hd]; simp [flat, Array.toList_extract, List.extract]
  · rw [if_neg hd, show a - d = 0 from Nat.sub_eq_zero_of_le (Nat.le_of_not_lt hd)]; simp [flat]
theorem find2_ge {text : Array Nat} : ∀ k s p, find2 text k s = some p → s ≤ p
  | 0, _, _, h => by cases h
  | k + 1, s, p, h => by
    unfold find2 at h
    split at h
    · cases h; exact Nat.le_refl _
    · exact Nat.le_of_succ_le (find2_ge k (s + 1) p h)
theorem find2_f2 (text : Array Nat) : ∀ k s, s + k = text.size → f2 false (text.toList.drop s) = match find2 text k s with
    | none => text.toList.drop s
    | some p => (text.toList.drop s).take (p - s) ++ f2 false (text.toList.drop p)
  | 0, s, h => by rw [drop_end (show text.size ≤ s from Nat.le_of_eq h.symm)]; rfl
  | k + 1, s, h => by
    unfold find2
    cases hc : (text.getD s 0 == 10 || text.getD s 0 == 13)
    · have ih := find2_f2 text k (s + 1) (sk1 h)
      have h13 : (text.getD s 0 == 13) = false := by
        cases h3 : (text.getD s 0 == 13); rfl; rw [h3, Bool.or_true] at hc; cases hc
      have h10 : (text.getD s 0 == 10) = false := by
        cases h3 : (text.getD s 0 == 10); rfl; rw [h3, Bool.true_or] at hc; cases hc
      rw [drop_at (sk2 h), f2, h13, h10]
      simp only [Bool.false_eq_true, if_false]
      rw [ih]
      cases hf : find2 text k (s + 1) with
      | none => rfl
      | some p =>
        have hp : s + 1 ≤ p := find2_ge k (s + 1) p hf
        dsimp only
        rw [show p - s = (p - (s + 1)) + 1 from decr hp, List.take_succ_cons]
        rfl
    · simp
theorem subS_f2 {text : Array Nat} : ∀ f d, text.size - d < f → ∃ r, subS text (Str.ofString "\r\n") (nextS2 text) f d = some r ∧ flat r = f2 false (text.toList.drop d)
  | 0, _, h => absurd h (Nat.not_lt_zero _)
  | f + 1, d, h => by
    by_cases hd : d < text.size
    · have key := find2_f2 text (text.size - d) d (Nat.add_sub_of_le (Nat.le_of_lt hd))
      have hnx : nextS2 text d = (find2 text (text.size - d) d).map fun p => (p, p + len2 text p) := by unfold nextS2; rw [if_pos hd]
      unfold subS
      rw [hnx]
      cases hf : find2 text (text.size - d) d with
      | none =>
        rw [hf] at key
        refine ⟨_, rfl, ?_⟩
        rw [piece _ _ _, key, List.take_of_length_le (by simp)]
      | some p =>
        rw [hf] at key
        have hp := find2_spec _ _ _ hf
        have hge := find2_ge _ _ _ hf
        have hl : 1 ≤ len2 text p := by unfold len2; split <;> omega
        obtain ⟨r, hr, hfl⟩ := subS_f2 (text := text) f (p + len2 text p) (step_lt h hd (Nat.lt_of_le_of_lt hge (Nat.lt_add_of_pos_right hl)))
        refine ⟨_, by dsimp only [Option.map_some]; rw [hr]; rfl, ?_⟩
        rw [flat_app, flat_cons, piece, key, hfl]
        congr 1
        have hps : p < text.size := Nat.lt_of_lt_of_eq hp.1 (Nat.add_sub_of_le (Nat.le_of_lt hd))
        rw [drop_at hps, f2]
        unfold len2
        cases h13 : (text.getD p 0 == 13)
        · have h10 : (text.getD p 0 == 10) = true := by
            rcases hp.2 with h1 | h1
            · rw [h1]; rfl
            · rw [h1] at h13; cases h13
          simp only [Bool.false_and, Bool.false_eq_true, if_false, h10, if_true]
          rfl
        · simp only [if_true]
          by_cases hA : p + 1 < text.size
          · cases h10 : (text.getD (p + 1) 0 == 10)
            · simp only [Bool.and_false, Bool.false_eq_true, if_false]
              rw [f2_mark (by rw [drop_at hA]; exact h10)]
              rfl
            · simp only [hA, decide_true, Bool.and_self, if_true]
              rw [drop_at hA, f2]
              have h13' : (text.getD (p + 1) 0 == 13) = false := by rw [eq_of_beq h10]; rfl
              rw [h13', h10]
              simp only [Bool.false_eq_true, if_false, if_true, List.nil_append]
              rfl
          · rw [drop_end (Nat.le_of_not_lt hA)]
            simp only [hA, decide_false, Bool.and_false, Bool.false_and, Bool.false_eq_true, if_false]
            rw [drop_end (Nat.le_of_not_lt hA)]
            rfl
    · unfold subS
      have hnx : nextS2 text d = none := by unfold nextS2; rw [if_neg hd]
      rw [hnx]
      refine ⟨_, rfl, ?_⟩
      rw [if_neg hd, drop_end (Nat.le_of_not_lt hd)]
      rfl
/-- a row begins here -/
noncomputable def atB (text : Array Nat) (s : Nat) : Bool := s == 0 || text.getD (s - 1) 0 == 10
theorem find1_ge {text : Array Nat} : ∀ k s p, find1 text k s = some p → s ≤ p ∧ p < s + k ∧ text.getD p 0 = 46 ∧ atB text p = true
  | 0, _, _, h => by cases h
  | k + 1, s, p, h => by
    unfold find1 at h
    split at h
    · rename_i hc
      cases h
      simp only [Bool.and_eq_true, beq_iff_eq] at hc
      exact ⟨Nat.le_refl _, Nat.lt_add_of_pos_right (Nat.succ_pos k), hc.2, hc.1⟩
    · have := find1_ge k (s + 1) p h; exact ⟨Nat.le_of_succ_le this.1, Nat.lt_of_lt_of_eq this.2.1 (Nat.succ_add_eq_add_succ s k), this.2.2⟩
theorem find1_f1 (text : Array Nat) : ∀ k s, s + k = text.size → f1 (atB text s) (text.toList.drop s) = match find1 text k s with
    | none => text.toList.drop s
    | some p => (text.toList.drop s).take (p - s) ++ f1 (atB text p) (text.toList.drop p)
  | 0, s, h => by rw [drop_end (show text.size ≤ s from Nat.le_of_eq h.symm)]; rfl
  | k + 1, s, h => by
    unfold find1
    cases hc : ((s == 0 || text.getD (s - 1) 0 == 10) && text.getD s 0 == 46)
    · have ih := find1_f1 text k (s + 1) (sk1 h)
      have hb : atB text (s + 1) = (text.getD s 0 == 10) := by unfold atB; simp
      have hc' : (atB text s && text.getD s 0 == 46) = false := hc
      rw [drop_at (sk2 h), f1, hc', ← hb, ih]
      simp only [Bool.false_eq_true, if_false]
      cases hf : find1 text k (s + 1) with
      | none => rfl
      | some p =>
        have hp := (find1_ge k (s + 1) p hf).1
        dsimp only
        rw [show p - s = (p - (s + 1)) + 1 from decr hp, List.take_succ_cons]
        rfl
    · simp
theorem subS_f1 {text : Array Nat} : ∀ f d, text.size - d < f → ∃ r, subS text (Str.ofString "..") (nextS1 text) f d = some r ∧ flat r = f1 (atB text d) (text.toList.drop d)
  | 0, _, h => absurd h (Nat.not_lt_zero _)
  | f + 1, d, h => by
    by_cases hd : d < text.size
    · have key := find1_f1 text (text.size - d) d (Nat.add_sub_of_le (Nat.le_of_lt hd))
      have hnx : nextS1 text d = (find1 text (text.size - d) d).map fun p => (p, p + 1) := by unfold nextS1; rw [if_pos hd]
      unfold subS
      rw [hnx]
      cases hf : find1 text (text.size - d) d with
      | none =>
        rw [hf] at key
        refine ⟨_, rfl, ?_⟩
        rw [piece _ _ _, key, List.take_of_length_le (by simp)]
      | some p =>
        rw [hf] at key
        obtain ⟨hge, hlt, h46, hbp⟩ := find1_ge _ _ _ hf
        obtain ⟨r, hr, hfl⟩ := subS_f1 (text := text) f (p + 1) (step_lt h hd (Nat.lt_succ_of_le hge))
        refine ⟨_, by dsimp only [Option.map_some]; rw [hr]; rfl, ?_⟩
        rw [flat_app, flat_cons, piece, key, hfl]
        congr 1
        have hb : atB text (p + 1) = (text.getD p 0 == 10) := by unfold atB; simp
        rw [drop_at (Nat.lt_of_lt_of_eq hlt (Nat.add_sub_of_le (Nat.le_of_lt hd))), f1, hbp, hb, h46]
        rfl
    · unfold subS
      have hnx : nextS1 text d = none := by unfold nextS1; rw [if_neg hd]
      rw [hnx]
      refine ⟨_, rfl, ?_⟩
      rw [if_neg hd, drop_end (Nat.le_of_not_lt hd)]
      rfl

theorem join_flat : ∀ r : List Str, Str.join (Str.ofString "") r = ⟨(flat r).toArray⟩
  | [] => rfl
  | [x] => by simp [Str.join, flat]
  | x :: y :: r => by
    have ih := join_flat (y :: r)
    show x ++ Str.ofString "" ++ Str.join (Str.ofString "") (y :: r) = _
    rw [ih, flat_cons x]
    show (⟨(x.cps ++ #[]) ++ (flat (y :: r)).toArray⟩ : Str) = _
    congr 1
    apply Array.ext'
    simp
theorem tjoin_flat (r : List Str) : Txt.join (Str.ofString "") r = ⟨(flat r).toArray⟩ := by
  show Builtin.Str.glued _ _ = _
  rw [StrLaws.glued_eq_join]; exact join_flat r
theorem flat_len (r : List Str) : (r.map (·.length)).sum = (flat r).length := by
  induction r with
  | nil => rfl
  | cons x r ih => rw [flat_cons, List.map_cons, List.sum_cons, ih, List.length_append]; rfl
theorem joinOk_flat {r : List Str} (h : (flat r).length ≤ 1000) : JoinOk (Str.ofString "") r = true := joinOk_of (by rw [flat_len]; show _ + _ * 0 ≤ _; omega)
theorem f2_len : ∀ b l, (f2 b l).length ≤ 2 * l.length
  | _, [] => Nat.le_refl _
  | b, c :: r => by
    unfold f2
    have h1 := f2_len true r
    have h2 := f2_len false r
    cases b <;> split <;> (try split) <;> simp <;> omega
theorem f1_len : ∀ b l, (f1 b l).length ≤ 2 * l.length
  | _, [] => Nat.le_refl _
  | b, c :: r => by
    unfold f1
    have h1 := f1_len (c == 10) r
    split <;> simp <;> omega
/-- what quotedata makes of a text -/
noncomputable def quo (x : Str) : Str := ⟨(f1 true (f2 false x.cps.toList)).toArray⟩
set_option maxHeartbeats 4000000 in
theorem con_quo {w : World} {p : Program} {loose : List Str} {mean : ExcName → Option Value} {mg mb : Str → Option Value}
    {dp un : Nat} {gd : Option (List Code)} {cn : Str} {cs : Scope} {a : Addr} {ccd : Value} {cl : List (Str × Addr)} {outer : List Env} {A₀ : Around} {base h₀ : Heap} {L : Addr} {m : Str → Option Value} {s : Shared} {Q E : Value → Shared → Prop}
    {x : Str} {tx : Tok}
    (B : Below A₀ base outer h₀) (F : Fr h₀ L s.heap m) (X : (hd.heap_39 w.params).In h₀) (T : Top p loose mean mg mb h₀) (hk : cs.kind = .function)
    (hx : x.length ≤ 50) (hdp : dp + 1 < recursionLimit) (hu : un + 16 < cLine) (hret : ∀ h' tk' t, Kp s.heap h' → Q (.str (quo x) t) { s with heap := h', toks := tk' }) :
    wpAny (model PySem.Challenge.rw_pe0153_01.prog w) (ktrTop dp un gd cn cs L a ccd cl outer) (call (.ref 90) [.str x tx]) Q E s := by
  have hxs : x.cps.size ≤ 50 := hx
  obtain ⟨r1, e1, g1⟩ := subS_f2 (text := x.cps) 4000 0 (by omega)
  rw [List.drop_zero] at g1
  have l1 : (flat r1).length ≤ 100 := by
    rw [g1]; have h9 := f2_len false x.cps.toList; have h8 : x.cps.toList.length = x.cps.size := Array.length_toList; omega
  have ey : Txt.join (Str.ofString "") r1 = ⟨(f2 false x.cps.toList).toArray⟩ := by rw [tjoin_flat, g1]
  obtain ⟨r2, e2, g2⟩ := subS_f1 (text := (f2 false x.cps.toList).toArray) 4000 0 (by rw [List.size_toArray, ← g1]; omega)
  have g2 : flat r2 = f1 true (f2 false x.cps.toList) := g2
  have l2 : (flat r2).length ≤ 200 := by
    rw [g2]; have h9 := f1_len true (f2 false x.cps.toList); rw [g1] at l1; omega
  refine con_quote B F X T hk (r1 := r1) (r2 := r2) (by omega) ?_ (joinOk_flat (by omega)) ?_ ?_ (joinOk_flat (by omega)) hdp hu ?_
  · rw [subS_eq (fun d => nextS2_eq) lt2]; exact e1
  · rw [ey]; show (f2 false x.cps.toList).toArray.size ≤ 100; rw [List.size_toArray, ← g1]; exact l1
  · rw [ey, subS_eq (fun d => nextS1_eq (by rw [List.size_toArray, ← g1]; omega)) lt1]; exact e2
  · intro h' tk' t kp
    have : Txt.join (Str.ofString "") r2 = quo x := by rw [tjoin_flat, g2]; rfl
    rw [this]
    exact hret h' tk' t kp
end Mine
end

section
theorem Mine.woff_CompC {M : PySem.Model} {A : PySem.Around} {E Q : PySem.Value → PySem.Shared → Prop} {s : PySem.Shared} (h : PySem.wpAny M A (PySem.call (.builtin "no") []) Q E s) : PySem.wpAny M A (PySem.call (.builtin "no") []) Q E s := by
  w_top off
  first | (walk1; fail) | exact h
open PySem PySem.W PyProof.Rows PySem.Calls PySem.Spec
set_option maxRecDepth 100000
set_option maxHeartbeats 2000000
namespace Mine
open LCg
noncomputable def Off4 (I C K D : Addr) : List (Addr × Obj) → Prop
  | [] => True
  | p :: r => ((@Ne Nat p.1 I) ∧ (@Ne Nat p.1 C) ∧ (@Ne Nat p.1 K) ∧ (@Ne Nat p.1 D)) ∧ Off4 I C K D r
theorem Off4.mem {I C K D : Addr} : ∀ {l : List (Addr × Obj)}, Off4 I C K D l → ∀ p ∈ l, p.1 ≠ I ∧ p.1 ≠ C ∧ p.1 ≠ K ∧ p.1 ≠ D
  | [], _, _, h => nomatch h
  | _ :: _, x, p, h => by
    rcases List.mem_cons.mp h with rfl | h
    · exact x.1
    · exact Off4.mem x.2 p h
theorem Off4.of {I C K D : Addr} : ∀ {l : List (Addr × Obj)}, (∀ p ∈ l, p.1 ≠ I ∧ p.1 ≠ C ∧ p.1 ≠ K ∧ p.1 ≠ D) → Off4 I C K D l
  | [], _ => trivial
  | _ :: _, h => ⟨h _ List.mem_cons_self, Off4.of fun p hp => h p (List.mem_cons_of_mem _ hp)⟩
noncomputable def CEnd (h₀ : Heap) (L : Addr) (m : Str → Option Value) (s₁ : Shared) (I : Addr) (oI : Obj) (C : Addr) (oC : Obj) (K : Addr) (oK : Obj) (D : Addr) (oD : Obj) (rest : Value → List (Addr × Obj) → Prop) (y : Value) (s₂ : Shared) : Prop :=
  ∃ h' tk news', s₂ = { s₁ with heap := h', toks := tk } ∧ Fr h₀ L h' m ∧ News h₀ L h' ((I, oI) :: (C, oC) :: (K, oK) :: (D, oD) :: news') ∧ Off4 I C K D news' ∧ rest y news'
noncomputable def CRest (prog : Program) (w : World) (A : Around) (h₀ : Heap) (L : Addr) (m : Str → Option Value) (env : Env) (elt : Expr) (x : Str) (scope : Scope) (cl : List (Str × Addr)) (s : Shared) (a : Int)
    (Fin : List Value → List (Addr × Obj) → Prop) : Nat → Nat → List Value → List (Addr × Obj) → Prop
  | 0, _, ys, news => Fin ys news
  | k + 1, i, ys, news => ∀ t I oI C oC K oK D h tk (E' : Value → Shared → Prop), NsObj oC (fun _ => none) → oK.data = .cell (some (.int (a + (i : Int)) t)) → Fr h₀ L h m → News h₀ L h ((I, oI) :: (C, oC) :: (K, oK) :: (D, lst ys) :: news) → Off4 I C K D news →
      ((@Ne Nat I C) ∧ (@Ne Nat I K) ∧ (@Ne Nat I D) ∧ (@Ne Nat C K) ∧ (@Ne Nat C D) ∧ (@Ne Nat K D)) →
      wpAny (model prog w) A (eval elt (compEnvC scope ((x, K) :: cl) C env)) (CEnd h₀ L m { s with heap := h, toks := tk } I oI C oC K oK D (lst ys)
        (fun y news' => CRest prog w A h₀ L m env elt x scope cl s a Fin k (i + 1) (ys ++ [y]) news')) E' { s with heap := h, toks := tk }
section
variable {prog : Program} {w : World} {A : Around} {E : Value → Shared → Prop} {s : Shared} {h₀ : Heap} {L : Addr} {m : Str → Option Value} {env : Env}
/-- a new frame with one cell -/
theorem newEnv_cell {M : Model} {scope : Scope} {cl : List (Str × Addr)} {x : Str} {Q : Env → Shared → Prop} (hcells : ∀ n acc, cellsFrom n scope.names acc = (x, n) :: acc) (hpush : ∀ h, pushCells h scope.names = h.push { cls := .type "cell", data := .cell none })
    (h : Q (newEnv scope s.heap.objs.size env.globals ((x, s.heap.objs.size + 1) :: cl) env.qual none .none (some env) builtinsNs)
      { s with heap := (s.heap.push { cls := .type "dict", data := .dict #[] }).push { cls := .type "cell", data := .cell none } }) :
    wpAny M A (newFunctionEnv scope env.globals cl [] env.qual none .none (some env)) Q E s := by
  simp only [newFunctionEnv, Option.isSome_some, if_true]
  refine wpAny_bind (wpAny_alloc ?_)
  refine wpAny_bind (wpAny_layCells _ (fun name kind cells => by cases hkc : kind == NameKind.cell <;> simp [hkc]) _ _ _ _ ?_)
  rw [hcells, hpush]
  refine wpAny_bind ?_
  rw [List.forIn_nil]
  refine wpAny_pure (wpAny_pure ?_)
  rw [show ({ s with heap := s.heap.push { cls := .type "dict", data := .dict #[] } } : Shared).heap.objs.size = s.heap.objs.size + 1 from Heap.size_push ..]
  exact h

theorem block_C {elt iter : Expr} {x : Str} {px : Pos} {scope : Scope} {cl : List (Str × Addr)} {pos : Pos} {s₂ : Shared} {I : Addr} {n : Nat} {a : Int} {news : List (Addr × Obj)}
    {Fin : List Value → List (Addr × Obj) → Prop} {RR : Value → Addr → Result → Shared → Prop} (hh : A.handled = none) (hsz : n ≤ sizeLine)
    (hcells : ∀ n acc, cellsFrom n scope.names acc = (x, n) :: acc) (hpush : ∀ h, pushCells h scope.names = h.push { cls := .type "cell", data := .cell none }) (hkind : scope.kind = .function)
    (hx : (relabel scope env).names.lookup x = some .cell) (hst : IsRangeIter s₂.heap I a (n : Int) 1)
    (F : Fr h₀ L s₂.heap m) (N : News h₀ L s₂.heap news) (hIL : L ≠ I) (hI₀ : h₀.get? I = none) (off : ∀ p ∈ news, p.1 ≠ I)
    (R : CRest prog w A h₀ L m env elt x scope cl s₂ a Fin n 0 [] news)
    (hRR : ∀ D C h tk m' ys news', Fr h₀ L h m → News h₀ L h ((D, lst ys) :: news') → Off1 D news' → h.Ns C m' → h₀.get? C = none → h₀.get? D = none → C ≠ L → D ≠ L → C ≠ D → (∀ p ∈ news', p.1 ≠ C) → Fin ys news' → RR (.ref D) C (.ok .next) { s₂ with heap := h, toks := tk }) :
    wpAny (model prog w) A (newList []) (fun acc s₃ => wpAny (model prog w) A (newFunctionEnv scope env.globals cl [] env.qual none .none (some env)) (fun cenv s₄ =>
      codeAny (model prog w) A (.compStart (.ListComp elt [⟨.Name x px, iter, [], 0⟩] scope pos) 0 (.ref I) acc { cenv with scope := relabel scope env }) (RR acc cenv.locals) s₄) E s₃) E s₂ := by
  have W := range_walks (prog := prog) (w := w) (I := I) hh a n
  refine wpAny_newObj_type (newEnv_cell hcells hpush ?_)
  dsimp only
  generalize hH2 : s₂.heap.push { cls := .type "list", dict := none, data := .seq ([] : List Value).toArray } = H2
  have hC : H2.objs.size = s₂.heap.objs.size + 1 := by rw [← hH2, Heap.size_push]
  obtain ⟨D, hD⟩ : ∃ d : Nat, d = s₂.heap.objs.size := ⟨_, rfl⟩
  obtain ⟨C, hCe⟩ : ∃ d : Nat, d = H2.objs.size := ⟨_, rfl⟩
  obtain ⟨K, hK⟩ : ∃ d : Nat, d = H2.objs.size + 1 := ⟨_, rfl⟩
  have hIlt : I < s₂.heap.objs.size := Heap.lt_size hst
  have hLlt : L < s₂.heap.objs.size := F.ns.lt
  generalize hH4 : (H2.push { cls := .type "dict", data := .dict #[] }).push { cls := .type "cell", data := .cell none } = H4
  have old : ∀ b o, s₂.heap.get? b = some o → H4.get? b = some o := fun b o e => by
    rw [← hH4, ← hH2]; exact Heap.get?_push_of_some _ (Heap.get?_push_of_some _ (Heap.get?_push_of_some _ e))
  have gD : H4.get? D = some (lst []) := by
    rw [← hH4, ← hH2, hD]; exact Heap.get?_push_of_some _ (Heap.get?_push_of_some _ (Heap.get?_push_size _ rfl))
  have gC : H4.get? C = some { cls := .type "dict", data := .dict #[] } := by
    rw [← hH4, hCe]; exact Heap.get?_push_of_some _ (Heap.get?_push_size _ rfl)
  have gK : H4.get? K = some { cls := .type "cell", data := .cell none } := by
    have : K = (H2.push { cls := .type "dict", data := .dict #[] }).objs.size := by rw [hK, Heap.size_push]
    rw [← hH4, this]; exact Heap.get?_push_size _ rfl
  have hnsC : H4.Ns C (fun _ => none) := by
    have h1 : (H2.push { cls := .type "dict", data := .dict #[] }).Ns H2.objs.size (fun _ => none) := Heap.Ns.new H2 (.type "dict")
    rw [hCe, ← hH4]; exact h1.keeps fun b o e => Heap.get?_push_of_some _ e
  have fresh₀ : ∀ b : Nat, s₂.heap.objs.size ≤ b → h₀.get? b = none := fun b hb => by
    cases e : h₀.get? b with
    | none => rfl
    | some o' => exact absurd (Heap.lt_size (F.keep b o' e)) (Nat.not_lt.mpr hb)
  have eC : C = s₂.heap.objs.size + 1 := hCe.trans hC
  have eK : K = s₂.heap.objs.size + 1 + 1 := hK.trans (congrArg (· + 1) hC)
  have hD₀ := fresh₀ D (Nat.le_of_eq hD.symm)
  have hC₀ := fresh₀ C (by rw [eC]; exact Nat.le_succ _)
  have hK₀ := fresh₀ K (by rw [eK]; exact Nat.le_trans (Nat.le_succ _) (Nat.le_succ _))
  have nLD : D ≠ L := by rw [hD]; exact (Nat.ne_of_lt hLlt).symm
  have iI : @LT.lt Nat _ I s₂.heap.objs.size := hIlt
  have iL : @LT.lt Nat _ L s₂.heap.objs.size := hLlt
  have lC : ∀ {b : Nat}, b < s₂.heap.objs.size → b < C := fun h => eC ▸ Nat.lt_succ_of_lt h
  have lK : ∀ {b : Nat}, b < s₂.heap.objs.size → b < K := fun h => eK ▸ Nat.lt_succ_of_lt (Nat.lt_succ_of_lt h)
  have nIC : @Ne Nat I C := Nat.ne_of_lt (lC iI)
  have nIK : @Ne Nat I K := Nat.ne_of_lt (lK iI)
  have nID : @Ne Nat I D := Nat.ne_of_lt (hD ▸ iI)
  have nCK : @Ne Nat C K := by rw [eC, eK]; exact Nat.ne_of_lt (Nat.lt_succ_self _)
  have nCD : @Ne Nat C D := by rw [eC, hD]; exact Nat.succ_ne_self _
  have nKD : @Ne Nat K D := by rw [eK, hD]; exact Nat.ne_of_gt (Nat.lt_succ_of_lt (Nat.lt_succ_self _))
  have nCL : @Ne Nat C L := Nat.ne_of_gt (lC iL)
  have nKL : @Ne Nat K L := Nat.ne_of_gt (lK iL)
  have off₀ : Off4 I C K D news := Off4.of fun p hp => by
    have h1 : @LT.lt Nat _ p.1 s₂.heap.objs.size := Heap.lt_size (N p hp).1
    have h2 : @Ne Nat p.1 I := off p hp
    exact ⟨h2, Nat.ne_of_lt (lC h1), Nat.ne_of_lt (lK h1), Nat.ne_of_lt (hD ▸ h1)⟩
  have hst₁ : IsRangeIter H4 I (a + ((0 : Nat) : Int) * 1) ((n : Int) - ((0 : Nat) : Int)) 1 := by
    have e : IsRangeIter H4 I a (n : Int) 1 := old I _ hst
    simpa using e
  rw [← hD, ← hK, ← hCe]
  have loop : ∀ s₃ : Shared, s₃ = { s₂ with heap := H4 } →
      codeAny (model prog w) A (.compLoop (.ListComp elt [⟨.Name x px, iter, [], 0⟩] scope pos) 0 (.ref I) (.ref D) (compEnvC scope ((x, K) :: cl) C env))
        (RR (.ref D) C) s₃ := by
    rintro s₃ rfl
    refine codeAny_compLoop_tests
      (fun k s' => ∃ h' tk i ys oK v₀ news', s' = { s₂ with heap := h', toks := tk } ∧ i ≤ n ∧ k = n + 1 - i ∧ ys.length = i ∧ IsRangeIter h' I (a + (i : Nat) * 1) ((n : Int) - (i : Nat)) 1 ∧ Fr h₀ L h' m ∧ h'.Ns C (fun _ => none) ∧
        h'.get? K = some oK ∧ oK.data = .cell v₀ ∧ News h₀ L h' ((D, lst ys) :: news') ∧
        Off4 I C K D news' ∧ CRest prog w A h₀ L m env elt x scope cl s₂ a Fin (n - i) i ys news') ?_ (n + 1)
      ⟨H4, _, 0, [], _, none, news, rfl, Nat.zero_le _, rfl, rfl, hst₁, F.keeps old, hnsC, gK, rfl, fun p hp => ?_, off₀, R⟩
    · rintro k s' ⟨h', tk, i, ys, oK, v₀, news', rfl, hi, rfl, hyl, hst', F', hn', hoK, hdK, N', off', R'⟩
      by_cases hlt : i < n
      · obtain ⟨j, hj, hj2⟩ : ∃ j, n - i = j + 1 ∧ n - (i + 1) = j := ⟨_, decr hlt, rfl⟩
        rw [hj] at R'
        refine W.item i _ _ _ hlt hst' fun v h₂ tk₂ hPv hst₂ hk₂ => ?_
        obtain ⟨t, rfl⟩ := hPv
        have keep₂ : ∀ b o, b ≠ I → h'.get? b = some o → h₂.get? b = some o := fun b o hb e => hk₂ b o (by simpa using hb) e
        refine wpAny_assign_Name (wpAny_storeName_cell (env := compEnvC scope ((x, K) :: cl) C env) hkind hx (by simp [compEnvC]) ⟨oK, keep₂ _ _ (Ne.symm nIK) hoK, hdK⟩ fun h₃ hc₃ hs₃ => ?_)
        obtain ⟨oK', hoK', hdK'⟩ := hc₃
        refine wpAny_tests_nil ?_
        simp only [if_true]
        have hst₃ : IsRangeIter h₃ I (a + ((i + 1 : Nat) : Int) * 1) ((n : Int) - ((i + 1 : Nat) : Int)) 1 := W.frame _ _ _ hst₂ fun b hb o e => hs₃.extBut b o (by rw [List.mem_singleton.mp hb]; exact nIK) e
        have hn₃ : h₃.Ns C (fun _ => none) := (hn'.at' fun o e => keep₂ _ o (Ne.symm nIC) e).sameBut hs₃ nCK
        obtain ⟨oC, heC, hoC⟩ := ns_obj hn₃
        have F₃ : Fr h₀ L h₃ m := (fr_but F' hk₂ hIL hI₀).change hs₃ nKL hK₀
        have off3 := off'.mem
        have N₂ : News h₀ L h₂ ((D, lst ys) :: news') := news_but N' hk₂ fun p hp => by
          rcases List.mem_cons.mp hp with rfl | hp
          · exact Ne.symm nID
          · exact (off3 p hp).1
        have N₃ : News h₀ L h₃ ((I, _) :: (C, oC) :: (K, oK') :: (D, lst ys) :: news') := fun p hp => by
          rcases List.mem_cons.mp hp with rfl | hp
          · exact ⟨hst₃, Ne.symm hIL, hI₀⟩
          · rcases List.mem_cons.mp hp with rfl | hp
            · exact ⟨heC, nCL, hC₀⟩
            · rcases List.mem_cons.mp hp with rfl | hp
              · exact ⟨hoK', nKL, hK₀⟩
              · have z := N₂ p hp
                refine ⟨hs₃.extBut _ _ ?_ z.1, z.2⟩
                rcases List.mem_cons.mp hp with rfl | hp
                · exact Ne.symm nKD
                · exact (off3 p hp).2.2.1
        refine wpAny_mono (R' t I _ C oC K oK' D h₃ _ _ hoC hdK' F₃ N₃ off' ⟨nIC, nIK, nID, nCK, nCD, nKD⟩) (fun y s₄ h₄ => ?_) fun _ _ e => e
        obtain ⟨h₄, tk₄, news₄, rfl, F₄, N₄, off₄, R₄⟩ := h₄
        have zI := (N₄ _ (.head _)).1
        have zC := (N₄ (C, oC) (.tail _ (.head _))).1
        have zK := (N₄ (K, oK') (.tail _ (.tail _ (.head _)))).1
        have zD := (N₄ (D, lst ys) (.tail _ (.tail _ (.tail _ (.head _))))).1
        have N₄' : News h₀ L h₄ news₄ := fun p hp => N₄ p (.tail _ (.tail _ (.tail _ (.tail _ hp))))
        refine append_at (hsz := by show ys.toArray.size ≤ sizeLine; rw [List.size_toArray, hyl]; exact Nat.le_trans hi hsz) zD fun h₅ hs₅ hD₅ => ?_
        have off4 := off₄.mem
        refine ⟨n + 1 - (i + 1), Nat.sub_lt_sub_left (Nat.lt_succ_of_lt hlt) (Nat.lt_succ_self i), h₅, tk₄, i + 1, ys ++ [y], oK', _, news₄, rfl, hlt, rfl, by rw [List.length_append, List.length_singleton, hyl], ?_, F₄.change hs₅ nLD hD₀,
          (hoC.ns zC).sameBut hs₅ nCD, hs₅.extBut _ _ nKD zK, hdK', fun p hp => ?_, off₄, ?_⟩
        · exact hs₅.extBut _ _ nID zI
        · rcases List.mem_cons.mp hp with rfl | hp
          · exact ⟨hD₅.trans (congrArg some (lst_snoc ys y)), nLD, hD₀⟩
          · exact ⟨hs₅.extBut _ _ (off4 p hp).2.2.2 (N₄' p hp).1, (N₄' p hp).2⟩
        · rw [hj2]
          exact R₄
      · obtain rfl : i = n := Nat.le_antisymm hi (Nat.not_lt.mp hlt)
        rw [Nat.sub_self] at R'
        refine W.done _ _ _ hst' fun h₂ tk₂ hk₂ => ?_
        have off3 := off'.mem
        have o1 : ∀ {l : List (Addr × Obj)}, Off4 I C K D l → Off1 D l := by
          intro l
          induction l with
          | nil => exact fun _ => trivial
          | cons p r ih => exact fun z => ⟨z.1.2.2.2, ih z.2⟩
        exact hRR _ _ h₂ tk₂ _ ys news' (fr_but F' hk₂ hIL hI₀) (news_but N' hk₂ fun p hp => by
          rcases List.mem_cons.mp hp with rfl | hp
          · exact Ne.symm nID
          · exact (off3 p hp).1) (o1 off') (hn'.at' fun o e => hk₂ _ o (by simpa using Ne.symm nIC) e) hC₀ hD₀ nCL nLD nCD (fun p hp => (off3 p hp).2.1) R'
    · rcases List.mem_cons.mp hp with rfl | hp
      · exact ⟨gD, nLD, hD₀⟩
      · exact ⟨old _ _ (N p hp).1, (N p hp).2⟩
  exact codeAny_compStart_list (loop _ rfl) (W.self 0 _ _ _ hst₁ (loop _ rfl))

noncomputable def CSrc (prog : Program) (w : World) (A : Around) (h₀ : Heap) (L : Addr) (m : Str → Option Value) (env : Env) (elt : Expr) (x : Str) (scope : Scope) (cl : List (Str × Addr)) (Fin : Shared → List Value → List (Addr × Obj) → Prop) (xv : Value) (s₁ : Shared) : Prop :=
  ∃ r a b t u v n news, xv = .ref r ∧ A.handled = none ∧ Fr h₀ L s₁.heap m ∧ News h₀ L s₁.heap news ∧ IsRange s₁.heap r a b 1 t u v ∧ Builtin.Range.small a b 1 = true ∧ Builtin.Range.rangeSize a b 1 = ((n : Nat) : Int) ∧ n ≤ sizeLine ∧
    ∀ s₂ : Shared, (∃ h, s₂ = { s₁ with heap := h }) → CRest prog w A h₀ L m env elt x scope cl s₂ a (Fin s₂) n 0 [] news
theorem Assign_ListComp_C {elt iter : Expr} {x y : Str} {px py : Pos} {scope : Scope} {cl : List (Str × Addr)} {pos spos : Pos} {Q : Flow → Shared → Prop} (_F₀ : Fr h₀ L s.heap m) (hLe : env.locals = L)
    (hsw : swapsWith (.ListComp elt [⟨.Name x px, iter, [], 0⟩] scope pos) (some (.Name y py)) spos.line env = pure true)
    (hclos : closureFor scope env = pure cl) (hkind : scope.kind = .function)
    (hnames : ∀ z ∈ scope.names, z.2 = .local → scope.names.lookup z.1 = some .local)
    (hcells : ∀ n acc, cellsFrom n scope.names acc = (x, n) :: acc) (hpush : ∀ h, pushCells h scope.names = h.push { cls := .type "cell", data := .cell none })
    (hx : (relabel scope env).names.lookup x = some .cell)
    (hy : env.kindOf y = some .local) (hp : (env.scope.kind == .class || (env.scope.kind == .module && env.locals != env.globals)) = false)
    (h : wpAny (model prog w) A (eval iter env) (CSrc prog w A h₀ L m env elt x scope cl (fun s₂ => FinA h₀ L m s₂ y Q)) E s)
    (hs : ∀ x, foldedSetIterable iter env x = pure x := by intro _; rfl) :
    wpAny (model prog w) A (exec (.Assign [.Name y py] (.ListComp elt [⟨.Name x px, iter, [], 0⟩] scope pos) spos) env) Q E s := by
  subst hLe
  rw [exec_Assign_Name_used _ _ _ _ hsw]
  refine wpAny_bind (wpAny_standAt (wpAny_bind ?_))
  show wpAny _ A (do let _ ← comprehension (.ListComp elt [⟨.Name x px, iter, [], 0⟩] scope pos) scope env _ (newList []) false (eval iter env) (some (assign (.Name y py) env))) _ _ s
  refine wpAny_bind (wpAny_mono (wpAny_comprehension_free (use := some (assign (.Name y py) env)) (Q := fun _ s' => Q .next s') rfl hs hclos hkind hnames
    (wpAny_mono h (fun xv s₁ h₁ => ?_) fun _ _ e => e)) (fun _ s' hq => wpAny_pure (wpAny_pure hq)) fun _ _ e => e)
  obtain ⟨r, a, b, t, u, v, n, news, rfl, hh, F, N, hr, hsm, hn, hsz, R⟩ := h₁
  refine wpAny_pyIter_range hr hsm ?_
  refine block_C hh hsz hcells hpush hkind hx (by show IsRangeIter _ _ _ _ _; rw [hn]; simpa using Heap.get?_push_size _ rfl)
    (F.keeps fun _ _ e => Heap.get?_push_of_some _ e) (N.grown fun _ _ e => Heap.get?_push_of_some _ e) (Nat.ne_of_lt F.ns.lt) (next_is_new F) (fun p hp => Nat.ne_of_lt (Heap.lt_size (N p hp).1)) (R _ ⟨_, rfl⟩) ?_
  intro D C h' tk m' ys news' F' N' o1 hn hC₀ hD₀ hCL hDL hCD offC fin
  show wpAny _ A (assign (.Name y py) env (.ref D)) _ _ _
  refine wpAny_assign_Name (wpAny_storeName_local hy F'.ns (fun h₂ hn₂ hs₂ => ?_) hp)
  have hL₀ : h₀.get? env.locals = none := Heap.get?_none_of_le F'.above
  have F₂ : Fr h₀ env.locals h₂ (fun z => if z = y then some (.ref D) else m z) := ⟨hn₂, fun b o e => hs₂.extBut b o (fun q => by rw [q, hL₀] at e; cases e) (F'.keep b o e), F'.above⟩
  refine ⟨m', hn.sameBut hs₂ hCL, fun h'' hs'' => fin D h'' _ (F₂.change hs'' hCL hC₀) (fun p hp => ?_) o1⟩
  have z : h₂.get? p.1 = some p.2 := hs₂.extBut _ _ (N' p hp).2.1 (N' p hp).1
  refine ⟨hs''.extBut _ _ ?_ z, (N' p hp).2⟩
  rcases List.mem_cons.mp hp with rfl | hp
  · exact Ne.symm hCD
  · exact offC p hp
end
end Mine
end

section
theorem Mine.woff_CCntA {M : PySem.Model} {A : PySem.Around} {E Q : PySem.Value → PySem.Shared → Prop} {s : PySem.Shared} (h : PySem.wpAny M A (PySem.call (.builtin "no") []) Q E s) : PySem.wpAny M A (PySem.call (.builtin "no") []) Q E s := by
  w_top off
  first | (walk1; fail) | exact h
open PySem PySem.W PyProof.Rows PySem.Calls PySem.Spec
set_option maxRecDepth 100000
namespace Mine
theorem filled12 (w : World) : (hd.heap_39 w.params).In ({} : Heap) → PySem.Challenge.rw_pe0153_01.foot = 4 := by
  k_fill
  intro _; rfl

/-- the places of the items c -/
noncomputable def pickG (ns : List Int) (c : Int) : List Int → Int → List Int := fun l k => if ns.getD k.toNat 0 = c then l ++ [2 ^ k.toNat] else l
theorem pickG_grows (ns : List Int) (c : Int) : KPfGrows (pickG ns c) := fun l k => by unfold pickG; split <;> simp
theorem newsSub {h₀ h : Heap} {L : Addr} {l news : List (Addr × Obj)} (N : News h₀ L h news) (hs : ∀ q ∈ l, q ∈ news) : News h₀ L h l := fun p hp => N p (hs p hp)
noncomputable def cB' : List Stmt := fnBody (topStmt 19)
noncomputable abbrev cB : {b : List Stmt // cB' = b} := by
  refine' ⟨_, ?h⟩
  case h => conv => lhs; whnf
noncomputable def cG' : Stmt := headStmt (cB'.drop 1)
noncomputable abbrev cG : {b : Stmt // cG' = b} := by
  refine' ⟨_, ?h⟩
  case h => conv => lhs; whnf
noncomputable def cS' : Scope := fnScope (topStmt 19)
noncomputable abbrev cS : {b : Scope // cS' = b} := by
  refine' ⟨_, ?h⟩
  case h => conv => lhs; whnf
noncomputable abbrev cE (L : Addr) : Env := envOfC (Str.ofString "_law_counts") cS.1 L 107 (.ref 106)
local macro_rules | `(tactic| walk_at "eval ListComp") => `(tactic| (refine Stp.out ?_))
local macro_rules | `(tactic| walk_at "CompSrcT") => `(tactic| (refine Stp.out ?_))
local macro_rules | `(tactic| walk_at "CompEnd") => `(tactic| (refine Stp.out ?_))
local macro_rules | `(tactic| walk_at "CRest") => `(tactic| (refine Stp.out ?_))
local macro_rules | `(tactic| walk_at "CEnd") => `(tactic| (refine Stp.out ?_))
local macro_rules | `(tactic| walk_at "CSrc") => `(tactic| (refine Stp.out ?_))
local macro_rules | `(tactic| walk_at "exec Assign cons ListComp") => `(tactic| (refine Stp.out ?_))
local macro_rules | `(tactic| walk_at "subscriptTail Name Name ref int") => `(tactic| (refine Stp.out ?_))
local macro_rules | `(tactic| walk_at "binaryOp Pow int int") => `(tactic| (refine Stp.out ?_))

set_option maxHeartbeats 4000000 in
theorem con_goes {w : World} {p : Program} {loose : List Str} {mean : ExcName → Option Value} {mg mb : Str → Option Value}
    {dp un : Nat} {gd : Option (List Code)} {cn : Str} {cs : Scope} {a : Addr} {ccd : Value} {cl : List (Str × Addr)} {outer : List Env} {A₀ : Around} {base g' : Heap} {L L' : Addr} {m : Str → Option Value} {s : Shared} {Q : Flow → Shared → Prop} {E : Value → Shared → Prop}
    {l : Addr} {n0 n1 n2 n3 n4 n5 gv : Int} {t0 t1 t2 t3 t4 t5 tg : Tok} {o1 o2 o3 : Obj}
    (B : Below A₀ base (envX cn cs L a ccd cl :: outer) g') (F : Fr g' L' s.heap m) (X : (hd.heap_39 w.params).In g') (T : Top p loose mean mg mb g')
    (N : News g' L' s.heap [(L' + 1 + 1 + 1, o3), (L' + 1 + 1, o2), (L' + 1, o1)]) (ho1 : o1.data = .cell (some (.ref l))) (ho2 : o2.data = .cell (some (.int gv tg)))
    (hl2 : g'.IsList l [Value.int n0 t0, .int n1 t1, .int n2 t2, .int n3 t3, .int n4 t4, .int n5 t5].toArray)
    (hret : ∀ D h' tk' u0 u1, Fr g' L' h' (fun z => if z = Str.ofString "goes" then some (.ref D) else m z) →
      News g' L' h' [(D, LCg.lst [.int (gv + (List.foldl (pickG [n0, n1, n2, n3, n4, n5] 0) [] (rangeKs 0 6)).sum) u0, .int (gv + (List.foldl (pickG [n0, n1, n2, n3, n4, n5] 1) [] (rangeKs 0 6)).sum) u1]), (L' + 1 + 1 + 1, o3), (L' + 1 + 1, o2), (L' + 1, o1)] → @Ne Nat D (L' + 1 + 1 + 1) → Q .next { s with heap := h', toks := tk' }) :
    wpAny (model PySem.Challenge.rw_pe0153_01.prog w) ((ktrTop dp un gd cn cs L a ccd cl outer).deeper (cE L')) (exec cG.1 (cE L')) Q E s := by
  refine' Assign_ListComp_C F rfl ?s1 ?s2 rfl ?s3 ?s4 ?s5 ?s6 ?s7 ?s8 ?_
  case s1 => with_unfolding_all rfl
  case s2 => with_unfolding_all rfl
  case s3 => decide
  case s4 => intro n acc; rfl
  case s5 => intro h; rfl
  case s6 => rfl
  case s7 => rfl
  case s8 => rfl
  (try dsimp only)
  (try k_fold)
  k_steps
  refine Stp.into ?_
  (rename Fr _ _ _ _ => F9); (rename News _ _ _ _ => N9); (rename IsRange _ _ _ _ _ _ _ _ => hr9)
  refine ⟨_, 0, 2, _, _, _, 2, _, rfl, rfl, F9, N9, hr9, by decide, rfl, by decide, fun s₂ hs₂ => ?_⟩
  obtain ⟨g9, rfl⟩ := hs₂
  intro u0 I0 oI C0 oC K0 oK D0 h tk E' hoC hoK F9 N9 off0 ne0
  have hoK : oK.data = .cell (some (.int 0 u0)) := hoK
  have off := off0
  simp only [Off4, and_true] at off
  (try dsimp only)
  (try k_fold)
  k_steps
  refine Stp.into ?_
  refine LCt.ListComp_T (F₀ := by k_asm) (by with_unfolding_all rfl) (by decide) (by rfl) (by decide) (by rfl) ?_
  k_steps
  refine Stp.into ?_
  (rename Fr _ _ _ _ => F9); (rename News _ _ _ _ => N9); (rename IsRange _ _ _ _ _ _ _ _ => hr9)
  refine LCt.CompSrcT.range (n := 6) rfl F9 N9 hr9 (by decide) rfl (by decide) ?_
  intro g8
  refine kci_range (n := 6) (a := 0) (pickG [n0, n1, n2, n3, n4, n5] 0) (fun k t I3 oI3 C3 oC3 D3 m₃ ys3 l9 h tk E' hlo hhi hys hC hx F N off3 ne3 mk => ?_) ?_ (pickG_grows _ _)
  · have off3' := off3
    simp only [LCg.Off3, and_true] at off3
    obtain ⟨i, v, tv, rfl, hi6, hgv, hx⟩ := six_at (n0 := n0) (n1 := n1) (n2 := n2) (n3 := n3) (n4 := n4) (n5 := n5) (t0 := t0) (t1 := t1) (t2 := t2) (t3 := t3) (t4 := t4) (t5 := t5) hlo hhi
    clear hlo hhi
    dsimp only
    (try k_fold)
    k_steps
    refine Stp.into ?_
    refine item_at (hl2.at fun o e => F.keep _ o e) (Nat.lt_trans hi6 (by decide)) hx ?_
    (try dsimp only)
    k_steps
    · refine Stp.into ?_
      refine pow_s rfl (Nat.le_trans (Nat.le_of_lt hi6) (by decide)) (by decide) ?_
      (try dsimp only)
      k_steps
      exact Stp.into ⟨_, _, _, rfl, by assumption, by assumption, off3', trivial, kci_el (if_pos (hgv.trans (by assumption))) rfl rfl⟩
    · exact Stp.into ⟨_, _, _, rfl, by assumption, by assumption, off3', trivial, kci_no (if_neg fun e => absurd (hgv.symm.trans e) (by assumption)) rfl⟩
  unfold KPfDone
  intro ys0 hys0 hyl0
  show LCg.FinE _ _ _ _ _ _ _
  intro E0 h tk F9 N9 oo0
  have hlk0 := hys0.length
  (try dsimp only)
  (try k_fold)
  k_steps
  refine Stp.into ?_
  (rename Fr _ _ _ _ => F9); (rename News _ _ _ _ => N9)
  refine ⟨_, _, [(L' + 1 + 1 + 1, o3), (L' + 1 + 1, o2), (L' + 1, o1)], rfl, F9, newsSub N9 ?_, off0, ?_⟩
  · repeat' (first | refine sub_cons (by k_mem) ?_ | exact fun _ h => absurd h List.not_mem_nil)
  clear F9 N9 hoK oo0
  intro u1 I1 oI C1 oC K1 oK D1 h tk E' hoC hoK F9 N9 off1 ne1
  have hoK : oK.data = .cell (some (.int 1 u1)) := hoK
  have off := off1
  simp only [Off4, and_true] at off
  (try dsimp only)
  (try k_fold)
  k_steps
  refine Stp.into ?_
  refine LCt.ListComp_T (F₀ := by k_asm) (by with_unfolding_all rfl) (by decide) (by rfl) (by decide) (by rfl) ?_
  k_steps
  refine Stp.into ?_
  (rename Fr _ _ _ _ => F9); (rename News _ _ _ _ => N9); (rename IsRange _ _ _ _ _ _ _ _ => hr9)
  refine LCt.CompSrcT.range (n := 6) rfl F9 N9 hr9 (by decide) rfl (by decide) ?_
  intro g8
  refine kci_range (n := 6) (a := 0) (pickG [n0, n1, n2, n3, n4, n5] 1) (fun k t I3 oI3 C3 oC3 D3 m₃ ys3 l9 h tk E' hlo hhi hys hC hx F N off3 ne3 mk => ?_) ?_ (pickG_grows _ _)
  · have off3' := off3
    simp only [LCg.Off3, and_true] at off3
    obtain ⟨i, v, tv, rfl, hi6, hgv, hx⟩ := six_at (n0 := n0) (n1 := n1) (n2 := n2) (n3 := n3) (n4 := n4) (n5 := n5) (t0 := t0) (t1 := t1) (t2 := t2) (t3 := t3) (t4 := t4) (t5 := t5) hlo hhi
    clear hlo hhi
    dsimp only
    (try k_fold)
    k_steps
    refine Stp.into ?_
    refine item_at (hl2.at fun o e => F.keep _ o e) (Nat.lt_trans hi6 (by decide)) hx ?_
    (try dsimp only)
    k_steps
    · refine Stp.into ?_
      refine pow_s rfl (Nat.le_trans (Nat.le_of_lt hi6) (by decide)) (by decide) ?_
      (try dsimp only)
      k_steps
      exact Stp.into ⟨_, _, _, rfl, by assumption, by assumption, off3', trivial, kci_el (if_pos (hgv.trans (by assumption))) rfl rfl⟩
    · exact Stp.into ⟨_, _, _, rfl, by assumption, by assumption, off3', trivial, kci_no (if_neg fun e => absurd (hgv.symm.trans e) (by assumption)) rfl⟩
  unfold KPfDone
  intro ys1 hys1 hyl1
  show LCg.FinE _ _ _ _ _ _ _
  intro E1 h tk F9 N9 oo1
  have hlk1 := hys1.length
  (try dsimp only)
  (try k_fold)
  k_steps
  refine Stp.into ?_
  (rename Fr _ _ _ _ => F9); (rename News _ _ _ _ => N9)
  refine ⟨_, _, [(L' + 1 + 1 + 1, o3), (L' + 1 + 1, o2), (L' + 1, o1)], rfl, F9, newsSub N9 ?_, off1, ?_⟩
  · repeat' (first | refine sub_cons (by k_mem) ?_ | exact fun _ h => absurd h List.not_mem_nil)
  intro D9 h9 tk9 F9 N9 o9
  exact hret D9 h9 tk9 _ _ F9 N9 (Ne.symm o9.1)
end Mine
end

section
open Mine PySem PySem.W PyProof.Rows PySem.Calls PySem.Spec
local macro_rules | `(tactic| walk_at "subscriptTail Name Name ref int") => `(tactic| (k_here; k_dflt (refine kda_item (knd := PySem.intKind _ _) (by k_asm) (by k_mem) (by assumption) (intKind_is _ _ _ _) (by assumption) ?_)))
section
theorem Mine.woff_CCntB {M : PySem.Model} {A : PySem.Around} {E Q : PySem.Value → PySem.Shared → Prop} {s : PySem.Shared} (h : PySem.wpAny M A (PySem.call (.builtin "no") []) Q E s) : PySem.wpAny M A (PySem.call (.builtin "no") []) Q E s := by
  w_top off
  first | (walk1; fail) | exact h
open PySem PySem.W PyProof.Rows PySem.Calls PySem.Spec
set_option maxRecDepth 100000
namespace Mine
theorem filled13 (w : World) : (hd.heap_39 w.params).In ({} : Heap) → PySem.Challenge.rw_pe0153_01.foot = 4 := by
  k_fill
  intro _; rfl

theorem bitOr_nat (x y : Nat) : Builtin.bitOr (x : Int) (y : Int) = ((x ||| y : Nat) : Int) := by
  rw [bitOr_and, bitAnd_nat]
  have := nat_or_add_and x y
  omega
theorem mp7 {m : Str → Option Value} {x1 x2 x3 x4 x5 x6 x7 : Str} {v1 v2 v3 v4 v5 v6 v7 : Option Value} (h1 : m x1 = v1) (h2 : m x2 = v2) (h3 : m x3 = v3) (h4 : m x4 = v4) (h5 : m x5 = v5) (h6 : m x6 = v6) (h7 : m x7 = v7) : m = fun y => if y = x1 then v1 else if y = x2 then v2 else if y = x3 then v3 else if y = x4 then v4 else if y = x5 then v5 else if y = x6 then v6 else if y = x7 then v7 else m y := by
  funext y
  by_cases e1 : y = x1
  · simp [e1, h1]
  · simp only [if_neg e1]; exact congrFun (mp6 h2 h3 h4 h5 h6 h7) y
/-- one more row: where the pattern can have come to -/
noncomputable def stepN (g gaps pl : Nat) : Nat := ((pl &&& g) <<< 1) ||| (pl &&& gaps)
noncomputable abbrev Ent := Nat × Int × List Int
/-- the dict as plain data -/
noncomputable def lookS (st : List Ent) (k : Nat) : Option (Int × List Int) := match st with
  | [] => none
  | (k', v) :: r => if k' = k then some v else lookS r k
noncomputable def updS (st : List Ent) (k : Nat) (v : Int × List Int) : List Ent := st.map fun e => if e.1 = k then (e.1, v) else e
noncomputable def putS (st : List Ent) (k : Nat) (v : Int × List Int) : List Ent := if (lookS st k).isSome then updS st k v else st ++ [(k, v)]
noncomputable def stepS (g gv : Nat) (c : Int) (pl : Nat) (mn : Int) (ls : List Int) (st : List Ent) : List Ent :=
  match lookS st (stepN g gv pl) with
  | some (m2, l2) => putS st (stepN g gv pl) (m2 + mn, l2)
  | none => if stepN g gv pl = 0 then st else putS st (stepN g gv pl) (mn, ls ++ [c])
inductive DR (tl : List (Addr × Obj)) : List (Int × Value) → List Ent → Prop
  | nil : DR tl [] []
  | cons {k : Nat} {mn : Int} {ls : List Int} {a : Addr} {t1 t2 : Tok} {kvs : List (Int × Value)} {st : List Ent} : (a, tupO [.int mn t1, .str (rowsS ls) t2]) ∈ tl → DR tl kvs st → DR tl (((k : Int), .ref a) :: kvs) ((k, mn, ls) :: st)
theorem DR.mono {tl tl' : List (Addr × Obj)} {kvs : List (Int × Value)} {st : List Ent} (x : DR tl kvs st) (h : ∀ q ∈ tl, q ∈ tl') : DR tl' kvs st := by
  induction x with
  | nil => exact .nil
  | cons hm _ ih => exact .cons (h _ hm) ih
theorem DR.len {tl : List (Addr × Obj)} {kvs : List (Int × Value)} {st : List Ent} (x : DR tl kvs st) : kvs.length = st.length := by
  induction x with
  | nil => rfl
  | cons _ _ ih => simp [ih]
theorem DR.none {tl : List (Addr × Obj)} {kvs : List (Int × Value)} {st : List Ent} (x : DR tl kvs st) {k : Nat} (h : lookS st k = none) : valueAt kvs (k : Int) = none := by
  induction x with
  | nil => rfl
  | @cons k' _ _ _ _ _ _ _ hm _ ih =>
    unfold lookS at h
    by_cases e : k' = k
    · rw [if_pos e] at h; cases h
    · rw [if_neg e] at h
      have e' : ((k' : Nat) : Int) ≠ (k : Int) := by omega
      have := ih h
      simp only [valueAt] at this ⊢
      rw [List.find?_cons_of_neg (by simpa using e')]
      exact this
theorem DR.some {tl : List (Addr × Obj)} {kvs : List (Int × Value)} {st : List Ent} (x : DR tl kvs st) {k : Nat} {mn : Int} {ls : List Int} (h : lookS st k = some (mn, ls)) :
    ∃ a t1 t2, valueAt kvs (k : Int) = some (.ref a) ∧ (a, tupO [.int mn t1, .str (rowsS ls) t2]) ∈ tl := by
  induction x with
  | nil => cases h
  | @cons k' _ _ a t1 t2 _ _ hm _ ih =>
    unfold lookS at h
    by_cases e : k' = k
    · rw [if_pos e] at h
      simp only [Option.some.injEq, Prod.mk.injEq] at h
      obtain ⟨rfl, rfl⟩ := h
      refine ⟨a, t1, t2, ?_, hm⟩
      simp only [valueAt]
      rw [List.find?_cons_of_pos (by simp [e])]; rfl
    · rw [if_neg e] at h
      have e' : ((k' : Nat) : Int) ≠ (k : Int) := by omega
      obtain ⟨a, t1, t2, h1, h2⟩ := ih h
      refine ⟨a, t1, t2, ?_, h2⟩
      simp only [valueAt] at h1 ⊢
      rw [List.find?_cons_of_neg (by simpa using e')]
      exact h1
theorem DR.append {tl : List (Addr × Obj)} {kvs kvs' : List (Int × Value)} {st st' : List Ent} (x : DR tl kvs st) (y : DR tl kvs' st') : DR tl (kvs ++ kvs') (st ++ st') := by
  induction x with
  | nil => exact y
  | cons hm _ ih => exact .cons hm ih
theorem DR.upd {tl : List (Addr × Obj)} {kvs : List (Int × Value)} {st : List Ent} (x : DR tl kvs st) {k : Nat} {mn : Int} {ls : List Int} {a : Addr} {t1 t2 : Tok} (hm : (a, tupO [.int mn t1, .str (rowsS ls) t2]) ∈ tl) :
    DR tl (kvs.map fun kv => if kv.1 = (k : Int) then (kv.1, Value.ref a) else kv) (updS st k (mn, ls)) := by
  induction x with
  | nil => exact .nil
  | @cons k' _ _ _ _ _ _ _ hm' _ ih =>
    simp only [updS, List.map_cons]
    by_cases e : k' = k
    · have e' : ((k' : Nat) : Int) = (k : Int) := by omega
      rw [if_pos e', if_pos e]; exact .cons hm ih
    · have e' : ((k' : Nat) : Int) ≠ (k : Int) := by omega
      rw [if_neg e', if_neg e]; exact .cons hm' ih
theorem DR.any {tl : List (Addr × Obj)} {kvs : List (Int × Value)} {st : List Ent} (x : DR tl kvs st) (k : Nat) : (kvs.any fun kv => decide (kv.1 = (k : Int))) = (lookS st k).isSome := by
  induction x with
  | nil => rfl
  | @cons k' _ _ _ _ _ _ _ hm' _ ih =>
    unfold lookS
    by_cases e : k' = k
    · have e' : ((k' : Nat) : Int) = (k : Int) := by omega
      simp [e]
    · have e' : ((k' : Nat) : Int) ≠ (k : Int) := by omega
      simp only [List.any_cons, e', decide_false, Bool.false_or, ih, if_neg e]
theorem DR.put {tl : List (Addr × Obj)} {kvs : List (Int × Value)} {st : List Ent} (x : DR tl kvs st) {k : Nat} {mn : Int} {ls : List Int} {a : Addr} {t1 t2 : Tok} (hm : (a, tupO [.int mn t1, .str (rowsS ls) t2]) ∈ tl) :
    DR tl (stored kvs (k : Int) (.ref a)) (putS st k (mn, ls)) := by
  unfold stored putS
  rw [x.any k]
  split
  · exact x.upd hm
  · exact x.append (.cons hm .nil)
theorem permA {h₀ h : Heap} {L : Addr} {p0 p1 p2 p3 p4 p5 : Addr × Obj} {tl : List (Addr × Obj)} (N : News h₀ L h (p0 :: p1 :: p2 :: p3 :: p4 :: p5 :: tl)) : News h₀ L h (p1 :: p2 :: p3 :: p4 :: p5 :: p0 :: tl) :=
  newsSub N (by repeat (first | exact subR _ | exact subN | refine subC (by repeat (first | exact List.Mem.head _ | refine List.Mem.tail _ ?_)) ?_ | refine subT ?_))
theorem permB {h₀ h : Heap} {L : Addr} {p0 pa p1 p2 p3 p4 p5 : Addr × Obj} {tl : List (Addr × Obj)} (N : News h₀ L h (p0 :: pa :: p1 :: p2 :: p3 :: p4 :: p5 :: tl)) : News h₀ L h (p1 :: p2 :: p3 :: p4 :: p5 :: p0 :: tl) :=
  newsSub N (by repeat (first | exact subR _ | exact subN | refine subC (by repeat (first | exact List.Mem.head _ | refine List.Mem.tail _ ?_)) ?_ | refine subT ?_))
noncomputable def forB : Stmt → List Stmt
  | .For _ _ b _ _ => b
  | _ => []
noncomputable def cO' : List Stmt := forB (headStmt (cB'.drop 4))
noncomputable abbrev cO : {b : List Stmt // cO' = b} := by
  refine' ⟨_, ?h⟩
  case h => conv => lhs; whnf
noncomputable def cM' : List Stmt := forB (headStmt (cO'.drop 1))
noncomputable abbrev cM : {b : List Stmt // cM' = b} := by
  refine' ⟨_, ?h⟩
  case h => conv => lhs; whnf
noncomputable def cI' : List Stmt := forB (headStmt (cM'.drop 1))
noncomputable abbrev cI : {b : List Stmt // cI' = b} := by
  refine' ⟨_, ?h⟩
  case h => conv => lhs; whnf
theorem rowsS_snoc (ls : List Int) (c : Int) : rowsS (ls ++ [c]) = rowsS ls ++ rowS c := by
  induction ls with
  | nil => rw [List.nil_append, rowsS_cons]; show rowS c ++ Str.ofString "" = Str.ofString "" ++ rowS c; rw [app_nil]; show _ = (⟨#[] ++ (rowS c).cps⟩ : Str); rw [Array.empty_append]
  | cons x r ih => rw [List.cons_append, rowsS_cons, ih, rowsS_cons, PySem.Str.append_assoc]
theorem lsh1 {prog : Program} {w : World} {A : Around} {E : Value → Shared → Prop} {s : Shared} {x : Nat} {t u : Tok} {Q : Value → Shared → Prop} (hx : x < 128) (h : Q (.int ((x <<< 1 : Nat) : Int) s.toks) { s with toks := s.toks + 1 }) :
    wpAny (model prog w) A (binaryOp .LShift (.int (x : Int) t) (.int 1 u)) Q E s := by
  refine lshift_int (by decide) ?_ ?_
  · have := bits_of_lt (x := (x : Int)) (k := 7) (by omega) (by omega)
    omega
  · refine (congrArg (fun z => Q (.int z s.toks) { s with toks := s.toks + 1 }) ?_).mp h
    rw [Nat.shiftLeft_eq]; push_cast; rfl
theorem shr6 (x : Nat) : (((x : Int).fdiv (2 ^ Int.toNat 6)) == 1) = decide (x / 64 = 1) := by
  have e : (x : Int).fdiv (2 ^ Int.toNat 6) = ((x / 64 : Nat) : Int) := by
    show (x : Int).fdiv 64 = _
    rw [Int.fdiv_eq_ediv_of_nonneg _ (by decide)]; rfl
  rw [e]
  by_cases h : x / 64 = 1
  · simp [h]
  · have : ((x / 64 : Nat) : Int) ≠ 1 := by omega
    simp only [h, decide_false]
    exact beq_eq_false_iff_ne.mpr this
section
local macro_rules | `(tactic| walk_at "call ref") => `(tactic| (refine Stp.out ?_))
local macro_rules | `(tactic| walk_at "binaryOp LShift int int") => `(tactic| (refine Stp.out ?_))
local macro_rules | `(tactic| walk_at "compareOp In int ref") => `(tactic| (refine Stp.out ?_))
local macro_rules | `(tactic| walk_at "setItem ref int ref") => `(tactic| (refine Stp.out ?_))
local macro_rules | `(tactic| k_all) => `(tactic| assumption)

set_option maxHeartbeats 4000000 in
theorem turn0 {w : World} {p : Program} {loose : List Str} {mean : ExcName → Option Value} {mg mb : Str → Option Value}
    {dp un : Nat} {gd : Option (List Code)} {cn : Str} {cs : Scope} {a : Addr} {ccd : Value} {cl : List (Str × Addr)} {outer : List Env} {A₀ : Around} {base g' : Heap} {L L' : Addr} {m : Str → Option Value} {s : Shared} {Q : Flow → Shared → Prop}
    {D dl : Addr} {g0 g1 gv pl : Nat} {mn : Int} {ls : List Int} {tg u0 u1 k1 k2 k3 k4 k5 : Tok} {o1 o2 o3 od : Obj} {kvs : List (Int × Value)} {st : List Ent} {tl : List (Addr × Obj)} {sent w0 wl : Str} {mid : List Str}
    (B : Below A₀ base (envX cn cs L a ccd cl :: outer) g') (F : Fr g' L' s.heap m) (X : (hd.heap_39 w.params).In g') (T : Top p loose mean mg mb g')
    (N : News g' L' s.heap ((dl, od) :: (D, LCg.lst [.int (g0 : Int) u0, .int (g1 : Int) u1]) :: (L' + 1 + 1 + 1, o3) :: (L' + 1 + 1, o2) :: (L' + 1, o1) :: tl)) (ho2 : o2.data = .cell (some (.int (gv : Int) tg)))
    (hdo : od.IsDictOf (PySem.intKind PySem.Challenge.rw_pe0153_01.prog w) kvs) (hR : DR tl kvs st) (hkl : st.length ≤ 10000) (hsys : (dl == sysModules) = false) (hoff : ∀ p ∈ tl, p.1 ≠ dl) (hLd : @LT.lt Nat _ (L' + 1 + 1 + 1) dl) (hDd : @Ne Nat D dl)
    (m1 : m (Str.ofString "sent") = some (.str sent k1)) (m2 : m (Str.ofString "goes") = some (.ref D)) (m3 : m (Str.ofString "places") = some (.int (pl : Int) k2)) (m4 : m (Str.ofString "many") = some (.int mn k3)) (m5 : m (Str.ofString "text") = some (.str (rowsS ls) k4)) (m6 : m (Str.ofString "later") = some (.ref dl)) (m7 : m (Str.ofString "letter") = some (.int 0 k5))
    (hll : ls.length ≤ 20) (hpl : pl < 128)
    (hw : sent.length ≤ 100) (hin : (Builtin.Str.occurrences sent (Str.ofString "...") 0 sent.length 1).isEmpty = false) (hsp : Txt.split sent (Str.ofString "...") = w0 :: (mid ++ [wl])) (hwl : wl.length ≠ 0) (hmid : mid.length ≤ 90)
    (hmatch : ellP w0 mid wl (rowsS (ls ++ [0])) = decide (stepN g0 gv pl / 64 = 1))
    (hdp : dp + 2 < recursionLimit) (hu : un + 11 < cLine)
    (hret : ∀ h' tk' m' od' kvs' nw, Fr g' L' h' m' → News g' L' h' ((dl, od') :: (D, LCg.lst [.int (g0 : Int) u0, .int (g1 : Int) u1]) :: (L' + 1 + 1 + 1, o3) :: (L' + 1 + 1, o2) :: (L' + 1, o1) :: (nw ++ tl)) → od'.IsDictOf (PySem.intKind PySem.Challenge.rw_pe0153_01.prog w) kvs' → DR (nw ++ tl) kvs' (stepS g0 gv 0 pl mn ls st) →
      (∀ p ∈ nw, @LT.lt Nat _ dl p.1 ∧ ∀ q ∈ tl, @LT.lt Nat _ q.1 p.1) → (∀ y, y ≠ Str.ofString "longer" → y ≠ Str.ofString "reached" → m' y = m y) → Q .next { s with heap := h', toks := tk' }) :
    wpAny (model PySem.Challenge.rw_pe0153_01.prog w) ((ktrTop dp un gd cn cs L a ccd cl outer).deeper (cE L')) (execs cI.1 (cE L')) Q (fun _ _ => False) s := by
  have hM := mp7 m1 m2 m3 m4 m5 m6 m7
  rw [hM] at F
  have hrl := rowsS_len ls
  have hti : (Txt.item (Str.ofString "ab") 0).length = 1 := by decide +kernel
  (try k_fold)
  k_steps
  refine Stp.into ?_
  have hpg : pl &&& g0 < 128 := Nat.lt_of_le_of_lt Nat.and_le_left hpl
  have e1 : Builtin.bitAnd (pl : Int) ([(g0 : Int), (g1 : Int)].getD (Int.toNat 0) 0) = ((pl &&& g0 : Nat) : Int) := bitAnd_nat pl g0
  rw [e1]
  refine lsh1 hpg ?_
  (try dsimp only)
  k_steps
  refine Stp.into ?_
  (rename Fr _ _ _ _ => F9); (rename News _ _ _ _ => N9)
  rw [bitAnd_nat, bitOr_nat] at F9
  have hre : ((pl &&& g0) <<< 1) ||| (pl &&& gv) = stepN g0 gv pl := rfl
  have hlo : rowsS ls ++ Str.ofString "a" ++ Str.ofString "\r\n" = rowsS (ls ++ [0]) := by rw [rowsS_snoc, PySem.Str.append_assoc]; rfl
  have hgl := rowsS_len (ls ++ [0])
  rw [List.length_append, List.length_singleton] at hgl
  rw [hre, hlo] at F9
  rw [hlo]
  (try dsimp only at F9)
  refine' con_ell (B := B) (F := F9) (X := X) (T := T) rfl hw ?g hin hsp hwl hmid ?d ?u ?_
  case g => omega
  case d => show dp + 1 + 1 < _; omega
  case u => show un + 3 + 8 < _; omega
  intro h9 tk9 kp
  have F9 := kp.fr F9
  have N9 := kp.news N9
  rw [hmatch]
  (try dsimp only)
  k_steps
  · rename (_ != _) = true => hq
    rw [shr6] at hq
    simp at hq
  · refine Stp.into ?_
    clear hmatch
    generalize hrr : stepN g0 gv pl = r at *
    cases hlk : lookS st r with
    | some v =>
      obtain ⟨m2', l2⟩ := v
      obtain ⟨a0, t1, t2, hv, hm0⟩ := hR.some hlk
      refine kda_in (knd := PySem.intKind _ _) N9 (.head _) hdo hsys (intKind_is _ _ _ _) true (by rw [hv]; rfl) ?_
      have N9 := newsC N9 N9 (show (a0, tupO [.int m2' t1, .str (rowsS l2) t2]) ∈ _ from by simp only [List.mem_cons]; exact .inr (.inr (.inr (.inr (.inr hm0)))))
      have hne0 : @Ne Nat a0 dl := hoff _ hm0
      clear kp
      (try dsimp only)
      k_steps
      refine Stp.into ?_
      (rename Fr _ _ _ _ => F9); (rename News _ _ _ _ => N9)
      obtain ⟨da, hda⟩ := nameHead N9
      subst hda
      have htl : AllLt da tl := by first | exact (by assumption : @LT.lt Nat _ a0 da ∧ @LT.lt Nat _ dl da ∧ @LT.lt Nat _ D da ∧ @LT.lt Nat _ (L' + 1 + 1 + 1) da ∧ @LT.lt Nat _ (L' + 1 + 1) da ∧ @LT.lt Nat _ (L' + 1) da ∧ AllLt da tl).2.2.2.2.2.2 | exact (by assumption : @LT.lt Nat _ dl da ∧ @LT.lt Nat _ D da ∧ @LT.lt Nat _ (L' + 1 + 1 + 1) da ∧ @LT.lt Nat _ (L' + 1 + 1) da ∧ @LT.lt Nat _ (L' + 1) da ∧ AllLt da tl).2.2.2.2.2
      refine' kda_set (knd := PySem.intKind _ _) F9 N9 ?U hdo (intKind_is _ _ _ _) ?z ?_
      case U => k_updF
      case z => rw [sizeLine_eq, hR.len]; omega
      intro h8 o8 F8 N8 hd8
      clear F9 N9
      (try dsimp only at N8)
      (try dsimp only)
      k_steps
      have htl : AllLt da tl := by assumption
      refine' hret _ _ _ o8 _ [?tup] F8 (permB N8) hd8 ?_ (fun q hq => ?_) (fun y h1 h2 => by
        show (if y = _ then _ else if y = _ then _ else _) = _
        rw [if_neg h2, if_neg h1]; exact (congrFun hM y).symm)
      · have e9 : stepS g0 gv 0 pl mn ls st = putS st r (m2' + mn, l2) := by
          unfold stepS; rw [hrr, hlk]
        rw [e9]
        exact (hR.mono fun q hq => .tail _ hq).put (.head _)
      · rw [List.mem_singleton.mp hq]
        exact ⟨by omega, allLt_mem htl⟩
    | none =>
      have hv := hR.none hlk
      refine kda_in (knd := PySem.intKind _ _) N9 (.head _) hdo hsys (intKind_is _ _ _ _) false (by rw [hv]; rfl) ?_
      clear kp
      (try dsimp only)
      k_steps
      rotate_left
      · refine hret _ _ _ od kvs [] F9 N9 hdo ?_ (fun q hq => absurd hq List.not_mem_nil) (fun y h1 h2 => by
        show (if y = _ then _ else if y = _ then _ else _) = _
        rw [if_neg h2, if_neg h1]; exact (congrFun hM y).symm)
        have e9 : stepS g0 gv 0 pl mn ls st = st := by
          unfold stepS; rw [hrr, hlk]; exact if_pos (by omega)
        rw [e9]; exact hR
      refine Stp.into ?_
      (rename Fr _ _ _ _ => F9); (rename News _ _ _ _ => N9)
      obtain ⟨da, hda⟩ := nameHead N9
      subst hda
      have htl : AllLt da tl := by first | exact (by assumption : @LT.lt Nat _ a0 da ∧ @LT.lt Nat _ dl da ∧ @LT.lt Nat _ D da ∧ @LT.lt Nat _ (L' + 1 + 1 + 1) da ∧ @LT.lt Nat _ (L' + 1 + 1) da ∧ @LT.lt Nat _ (L' + 1) da ∧ AllLt da tl).2.2.2.2.2.2 | exact (by assumption : @LT.lt Nat _ dl da ∧ @LT.lt Nat _ D da ∧ @LT.lt Nat _ (L' + 1 + 1 + 1) da ∧ @LT.lt Nat _ (L' + 1 + 1) da ∧ @LT.lt Nat _ (L' + 1) da ∧ AllLt da tl).2.2.2.2.2
      refine' kda_set (knd := PySem.intKind _ _) F9 N9 ?U hdo (intKind_is _ _ _ _) ?z ?_
      case U => k_updF
      case z => rw [sizeLine_eq, hR.len]; omega
      intro h8 o8 F8 N8 hd8
      clear F9 N9
      (try dsimp only at N8)
      (try dsimp only)
      k_steps
      have htl : AllLt da tl := by assumption
      refine' hret _ _ _ o8 _ [?tup2] F8 (permA N8) hd8 ?_ (fun q hq => ?_) (fun y h1 h2 => by
        show (if y = _ then _ else if y = _ then _ else _) = _
        rw [if_neg h2, if_neg h1]; exact (congrFun hM y).symm)
      · have e9 : stepS g0 gv 0 pl mn ls st = putS st r (mn, ls ++ [0]) := by
          unfold stepS; rw [hrr, hlk]; exact if_neg (by omega)
        rw [e9]
        exact (hR.mono fun q hq => .tail _ hq).put (.head _)
      · rw [List.mem_singleton.mp hq]
        exact ⟨by omega, allLt_mem htl⟩

set_option maxHeartbeats 4000000 in
theorem turn1 {w : World} {p : Program} {loose : List Str} {mean : ExcName → Option Value} {mg mb : Str → Option Value}
    {dp un : Nat} {gd : Option (List Code)} {cn : Str} {cs : Scope} {a : Addr} {ccd : Value} {cl : List (Str × Addr)} {outer : List Env} {A₀ : Around} {base g' : Heap} {L L' : Addr} {m : Str → Option Value} {s : Shared} {Q : Flow → Shared → Prop}
    {D dl : Addr} {g0 g1 gv pl : Nat} {mn : Int} {ls : List Int} {tg u0 u1 k1 k2 k3 k4 k5 : Tok} {o1 o2 o3 od : Obj} {kvs : List (Int × Value)} {st : List Ent} {tl : List (Addr × Obj)} {sent w0 wl : Str} {mid : List Str}
    (B : Below A₀ base (envX cn cs L a ccd cl :: outer) g') (F : Fr g' L' s.heap m) (X : (hd.heap_39 w.params).In g') (T : Top p loose mean mg mb g')
    (N : News g' L' s.heap ((dl, od) :: (D, LCg.lst [.int (g0 : Int) u0, .int (g1 : Int) u1]) :: (L' + 1 + 1 + 1, o3) :: (L' + 1 + 1, o2) :: (L' + 1, o1) :: tl)) (ho2 : o2.data = .cell (some (.int (gv : Int) tg)))
    (hdo : od.IsDictOf (PySem.intKind PySem.Challenge.rw_pe0153_01.prog w) kvs) (hR : DR tl kvs st) (hkl : st.length ≤ 10000) (hsys : (dl == sysModules) = false) (hoff : ∀ p ∈ tl, p.1 ≠ dl) (hLd : @LT.lt Nat _ (L' + 1 + 1 + 1) dl) (hDd : @Ne Nat D dl)
    (m1 : m (Str.ofString "sent") = some (.str sent k1)) (m2 : m (Str.ofString "goes") = some (.ref D)) (m3 : m (Str.ofString "places") = some (.int (pl : Int) k2)) (m4 : m (Str.ofString "many") = some (.int mn k3)) (m5 : m (Str.ofString "text") = some (.str (rowsS ls) k4)) (m6 : m (Str.ofString "later") = some (.ref dl)) (m7 : m (Str.ofString "letter") = some (.int 1 k5))
    (hll : ls.length ≤ 20) (hpl : pl < 128)
    (hw : sent.length ≤ 100) (hin : (Builtin.Str.occurrences sent (Str.ofString "...") 0 sent.length 1).isEmpty = false) (hsp : Txt.split sent (Str.ofString "...") = w0 :: (mid ++ [wl])) (hwl : wl.length ≠ 0) (hmid : mid.length ≤ 90)
    (hmatch : ellP w0 mid wl (rowsS (ls ++ [1])) = decide (stepN g1 gv pl / 64 = 1))
    (hdp : dp + 2 < recursionLimit) (hu : un + 11 < cLine)
    (hret : ∀ h' tk' m' od' kvs' nw, Fr g' L' h' m' → News g' L' h' ((dl, od') :: (D, LCg.lst [.int (g0 : Int) u0, .int (g1 : Int) u1]) :: (L' + 1 + 1 + 1, o3) :: (L' + 1 + 1, o2) :: (L' + 1, o1) :: (nw ++ tl)) → od'.IsDictOf (PySem.intKind PySem.Challenge.rw_pe0153_01.prog w) kvs' → DR (nw ++ tl) kvs' (stepS g1 gv 1 pl mn ls st) →
      (∀ p ∈ nw, @LT.lt Nat _ dl p.1 ∧ ∀ q ∈ tl, @LT.lt Nat _ q.1 p.1) → (∀ y, y ≠ Str.ofString "longer" → y ≠ Str.ofString "reached" → m' y = m y) → Q .next { s with heap := h', toks := tk' }) :
    wpAny (model PySem.Challenge.rw_pe0153_01.prog w) ((ktrTop dp un gd cn cs L a ccd cl outer).deeper (cE L')) (execs cI.1 (cE L')) Q (fun _ _ => False) s := by
  have hM := mp7 m1 m2 m3 m4 m5 m6 m7
  rw [hM] at F
  have hrl := rowsS_len ls
  have hti : (Txt.item (Str.ofString "ab") 1).length = 1 := by decide +kernel
  (try k_fold)
  k_steps
  refine Stp.into ?_
  have hpg : pl &&& g1 < 128 := Nat.lt_of_le_of_lt Nat.and_le_left hpl
  have e1 : Builtin.bitAnd (pl : Int) ([(g0 : Int), (g1 : Int)].getD (Int.toNat 1) 0) = ((pl &&& g1 : Nat) : Int) := bitAnd_nat pl g1
  rw [e1]
  refine lsh1 hpg ?_
  (try dsimp only)
  k_steps
  refine Stp.into ?_
  (rename Fr _ _ _ _ => F9); (rename News _ _ _ _ => N9)
  rw [bitAnd_nat, bitOr_nat] at F9
  have hre : ((pl &&& g1) <<< 1) ||| (pl &&& gv) = stepN g1 gv pl := rfl
  have hlo : rowsS ls ++ Str.ofString "b" ++ Str.ofString "\r\n" = rowsS (ls ++ [1]) := by rw [rowsS_snoc, PySem.Str.append_assoc]; rfl
  have hgl := rowsS_len (ls ++ [1])
  rw [List.length_append, List.length_singleton] at hgl
  rw [hre, hlo] at F9
  rw [hlo]
  (try dsimp only at F9)
  refine' con_ell (B := B) (F := F9) (X := X) (T := T) rfl hw ?g hin hsp hwl hmid ?d ?u ?_
  case g => omega
  case d => show dp + 1 + 1 < _; omega
  case u => show un + 3 + 8 < _; omega
  intro h9 tk9 kp
  have F9 := kp.fr F9
  have N9 := kp.news N9
  rw [hmatch]
  (try dsimp only)
  k_steps
  · rename (_ != _) = true => hq
    rw [shr6] at hq
    simp at hq
  · refine Stp.into ?_
    clear hmatch
    generalize hrr : stepN g1 gv pl = r at *
    cases hlk : lookS st r with
    | some v =>
      obtain ⟨m2', l2⟩ := v
      obtain ⟨a0, t1, t2, hv, hm0⟩ := hR.some hlk
      refine kda_in (knd := PySem.intKind _ _) N9 (.head _) hdo hsys (intKind_is _ _ _ _) true (by rw [hv]; rfl) ?_
      have N9 := newsC N9 N9 (show (a0, tupO [.int m2' t1, .str (rowsS l2) t2]) ∈ _ from by simp only [List.mem_cons]; exact .inr (.inr (.inr (.inr (.inr hm0)))))
      have hne0 : @Ne Nat a0 dl := hoff _ hm0
      clear kp
      (try dsimp only)
      k_steps
      refine Stp.into ?_
      (rename Fr _ _ _ _ => F9); (rename News _ _ _ _ => N9)
      obtain ⟨da, hda⟩ := nameHead N9
      subst hda
      have htl : AllLt da tl := by first | exact (by assumption : @LT.lt Nat _ a0 da ∧ @LT.lt Nat _ dl da ∧ @LT.lt Nat _ D da ∧ @LT.lt Nat _ (L' + 1 + 1 + 1) da ∧ @LT.lt Nat _ (L' + 1 + 1) da ∧ @LT.lt Nat _ (L' + 1) da ∧ AllLt da tl).2.2.2.2.2.2 | exact (by assumption : @LT.lt Nat _ dl da ∧ @LT.lt Nat _ D da ∧ @LT.lt Nat _ (L' + 1 + 1 + 1) da ∧ @LT.lt Nat _ (L' + 1 + 1) da ∧ @LT.lt Nat _ (L' + 1) da ∧ AllLt da tl).2.2.2.2.2
      refine' kda_set (knd := PySem.intKind _ _) F9 N9 ?U hdo (intKind_is _ _ _ _) ?z ?_
      case U => k_updF
      case z => rw [sizeLine_eq, hR.len]; omega
      intro h8 o8 F8 N8 hd8
      clear F9 N9
      (try dsimp only at N8)
      (try dsimp only)
      k_steps
      have htl : AllLt da tl := by assumption
      refine' hret _ _ _ o8 _ [?tup] F8 (permB N8) hd8 ?_ (fun q hq => ?_) (fun y h1 h2 => by
        show (if y = _ then _ else if y = _ then _ else _) = _
        rw [if_neg h2, if_neg h1]; exact (congrFun hM y).symm)
      · have e9 : stepS g1 gv 1 pl mn ls st = putS st r (m2' + mn, l2) := by
          unfold stepS; rw [hrr, hlk]
        rw [e9]
        exact (hR.mono fun q hq => .tail _ hq).put (.head _)
      · rw [List.mem_singleton.mp hq]
        exact ⟨by omega, allLt_mem htl⟩
    | none =>
      have hv := hR.none hlk
      refine kda_in (knd := PySem.intKind _ _) N9 (.head _) hdo hsys (intKind_is _ _ _ _) false (by rw [hv]; rfl) ?_
      clear kp
      (try dsimp only)
      k_steps
      rotate_left
      · refine hret _ _ _ od kvs [] F9 N9 hdo ?_ (fun q hq => absurd hq List.not_mem_nil) (fun y h1 h2 => by
        show (if y = _ then _ else if y = _ then _ else _) = _
        rw [if_neg h2, if_neg h1]; exact (congrFun hM y).symm)
        have e9 : stepS g1 gv 1 pl mn ls st = st := by
          unfold stepS; rw [hrr, hlk]; exact if_pos (by omega)
        rw [e9]; exact hR
      refine Stp.into ?_
      (rename Fr _ _ _ _ => F9); (rename News _ _ _ _ => N9)
      obtain ⟨da, hda⟩ := nameHead N9
      subst hda
      have htl : AllLt da tl := by first | exact (by assumption : @LT.lt Nat _ a0 da ∧ @LT.lt Nat _ dl da ∧ @LT.lt Nat _ D da ∧ @LT.lt Nat _ (L' + 1 + 1 + 1) da ∧ @LT.lt Nat _ (L' + 1 + 1) da ∧ @LT.lt Nat _ (L' + 1) da ∧ AllLt da tl).2.2.2.2.2.2 | exact (by assumption : @LT.lt Nat _ dl da ∧ @LT.lt Nat _ D da ∧ @LT.lt Nat _ (L' + 1 + 1 + 1) da ∧ @LT.lt Nat _ (L' + 1 + 1) da ∧ @LT.lt Nat _ (L' + 1) da ∧ AllLt da tl).2.2.2.2.2
      refine' kda_set (knd := PySem.intKind _ _) F9 N9 ?U hdo (intKind_is _ _ _ _) ?z ?_
      case U => k_updF
      case z => rw [sizeLine_eq, hR.len]; omega
      intro h8 o8 F8 N8 hd8
      clear F9 N9
      (try dsimp only at N8)
      (try dsimp only)
      k_steps
      have htl : AllLt da tl := by assumption
      refine' hret _ _ _ o8 _ [?tup2] F8 (permA N8) hd8 ?_ (fun q hq => ?_) (fun y h1 h2 => by
        show (if y = _ then _ else if y = _ then _ else _) = _
        rw [if_neg h2, if_neg h1]; exact (congrFun hM y).symm)
      · have e9 : stepS g1 gv 1 pl mn ls st = putS st r (mn, ls ++ [1]) := by
          unfold stepS; rw [hrr, hlk]; exact if_neg (by omega)
        rw [e9]
        exact (hR.mono fun q hq => .tail _ hq).put (.head _)
      · rw [List.mem_singleton.mp hq]
        exact ⟨by omega, allLt_mem htl⟩

end
end Mine
end

section
theorem Mine.woff_CCntC {M : PySem.Model} {A : PySem.Around} {E Q : PySem.Value → PySem.Shared → Prop} {s : PySem.Shared} (h : PySem.wpAny M A (PySem.call (.builtin "no") []) Q E s) : PySem.wpAny M A (PySem.call (.builtin "no") []) Q E s := by
  w_top off
  first | (walk1; fail) | exact h
open PySem PySem.W PyProof.Rows PySem.Calls PySem.Spec
set_option maxRecDepth 100000
namespace Mine
theorem filled14 (w : World) : (hd.heap_39 w.params).In ({} : Heap) → PySem.Challenge.rw_pe0153_01.foot = 4 := by
  k_fill
  intro _; rfl

theorem DR.drop {A B : List (Addr × Obj)} {x : Addr × Obj} {kvs : List (Int × Value)} {st : List Ent} (d : DR (A ++ x :: B) kvs st) (hx : ∀ vs, x.2 ≠ tupO vs) : DR (A ++ B) kvs st := by
  generalize hl : A ++ x :: B = l at d
  induction d with
  | nil => exact .nil
  | @cons k' mn ls a t1 t2 _ _ hm _ ih =>
    subst hl
    have hm2 : (a, tupO [.int mn t1, .str (rowsS ls) t2]) ∈ A ++ B := by
      rcases List.mem_append.mp hm with h | h
      · exact List.mem_append_left _ h
      · rcases List.mem_cons.mp h with h | h
        · exact absurd (by rw [← h]) (hx _)
        · exact List.mem_append_right _ h
    exact .cons hm2 ih
theorem putS_len (st : List Ent) (k : Nat) (v : Int × List Int) : (putS st k v).length ≤ st.length + 1 := by
  unfold putS updS; split <;> simp
theorem stepS_len (g gv : Nat) (c : Int) (pl : Nat) (mn : Int) (ls : List Int) (st : List Ent) : (stepS g gv c pl mn ls st).length ≤ st.length + 1 := by
  unfold stepS; split
  · exact putS_len _ _ _
  · split
    · omega
    · exact putS_len _ _ _
theorem permI {h₀ h : Heap} {L : Addr} {p0 p1 p2 p3 p4 p5 : Addr × Obj} {tl nw : List (Addr × Obj)} (N : News h₀ L h (p1 :: p2 :: p3 :: p4 :: p5 :: (nw ++ p0 :: tl))) : News h₀ L h (p0 :: p1 :: p2 :: p3 :: p4 :: p5 :: (nw ++ tl)) :=
  newsSub N (by repeat' (first | exact subR _ | exact subN | exact subL (subR _) | refine subC (by repeat (first | exact List.Mem.head _ | refine List.Mem.tail _ ?_ | refine List.mem_append_right _ ?_)) ?_ | refine subA ?_ ?_ | refine subT ?_ | refine subG ?_))
theorem clsNe {o : Obj} {c : String} (h : o.cls = .type c) (hc : c ≠ "tuple") : ∀ vs, o ≠ tupO vs := fun vs e => by
  rw [e] at h; exact hc (Value.type.inj h).symm
theorem itR_cls (x y : Int) : ∀ vs, itR x y ≠ tupO vs := clsNe (c := "range_iterator") rfl (by decide)
theorem dictNe {prog : Program} {w : World} {o : Obj} {kvs : List (Int × Value)} (h : Obj.IsDictOf (PySem.intKind prog w) o kvs) : ∀ vs, o ≠ tupO vs := fun vs e => by
  obtain ⟨es, ep, _, hd, _⟩ := h
  rw [e] at hd; cases hd
section
local macro_rules | `(tactic| k_all) => `(tactic| assumption)
local macro_rules | `(tactic| walk_at "exec For Name Call cons nil") => `(tactic| (refine Stp.out ?_))
local macro_rules | `(tactic| walk_at "pyIter ref") => `(tactic| (refine Stp.out ?_))
local macro_rules | `(tactic| walk_at "UnrEnd") => `(tactic| (refine Stp.out ?_))

set_option maxHeartbeats 4000000 in
theorem turnM {w : World} {p : Program} {loose : List Str} {mean : ExcName → Option Value} {mg mb : Str → Option Value}
    {dp un : Nat} {gd : Option (List Code)} {cn : Str} {cs : Scope} {a : Addr} {ccd : Value} {cl : List (Str × Addr)} {outer : List Env} {A₀ : Around} {base g' : Heap} {L L' : Addr} {m : Str → Option Value} {s : Shared} {Q : Flow → Shared → Prop}
    {D dl lv : Addr} {g0 g1 gv pl : Nat} {mn : Int} {ls : List Int} {tg u0 u1 k1 k2 : Tok} {o1 o2 o3 od olv : Obj} {kvs kvsL : List (Int × Value)} {st stL : List Ent} {tl : List (Addr × Obj)} {sent w0 wl : Str} {mid : List Str}
    (B : Below A₀ base (envX cn cs L a ccd cl :: outer) g') (F : Fr g' L' s.heap m) (X : (hd.heap_39 w.params).In g') (T : Top p loose mean mg mb g')
    (N : News g' L' s.heap ((dl, od) :: (D, LCg.lst [.int (g0 : Int) u0, .int (g1 : Int) u1]) :: (L' + 1 + 1 + 1, o3) :: (L' + 1 + 1, o2) :: (L' + 1, o1) :: tl)) (ho2 : o2.data = .cell (some (.int (gv : Int) tg))) (ho3 : o3.data = .cell (some (.ref lv)))
    (hdo : od.IsDictOf (PySem.intKind PySem.Challenge.rw_pe0153_01.prog w) kvs) (hR : DR tl kvs st) (hkl : st.length ≤ 1000) (hsys : (dl == sysModules) = false) (hoff : ∀ p ∈ tl, p.1 ≠ dl) (hLd : @LT.lt Nat _ (L' + 1 + 1 + 1) dl) (hDd : @Ne Nat D dl)
    (hlm : (lv, olv) ∈ tl) (hlo : olv.IsDictOf (PySem.intKind PySem.Challenge.rw_pe0153_01.prog w) kvsL) (hRL : DR tl kvsL stL) (hlk : lookS stL pl = some (mn, ls))
    (m1 : m (Str.ofString "sent") = some (.str sent k1)) (m2 : m (Str.ofString "goes") = some (.ref D)) (m3 : m (Str.ofString "places") = some (.int (pl : Int) k2)) (m6 : m (Str.ofString "later") = some (.ref dl))
    (hll : ls.length ≤ 20) (hpl : pl < 128)
    (hw : sent.length ≤ 100) (hin : (Builtin.Str.occurrences sent (Str.ofString "...") 0 sent.length 1).isEmpty = false) (hsp : Txt.split sent (Str.ofString "...") = w0 :: (mid ++ [wl])) (hwl : wl.length ≠ 0) (hmid : mid.length ≤ 90)
    (hm0 : ellP w0 mid wl (rowsS (ls ++ [0])) = decide (stepN g0 gv pl / 64 = 1)) (hm1 : ellP w0 mid wl (rowsS (ls ++ [1])) = decide (stepN g1 gv pl / 64 = 1))
    (hdp : dp + 2 < recursionLimit) (hu : un + 11 < cLine)
    (hret : ∀ h' tk' m' od' kvs' nw, Fr g' L' h' m' → News g' L' h' ((dl, od') :: (D, LCg.lst [.int (g0 : Int) u0, .int (g1 : Int) u1]) :: (L' + 1 + 1 + 1, o3) :: (L' + 1 + 1, o2) :: (L' + 1, o1) :: (nw ++ tl)) → od'.IsDictOf (PySem.intKind PySem.Challenge.rw_pe0153_01.prog w) kvs' → DR (nw ++ tl) kvs' (stepS g1 gv 1 pl mn ls (stepS g0 gv 0 pl mn ls st)) →
      (∀ p ∈ nw, @LT.lt Nat _ dl p.1 ∧ ∀ q ∈ tl, @LT.lt Nat _ q.1 p.1) → (∀ y, y ≠ Str.ofString "longer" → y ≠ Str.ofString "reached" → y ≠ Str.ofString "many" → y ≠ Str.ofString "text" → y ≠ Str.ofString "letter" → m' y = m y) → Q .next { s with heap := h', toks := tk' }) :
    wpAny (model PySem.Challenge.rw_pe0153_01.prog w) ((ktrTop dp un gd cn cs L a ccd cl outer).deeper (cE L')) (execs cM.1 (cE L')) Q (fun _ _ => False) s := by
  have hM := mp4 m1 m2 m3 m6
  rw [hM] at F
  obtain ⟨a0, t1, t2, hv, hm0'⟩ := hRL.some hlk
  have N2 := newsC (newsC N N (show (lv, olv) ∈ _ from by simp only [List.mem_cons]; exact .inr (.inr (.inr (.inr (.inr hlm)))))) N (show (a0, tupO [.int mn t1, .str (rowsS ls) t2]) ∈ _ from by simp only [List.mem_cons]; exact .inr (.inr (.inr (.inr (.inr hm0')))))
  have hne0 : @Ne Nat a0 dl := hoff _ hm0'
  have hne1 : @Ne Nat lv dl := hoff _ hlm
  (try k_fold)
  k_steps
  refine Stp.into ?_
  (rename Fr _ _ _ _ => lF')
  (with_unfolding_all refine' For_invVF lF' ?k1 ?k2 ?_; (case k1 => exact rfl); (case k2 => exact rfl))
  k_steps
  refine Stp.into ?_
  (rename Fr _ _ _ _ => F9); (rename News _ _ _ _ => N9); (rename IsRange _ _ _ _ _ _ _ _ => hr9)
  have N9 := newsSub (l := (dl, od) :: (D, LCg.lst [.int (g0 : Int) u0, .int (g1 : Int) u1]) :: (L' + 1 + 1 + 1, o3) :: (L' + 1 + 1, o2) :: (L' + 1, o1) :: tl) N9 (fun q hq => .tail _ (.tail _ hq))
  refine' iter_rangeUnr (n := 2) rfl hr9 (by decide) rfl F9 N9 fun I hI => ?_
  have hId : @LT.lt Nat _ dl I := hI _ (.head _)
  have hIt : ∀ p ∈ tl, @LT.lt Nat _ p.1 I := fun p hp => hI _ (by simp only [List.mem_cons]; exact .inr (.inr (.inr (.inr (.inr hp)))))
  have hID : @LT.lt Nat _ D I := hI (D, _) (.tail _ (.head _))
  refine RangeRest.succ fun tA hA tkA FA NA => ?_
  refine wpAny_noRaise ?_
  refine' turn0 (tl := (I, _) :: tl) B FA X T (permA NA) ho2 hdo (hR.mono fun q hq => .tail _ hq) (by omega) hsys ?off hLd hDd ?a1 ?a2 ?a3 ?a4 ?a5 ?a6 ?a7 hll hpl hw hin hsp hwl hmid hm0 hdp hu ?_
  case off =>
    intro p hp
    rcases List.mem_cons.mp hp with rfl | hp
    · exact Nat.ne_of_gt hId
    · exact hoff p hp
  case a1 => exact rfl
  case a2 => exact rfl
  case a3 => exact rfl
  case a4 => exact rfl
  case a5 => exact rfl
  case a6 => exact rfl
  case a7 => exact rfl
  intro h1 tk1 mA odA kvsA nwA F1 N1 hd1 hR1 hnw1 hmA
  refine ⟨h1, tk1, mA, _, rfl, F1, permI N1, ?_, ?_⟩
  · intro p hp
    simp only [List.mem_cons, List.mem_append] at hp
    rcases hp with rfl | rfl | rfl | rfl | rfl | hp | hp
    · exact Nat.ne_of_lt hId
    · exact Nat.ne_of_lt hID
    · exact neN (by omega)
    · exact neN (by omega)
    · exact neN (by omega)
    · exact Nat.ne_of_gt ((hnw1 p hp).2 _ (.head _))
    · exact Nat.ne_of_lt (hIt p hp)
  have hlenA : (stepS g0 gv 0 pl mn ls st).length ≤ st.length + 1 := stepS_len _ _ _ _ _ _ _
  refine RangeRest.succ fun tB hB tkB FB NB => ?_
  refine wpAny_noRaise ?_
  refine' turn1 (tl := (I, _) :: (nwA ++ tl)) B FB X T (permA NB) ho2 hd1 ((hR1.drop (itR_cls _ _)).mono fun q hq => .tail _ hq) (by omega) hsys ?off2 hLd hDd ?b1 ?b2 ?b3 ?b4 ?b5 ?b6 ?b7 hll hpl hw hin hsp hwl hmid hm1 hdp hu ?_
  case off2 =>
    intro p hp
    rcases List.mem_cons.mp hp with rfl | hp
    · exact Nat.ne_of_gt hId
    · rcases List.mem_append.mp hp with hp | hp
      · exact Nat.ne_of_gt (hnw1 p hp).1
      · exact hoff p hp
  case b1 => exact (hmA _ (by decide) (by decide)).trans rfl
  case b2 => exact (hmA _ (by decide) (by decide)).trans rfl
  case b3 => exact (hmA _ (by decide) (by decide)).trans rfl
  case b4 => exact (hmA _ (by decide) (by decide)).trans rfl
  case b5 => exact (hmA _ (by decide) (by decide)).trans rfl
  case b6 => exact (hmA _ (by decide) (by decide)).trans rfl
  case b7 => exact rfl
  intro h2 tk2 mB odB kvsB nwB F2 N2' hd2 hR2 hnw2 hmB
  refine ⟨h2, tk2, mB, _, rfl, F2, permI N2', ?_, ?_⟩
  · intro p hp
    simp only [List.mem_cons, List.mem_append] at hp
    rcases hp with rfl | rfl | rfl | rfl | rfl | hp | hp | hp
    · exact Nat.ne_of_lt hId
    · exact Nat.ne_of_lt hID
    · exact neN (by omega)
    · exact neN (by omega)
    · exact neN (by omega)
    · exact Nat.ne_of_gt ((hnw2 p hp).2 _ (.head _))
    · exact Nat.ne_of_gt ((hnw1 p hp).2 _ (.head _))
    · exact Nat.ne_of_lt (hIt p hp)
  refine RangeRest.zero fun h3 tk3 F3 N3 => ?_
  (try dsimp only)
  k_steps
  refine hret _ _ _ odB _ (nwB ++ nwA) F3 (by rw [List.append_assoc]; exact N3) hd2 (by rw [List.append_assoc]; exact hR2.drop (itR_cls _ _)) (fun p hp => ?_) (fun y e1 e2 e3 e4 e5 => ?_)
  · rcases List.mem_append.mp hp with hp | hp
    · exact ⟨(hnw2 p hp).1, fun q hq => (hnw2 p hp).2 q (.tail _ (List.mem_append_right _ hq))⟩
    · exact ⟨(hnw1 p hp).1, fun q hq => (hnw1 p hp).2 q (.tail _ hq)⟩
  · rw [hmB y e1 e2]
    show (if y = _ then _ else _) = _
    rw [if_neg e5, hmA y e1 e2]
    show (if y = _ then _ else if y = _ then _ else if y = _ then _ else _) = _
    rw [if_neg e5, if_neg e4, if_neg e3]
    exact (congrFun hM y).symm

end
end Mine
end

section
theorem Mine.woff_CompD {M : PySem.Model} {A : PySem.Around} {E Q : PySem.Value → PySem.Shared → Prop} {s : PySem.Shared} (h : PySem.wpAny M A (PySem.call (.builtin "no") []) Q E s) : PySem.wpAny M A (PySem.call (.builtin "no") []) Q E s := by
  w_top off
  first | (walk1; fail) | exact h
open PySem PySem.W PyProof.Rows PySem.Calls PySem.Spec
set_option maxRecDepth 100000
set_option maxHeartbeats 2000000
namespace Mine
open LCg LCt
section
variable {prog : Program} {w : World} {A : Around} {E : Value → Shared → Prop} {s : Shared} {h₀ : Heap} {L : Addr} {m : Str → Option Value} {env : Env}
/-- the source of a comprehension with a test is a dict of the ledger, its keys ints -/
noncomputable def SrcDT (prog : Program) (w : World) (A : Around) (h₀ : Heap) (L : Addr) (m : Str → Option Value) (env : Env) (ct elt : Expr) (x : Str) (scope : Scope) (cl : List (Str × Addr)) (Fin : Shared → List Value → List (Addr × Obj) → Prop) (xv : Value) (s₁ : Shared) : Prop :=
  ∃ d od kvs news, xv = .ref d ∧ A.handled = none ∧ Fr h₀ L s₁.heap m ∧ News h₀ L s₁.heap news ∧ (d, od) ∈ news ∧ Obj.IsDictOf (PySem.intKind prog w) od kvs ∧ (d == sysModules) = false ∧ kvs.length ≤ sizeLine ∧
    ∀ s₂ : Shared, (∃ h, s₂ = { s₁ with heap := h }) → CompRestT prog w A h₀ L m env ct elt x scope cl s₂ (fun nw => (d, od) ∈ nw) (fun i v => ∃ k x, kvs[i]? = some (k, x) ∧ (PySem.intKind prog w).is k v = true) (Fin s₂) kvs.length 0 [] news
theorem ListComp_TD {ct elt iter : Expr} {x : Str} {px : Pos} {scope : Scope} {cl : List (Str × Addr)} {pos : Pos} {Q : Value → Shared → Prop} (_F₀ : Fr h₀ L s.heap m)
    (hclos : closureFor scope env = pure cl) (hcell : ∀ y ∈ scope.names, y.2 ≠ .cell) (hkind : scope.kind = .function)
    (hnames : ∀ y ∈ scope.names, y.2 = .local → scope.names.lookup y.1 = some .local) (hx : scope.names.lookup x = some .local)
    (h : wpAny (model prog w) A (eval iter env) (SrcDT prog w A h₀ L m env ct elt x scope cl (fun s₂ => FinE h₀ L m s₂ Q)) E s)
    (hs : ∀ x, foldedSetIterable iter env x = pure x := by intro _; rfl) :
    wpAny (model prog w) A (eval (.ListComp elt [⟨.Name x px, iter, [ct], 0⟩] scope pos) env) Q E s := by
  rw [eval_ListComp]
  refine wpAny_comprehension_free (use := none) rfl hs hclos hkind hnames (wpAny_mono h (fun xv s₁ h₁ => ?_) fun _ _ e => e)
  obtain ⟨d, od, kvs, news, rfl, hh, F, N, hm, hd, lo, hsz, R⟩ := h₁
  obtain ⟨ep, hat⟩ := (kda_dict N hm hd).dictAt
  have hlt : d < s₁.heap.objs.size := hat.lt_size
  have hne : d ≠ s₁.heap.objs.size := Nat.ne_of_lt hlt
  refine wpAny_pyIter_dict lo hat ?_
  have hod : ∀ h' : Heap, h'.get? d = some od → h'.DictAt (PySem.intKind prog w) d kvs ep := by
    obtain ⟨o, es, ho, r⟩ := hat
    have e : o = od := by have := (N _ hm).1; rw [ho] at this; exact Option.some.inj this
    subst e
    exact fun h' e' => ⟨o, es, e', r⟩
  refine block_T (Walks.dictKeys (knd := PySem.intKind prog w) hh s₁.heap.objs.size d hne kvs ep) hsz (fun i h st => by obtain ⟨o, e, _⟩ := st.1; exact ⟨o, e⟩) ?_ hcell hkind hx ⟨⟨_, Heap.get?_push_size _ rfl, rfl, rfl⟩, hat.push _⟩ (fun b hb => ?_)
    (F.push _) (fun p hp => ⟨Heap.get?_push_of_some _ (N p hp).1, (N p hp).2⟩) (Nat.ne_of_lt F.ns.lt) (next_is_new F) (fun p hp => Nat.ne_of_lt (Heap.lt_size (N p hp).1)) hm (R _ ⟨_, rfl⟩) ?_
  · intro i h h' o nw st e1 e2 k nn S
    exact ⟨st.1.at fun o' eo => by rw [e1] at eo; cases eo; exact e2, hod h' (nn _ S).1⟩
  · show b < (s₁.heap.push _).objs.size
    rw [Heap.size_push]
    rcases List.mem_cons.mp hb with rfl | hb
    · exact Nat.lt_succ_self _
    · rw [List.mem_singleton.mp hb]; exact Nat.lt_succ_of_lt hlt
  · intro D C h tk m' ys news' F' N' o1 hn hC₀ hD₀ hCL hDL hCD offC fin
    refine ⟨m', hn, fun h'' hs'' => fin D h'' tk (F'.change hs'' hCL hC₀) (fun p hp => ?_) o1⟩
    refine ⟨hs''.extBut _ _ ?_ (N' p hp).1, (N' p hp).2⟩
    rcases List.mem_cons.mp hp with rfl | hp
    · exact Ne.symm hCD
    · exact offC p hp
end
/-- the turns of a loop over a dict's keys -/
theorem keysRest_ind {prog : Program} {w : World} {A : Around} {E : Value → Shared → Prop} {s : Shared} {env : Env} {h₀ : Heap} {target : Expr} {body : List Stmt} {Q : Flow → Shared → Prop} {I : Addr} {lp : Addr × Obj} {α : Type} (key : α → Nat) (Inv : List α → (Str → Option Value) → List (Addr × Obj) → Prop)
    (done : ∀ m news, Inv [] m news → ∀ h tk, Fr h₀ env.locals h m → News h₀ env.locals h news → Q .next { s with heap := h, toks := tk })
    (turn : ∀ e r m news, Inv (e :: r) m news → ∀ t (oI : Obj) h tk, oI.cls = .type "dict_keyiterator" → Fr h₀ env.locals h m → News h₀ env.locals h ((I, oI) :: news) →
      wpAny (model prog w) A (assign target env (.int (key e : Int) t)) (fun _ s₂ => wpAny (model prog w) A (execs body env) (UnrPostW h₀ env.locals { s with heap := h, toks := tk } [(I, oI)] (fun m' n' => lp ∈ n' ∧ Inv r m' n') Q) E s₂) E { s with heap := h, toks := tk }) :
    ∀ (es : List α) (m : Str → Option Value) (news : List (Addr × Obj)), Inv es m news → ItemsRest prog w A E h₀ env target body Q s [(I, "dict_keyiterator")] [lp] (es.map fun e => Itm.tok (kyVal (.int (key e : Int)))) m news := by
  intro es
  induction es with
  | nil => exact fun m news hi => ItemsRest.zero (done m news hi)
  | cons e r ih =>
    intro m news hi
    refine ItemsRest.tok fun t h tk F o hc N => ?_
    refine wpAny_mono (turn e r m news hi t o h tk hc F N) (fun _ s₂ hq => wpAny_mono hq (fun f s₃ hp => ?_) fun _ _ x => x) fun _ _ x => x
    cases f with
    | ret v => exact hp
    | brk => exact hp
    | next =>
      obtain ⟨h', tk', m', news', e1, F', N', off, h1, h2⟩ := hp
      exact ⟨h', tk', m', news', e1, F', N', off, ⟨h1, trivial⟩, ih m' news' h2⟩
    | cont =>
      obtain ⟨h', tk', m', news', e1, F', N', off, h1, h2⟩ := hp
      exact ⟨h', tk', m', news', e1, F', N', off, ⟨h1, trivial⟩, ih m' news' h2⟩
end Mine
end

section
theorem Mine.woff_CCntD {M : PySem.Model} {A : PySem.Around} {E Q : PySem.Value → PySem.Shared → Prop} {s : PySem.Shared} (h : PySem.wpAny M A (PySem.call (.builtin "no") []) Q E s) : PySem.wpAny M A (PySem.call (.builtin "no") []) Q E s := by
  w_top off
  first | (walk1; fail) | exact h
open PySem PySem.W PyProof.Rows PySem.Calls PySem.Spec
set_option maxRecDepth 100000
namespace Mine
theorem filled15 (w : World) : (hd.heap_39 w.params).In ({} : Heap) → PySem.Challenge.rw_pe0153_01.foot = 4 := by
  k_fill
  intro _; rfl

theorem permD {h₀ h : Heap} {L : Addr} {p0 p1 p2 p3 p4 p5 p6 : Addr × Obj} {tl : List (Addr × Obj)} (N : News h₀ L h (p0 :: p1 :: p2 :: p3 :: p4 :: p5 :: p6 :: tl)) : News h₀ L h (p1 :: p3 :: p4 :: p5 :: p6 :: p2 :: tl) :=
  newsSub N (by repeat (first | exact subR _ | exact subN | refine subC (by repeat (first | exact List.Mem.head _ | refine List.Mem.tail _ ?_)) ?_ | refine subT ?_))
theorem frC {h₀ h : Heap} {L : Addr} {m m' : Str → Option Value} (F : Fr h₀ L h m) (e : m = m') : Fr h₀ L h m' := e ▸ F
theorem permC {h₀ h : Heap} {L : Addr} {p0 pk p1 p2 p3 p4 : Addr × Obj} {tl : List (Addr × Obj)} (N : News h₀ L h (p0 :: pk :: p1 :: p2 :: p3 :: p4 :: tl)) : News h₀ L h (pk :: p0 :: p1 :: p2 :: p3 :: p4 :: tl) :=
  newsSub N (by repeat (first | exact subR _ | exact subN | refine subC (by repeat (first | exact List.Mem.head _ | refine List.Mem.tail _ ?_)) ?_ | refine subT ?_))
theorem DR.keys {tl : List (Addr × Obj)} {kvs : List (Int × Value)} {st : List Ent} (x : DR tl kvs st) : kvs.map (fun p => Itm.tok (kyVal (PyData.int p.1))) = st.map fun e => Itm.tok (kyVal (PyData.int (e.1 : Int))) := by
  induction x with
  | nil => rfl
  | cons _ _ ih => simp only [List.map_cons, ih]
/-- where the pattern can have come to behind the rows ls -/
noncomputable def reachN (g0 g1 gv : Nat) (ls : List Int) : Nat := ls.foldl (fun st c => stepN (if c = 0 then g0 else g1) gv st) 1
theorem reachN_snoc (g0 g1 gv : Nat) (ls : List Int) (c : Int) : reachN g0 g1 gv (ls ++ [c]) = stepN (if c = 0 then g0 else g1) gv (reachN g0 g1 gv ls) := by
  unfold reachN; rw [List.foldl_append]; rfl
noncomputable def stepE (g0 g1 gv : Nat) (st : List Ent) (e : Ent) : List Ent := stepS g1 gv 1 e.1 e.2.1 e.2.2 (stepS g0 gv 0 e.1 e.2.1 e.2.2 st)
noncomputable def nextL (g0 g1 gv : Nat) (st : List Ent) : List Ent := st.foldl (stepE g0 g1 gv) []
theorem stepE_len (g0 g1 gv : Nat) (st : List Ent) (e : Ent) : (stepE g0 g1 gv st e).length ≤ st.length + 2 := by
  have h1 := stepS_len g0 gv 0 e.1 e.2.1 e.2.2 st
  have h2 := stepS_len g1 gv 1 e.1 e.2.1 e.2.2 (stepS g0 gv 0 e.1 e.2.1 e.2.2 st)
  unfold stepE; omega
theorem lookS_in {st : List Ent} {k : Nat} {v : Int × List Int} (h : lookS st k = some v) : (k, v) ∈ st := by
  induction st with
  | nil => cases h
  | cons x r ih =>
    unfold lookS at h
    by_cases e : x.1 = k
    · rw [if_pos e] at h
      cases h
      subst e
      exact .head _
    · rw [if_neg e] at h
      exact .tail _ (ih h)
theorem lookS_no {st : List Ent} {k : Nat} (h : lookS st k = none) : k ∉ st.map (·.1) := by
  induction st with
  | nil => exact List.not_mem_nil
  | cons x r ih =>
    unfold lookS at h
    by_cases e : x.1 = k
    · rw [if_pos e] at h; cases h
    · rw [if_neg e] at h
      intro hm
      rcases List.mem_cons.mp hm with hm | hm
      · exact e hm.symm
      · exact ih h hm
theorem updS_keys (st : List Ent) (k : Nat) (v : Int × List Int) : (updS st k v).map (·.1) = st.map (·.1) := by
  unfold updS; rw [List.map_map]; congr 1; funext e; simp only [Function.comp]; split <;> rfl
theorem putS_good {P : Nat → List Int → Prop} {st : List Ent} {k : Nat} {v : Int × List Int} (h1 : (st.map (·.1)).Nodup) (h2 : ∀ e ∈ st, P e.1 e.2.2) (h3 : P k v.2) : ((putS st k v).map (·.1)).Nodup ∧ ∀ e ∈ putS st k v, P e.1 e.2.2 := by
  unfold putS
  cases hl : lookS st k with
  | some x =>
    simp only [Option.isSome_some, if_true]
    rw [updS_keys]
    refine ⟨h1, fun e he => ?_⟩
    obtain ⟨e', he', rfl⟩ := List.mem_map.mp he
    by_cases q : e'.1 = k
    · rw [if_pos q]; show P e'.1 v.2; rw [q]; exact h3
    · rw [if_neg q]; exact h2 e' he'
  | none =>
    simp only [Option.isSome_none, Bool.false_eq_true, if_false]
    rw [List.map_append]
    refine ⟨?_, fun e he => ?_⟩
    · rw [List.nodup_append]
      refine ⟨h1, by simp, fun a ha b hb => ?_⟩
      rw [List.map_singleton, List.mem_singleton] at hb
      intro q
      exact lookS_no hl (by rw [q, hb] at ha; exact ha)
    · rcases List.mem_append.mp he with he | he
      · exact h2 e he
      · rw [List.mem_singleton.mp he]; exact h3
theorem stepS_good {P : Nat → List Int → Prop} {g gv pl : Nat} {c mn : Int} {ls : List Int} {st : List Ent} (h1 : (st.map (·.1)).Nodup) (h2 : ∀ e ∈ st, P e.1 e.2.2) (h3 : P (stepN g gv pl) (ls ++ [c])) :
    ((stepS g gv c pl mn ls st).map (·.1)).Nodup ∧ ∀ e ∈ stepS g gv c pl mn ls st, P e.1 e.2.2 := by
  unfold stepS
  split
  · rename_i m2 l2 hl
    exact putS_good h1 h2 (h2 _ (lookS_in hl))
  · split
    · exact ⟨h1, h2⟩
    · exact putS_good h1 h2 h3
theorem stepN_lt {g gv pl : Nat} (hg : g < 64) (hv : gv < 64) : stepN g gv pl < 128 := by
  have h1 : pl &&& g ≤ g := Nat.and_le_right
  have h2 : pl &&& gv ≤ gv := Nat.and_le_right
  unfold stepN
  refine Nat.or_lt_two_pow (n := 7) ?_ ?_
  · rw [Nat.shiftLeft_eq]; omega
  · omega
/-- the counts of the places at the pattern's end -/
noncomputable def GS (st : List Ent) (l : List Int) (k : Int) : List Int := match lookS st k.toNat with
  | some (mn, _) => if k.toNat / 64 = 1 then l ++ [mn] else l
  | none => l
theorem GS_grows (st : List Ent) : KPfGrows (GS st) := fun l k => by
  unfold GS; split
  · split <;> simp
  · simp
noncomputable def countS (st : List Ent) : Int := ((st.map fun e => (e.1 : Int)).foldl (GS st) []).sum
theorem DR.at {tl : List (Addr × Obj)} {kvs : List (Int × Value)} {st : List Ent} (x : DR tl kvs st) : ∀ {i : Nat} {k : Int} {v : Value}, kvs[i]? = Option.some (k, v) → (st.map fun e => (e.1 : Int))[i]? = Option.some k := by
  induction x with
  | nil => intro i k v h; simp at h
  | cons _ _ ih =>
    intro i k v h
    cases i with
    | zero => simp only [List.getElem?_cons_zero, Option.some.injEq, Prod.mk.injEq] at h; simp [h.1]
    | succ i => exact ih h
structure GoodL (g0 g1 gv sz : Nat) (st : List Ent) : Prop where
  nodup : (st.map (·.1)).Nodup
  ent : ∀ e ∈ st, e.1 < 128 ∧ e.2.2.length = sz ∧ (∀ c ∈ e.2.2, c = 0 ∨ c = 1) ∧ reachN g0 g1 gv e.2.2 = e.1
theorem fdiv6 (x : Nat) : (x : Int).fdiv (2 ^ Int.toNat 6) = ((x / 64 : Nat) : Int) := by
  show (x : Int).fdiv 64 = _
  rw [Int.fdiv_eq_ediv_of_nonneg _ (by decide)]; rfl
theorem GoodL.next {g0 g1 gv sz : Nat} (k0 : g0 < 64) (k1 : g1 < 64) (kv : gv < 64) {st : List Ent} (x : GoodL g0 g1 gv sz st) : GoodL g0 g1 gv (sz + 1) (nextL g0 g1 gv st) := by
  have key : ∀ (r acc : List Ent), (∀ e ∈ r, e ∈ st) → (acc.map (·.1)).Nodup → (∀ e ∈ acc, (fun k (l : List Int) => k < 128 ∧ l.length = sz + 1 ∧ (∀ c ∈ l, c = 0 ∨ c = 1) ∧ reachN g0 g1 gv l = k) e.1 e.2.2) → GoodL g0 g1 gv (sz + 1) (r.foldl (stepE g0 g1 gv) acc) := by
    intro r
    induction r with
    | nil => exact fun acc _ h1 h2 => ⟨h1, h2⟩
    | cons e r ih =>
      intro acc hr h1 h2
      obtain ⟨a1, a2, a3, a4⟩ := x.ent e (hr e (.head _))
      have mk : ∀ c : Int, c = 0 ∨ c = 1 → ∀ d ∈ e.2.2 ++ [c], d = 0 ∨ d = 1 := fun c hc d hd => by
        rcases List.mem_append.mp hd with hd | hd
        · exact a3 d hd
        · rw [List.mem_singleton.mp hd]; exact hc
      have s0 := stepS_good (P := fun k (l : List Int) => k < 128 ∧ l.length = sz + 1 ∧ (∀ c ∈ l, c = 0 ∨ c = 1) ∧ reachN g0 g1 gv l = k) (g := g0) (gv := gv) (pl := e.1) (c := 0) (mn := e.2.1) (ls := e.2.2) h1 h2
        ⟨stepN_lt k0 kv, by rw [List.length_append, List.length_singleton, a2], mk 0 (.inl rfl), by rw [reachN_snoc, a4]; rfl⟩
      have s1 := stepS_good (P := fun k (l : List Int) => k < 128 ∧ l.length = sz + 1 ∧ (∀ c ∈ l, c = 0 ∨ c = 1) ∧ reachN g0 g1 gv l = k) (g := g1) (gv := gv) (pl := e.1) (c := 1) (mn := e.2.1) (ls := e.2.2) s0.1 s0.2
        ⟨stepN_lt k1 kv, by rw [List.length_append, List.length_singleton, a2], mk 1 (.inr rfl), by rw [reachN_snoc, a4]; rfl⟩
      exact ih _ (fun e' he' => hr e' (.tail _ he')) s1.1 s1.2
  exact key st [] (fun e he => he) (by simp) (fun e he => absurd he List.not_mem_nil)
theorem nextL_len (g0 g1 gv : Nat) (st : List Ent) : (nextL g0 g1 gv st).length ≤ 2 * st.length := by
  have key : ∀ (r acc : List Ent), (r.foldl (stepE g0 g1 gv) acc).length ≤ acc.length + 2 * r.length := by
    intro r
    induction r with
    | nil => intro acc; simp
    | cons e r ih =>
      intro acc
      have h1 := ih (stepE g0 g1 gv acc e)
      have h2 := stepE_len g0 g1 gv acc e
      simp only [List.foldl_cons, List.length_cons] at h1 ⊢
      omega
  have := key st []
  simpa [nextL] using this
theorem lookS_mem {st : List Ent} (h : (st.map (·.1)).Nodup) : ∀ e ∈ st, lookS st e.1 = some e.2 := by
  induction st with
  | nil => exact fun e he => absurd he List.not_mem_nil
  | cons x r ih =>
    intro e he
    simp only [List.map_cons, List.nodup_cons] at h
    unfold lookS
    rcases List.mem_cons.mp he with rfl | he
    · exact if_pos rfl
    · have : x.1 ≠ e.1 := fun q => h.1 (by rw [q]; exact List.mem_map_of_mem he)
      rw [if_neg this]
      exact ih h.2 e he
section
local macro_rules | `(tactic| k_all) => `(tactic| assumption)
local macro_rules | `(tactic| walk_at "exec For Name Name cons nil") => `(tactic| (refine Stp.out ?_))
local macro_rules | `(tactic| walk_at "pyIter ref") => `(tactic| (refine Stp.out ?_))
local macro_rules | `(tactic| walk_at "UnrEnd") => `(tactic| (refine Stp.out ?_))
local macro_rules | `(tactic| walk_at "UnrEndW") => `(tactic| (refine Stp.out ?_))
local macro_rules | `(tactic| walk_at "eval ListComp") => `(tactic| (refine Stp.out ?_))
local macro_rules | `(tactic| walk_at "execs cons") => `(tactic| ((with_reducible show wpAny _ _ (execs cM.1 _) _ _ _); refine Stp.out ?_))
local macro_rules | `(tactic| walk_at "SrcDT") => `(tactic| (refine Stp.out ?_))
local macro_rules | `(tactic| walk_at "CompEnd") => `(tactic| (refine Stp.out ?_))

set_option maxHeartbeats 4000000 in
theorem turnO {w : World} {p : Program} {loose : List Str} {mean : ExcName → Option Value} {mg mb : Str → Option Value}
    {dp un : Nat} {gd : Option (List Code)} {cn : Str} {cs : Scope} {a : Addr} {ccd : Value} {cl : List (Str × Addr)} {outer : List Env} {A₀ : Around} {base g' : Heap} {L L' : Addr} {m : Str → Option Value} {s : Shared} {Q : Flow → Shared → Prop}
    {D ka lv : Addr} {g0 g1 gv sz ec : Nat} {tg u0 u1 k1 : Tok} {o1 o2 o3 olv : Obj} {kvsL : List (Int × Value)} {stL : List Ent} {tl : List (Addr × Obj)} {sent w0 wl : Str} {mid : List Str} {cv : List Value} {cns : List Int}
    (B : Below A₀ base (envX cn cs L a ccd cl :: outer) g') (F : Fr g' L' s.heap m) (X : (hd.heap_39 w.params).In g') (T : Top p loose mean mg mb g')
    (N : News g' L' s.heap ((ka, lstO cv ec) :: (D, LCg.lst [.int (g0 : Int) u0, .int (g1 : Int) u1]) :: (L' + 1 + 1 + 1, o3) :: (L' + 1 + 1, o2) :: (L' + 1, o1) :: (lv, olv) :: tl)) (ho2 : o2.data = .cell (some (.int (gv : Int) tg))) (ho3 : o3.data = .cell (some (.ref lv)))
    (hlo : olv.IsDictOf (PySem.intKind PySem.Challenge.rw_pe0153_01.prog w) kvsL) (hRL : DR ((lv, olv) :: tl) kvsL stL) (hkl : stL.length ≤ 400) (hsys : (lv == sysModules) = false)
    (hka : ∀ p ∈ tl, p.1 ≠ ka) (hLt : ∀ p ∈ tl, @LT.lt Nat _ (L' + 1 + 1 + 1) p.1) (hLk : @LT.lt Nat _ (L' + 1 + 1 + 1) ka) (hDk : @Ne Nat D ka) (hLD : @Ne Nat D (L' + 1 + 1 + 1)) (hcv : IntsAre cv cns) (hcn : cns.length ≤ 20) (hG : GoodL g0 g1 gv sz stL) (hsz : sz ≤ 8) (hg0 : g0 < 64) (hg1 : g1 < 64) (hgv : gv < 64) (hmatch : ∀ ls : List Int, (∀ c ∈ ls, c = 0 ∨ c = 1) → ls.length ≤ 9 → ls ≠ [] → ellP w0 mid wl (rowsS ls) = decide (reachN g0 g1 gv ls / 64 = 1))
    (m1 : m (Str.ofString "sent") = some (.str sent k1)) (m2 : m (Str.ofString "goes") = some (.ref D)) (m3 : m (Str.ofString "counts") = some (.ref ka))
    (hw : sent.length ≤ 100) (hin : (Builtin.Str.occurrences sent (Str.ofString "...") 0 sent.length 1).isEmpty = false) (hsp : Txt.split sent (Str.ofString "...") = w0 :: (mid ++ [wl])) (hwl : wl.length ≠ 0) (hmid : mid.length ≤ 90)
    (hdp : dp + 2 < recursionLimit) (hu : un + 11 < cLine)
    (hret : ∀ h' tk' m' od' kvs' nw o3' dl u ec', Fr g' L' h' m' → News g' L' h' ((ka, lstO (cv ++ [.int (countS (nextL g0 g1 gv stL)) u]) ec') :: (D, LCg.lst [.int (g0 : Int) u0, .int (g1 : Int) u1]) :: (L' + 1 + 1 + 1, o3') :: (L' + 1 + 1, o2) :: (L' + 1, o1) :: (dl, od') :: (nw ++ tl)) → o3'.data = .cell (some (.ref dl)) →
      Obj.IsDictOf (PySem.intKind PySem.Challenge.rw_pe0153_01.prog w) od' kvs' → DR (nw ++ tl) kvs' (nextL g0 g1 gv stL) → (dl == sysModules) = false → @LT.lt Nat _ ka dl → (∀ q ∈ tl, @LT.lt Nat _ q.1 dl) → (∀ p ∈ nw, @LT.lt Nat _ dl p.1) →
      (∀ y, y ≠ Str.ofString "longer" → y ≠ Str.ofString "reached" → y ≠ Str.ofString "many" → y ≠ Str.ofString "text" → y ≠ Str.ofString "letter" → y ≠ Str.ofString "places" → y ≠ Str.ofString "later" → m' y = m y) → Q .next { s with heap := h', toks := tk' }) :
    wpAny (model PySem.Challenge.rw_pe0153_01.prog w) ((ktrTop dp un gd cn cs L a ccd cl outer).deeper (cE L')) (execs cO.1 (cE L')) Q (fun _ _ => False) s := by
  have hM := mp3 m1 m2 m3
  rw [hM] at F
  (try k_fold)
  k_steps
  refine Stp.into ?_
  (rename Fr _ _ _ _ => lF')
  (with_unfolding_all refine' For_turns lF' ?_)
  k_steps
  refine Stp.into ?_
  (rename Fr _ _ _ _ => F9); (rename News _ _ _ _ => N9)
  obtain ⟨dl, hdl⟩ := nameHead N9
  subst hdl
  rename Obj.IsDictOf (PySem.intKind _ _) _ [] => hde
  rename (_ == sysModules) = false => hsyd
  have hlt := (by assumption : @LT.lt Nat _ ka dl ∧ @LT.lt Nat _ D dl ∧ @LT.lt Nat _ (L' + 1 + 1 + 1) dl ∧ @LT.lt Nat _ (L' + 1 + 1) dl ∧ @LT.lt Nat _ (L' + 1) dl ∧ @LT.lt Nat _ lv dl ∧ AllLt dl tl)
  have htl := allLt_mem hlt.2.2.2.2.2.2
  have F9 := frC F9 (congrArg (fun mm : Str → Option Value => fun y => if y = Str.ofString "later" then some (Value.ref dl) else mm y) hM).symm
  have N9 := permA (permC N9)
  refine kta_keys (knd := PySem.intKind _ _) (enc := PyData.int) rfl F9 N9 (by repeat (first | exact List.Mem.head _ | refine List.Mem.tail _ ?_)) hlo hsys (fun _ _ h => Value.isInt_shape h) hRL.keys ?_
  intro I hI
  have hId : @LT.lt Nat _ dl I := hI _ (.head _)
  have hID : @LT.lt Nat _ D I := hI (D, _) (.tail _ (.head _))
  have hIk : @LT.lt Nat _ ka I := hI (ka, lstO cv ec) (by repeat (first | exact List.Mem.head _ | refine List.Mem.tail _ ?_))
  have hIl : @LT.lt Nat _ lv I := hI (lv, olv) (by repeat (first | exact List.Mem.head _ | refine List.Mem.tail _ ?_))
  have hIt : ∀ p ∈ tl, @LT.lt Nat _ p.1 I := fun p hp => hI _ (by repeat (first | exact hp | refine List.Mem.tail _ ?_))
  refine keysRest_ind (fun e : Ent => e.1) (fun r m' nw' => ∃ od kvs st nw, nw' = (dl, od) :: (D, LCg.lst [.int (g0 : Int) u0, .int (g1 : Int) u1]) :: (L' + 1 + 1 + 1, o3) :: (L' + 1 + 1, o2) :: (L' + 1, o1) :: (nw ++ ((ka, lstO cv ec) :: (lv, olv) :: tl)) ∧
    Obj.IsDictOf (PySem.intKind PySem.Challenge.rw_pe0153_01.prog w) od kvs ∧ DR (nw ++ ((ka, lstO cv ec) :: (lv, olv) :: tl)) kvs st ∧ r.foldl (stepE g0 g1 gv) st = nextL g0 g1 gv stL ∧ st.length + 2 * r.length ≤ 2 * stL.length ∧ (∀ e ∈ r, e ∈ stL) ∧ (∀ p ∈ nw, @LT.lt Nat _ dl p.1 ∧ @Ne Nat p.1 I) ∧
    (∀ y, y ≠ Str.ofString "longer" → y ≠ Str.ofString "reached" → y ≠ Str.ofString "many" → y ≠ Str.ofString "text" → y ≠ Str.ofString "letter" → y ≠ Str.ofString "places" → m' y = if y = Str.ofString "later" then some (.ref dl) else m y)) ?done ?turn _ _ _ ?start
  case start => exact ⟨_, [], [], [], rfl, hde, .nil, rfl, by simp, fun e he => he, fun p hp => absurd hp List.not_mem_nil, fun y _ _ _ _ _ _ => rfl⟩
  case turn =>
    rintro e r m1' news1 ⟨od, kvs, st, nw, rfl, hdo, hR, hfold, hlen, hmem, hnwl, hmm⟩ t oI h tk hc F1 N1
    k_steps
    refine Stp.into ?_
    (rename Fr _ _ _ _ => F9); (rename News _ _ _ _ => N9)
    have hlen2 : st.length + 2 * (r.length + 1) ≤ 2 * stL.length := hlen
    have he := hmem e (.head _)
    obtain ⟨ge1, ge2, ge3, ge4⟩ := hG.ent e he
    refine wpAny_noRaise ?_
    refine' turnM (tl := (I, oI) :: (nw ++ ((ka, lstO cv ec) :: (lv, olv) :: tl))) B F9 X T (permA N9) ho2 ho3 hdo (hR.mono fun q hq => .tail _ hq) (by omega) hsyd ?off hlt.2.2.1 (neN (by omega)) (by repeat (first | exact List.Mem.head _ | refine List.Mem.tail _ ?_ | refine List.mem_append_right _ ?_)) hlo (hRL.mono fun q hq => ?mo) (lookS_mem hG.nodup e he) ?a1 ?a2 ?a3 ?a4 ?hl ge1 hw hin hsp hwl hmid ?h0 ?h1 hdp hu ?_
    case off => exact offM (Nat.ne_of_gt hId) (offA (fun p hp => Nat.ne_of_gt (hnwl p hp).1) (offM (Nat.ne_of_lt hlt.1) (offM (Nat.ne_of_lt hlt.2.2.2.2.2.1) fun p hp => Nat.ne_of_lt (htl p hp))))
    case mo =>
      cases hq with
      | head => repeat (first | exact List.Mem.head _ | refine List.Mem.tail _ ?_ | refine List.mem_append_right _ ?_)
      | tail _ h => repeat (first | exact h | refine List.Mem.tail _ ?_ | refine List.mem_append_right _ ?_)
    case hl => exact Nat.le_trans (Nat.le_of_eq ge2) (by omega)
    case a1 => exact (hmm _ (by decide) (by decide) (by decide) (by decide) (by decide) (by decide)).trans ((if_neg (by decide)).trans m1)
    case a2 => exact (hmm _ (by decide) (by decide) (by decide) (by decide) (by decide) (by decide)).trans ((if_neg (by decide)).trans m2)
    case a3 => exact rfl
    case a4 => exact (hmm _ (by decide) (by decide) (by decide) (by decide) (by decide) (by decide)).trans (if_pos rfl)
    case h0 =>
      have h9 := hmatch (e.2.2 ++ [0]) (fun c hc => by
        rcases List.mem_append.mp hc with hc | hc
        · exact ge3 c hc
        · exact .inl (List.mem_singleton.mp hc)) (by rw [List.length_append, List.length_singleton]; omega) (by simp)
      rw [reachN_snoc, ge4] at h9
      exact h9
    case h1 =>
      have h9 := hmatch (e.2.2 ++ [1]) (fun c hc => by
        rcases List.mem_append.mp hc with hc | hc
        · exact ge3 c hc
        · exact .inr (List.mem_singleton.mp hc)) (by rw [List.length_append, List.length_singleton]; omega) (by simp)
      rw [reachN_snoc, ge4] at h9
      exact h9
    intro h2 tk2 m2 od2 kvs2 nw2 F2 N2 hd2 hR2 hnw2 hmm2
    have hsl := stepE_len g0 g1 gv st e
    refine ⟨h2, tk2, m2, _, rfl, F2, permI N2, ?o, by repeat (first | exact List.Mem.head _ | refine List.Mem.tail _ ?_ | refine List.mem_append_right _ ?_), od2, kvs2, _, nw2 ++ nw, by rw [List.append_assoc], hd2, ?dr, hfold, ?len, fun e' he' => hmem e' (.tail _ he'), ?nl, ?mm⟩
    case o =>
      intro p hp q hq
      rw [List.mem_singleton.mp hq]
      revert p
      have h3I : @LT.lt Nat _ (L' + 1 + 1 + 1) I := Nat.lt_trans hlt.2.2.1 hId
      have h2I : @LT.lt Nat _ (L' + 1 + 1) I := Nat.lt_of_succ_lt h3I
      have h1I : @LT.lt Nat _ (L' + 1) I := Nat.lt_of_succ_lt h2I
      exact offM (Nat.ne_of_lt hId) (offM (Nat.ne_of_lt hID) (offM (Nat.ne_of_lt h3I) (offM (Nat.ne_of_lt h2I) (offM (Nat.ne_of_lt h1I) (offA (fun p hp => Nat.ne_of_gt ((hnw2 p hp).2 _ (.head _))) (offA (fun p hp => (hnwl p hp).2) (offM (Nat.ne_of_lt hIk) (offM (Nat.ne_of_lt hIl) fun p hp => Nat.ne_of_lt (hIt p hp)))))))))
    case dr =>
      rw [List.append_assoc]
      exact hR2.drop (clsNe hc (by decide))
    case len => show (stepE g0 g1 gv st e).length + _ ≤ _; omega
    case nl =>
      intro p hp
      rcases List.mem_append.mp hp with hp | hp
      · exact ⟨(hnw2 p hp).1, Nat.ne_of_gt ((hnw2 p hp).2 _ (.head _))⟩
      · exact hnwl p hp
    case mm =>
      intro y e1 e2 e3 e4 e5 e6
      rw [hmm2 y e1 e2 e3 e4 e5]
      show (if y = _ then _ else _) = _
      rw [if_neg e6]
      exact hmm y e1 e2 e3 e4 e5 e6
  case done =>
    rintro m1' news1 ⟨od, kvs, st, nw, rfl, hdo, hR, hfold, hlen, hmem, hnwl, hmm⟩ h tk F1 N1
    have q1 := (hmm (Str.ofString "later") (by decide) (by decide) (by decide) (by decide) (by decide) (by decide)).trans (if_pos rfl)
    have q2 := (hmm (Str.ofString "counts") (by decide) (by decide) (by decide) (by decide) (by decide) (by decide)).trans ((if_neg (by decide)).trans m3)
    have hM1 := mp2 q1 q2
    rw [hM1] at F1
    have hR := DR.drop (A := nw) (B := tl) (DR.drop (A := nw) (B := (lv, olv) :: tl) hR (clsNe (c := "list") rfl (by decide))) (dictNe hlo)
    have N1 := newsSub (l := (ka, lstO cv ec) :: (dl, od) :: (D, LCg.lst [.int (g0 : Int) u0, .int (g1 : Int) u1]) :: (L' + 1 + 1 + 1, o3) :: (L' + 1 + 1, o2) :: (L' + 1, o1) :: (nw ++ tl)) N1 (by repeat' (first | exact subR _ | exact subN | exact subL (subR _) | refine subC (by repeat (first | exact List.Mem.head _ | refine List.Mem.tail _ ?_ | refine List.mem_append_right _ ?_)) ?_ | refine subA ?_ ?_ | refine subT ?_ | refine subG ?_))
    have hnt1 : ∀ p ∈ nw ++ tl, p.1 ≠ L' + 1 + 1 + 1 := fun p hp => by
      rcases List.mem_append.mp hp with hp | hp
      · exact Nat.ne_of_gt (Nat.lt_trans hlt.2.2.1 (hnwl p hp).1)
      · exact Nat.ne_of_gt (hLt p hp)
    have hnt2 : ∀ p ∈ nw ++ tl, p.1 ≠ ka := fun p hp => by
      rcases List.mem_append.mp hp with hp | hp
      · exact Nat.ne_of_gt (Nat.lt_trans hlt.1 (hnwl p hp).1)
      · exact hka p hp
    have hkd : @LT.lt Nat _ ka dl := hlt.1
    have hDd : @LT.lt Nat _ D dl := hlt.2.1
    have hfold : st = nextL g0 g1 gv stL := hfold
    have hlen1 : st.length ≤ 800 := by simp only [List.length_nil] at hlen; omega
    subst hfold
    have hnd : ((nextL g0 g1 gv stL).map (·.1)).Nodup := (hG.next hg0 hg1 hgv).nodup
    generalize nextL g0 g1 gv stL = st at *
    generalize hnt : nw ++ tl = tl2 at *
    clear hM1
    k_steps
    refine Stp.into ?_
    (rename Fr _ _ _ _ => F9); (rename News _ _ _ _ => N9)
    refine' ListComp_TD F9 ?c1 ?c2 ?c3 ?c4 ?c5 ?c6
    case c1 => with_unfolding_all rfl
    case c2 => decide
    case c3 => rfl
    case c4 => decide
    case c5 => rfl
    k_steps
    refine Stp.into ?_
    (rename Fr _ _ _ _ => F9); (rename News _ _ _ _ => N9)
    refine ⟨dl, od, kvs, _, rfl, rfl, F9, N9, by repeat (first | exact List.Mem.head _ | refine List.Mem.tail _ ?_ | refine List.mem_append_right _ ?_), hdo, hsyd, by rw [sizeLine_eq, hR.len]; omega, fun s₂ hs₂ => ?_⟩
    obtain ⟨g9, rfl⟩ := hs₂
    refine kci_rest (ks := st.map fun e => (e.1 : Int)) (GS st) (by rw [List.length_map, hR.len]) ?P (fun k t I3 oI3 C3 oC3 D3 m₃ ys3 l9 h tk E' hk9 hys hC hx F N off3 ne3 mk => ?_) ?fin (GS_grows st)
    case P =>
      rintro i v hi ⟨k, x, h1, h2⟩
      obtain ⟨t, rfl⟩ := Value.isInt_shape h2
      exact ⟨k, t, hR.at h1, rfl⟩
    · obtain ⟨e, he, rfl⟩ := List.mem_map.mp hk9
      have hlk := lookS_mem hnd e he
      obtain ⟨a0, t1, t2, hv, hm0'⟩ := hR.some hlk
      have off3' := off3
      have N := newsC N N (show (a0, tupO [.int e.2.1 t1, .str (rowsS e.2.2) t2]) ∈ _ from by simp [hm0'])
      simp only [LCg.Off3, and_true] at off3
      dsimp only
      (try k_fold)
      k_steps
      · refine Stp.into ?_
        rename _ = (1 : Int) => hq
        rw [fdiv6] at hq
        exact ⟨_, _, _, rfl, by assumption, by assumption, off3', by simp, kci_el (by simp only [GS, Int.toNat_natCast, hlk]; exact if_pos (by omega)) rfl rfl⟩
      · refine Stp.into ?_
        rename _ ≠ (1 : Int) => hq
        rw [fdiv6] at hq
        exact ⟨_, _, _, rfl, by assumption, by assumption, off3', by simp, kci_no (by simp only [GS, Int.toNat_natCast, hlk]; exact if_neg (by omega)) rfl⟩
    · unfold KPfDone
      intro ys hys hyl
      show LCg.FinE _ _ _ _ _ _ _
      intro E0 h tk F9 N9 oo0
      have hlk0 := hys.length
      simp only [LCg.Off1] at oo0
      have hcvl := hcv.length
      (try dsimp only)
      (try k_fold)
      k_steps
      (rename Fr _ _ _ _ => F9); (rename News _ _ _ _ => N9)
      rw [List.push_toArray] at N9
      refine hret _ _ _ od kvs nw _ dl _ _ F9 (by rw [hnt]; exact permD N9) (by assumption) hdo (by rw [hnt]; exact hR) hsyd hkd htl (fun p hp => (hnwl p hp).1) (fun y e1 e2 e3 e4 e5 e6 e7 => ?_)
      · show (if y = _ then _ else if y = _ then _ else _) = _
        rw [if_neg e7, hmm y e1 e2 e3 e4 e5 e6, if_neg e7]
        by_cases e8 : y = Str.ofString "counts"
        · rw [if_pos e8, e8, m3]
        · rw [if_neg e8]

end
end Mine
end

end

section
theorem Mine.woff_CCntE {M : PySem.Model} {A : PySem.Around} {E Q : PySem.Value → PySem.Shared → Prop} {s : PySem.Shared} (h : PySem.wpAny M A (PySem.call (.builtin "no") []) Q E s) : PySem.wpAny M A (PySem.call (.builtin "no") []) Q E s := by
  w_top off
  first | (walk1; fail) | exact h
open PySem PySem.W PyProof.Rows PySem.Calls PySem.Spec
set_option maxRecDepth 100000
namespace Mine
theorem filled16 (w : World) : (hd.heap_39 w.params).In ({} : Heap) → PySem.Challenge.rw_pe0153_01.foot = 4 := by
  k_fill
  intro _; rfl

theorem permE {h₀ h : Heap} {L : Addr} {p0 p1 p2 p3 p4 p5 p6 : Addr × Obj} {tl : List (Addr × Obj)} (N : News h₀ L h (p0 :: p1 :: p2 :: p3 :: p4 :: p5 :: p6 :: tl)) : News h₀ L h (p0 :: p3 :: p4 :: p5 :: p6 :: p2 :: p1 :: tl) :=
  newsSub N (by repeat (first | exact subR _ | exact subN | refine subC (by repeat (first | exact List.Mem.head _ | refine List.Mem.tail _ ?_)) ?_ | refine subT ?_))
theorem permG {h₀ h : Heap} {L : Addr} {p0 p1 p2 p3 p4 p5 p6 : Addr × Obj} {nw tl : List (Addr × Obj)} (N : News h₀ L h (p1 :: p2 :: p3 :: p4 :: p5 :: p6 :: (nw ++ p0 :: tl))) : News h₀ L h (p0 :: p1 :: p2 :: p3 :: p4 :: p5 :: p6 :: (nw ++ tl)) :=
  newsSub N (by repeat' (first | exact subR _ | exact subN | exact subL (subR _) | refine subC (by repeat (first | exact List.Mem.head _ | refine List.Mem.tail _ ?_ | refine List.mem_append_right _ ?_)) ?_ | refine subA ?_ ?_ | refine subT ?_ | refine subG ?_))
theorem permF {h₀ h : Heap} {L : Addr} {p0 p1 p2 p3 p4 p5 p6 : Addr × Obj} {tl : List (Addr × Obj)} (N : News h₀ L h (p0 :: p1 :: p2 :: p3 :: p4 :: p5 :: p6 :: tl)) : News h₀ L h (p1 :: p2 :: p3 :: p4 :: p5 :: p6 :: p0 :: tl) :=
  newsSub N (by repeat (first | exact subR _ | exact subN | refine subC (by repeat (first | exact List.Mem.head _ | refine List.Mem.tail _ ?_)) ?_ | refine subT ?_))
noncomputable def pickN (ns : List Int) (c : Int) : Nat := ((List.range 6).map fun i => if ns.getD i 0 = c then 2 ^ i else 0).sum
theorem sum_cast (l : List Nat) (f : Nat → Nat) : (((l.map f).sum : Nat) : Int) = (l.map fun i => ((f i : Nat) : Int)).sum := by
  induction l with
  | nil => rfl
  | cons a l ih => rw [List.map_cons, List.map_cons, List.sum_cons, List.sum_cons, Int.natCast_add, ih]
theorem pick_one (ns : List Int) (c : Int) (l : List Int) (k : Nat) : (pickG ns c l (k : Int)).sum = l.sum + (((if ns.getD k 0 = c then 2 ^ k else 0) : Nat) : Int) := by
  by_cases h : ns.getD k 0 = c
  · rw [if_pos h, show pickG ns c l (k : Int) = l ++ [2 ^ k] from if_pos h, List.sum_append, List.sum_cons, List.sum_nil, Int.add_zero, Int.natCast_pow]; rfl
  · rw [if_neg h, show pickG ns c l (k : Int) = l from if_neg h]; exact (Int.add_zero _).symm
theorem pick_fold (ns : List Int) (c : Int) (ks : List Nat) : ∀ l, ((ks.map fun i : Nat => (i : Int)).foldl (pickG ns c) l).sum = l.sum + (ks.map fun i => (((if ns.getD i 0 = c then 2 ^ i else 0) : Nat) : Int)).sum := by
  induction ks with
  | nil => exact fun l => (Int.add_zero _).symm
  | cons k ks ih => intro l; rw [List.map_cons, List.foldl_cons, ih, List.map_cons, List.sum_cons, ← Int.add_assoc, pick_one]
theorem pick_eq (n0 n1 n2 n3 n4 n5 c : Int) : (List.foldl (pickG [n0, n1, n2, n3, n4, n5] c) [] (rangeKs 0 6)).sum = ((pickN [n0, n1, n2, n3, n4, n5] c : Nat) : Int) := by
  have e : rangeKs 0 6 = (List.range 6).map fun i : Nat => (i : Int) := rfl
  unfold pickN
  rw [e, pick_fold, sum_cast]
  exact Int.zero_add _
theorem add_two {a b A B k K : Nat} (h : a + b ≤ k) (h2 : A + B ≤ K) : a + A + (b + B) ≤ k + K := by
  rw [Nat.add_add_add_comm]; exact Nat.add_le_add h h2
theorem pick_lt (n0 n1 n2 n3 n4 n5 : Int) (c d : Int) (h : c ≠ d) : pickN [n0, n1, n2, n3, n4, n5] c + pickN [n0, n1, n2, n3, n4, n5] d < 64 := by
  have hp : ∀ c, pickN [n0, n1, n2, n3, n4, n5] c = (if n0 = c then 1 else 0) + ((if n1 = c then 2 else 0) + ((if n2 = c then 4 else 0) + ((if n3 = c then 8 else 0) + ((if n4 = c then 16 else 0) + ((if n5 = c then 32 else 0) + 0))))) := fun _ => rfl
  have q : ∀ (n : Int) (k : Nat), (if n = c then k else 0) + (if n = d then k else 0) ≤ k := fun n k => by
    by_cases h1 : n = c
    · have : n ≠ d := fun e => h (h1.symm.trans e)
      simp [h1, this, h]
    · simp only [if_neg h1]; split <;> omega
  rw [hp, hp]
  exact Nat.lt_of_le_of_lt (add_two (q n0 1) (add_two (q n1 2) (add_two (q n2 4) (add_two (q n3 8) (add_two (q n4 16) (add_two (q n5 32) (Nat.le_refl 0))))))) (by decide)
noncomputable def liveN (g0 g1 gv : Nat) : Nat → List Ent
  | 0 => [(1, 1, [])]
  | n + 1 => nextL g0 g1 gv (liveN g0 g1 gv n)
noncomputable def countsP (g0 g1 gv : Nat) : List Int := (List.range 9).map fun i => countS (liveN g0 g1 gv (i + 1))
theorem liveN_good {g0 g1 gv : Nat} (k0 : g0 < 64) (k1 : g1 < 64) (kv : gv < 64) : ∀ n, GoodL g0 g1 gv n (liveN g0 g1 gv n)
  | 0 => ⟨by simp [liveN], fun e he => by
      simp only [liveN, List.mem_singleton] at he
      subst he
      exact ⟨by decide, rfl, fun c hc => absurd hc List.not_mem_nil, rfl⟩⟩
  | n + 1 => (liveN_good k0 k1 kv n).next k0 k1 kv
theorem liveN_len {g0 g1 gv : Nat} : ∀ n, (liveN g0 g1 gv n).length ≤ 2 ^ n
  | 0 => by simp [liveN]
  | n + 1 => by
    have := liveN_len (g0 := g0) (g1 := g1) (gv := gv) n
    have h2 := nextL_len g0 g1 gv (liveN g0 g1 gv n)
    show (nextL g0 g1 gv (liveN g0 g1 gv n)).length ≤ _
    rw [Nat.pow_succ]; omega
section
local macro_rules | `(tactic| walk_at "eval ListComp") => `(tactic| (refine Stp.out ?_))
local macro_rules | `(tactic| walk_at "eval Dict") => `(tactic| (refine Stp.out ?_))
local macro_rules | `(tactic| walk_at "CompSrcT") => `(tactic| (refine Stp.out ?_))
local macro_rules | `(tactic| walk_at "CompEnd") => `(tactic| (refine Stp.out ?_))
local macro_rules | `(tactic| walk_at "exec Assign cons ListComp") => `(tactic| (refine Stp.out ?_))
local macro_rules | `(tactic| walk_at "subscriptTail Name Name ref int") => `(tactic| (refine Stp.out ?_))
local macro_rules | `(tactic| walk_at "binaryOp Pow int int") => `(tactic| (refine Stp.out ?_))
local macro_rules | `(tactic| walk_at "exec For Name Call cons nil") => `(tactic| (refine Stp.out ?_))
local macro_rules | `(tactic| walk_at "pyIter ref") => `(tactic| (refine Stp.out ?_))
local macro_rules | `(tactic| walk_at "UnrEnd") => `(tactic| (refine Stp.out ?_))

set_option maxHeartbeats 4000000 in
theorem con_counts {w : World} {p : Program} {loose : List Str} {mean : ExcName → Option Value} {mg mb : Str → Option Value}
    {dp un : Nat} {gd : Option (List Code)} {cn : Str} {cs : Scope} {a : Addr} {ccd : Value} {cl : List (Str × Addr)} {outer : List Env} {A₀ : Around} {base h₀ : Heap} {L : Addr} {m : Str → Option Value} {s : Shared} {Q E : Value → Shared → Prop}
    {sent : Str} {l : Addr} {n0 n1 n2 n3 n4 n5 : Int} {t0 t1 t2 t3 t4 t5 tx : Tok} {w0 wl : Str} {mid : List Str} {g0 g1 gv : Nat}
    (B : Below A₀ base outer h₀) (F : Fr h₀ L s.heap m) (X : (hd.heap_39 w.params).In h₀) (T : Top p loose mean mg mb h₀) (hk : cs.kind = .function)
    (hl : s.heap.IsList l [Value.int n0 t0, .int n1 t1, .int n2 t2, .int n3 t3, .int n4 t4, .int n5 t5].toArray)
    (hgv : gv = pickN [n0, n1, n2, n3, n4, n5] 2) (hg0 : g0 = gv + pickN [n0, n1, n2, n3, n4, n5] 0) (hg1 : g1 = gv + pickN [n0, n1, n2, n3, n4, n5] 1)
    (hw : sent.length ≤ 100) (hin : (Builtin.Str.occurrences sent (Str.ofString "...") 0 sent.length 1).isEmpty = false) (hsp : Txt.split sent (Str.ofString "...") = w0 :: (mid ++ [wl])) (hwl : wl.length ≠ 0) (hmid : mid.length ≤ 90)
    (hmatch : ∀ ls : List Int, (∀ c ∈ ls, c = 0 ∨ c = 1) → ls.length ≤ 9 → ls ≠ [] → ellP w0 mid wl (rowsS ls) = decide (reachN g0 g1 gv ls / 64 = 1))
    (hdp : dp + 3 < recursionLimit) (hu : un + 16 < cLine)
    (hret : ∀ t h' tk' vs ep, Kp s.heap h' → @LE.le Nat _ s.heap.objs.size t → h'.get? t = some (lstO vs ep) → IntsAre vs (countsP g0 g1 gv) → Q (.ref t) { s with heap := h', toks := tk' }) :
    wpAny (model PySem.Challenge.rw_pe0153_01.prog w) (ktrTop dp un gd cn cs L a ccd cl outer) (call (.ref 107) [.str sent tx, .ref l]) Q E s := by
  refine wpAny_call ?_
  (refine' callMC (K := hd.heap_39 w.params) (news := []) (T := T) ?k1 ?k2 ?k3 ?k4 ?kA ?kF ?kK ?k6 ?k7 ?k8 ?k9 ?kB ?kD ?_ ?c2 ?c3 ?c4; (case kA => exact rfl); (case kF => exact rfl); (case kK => assumption); (case k1 => k_asm); (case k2 => k_asm); (case k3 => k_asm); (case k4 => exact News.nil);  (case k6 => k_is); (case k7 => k_is); (case k8 => ktr_room); (case k9 => exact BindsTo.of_eq rfl); (case kB => exact rfl); (case kD => decide +kernel); (case c2 => exact rfl); (case c3 => exact rfl); (case c4 => exact rfl))
  intro g' L' h' tk' cells' FG' F' N' Y' B' X' T' l1 hg hL
  (try k_lt l1); k_cells Y'; (try simp only [List.cons_append, List.nil_append] at N')
  (try dsimp only); (try k_lift B'); (try k_fold)

  have hg' : Kp s.heap g' := fun b o e => hg b o e (by simp)
  have hl2 : g'.IsList l [Value.int n0 t0, .int n1 t1, .int n2 t2, .int n3 t3, .int n4 t4, .int n5 t5].toArray := hl.at fun o e => hg' _ _ e
  (rename Fr g' _ _ _ => F8)
  have F8 := frC (m' := fun y => if y = Str.ofString "sent" then some (.str sent tx) else none) F8 (by funext y; rfl)
  k_steps
  refine Stp.into ?_
  refine LCt.ListComp_T (F₀ := by k_asm) (by with_unfolding_all rfl) (by decide) (by rfl) (by decide) (by rfl) ?_
  k_steps
  refine Stp.into ?_
  (rename Fr _ _ _ _ => F9); (rename News _ _ _ _ => N9); (rename IsRange _ _ _ _ _ _ _ _ => hr9)
  refine LCt.CompSrcT.range (n := 6) rfl F9 N9 hr9 (by decide) rfl (by decide) ?_
  intro g9
  refine kci_range (n := 6) (a := 0) (pickG [n0, n1, n2, n3, n4, n5] 2) (fun k t I oI C oC D m₂ ys l9 h tk E' hlo hhi hys hC hx F N off ne mk => ?_) ?_ (pickG_grows _ _)
  · have off' := off
    simp only [LCg.Off3, and_true] at off
    obtain ⟨i, v, tv, rfl, hi6, hgv, hx6⟩ := six_at (n0 := n0) (n1 := n1) (n2 := n2) (n3 := n3) (n4 := n4) (n5 := n5) (t0 := t0) (t1 := t1) (t2 := t2) (t3 := t3) (t4 := t4) (t5 := t5) hlo hhi
    clear hlo hhi
    dsimp only
    (try k_fold)
    k_steps
    refine Stp.into ?_
    refine item_at (hl2.at fun o e => F.keep _ o e) (Nat.lt_trans hi6 (by decide)) hx6 ?_
    (try dsimp only)
    k_steps
    · refine Stp.into ?_
      refine pow_s rfl (Nat.le_trans (Nat.le_of_lt hi6) (by decide)) (by decide) ?_
      (try dsimp only)
      k_steps
      exact Stp.into ⟨_, _, _, rfl, by assumption, by assumption, off', trivial, kci_el (if_pos (hgv.trans (by assumption))) rfl rfl⟩
    · exact Stp.into ⟨_, _, _, rfl, by assumption, by assumption, off', trivial, kci_no (if_neg fun e => absurd (hgv.symm.trans e) (by assumption)) rfl⟩
  · unfold KPfDone
    intro ys hys hylen
    show LCg.FinE _ _ _ _ _ _ _
    intro D h tk F9 N9 o1
    have hlk := hys.length
    (try dsimp only)
    (try k_fold)
    k_steps
    refine Stp.into ?_
    (rename Fr _ _ _ _ => F9); (rename News _ _ _ _ => N9)
    simp only [List.cons_append, List.nil_append] at N9
    have hG0 : ((pickN [n0, n1, n2, n3, n4, n5] 2 : Nat) : Int) + ((pickN [n0, n1, n2, n3, n4, n5] 0 : Nat) : Int) = (g0 : Int) := by rw [hg0, hgv]; push_cast; rfl
    have hG1 : ((pickN [n0, n1, n2, n3, n4, n5] 2 : Nat) : Int) + ((pickN [n0, n1, n2, n3, n4, n5] 1 : Nat) : Int) = (g1 : Int) := by rw [hg1, hgv]; push_cast; rfl
    have k0 : g0 < 64 := by rw [hg0, hgv]; exact pick_lt _ _ _ _ _ _ 2 0 (by decide)
    have k1 : g1 < 64 := by rw [hg1, hgv]; exact pick_lt _ _ _ _ _ _ 2 1 (by decide)
    have kv : gv < 64 := by omega
    refine' con_goes B' F9 X' T' (newsSub N9 fun q hq => .tail _ hq) (by assumption) (by assumption) hl2 ?_
    intro Dg h2 tk2 u0 u1 F2 N2 hDg
    rename Obj.data _ = Data.cell (some (Value.int _ _)) => hcg
    rw [pick_eq, ← hgv] at hcg
    rw [pick_eq, pick_eq, pick_eq, hG0, hG1] at N2
    clear F9 N9
    (try dsimp only)
    k_steps
    refine Stp.into ?_
    (refine' kdn_int ?zzq ?zzF ?zzN ?zzb ?zza ?zzl ?zze ?zzn ?_; (case zzq => rfl); (case zzF => k_asm); (case zzN => k_asm); (case zzb => exact Top.nolimit (by k_asm)); (case zza => rfl); (case zzl => rfl); (case zze => exact List.cons_ne_nil _ _); (case zzn => exact Nat.le_of_ble_eq_true rfl))
    intro dd hd8 od8 Fd8 Nd8 ld8 lod8 hdd8
    (try k_lt ld8)
    k_steps
    refine Stp.into ?_
    (rename Fr _ _ _ _ => lF')
    (with_unfolding_all refine' For_invVF lF' ?k1 ?k2 ?_; (case k1 => exact rfl); (case k2 => exact rfl))
    k_steps
    refine Stp.into ?_
    (rename Fr _ _ _ _ => F9); (rename News _ _ _ _ => N9); (rename IsRange _ _ _ _ _ _ _ _ => hr9)
    obtain ⟨ka, hka⟩ := nameHead N9
    subst hka
    rename Obj.IsDictOf (PySem.intKind _ _) _ (intKeyPairs _) => hdl
    rename (_ == sysModules) = false => hsyl
    rename Obj.data _ = Data.cell (some (Value.ref l)) => hcl
    rename Obj.data _ = Data.cell (some (Value.ref _)) => hc3
    have N9 := permE N9
    refine' iter_rangeUnr (n := 9) rfl hr9 (by decide) rfl F9 N9 fun I hI => ?_
    have hIk : @LT.lt Nat _ ka I := hI _ (.head _)
    have hID : @LT.lt Nat _ Dg I := hI (Dg, _) (.tail _ (.head _))
    have hI3 : @LT.lt Nat _ (L' + 1 + 1 + 1) I := hI (L' + 1 + 1 + 1, _) (.tail _ (.tail _ (.head _)))
    refine rangeRest_ind (Inv := fun i m' news => ∃ lv olv kvs tl o1 o2 o3 cv ec tgg, news = (ka, lstO cv ec) :: (Dg, LCg.lst [.int (g0 : Int) u0, .int (g1 : Int) u1]) :: (L' + 1 + 1 + 1, o3) :: (L' + 1 + 1, o2) :: (L' + 1, o1) :: (lv, olv) :: tl ∧ o2.data = .cell (some (.int (gv : Int) tgg)) ∧ o3.data = .cell (some (.ref lv)) ∧
      Obj.IsDictOf (PySem.intKind PySem.Challenge.rw_pe0153_01.prog w) olv kvs ∧ DR ((lv, olv) :: tl) kvs (liveN g0 g1 gv i) ∧ (lv == sysModules) = false ∧ (∀ p ∈ tl, p.1 ≠ ka ∧ @LT.lt Nat _ (L' + 1 + 1 + 1) p.1 ∧ p.1 ≠ I) ∧ @LT.lt Nat _ (L' + 1 + 1 + 1) lv ∧ @Ne Nat lv ka ∧ @Ne Nat lv I ∧ IntsAre cv ((countsP g0 g1 gv).take i) ∧
      m' (Str.ofString "sent") = some (.str sent tx) ∧ m' (Str.ofString "goes") = some (.ref Dg) ∧ m' (Str.ofString "counts") = some (.ref ka)) ?done ?turn _ _ _ _ (by omega) ?start
    case start =>
      refine ⟨_, _, _, _, _, _, _, [], _, _, rfl, hcg, hc3, hdl, ?_, hsyl, ?_, ?_, ?_, ?_, .nil, rfl, rfl, rfl⟩
      · show DR _ [(((1 : Nat) : Int), Value.ref _)] [(1, 1, [])]
        exact .cons (k := 1) (ls := []) (t1 := _) (t2 := _) (.tail _ (.head _)) .nil
      · intro p hp
        rw [List.mem_singleton.mp hp]
        have h9 := hI _ (.tail _ (.tail _ (.tail _ (.tail _ (.tail _ (.tail _ (.head _)))))))
        exact ⟨neN (by omega), by omega, Nat.ne_of_lt h9⟩
      · omega
      · exact neN (by omega)
      · exact Nat.ne_of_lt (hI _ (.tail _ (.tail _ (.tail _ (.tail _ (.tail _ (.head _)))))))
    case turn =>
      rintro i m1 news1 hi ⟨lv, olv, kvs, tl, o1, o2, o3, cv, ec, tgg, rfl, hcg, hc3, hdl, hR, hsl, htl, hl3, hlk, hlI, hcv, q1, q2, q3⟩ t h tk F1 N1
      refine wpAny_noRaise ?_
      have hlen := liveN_len (g0 := g0) (g1 := g1) (gv := gv) i
      have hpw : 2 ^ i ≤ 2 ^ 8 := Nat.pow_le_pow_right (by decide) (by omega)
      have hcl2 : ((countsP g0 g1 gv).take i).length ≤ 20 := by
        rw [List.length_take]; omega
      refine' turnO (tl := (I, _) :: tl) (sz := i) B' F1 X' T' (permF N1) hcg hc3 hdl (hR.mono fun q hq => ?mo) (by omega) hsl ?k1 ?k2 ?k3 ?k4 hDg hcv hcl2 (liveN_good k0 k1 kv i) (by omega) k0 k1 kv hmatch ?a1 ?a2 ?a3 hw hin hsp hwl hmid ?d ?u ?_
      case mo =>
        rcases List.mem_cons.mp hq with h | h
        · rw [h]; exact .head _
        · exact .tail _ (.tail _ h)
      case k1 =>
        intro p hp
        rcases List.mem_cons.mp hp with rfl | hp
        · exact Nat.ne_of_gt hIk
        · exact (htl p hp).1
      case k2 =>
        intro p hp
        rcases List.mem_cons.mp hp with rfl | hp
        · exact hI3
        · exact (htl p hp).2.1
      case k3 => omega
      case k4 => exact neN (by omega)
      case a1 => exact q1
      case a2 => exact q2
      case a3 => exact q3
      case d => omega
      case u => omega
      intro h2 tk2 m2 od2 kvs2 nw o3' dl u ec' F2 N2 hc2 hd2 hR2 hsd hkd htd hnw hmm
      have hdI : @LT.lt Nat _ I dl := htd _ (.head _)
      have hct : (countsP g0 g1 gv).take (i + 1) = (countsP g0 g1 gv).take i ++ [countS (nextL g0 g1 gv (liveN g0 g1 gv i))] := by
        rw [List.take_add_one]
        simp [countsP, hi, liveN]
      refine ⟨h2, tk2, m2, _, rfl, F2, permG N2, ?_, dl, od2, kvs2, nw ++ tl, o1, o2, o3', _, _, tgg, rfl, hcg, hc2, hd2, (hR2.drop (itR_cls _ _)).mono fun q hq => .tail _ hq, hsd, ?_, ?_, ?_, ?_, ?_, ?_, ?_, ?_⟩
      · intro p hp
        revert p
        have hI2 : @LT.lt Nat _ (L' + 1 + 1) I := Nat.lt_of_succ_lt hI3
        have hI1 : @LT.lt Nat _ (L' + 1) I := Nat.lt_of_succ_lt hI2
        exact offM (Nat.ne_of_lt hIk) (offM (Nat.ne_of_lt hID) (offM (Nat.ne_of_lt hI3) (offM (Nat.ne_of_lt hI2) (offM (Nat.ne_of_lt hI1) (offM (Nat.ne_of_gt hdI) (offA (fun p hp => Nat.ne_of_gt (Nat.lt_trans hdI (hnw p hp))) fun p hp => (htl p hp).2.2))))))
      · intro p hp
        rcases List.mem_append.mp hp with hp | hp
        · have h7 := hnw p hp
          exact ⟨neN (by omega), by omega, neN (by omega)⟩
        · exact htl p hp
      · omega
      · exact neN (by omega)
      · exact neN (by omega)
      · rw [hct]; exact hcv.append (.cons _ _ .nil)
      · exact (hmm _ (by decide) (by decide) (by decide) (by decide) (by decide) (by decide) (by decide)).trans q1
      · exact (hmm _ (by decide) (by decide) (by decide) (by decide) (by decide) (by decide) (by decide)).trans q2
      · exact (hmm _ (by decide) (by decide) (by decide) (by decide) (by decide) (by decide) (by decide)).trans q3
    case done =>
      rintro m1 news1 ⟨lv, olv, kvs, tl, o1, o2, o3, cv, ec, tgg, rfl, hcg, hc3, hdl, hR, hsl, htl, hl3, hlk, hlI, hcv, q1, q2, q3⟩ h tk F1 N1
      rw [mp3 q1 q2 q3] at F1
      have hct : (countsP g0 g1 gv).take 9 = countsP g0 g1 gv := List.take_of_length_le (by simp [countsP])
      rw [hct] at hcv
      k_steps
      exact hret ka _ _ cv ec (fun b o e => Fr.keep (h₀ := g') (L := L') (by assumption) b o (hg' b o e)) (by omega) (News.get (h₀ := g') (L := L') (by assumption) (by k_mem)) hcv
end
end Mine
end

section
theorem Mine.woff_LawA {M : PySem.Model} {A : PySem.Around} {E Q : PySem.Value → PySem.Shared → Prop} {s : PySem.Shared} (h : PySem.wpAny M A (PySem.call (.builtin "no") []) Q E s) : PySem.wpAny M A (PySem.call (.builtin "no") []) Q E s := by
  w_top off
  first | (walk1; fail) | exact h
open PySem PySem.W PyProof.Rows PySem.Calls PySem.Spec
set_option maxRecDepth 100000
namespace Mine
theorem filled17 (w : World) : (hd.heap_39 w.params).In ({} : Heap) → PySem.Challenge.rw_pe0153_01.foot = 4 := by
  k_fill
  intro _; rfl

noncomputable def lB' : List Stmt := fnBody (topStmt 20)
noncomputable def lS' : Scope := fnScope (topStmt 20)
noncomputable abbrev lS : {b : Scope // lS' = b} := by
  refine' ⟨_, ?h⟩
  case h => conv => lhs; whnf
noncomputable abbrev lE (L a : Addr) (cd : Value) : Env := envOfC (Str.ofString "law") lS.1 L a cd
noncomputable abbrev lCl (L : Addr) : List (Str × Addr) := cellsFrom (L + 1) lS.1.names []
noncomputable def lA' : List Stmt := lB'.take 1
noncomputable abbrev lA : {b : List Stmt // lA' = b} := by
  refine' ⟨_, ?h⟩
  case h => conv => lhs; whnf
noncomputable def l1' : List Stmt := (lB'.drop 1).take 1
noncomputable abbrev l1 : {b : List Stmt // l1' = b} := by
  refine' ⟨_, ?h⟩
  case h => conv => lhs; whnf
noncomputable def l2' : List Stmt := (lB'.drop 2).take 1
noncomputable abbrev l2 : {b : List Stmt // l2' = b} := by
  refine' ⟨_, ?h⟩
  case h => conv => lhs; whnf
noncomputable def l3' : List Stmt := (lB'.drop 3).take 1
noncomputable abbrev l3 : {b : List Stmt // l3' = b} := by
  refine' ⟨_, ?h⟩
  case h => conv => lhs; whnf
noncomputable def l4' : List Stmt := (lB'.drop 4).take 2
noncomputable abbrev l4 : {b : List Stmt // l4' = b} := by
  refine' ⟨_, ?h⟩
  case h => conv => lhs; whnf

set_option maxHeartbeats 4000000 in
theorem pA0 {w : World} {p : Program} {loose : List Str} {mean : ExcName → Option Value} {mg mb : Str → Option Value}
    {dp un : Nat} {gd : Option (List Code)} {outer : List Env} {A₀ : Around} {base g' : Heap} {L' fa : Addr} {cdv : Value} {m : Str → Option Value} {s : Shared} {Q : Flow → Shared → Prop} {rest : List Stmt}
    {l : Addr} {vs : List Value} {ns : List Int} {o1 o2 o54 o47 : Obj}
    (B : Below A₀ base outer g') (F : Fr g' L' s.heap m) (X : (hd.heap_39 w.params).In g') (T : Top p loose mean mg mb g')
    (N : News g' L' s.heap [(L' + 1 + 1, o2), (L' + 1, o1), (54, o54), (47, o47)])
    (hl : g'.IsList l vs.toArray) (hi : IntsAre vs ns) (hlen : ns.length ≤ 63) (h54 : @LT.lt Nat _ 54 L') (h47 : @LT.lt Nat _ 47 L')
    (m1 : m (Str.ofString "script") = some (.ref l))
    (hret : ∀ h' tk' m' D ws, Fr g' L' h' m' → News g' L' h' [(D, lstO ws 0), (L' + 1 + 1, o2), (L' + 1, o1), (54, o54), (47, o47)] → IntsAre ws (ns.take 5) → m' (Str.ofString "first") = some (.ref D) → (∀ y, y ≠ Str.ofString "first" → m' y = m y) → @LT.lt Nat _ (L' + 1 + 1) D →
      wpAny (model PySem.Challenge.rw_pe0153_01.prog w) (ktrTop dp un gd (Str.ofString "law") lS.1 L' fa cdv (lCl L') outer) (execs rest (lE L' fa cdv)) Q (fun _ _ => False) { s with heap := h', toks := tk' }) :
    wpAny (model PySem.Challenge.rw_pe0153_01.prog w) (ktrTop dp un gd (Str.ofString "law") lS.1 L' fa cdv (lCl L') outer) (execs (lA.1 ++ rest) (lE L' fa cdv)) Q (fun _ _ => False) s := by
  have hM := mp1 m1
  rw [hM] at F
  have hvl := hi.length
  simp only [lA, List.cons_append, List.nil_append]
  (try k_fold)
  k_steps
  (rename Fr _ _ _ _ => F9); (rename News _ _ _ _ => N9); (rename IntsAre _ (List.take 5 ns) => hI9)
  exact hret _ _ _ _ _ F9 N9 hI9 rfl (fun y e0 => by
      show (if y = _ then _ else _) = _
      rw [if_neg e0]; exact (congrFun hM y).symm) (by omega)

section
local macro_rules | `(tactic| walk_at "binaryOp Add ref ref") => `(tactic| (refine Stp.out ?_))
local macro_rules | `(tactic| walk_at "subscriptTail List cons Slice ref ref") => `(tactic| (refine Stp.out ?_))
set_option maxHeartbeats 4000000 in
theorem pA1 {w : World} {p : Program} {loose : List Str} {mean : ExcName → Option Value} {mg mb : Str → Option Value}
    {dp un : Nat} {gd : Option (List Code)} {outer : List Env} {A₀ : Around} {base g' : Heap} {L' fa : Addr} {cdv : Value} {m : Str → Option Value} {s : Shared} {Q : Flow → Shared → Prop} {rest : List Stmt}
    {D : Addr} {ws : List Value} {fs : List Int} {o1 o2 o54 o47 : Obj}
    (B : Below A₀ base outer g') (F : Fr g' L' s.heap m) (X : (hd.heap_39 w.params).In g') (T : Top p loose mean mg mb g')
    (N : News g' L' s.heap [(D, lstO ws 0), (L' + 1 + 1, o2), (L' + 1, o1), (54, o54), (47, o47)])
    (hi : IntsAre ws fs) (hlen : fs.length ≤ 5) (h54 : @LT.lt Nat _ 54 L') (h47 : @LT.lt Nat _ 47 L') (hD : @LT.lt Nat _ (L' + 1 + 1) D)
    (m1 : m (Str.ofString "first") = some (.ref D))
    (hret : ∀ h' tk' m' D2 ws2, Fr g' L' h' m' → News g' L' h' [(D2, lstO ws2 0), (D, lstO ws 0), (L' + 1 + 1, o2), (L' + 1, o1), (54, o54), (47, o47)] → IntsAre ws2 (fs.map (fun k : Int => k.fmod 3) ++ List.drop fs.length [1, 0, 0, 2, 1]) → m' (Str.ofString "drawn") = some (.ref D2) → (∀ y, y ≠ Str.ofString "drawn" → m' y = m y) → @LT.lt Nat _ D D2 →
      wpAny (model PySem.Challenge.rw_pe0153_01.prog w) (ktrTop dp un gd (Str.ofString "law") lS.1 L' fa cdv (lCl L') outer) (execs rest (lE L' fa cdv)) Q (fun _ _ => False) { s with heap := h', toks := tk' }) :
    wpAny (model PySem.Challenge.rw_pe0153_01.prog w) (ktrTop dp un gd (Str.ofString "law") lS.1 L' fa cdv (lCl L') outer) (execs (l1.1 ++ rest) (lE L' fa cdv)) Q (fun _ _ => False) s := by
  have hM := mp1 m1
  rw [hM] at F
  have hvl := hi.length
  simp only [l1, List.cons_append, List.nil_append]
  (try k_fold)
  k_steps
  refine Stp.into ?_
  refine kba_turn (value' := PySem.Expr.Name (PySem.Str.ofString "_") ⟨0, 0, 0, 0⟩) (fun _ => rfl) ?_
  (refine' kmk_slice_ints (ns := [1, 0, 0, 2, 1]) ?zzF ?zzN ?zzl ?zzp ?zzq ?zzi ?zzm ?zzc ?_ ?zzs ?zzt ?zzz; (case zzF => k_asm); (case zzN => k_asm); (case zzl => kmk_list); (case zzp => exact IsPart.int _ _); (case zzq => exact IsPart.none); (case zzi => exact (.cons _ _ (.cons _ _ (.cons _ _ (.cons _ _ (.cons _ _ .nil)))))); (case zzm => exact kmk_from (.cons _ _ (.cons _ _ (.cons _ _ (.cons _ _ (.cons _ _ .nil))))) (Int.natCast_nonneg _)); (case zzc => exact List.length_drop ..); (case zzs => with_unfolding_all rfl); (case zzt => kmk_pure); (case zzz => exact Nat.le_of_ble_eq_true rfl))
  intro D7 ws7 h7 F7 N7 l7 hI7 hC7 hL7
  (try k_lt l7)
  (try k_sweep)
  k_steps
  refine Stp.into ?_
  (refine' kmk_add_ints ?zzF ?zzN ?zza ?zzb ?zzi ?zzj ?_ ?zzz; (case zzF => k_asm); (case zzN => k_asm); (case zza => kmk_list); (case zzb => kmk_list); (case zzi => l_ints); (case zzj => l_ints); (case zzz => kmk_sum))
  intro D8 ws8 h8 F8 N8 l8 hI8
  (try k_lt l8)
  (try k_sweep)
  k_steps
  (rename Fr _ _ _ _ => F9); (rename News _ _ _ _ => N9); (rename IntsAre _ (List.map _ _ ++ _) => hI9)
  obtain ⟨D2, hD2⟩ := nameHead N9
  subst hD2
  refine hret _ _ _ D2 _ F9 (newsSub N9 ?_) hI9 rfl (fun y e0 => by
      show (if y = _ then _ else _) = _
      rw [if_neg e0]; exact (congrFun hM y).symm) (by omega)
  repeat' (first | refine sub_cons (by k_mem) ?_ | exact fun _ h => absurd h List.not_mem_nil)

end
section
local macro_rules | `(tactic| walk_at "binaryOp Add ref ref") => `(tactic| (refine Stp.out ?_))
set_option maxHeartbeats 4000000 in
theorem pA2 {w : World} {p : Program} {loose : List Str} {mean : ExcName → Option Value} {mg mb : Str → Option Value}
    {dp un : Nat} {gd : Option (List Code)} {outer : List Env} {A₀ : Around} {base g' : Heap} {L' fa : Addr} {cdv : Value} {m : Str → Option Value} {s : Shared} {Q : Flow → Shared → Prop} {rest : List Stmt}
    {D D2 : Addr} {ws ws2 : List Value} {ds : List Int} {o1 o2 o54 o47 : Obj}
    (B : Below A₀ base outer g') (F : Fr g' L' s.heap m) (X : (hd.heap_39 w.params).In g') (T : Top p loose mean mg mb g')
    (N : News g' L' s.heap [(D2, lstO ws2 0), (D, lstO ws 0), (L' + 1 + 1, o2), (L' + 1, o1), (54, o54), (47, o47)])
    (hi : IntsAre ws2 ds) (hlen : ds.length ≤ 10) (h54 : @LT.lt Nat _ 54 L') (h47 : @LT.lt Nat _ 47 L') (hD : @LT.lt Nat _ (L' + 1 + 1) D) (hD2 : @LT.lt Nat _ D D2)
    (m1 : m (Str.ofString "drawn") = some (.ref D2))
    (hret : ∀ h' tk' m' D3 ws3, Fr g' L' h' m' → News g' L' h' [(D3, lstO ws3 0), (D, lstO ws 0), (L' + 1 + 1, o2), (L' + 1, o1), (54, o54), (47, o47)] → IntsAre ws3 (ds.take 1 ++ [2] ++ ds.drop 1) → m' (Str.ofString "items") = some (.ref D3) → (∀ y, y ≠ Str.ofString "items" → m' y = m y) → @LT.lt Nat _ D D3 →
      wpAny (model PySem.Challenge.rw_pe0153_01.prog w) (ktrTop dp un gd (Str.ofString "law") lS.1 L' fa cdv (lCl L') outer) (execs rest (lE L' fa cdv)) Q (fun _ _ => False) { s with heap := h', toks := tk' }) :
    wpAny (model PySem.Challenge.rw_pe0153_01.prog w) (ktrTop dp un gd (Str.ofString "law") lS.1 L' fa cdv (lCl L') outer) (execs (l2.1 ++ rest) (lE L' fa cdv)) Q (fun _ _ => False) s := by
  have hM := mp1 m1
  rw [hM] at F
  have hvl := hi.length
  simp only [l2, List.cons_append, List.nil_append]
  (try k_fold)
  k_steps
  refine Stp.into ?_
  (refine' kmk_add_ints ?zzF ?zzN ?zza ?zzb ?zzi ?zzj ?_ ?zzz; (case zzF => k_asm); (case zzN => k_asm); (case zza => kmk_list); (case zzb => kmk_list); (case zzi => l_ints); (case zzj => l_ints); (case zzz => kmk_sum))
  intro D8 ws8 h8 F8 N8 l8 hI8
  (try k_lt l8)
  (try k_sweep)
  k_steps
  refine Stp.into ?_
  (refine' kmk_add_ints ?zzF ?zzN ?zza ?zzb ?zzi ?zzj ?_ ?zzz; (case zzF => k_asm); (case zzN => k_asm); (case zza => kmk_list); (case zzb => kmk_list); (case zzi => l_ints); (case zzj => l_ints); (case zzz => kmk_sum))
  intro D7 ws7 h7 F7 N7 l7 hI7
  (try k_lt l7)
  (try k_sweep)
  k_steps
  (rename Fr _ _ _ _ => F9); (rename News _ _ _ _ => N9); (rename IntsAre _ (_ ++ [2] ++ _) => hI9)
  obtain ⟨D3, hD3⟩ := nameHead N9
  subst hD3
  refine hret _ _ _ D3 _ F9 (newsSub N9 ?_) hI9 rfl (fun y e0 => by
      show (if y = _ then _ else _) = _
      rw [if_neg e0]; exact (congrFun hM y).symm) (by omega)
  repeat' (first | refine sub_cons (by k_mem) ?_ | exact fun _ h => absurd h List.not_mem_nil)

end
set_option maxHeartbeats 4000000 in
theorem pA3 {w : World} {p : Program} {loose : List Str} {mean : ExcName → Option Value} {mg mb : Str → Option Value}
    {dp un : Nat} {gd : Option (List Code)} {outer : List Env} {A₀ : Around} {base g' : Heap} {L' fa : Addr} {cdv : Value} {m : Str → Option Value} {s : Shared} {Q : Flow → Shared → Prop} {rest : List Stmt}
    {D D3 : Addr} {ws ws3 : List Value} {fs : List Int} {o1 o2 o54 o47 : Obj}
    (B : Below A₀ base outer g') (F : Fr g' L' s.heap m) (X : (hd.heap_39 w.params).In g') (T : Top p loose mean mg mb g')
    (N : News g' L' s.heap [(D3, lstO ws3 0), (D, lstO ws 0), (L' + 1 + 1, o2), (L' + 1, o1), (54, o54), (47, o47)]) (ho1 : o1.data = .cell none)
    (hi : IntsAre ws fs) (hlen : fs.length ≤ 5) (h54 : @LT.lt Nat _ 54 L') (h47 : @LT.lt Nat _ 47 L') (hD : @LT.lt Nat _ (L' + 1 + 1) D) (hD3 : @LT.lt Nat _ D D3)
    (m1 : m (Str.ofString "first") = some (.ref D))
    (hret : ∀ h' tk' o1' t, Fr g' L' h' m → News g' L' h' [(D3, lstO ws3 0), (L' + 1 + 1, o2), (L' + 1, o1'), (54, o54), (47, o47)] → o1'.data = .cell (some (.int (1 + (fs.map (fun k : Int => k.fdiv 3)).sum.fmod 3) t)) →
      wpAny (model PySem.Challenge.rw_pe0153_01.prog w) (ktrTop dp un gd (Str.ofString "law") lS.1 L' fa cdv (lCl L') outer) (execs rest (lE L' fa cdv)) Q (fun _ _ => False) { s with heap := h', toks := tk' }) :
    wpAny (model PySem.Challenge.rw_pe0153_01.prog w) (ktrTop dp un gd (Str.ofString "law") lS.1 L' fa cdv (lCl L') outer) (execs (l3.1 ++ rest) (lE L' fa cdv)) Q (fun _ _ => False) s := by
  have hM := mp1 m1
  rw [hM] at F
  rw [hM] at hret
  have hvl := hi.length
  simp only [l3, List.cons_append, List.nil_append]
  (try k_fold)
  k_steps
  (rename Fr _ _ _ _ => F9); (rename News _ _ _ _ => N9); (rename Obj.data _ = Data.cell (some (Value.int _ _)) => hc9)
  refine hret _ _ _ _ F9 (newsSub N9 ?_) hc9
  repeat' (first | refine sub_cons (by k_mem) ?_ | exact fun _ h => absurd h List.not_mem_nil)

set_option maxHeartbeats 4000000 in
theorem pA4 {w : World} {p : Program} {loose : List Str} {mean : ExcName → Option Value} {mg mb : Str → Option Value}
    {dp un : Nat} {gd : Option (List Code)} {outer : List Env} {A₀ : Around} {base g' : Heap} {L' fa : Addr} {cdv : Value} {m : Str → Option Value} {s : Shared} {Q : Flow → Shared → Prop} {rest : List Stmt}
    {D3 l : Addr} {vs ws3 : List Value} {ns : List Int} {o1 o2 o54 o47 : Obj} {tu : Int} {tt : Tok}
    (B : Below A₀ base outer g') (F : Fr g' L' s.heap m) (X : (hd.heap_39 w.params).In g') (T : Top p loose mean mg mb g')
    (N : News g' L' s.heap [(D3, lstO ws3 0), (L' + 1 + 1, o2), (L' + 1, o1), (54, o54), (47, o47)]) (ho1 : o1.data = .cell (some (.int tu tt))) (ho2 : o2.data = .cell none) (htu : 1 ≤ tu) (htu3 : tu ≤ 3)
    (hl : g'.IsList l vs.toArray) (hi : IntsAre vs ns) (hlen : ns.length ≤ 63) (h54 : @LT.lt Nat _ 54 L') (h47 : @LT.lt Nat _ 47 L') (hD3 : @LT.lt Nat _ (L' + 1 + 1) D3)
    (m1 : m (Str.ofString "script") = some (.ref l))
    (hret : ∀ h' tk' m' o2' t t2, Fr g' L' h' m' → News g' L' h' [(D3, lstO ws3 0), (L' + 1 + 1, o2'), (L' + 1, o1), (54, o54), (47, o47)] → o2'.data = .cell (some (.str (Txt.mul (Str.ofString ".") (3 - tu.fmod 3)) t)) → m' (Str.ofString "width") = some (.int (12 + (ns.length : Int).fmod 4) t2) → (∀ y, y ≠ Str.ofString "width" → m' y = m y) →
      wpAny (model PySem.Challenge.rw_pe0153_01.prog w) (ktrTop dp un gd (Str.ofString "law") lS.1 L' fa cdv (lCl L') outer) (execs rest (lE L' fa cdv)) Q (fun _ _ => False) { s with heap := h', toks := tk' }) :
    wpAny (model PySem.Challenge.rw_pe0153_01.prog w) (ktrTop dp un gd (Str.ofString "law") lS.1 L' fa cdv (lCl L') outer) (execs (l4.1 ++ rest) (lE L' fa cdv)) Q (fun _ _ => False) s := by
  have hM := mp1 m1
  rw [hM] at F
  have hvl := hi.length
  simp only [l4, List.cons_append, List.nil_append]
  (try k_fold)
  k_steps
  (rename Fr _ _ _ _ => F9); (rename News _ _ _ _ => N9); (rename Obj.data _ = Data.cell (some (Value.str _ _)) => hc9)
  refine hret _ _ _ _ _ _ F9 (newsSub N9 ?_) hc9 rfl (fun y e0 => by
      show (if y = _ then _ else _) = _
      rw [if_neg e0]; exact (congrFun hM y).symm)
  repeat' (first | refine sub_cons (by k_mem) ?_ | exact fun _ h => absurd h List.not_mem_nil)
end Mine
end

section
theorem Mine.woff_LawB {M : PySem.Model} {A : PySem.Around} {E Q : PySem.Value → PySem.Shared → Prop} {s : PySem.Shared} (h : PySem.wpAny M A (PySem.call (.builtin "no") []) Q E s) : PySem.wpAny M A (PySem.call (.builtin "no") []) Q E s := by
  w_top off
  first | (walk1; fail) | exact h
open PySem PySem.W PyProof.Rows PySem.Calls PySem.Spec
set_option maxRecDepth 100000
namespace Mine
theorem filled18 (w : World) : (hd.heap_39 w.params).In ({} : Heap) → PySem.Challenge.rw_pe0153_01.foot = 4 := by
  k_fill
  intro _; rfl

noncomputable def pickS (dt : Str) (v : Int) : Str := if v = 0 then Str.ofString "a" else if v = 1 then Str.ofString "b" else dt
noncomputable def sepS (r : Int) : Str := if r = 0 then Str.ofString "\r" else if r = 1 then Str.ofString "\r\n" else Str.ofString "\n"
noncomputable def sentUp (dt : Str) (ns : List Int) : Nat → Str
  | 0 => Str.ofString ""
  | k + 1 => sentUp dt ns k ++ pickS dt (ns.getD k 0) ++ sepS ((k : Int).fmod 3)
noncomputable def lP0' : List Stmt := (lB'.drop 6).take 1
noncomputable abbrev lP0 : {b : List Stmt // lP0' = b} := by
  refine' ⟨_, ?h⟩
  case h => conv => lhs; whnf
noncomputable def lP1' : List Stmt := (lB'.drop 7).take 1
noncomputable abbrev lP1 : {b : List Stmt // lP1' = b} := by
  refine' ⟨_, ?h⟩
  case h => conv => lhs; whnf

noncomputable def lT' : List Stmt := forB (headStmt lP1')
noncomputable abbrev lT : {b : List Stmt // lT' = b} := by
  refine' ⟨_, ?h⟩
  case h => conv => lhs; whnf
section
local macro_rules | `(tactic| walk_at "subscriptTail Name Name ref int") => `(tactic| (k_here; k_dflt (refine item_at (News.isList (by k_asm) (by k_mem)) (by assumption) (by assumption) ?_)))

set_option maxHeartbeats 4000000 in
theorem pBt {w : World} {p : Program} {loose : List Str} {mean : ExcName → Option Value} {mg mb : Str → Option Value}
    {dp un : Nat} {gd : Option (List Code)} {outer : List Env} {A₀ : Around} {base g' : Heap} {L' fa : Addr} {cdv : Value} {m : Str → Option Value} {s : Shared} {Q : Flow → Shared → Prop}
    {D3 : Addr} {vs : List Value} {o1 o2 o54 o47 : Obj} {pI : Addr × Obj} {x dt : Str} {tx td tp tv : Tok} {v : Int} {i : Nat}
    (B : Below A₀ base outer g') (F : Fr g' L' s.heap m) (X : (hd.heap_39 w.params).In g') (T : Top p loose mean mg mb g')
    (N : News g' L' s.heap [pI, (D3, lstO vs 0), (L' + 1 + 1, o2), (L' + 1, o1), (54, o54), (47, o47)]) (ho2 : o2.data = .cell (some (.str dt td)))
    (hv : v = 0 ∨ v = 1 ∨ v = 2) (hi : vs[i]? = some (.int v tv)) (hi6 : i < 1000) (hxl : x.length ≤ 200) (hdl : dt.length ≤ 3)
    (m1 : m (Str.ofString "sent") = some (.str x tx)) (m2 : m (Str.ofString "items") = some (.ref D3)) (m3 : m (Str.ofString "place") = some (.int (i : Int) tp))
    (hret : ∀ h' tk' m' t, Fr g' L' h' m' → News g' L' h' [pI, (D3, lstO vs 0), (L' + 1 + 1, o2), (L' + 1, o1), (54, o54), (47, o47)] → m' (Str.ofString "sent") = some (.str (x ++ pickS dt v ++ sepS ((i : Int).fmod 3)) t) → (∀ y, y ≠ Str.ofString "sent" → m' y = m y) → Q .next { s with heap := h', toks := tk' }) :
    wpAny (model PySem.Challenge.rw_pe0153_01.prog w) (ktrTop dp un gd (Str.ofString "law") lS.1 L' fa cdv (lCl L') outer) (execs lT.1 (lE L' fa cdv)) Q (fun _ _ => False) s := by
  have hM := mp3 m1 m2 m3
  rw [hM] at F
  have hr : (i : Int).fmod 3 = 0 ∨ (i : Int).fmod 3 = 1 ∨ (i : Int).fmod 3 = 2 := mod3 _
  obtain ⟨pa, po⟩ := pI
  (try k_fold)
  rcases hv with rfl | rfl | rfl <;> k_steps
  all_goals (rename Fr _ _ _ _ => F9)
  all_goals (rename News _ _ _ _ => N9)
  all_goals first | (rename Int.fmod _ _ = 0 => hk) | (rename Int.fmod _ _ = 1 => hk) | (rename Int.fmod _ _ = 2 => hk)
  all_goals refine hret _ _ _ _ F9 (newsSub N9 ?_) (by rw [hk]; rfl) (fun y e0 => ?_)
  all_goals first
    | (show (if y = _ then _ else _) = _; rw [if_neg e0]; exact (congrFun hM y).symm)
    | (repeat' (first | refine sub_cons (by k_mem) ?_ | exact fun _ h => absurd h List.not_mem_nil))
end
section
local macro_rules | `(tactic| walk_at "exec For Name Call cons nil") => `(tactic| (refine Stp.out ?_))
local macro_rules | `(tactic| walk_at "pyIter ref") => `(tactic| (refine Stp.out ?_))
theorem sentUp_len (dt : Str) (ns : List Int) (hd : dt.length ≤ 3) : ∀ k, (sentUp dt ns k).length ≤ 5 * k
  | 0 => Nat.le_refl _
  | k + 1 => by
    have h1 := sentUp_len dt ns hd k
    have h2 : (pickS dt (ns.getD k 0)).length ≤ 3 := by
      unfold pickS; split
      · decide
      · split
        · decide
        · exact hd
    have h3 : (sepS ((k : Int).fmod 3)).length ≤ 2 := by
      unfold sepS; split
      · decide
      · split <;> decide
    show (sentUp dt ns k ++ pickS dt (ns.getD k 0) ++ sepS ((k : Int).fmod 3)).length ≤ _
    rw [PySem.Str.length_append, PySem.Str.length_append]; omega
set_option maxHeartbeats 4000000 in
theorem pB {w : World} {p : Program} {loose : List Str} {mean : ExcName → Option Value} {mg mb : Str → Option Value}
    {dp un : Nat} {gd : Option (List Code)} {outer : List Env} {A₀ : Around} {base g' : Heap} {L' fa : Addr} {cdv : Value} {m : Str → Option Value} {s : Shared} {Q : Flow → Shared → Prop} {rest : List Stmt}
    {D3 : Addr} {vs : List Value} {ns : List Int} {o1 o2 o54 o47 : Obj} {dt : Str} {td : Tok}
    (B : Below A₀ base outer g') (F : Fr g' L' s.heap m) (X : (hd.heap_39 w.params).In g') (T : Top p loose mean mg mb g')
    (N : News g' L' s.heap [(D3, lstO vs 0), (L' + 1 + 1, o2), (L' + 1, o1), (54, o54), (47, o47)]) (ho2 : o2.data = .cell (some (.str dt td)))
    (hi : IntsAre vs ns) (hn : ns.length = 6) (hv : ∀ v ∈ ns, v = 0 ∨ v = 1 ∨ v = 2) (hdl : dt.length ≤ 3)
    (m2 : m (Str.ofString "items") = some (.ref D3))
    (hret : ∀ h' tk' m' t, Fr g' L' h' m' → News g' L' h' [(D3, lstO vs 0), (L' + 1 + 1, o2), (L' + 1, o1), (54, o54), (47, o47)] → m' (Str.ofString "sent") = some (.str (sentUp dt ns 6) t) → (∀ y, y ≠ Str.ofString "sent" → y ≠ Str.ofString "place" → m' y = m y) →
      wpAny (model PySem.Challenge.rw_pe0153_01.prog w) (ktrTop dp un gd (Str.ofString "law") lS.1 L' fa cdv (lCl L') outer) (execs rest (lE L' fa cdv)) Q (fun _ _ => False) { s with heap := h', toks := tk' }) :
    wpAny (model PySem.Challenge.rw_pe0153_01.prog w) (ktrTop dp un gd (Str.ofString "law") lS.1 L' fa cdv (lCl L') outer) (execs (lP0.1 ++ (lP1.1 ++ rest)) (lE L' fa cdv)) Q (fun _ _ => False) s := by
  have hM := mp1 m2
  rw [hM] at F
  simp only [lP0, lP1, List.cons_append, List.nil_append]
  (try k_fold)
  k_steps
  refine Stp.into ?_
  (rename Fr _ _ _ _ => lF')
  (with_unfolding_all refine' For_invVF lF' ?k1 ?k2 ?_; (case k1 => exact rfl); (case k2 => exact rfl))
  k_steps
  refine Stp.into ?_
  (rename Fr _ _ _ _ => F9); (rename News _ _ _ _ => N9); (rename IsRange _ _ _ _ _ _ _ _ => hr9)
  have F9 := frC F9 (congrArg (fun mm : Str → Option Value => fun y => if y = Str.ofString "sent" then some (Value.str (Str.ofString "") s.toks) else mm y) hM).symm
  refine' iter_rangeUnr (n := 6) rfl hr9 (by decide) rfl F9 N9 fun I hI => ?_
  refine rangeRest_ind (Inv := fun i m' news => news = [(D3, lstO vs 0), (L' + 1 + 1, o2), (L' + 1, o1), (54, o54), (47, o47)] ∧ (∃ t, m' (Str.ofString "sent") = some (.str (sentUp dt ns i) t)) ∧ (∀ y, y ≠ Str.ofString "sent" → y ≠ Str.ofString "place" → m' y = m y)) ?done ?turn _ _ _ _ (by omega) ?start
  case start => exact ⟨rfl, ⟨_, rfl⟩, fun y e0 e1 => if_neg e0⟩
  case turn =>
    rintro i m1 news1 hi6 ⟨rfl, ⟨t1, q1⟩, q2⟩ t h tk F1 N1
    have hlt : i < ns.length := by omega
    have hvl := hi.length
    obtain ⟨tv, hx⟩ : ∃ tv, vs[i]? = some (.int (ns.getD i 0) tv) := by
      obtain ⟨k, t, e, hk⟩ := IntsAre.at hi i (vs[i]'(by omega)) (by simp [hvl, hlt])
      refine ⟨t, ?_⟩
      rw [List.getD_eq_getElem?_getD, hk, List.getElem?_eq_getElem (by omega), e]; rfl
    have hvi : ns.getD i 0 = 0 ∨ ns.getD i 0 = 1 ∨ ns.getD i 0 = 2 := by
      rw [List.getD_eq_getElem?_getD, List.getElem?_eq_getElem hlt]
      exact hv _ (List.getElem_mem hlt)
    have hsl := sentUp_len dt ns hdl i
    refine wpAny_noRaise ?_
    have F1 := frC F1 (show _ = fun y => if y = Str.ofString "place" then some (Value.int (i : Int) t) else m1 y from by funext y; rw [Int.zero_add])
    refine' pBt (i := i) (x := sentUp dt ns i) B F1 X T N1 ho2 hvi hx (by omega) (by omega) hdl ?a1 ?a2 ?a3 ?_
    case a1 => exact q1
    case a2 => exact (q2 _ (by decide) (by decide)).trans m2
    case a3 => exact rfl
    intro h2 tk2 m3 t3 F2 N2 p1 p2
    refine ⟨h2, tk2, m3, _, rfl, F2, N2, ?_, rfl, ⟨_, p1⟩, fun y e0 e1 => ?_⟩
    · intro p hp
      exact Nat.ne_of_lt (hI p hp)
    · rw [p2 y e0]
      show (if y = _ then _ else _) = _
      rw [if_neg e1]; exact q2 y e0 e1
  case done =>
    rintro m1 news1 ⟨rfl, ⟨t1, q1⟩, q2⟩ h tk F1 N1
    exact hret _ _ _ _ F1 N1 q1 q2
end
end Mine
end

section
theorem Mine.woff_LawC {M : PySem.Model} {A : PySem.Around} {E Q : PySem.Value → PySem.Shared → Prop} {s : PySem.Shared} (h : PySem.wpAny M A (PySem.call (.builtin "no") []) Q E s) : PySem.wpAny M A (PySem.call (.builtin "no") []) Q E s := by
  w_top off
  first | (walk1; fail) | exact h
open PySem PySem.W PyProof.Rows PySem.Calls PySem.Spec
set_option maxRecDepth 100000
namespace Mine
theorem filled19 (w : World) : (hd.heap_39 w.params).In ({} : Heap) → PySem.Challenge.rw_pe0153_01.foot = 4 := by
  k_fill
  intro _; rfl

noncomputable def lQ' : List Stmt := (lB'.drop 8).take 1
noncomputable abbrev lQ : {b : List Stmt // lQ' = b} := by
  refine' ⟨_, ?h⟩
  case h => conv => lhs; whnf

noncomputable def quoUp (x : Str) : Nat → Str
  | 0 => x
  | k + 1 => quo (quoUp x k)
section
local macro_rules | `(tactic| walk_at "exec For Name Call cons nil") => `(tactic| (refine Stp.out ?_))
local macro_rules | `(tactic| walk_at "pyIter ref") => `(tactic| (refine Stp.out ?_))
local macro_rules | `(tactic| walk_at "call ref") => `(tactic| (refine Stp.out ?_))
local macro_rules | `(tactic| walk_at "UnrEnd") => `(tactic| (refine Stp.out ?_))

set_option maxHeartbeats 4000000 in
theorem pC {w : World} {p : Program} {loose : List Str} {mean : ExcName → Option Value} {mg mb : Str → Option Value}
    {dp un : Nat} {gd : Option (List Code)} {outer : List Env} {A₀ : Around} {base g' : Heap} {L' fa : Addr} {cdv : Value} {m : Str → Option Value} {s : Shared} {Q : Flow → Shared → Prop} {rest : List Stmt}
    {D3 : Addr} {vs : List Value} {o1 o2 o54 o47 : Obj} {x : Str} {tx tt : Tok} {tn : Nat}
    (B : Below A₀ base outer g') (F : Fr g' L' s.heap m) (X : (hd.heap_39 w.params).In g') (T : Top p loose mean mg mb g')
    (N : News g' L' s.heap [(D3, lstO vs 0), (L' + 1 + 1, o2), (L' + 1, o1), (54, o54), (47, o47)]) (ho1 : o1.data = .cell (some (.int (tn : Int) tt))) (htn : tn ≤ 3)
    (hq : ∀ k, k < tn → (quoUp x k).length ≤ 50)
    (m2 : m (Str.ofString "sent") = some (.str x tx)) (hdp : dp + 2 < recursionLimit) (hu : un + 20 < cLine)
    (hret : ∀ h' tk' m' t, Fr g' L' h' m' → News g' L' h' [(D3, lstO vs 0), (L' + 1 + 1, o2), (L' + 1, o1), (54, o54), (47, o47)] → m' (Str.ofString "sent") = some (.str (quoUp x tn) t) → (∀ y, y ≠ Str.ofString "sent" → y ≠ Str.ofString "turn" → m' y = m y) →
      wpAny (model PySem.Challenge.rw_pe0153_01.prog w) (ktrTop dp un gd (Str.ofString "law") lS.1 L' fa cdv (lCl L') outer) (execs rest (lE L' fa cdv)) Q (fun _ _ => False) { s with heap := h', toks := tk' }) :
    wpAny (model PySem.Challenge.rw_pe0153_01.prog w) (ktrTop dp un gd (Str.ofString "law") lS.1 L' fa cdv (lCl L') outer) (execs (lQ.1 ++ rest) (lE L' fa cdv)) Q (fun _ _ => False) s := by
  have hM := mp1 m2
  rw [hM] at F
  simp only [lQ, List.cons_append, List.nil_append]
  (try k_fold)
  k_steps
  refine Stp.into ?_
  (rename Fr _ _ _ _ => lF')
  (with_unfolding_all refine' For_invVF lF' ?k1 ?k2 ?_; (case k1 => exact rfl); (case k2 => exact rfl))
  k_steps
  refine Stp.into ?_
  (rename Fr _ _ _ _ => F9); (rename News _ _ _ _ => N9); (rename IsRange _ _ _ _ _ _ _ _ => hr9)
  have F9 := frC F9 hM.symm
  refine' iter_rangeUnr (n := tn) rfl hr9 ?sm ?sz F9 N9 fun I hI => ?_
  case sm => exact small_one (by omega) (by omega) (by omega) (by omega)
  case sz => rw [rangeSize_nat]; omega
  refine rangeRest_ind (Inv := fun i m' news => news = [(D3, lstO vs 0), (L' + 1 + 1, o2), (L' + 1, o1), (54, o54), (47, o47)] ∧ (∃ t, m' (Str.ofString "sent") = some (.str (quoUp x i) t)) ∧ (∀ y, y ≠ Str.ofString "sent" → y ≠ Str.ofString "turn" → m' y = m y)) ?done ?turn _ _ _ _ (by omega) ?start
  case start => exact ⟨rfl, ⟨_, m2⟩, fun y e0 e1 => rfl⟩
  case turn =>
    rintro i m1 news1 hi6 ⟨rfl, ⟨t1, q1⟩, q2⟩ t h tk F1 N1
    have hM1 := mp1 q1
    have F1 := frC F1 (congrArg (fun mm : Str → Option Value => fun y => if y = Str.ofString "turn" then some (Value.int (0 + (i : Int)) t) else mm y) hM1)
    k_steps
    refine Stp.into ?_
    (rename Fr _ _ _ _ => F9); (rename News _ _ _ _ => N9)
    refine' con_quo (B := B) (F := F9) (X := X) (T := T) rfl (hq i hi6) ?d ?u ?_
    case d => omega
    case u => omega
    intro h9 tk9 t9 kp
    have F9 := kp.fr F9
    have N9 := kp.news N9
    dsimp only
    k_steps
    refine Stp.into ?_
    (rename Fr _ _ _ _ => F9); (rename News _ _ _ _ => N9)
    refine ⟨_, _, _, _, rfl, F9, N9, ?_, rfl, ⟨_, rfl⟩, fun y e0 e1 => ?_⟩
    · intro p hp
      exact Nat.ne_of_lt (hI p hp)
    · show (if y = _ then _ else if y = _ then _ else if y = _ then _ else _) = _
      rw [if_neg e0, if_neg e1, if_neg e0]
      exact q2 y e0 e1
  case done =>
    rintro m1 news1 ⟨rfl, ⟨t1, q1⟩, q2⟩ h tk F1 N1
    exact hret _ _ _ _ F1 N1 q1 q2
end

end Mine
end

section
theorem Mine.woff_LawD {M : PySem.Model} {A : PySem.Around} {E Q : PySem.Value → PySem.Shared → Prop} {s : PySem.Shared} (h : PySem.wpAny M A (PySem.call (.builtin "no") []) Q E s) : PySem.wpAny M A (PySem.call (.builtin "no") []) Q E s := by
  w_top off
  first | (walk1; fail) | exact h
open PySem PySem.W PyProof.Rows PySem.Calls PySem.Spec
set_option maxRecDepth 100000
namespace Mine
theorem filled20 (w : World) : (hd.heap_39 w.params).In ({} : Heap) → PySem.Challenge.rw_pe0153_01.foot = 4 := by
  k_fill
  intro _; rfl
noncomputable def lI' : List Stmt := (lB'.drop 9).take 1
noncomputable abbrev lI : {b : List Stmt // lI' = b} := by
  refine' ⟨_, ?h⟩
  case h => conv => lhs; whnf

noncomputable def rowQ (d : Str) (v : Int) : Str := pickS d v ++ Str.ofString "\r\n"
theorem rowQ_len (d : Str) (v : Int) (hd : d.length ≤ 10) : (rowQ d v).length ≤ 12 := by
  have h2 : (pickS d v).length ≤ 10 := by
    unfold pickS; split
    · decide
    · split
      · decide
      · exact hd
  show (pickS d v ++ Str.ofString "\r\n").length ≤ _
  rw [PySem.Str.length_append]
  have : (Str.ofString "\r\n").length = 2 := by decide +kernel
  omega
section
local macro_rules | `(tactic| walk_at "eval ListComp") => `(tactic| (refine Stp.out ?_))
local macro_rules | `(tactic| walk_at "CompSrc") => `(tactic| (refine Stp.out ?_))
local macro_rules | `(tactic| walk_at "CompEnd") => `(tactic| (refine Stp.out ?_))
local macro_rules | `(tactic| walk_at "call builtin:str.join") => `(tactic| (refine Stp.out ?_))

theorem mul_len (d : Int) (hd : d ≤ 10) : (Txt.mul (Str.ofString ".") d).length ≤ 10 := by
  by_cases h : d < 1
  · unfold Txt.mul; rw [if_pos h]; decide
  · obtain ⟨n, rfl⟩ := Int.eq_ofNat_of_zero_le (Int.le_trans (by decide) (Int.not_lt.mp h))
    exact (by decide +kernel : ∀ m : Fin 11, (Txt.mul (Str.ofString ".") (m.val : Int)).length ≤ 10) ⟨n, Nat.lt_succ_of_le (Int.ofNat_le.mp hd)⟩

set_option maxHeartbeats 4000000 in
theorem pD {w : World} {p : Program} {loose : List Str} {mean : ExcName → Option Value} {mg mb : Str → Option Value}
    {dp un : Nat} {gd : Option (List Code)} {outer : List Env} {A₀ : Around} {base g' : Heap} {L' fa : Addr} {cdv : Value} {m : Str → Option Value} {s : Shared} {Q : Flow → Shared → Prop} {rest : List Stmt}
    {D3 : Addr} {vs : List Value} {ns : List Int} {o1 o2 o54 o47 : Obj} {x dt : Str} {tx tt td : Tok} {tn : Nat}
    (B : Below A₀ base outer g') (F : Fr g' L' s.heap m) (X : (hd.heap_39 w.params).In g') (T : Top p loose mean mg mb g')
    (N : News g' L' s.heap [(D3, lstO vs 0), (L' + 1 + 1, o2), (L' + 1, o1), (54, o54), (47, o47)]) (ho1 : o1.data = .cell (some (.int (tn : Int) tt))) (ho2 : o2.data = .cell (some (.str dt td))) (htn : tn ≤ 3) (hdl : dt.length ≤ 3)
    (hi : IntsAre vs ns) (hn : ns.length = 6) (hv : ∀ v ∈ ns, v = 0 ∨ v = 1 ∨ v = 2)
    (hx : x = Txt.join (Str.ofString "") (ns.map (rowQ (Txt.mul (Str.ofString ".") ((dt.length : Int) + (tn : Int))))))
    (m2 : m (Str.ofString "sent") = some (.str x tx)) (m3 : m (Str.ofString "items") = some (.ref D3)) (hdp : dp + 2 < recursionLimit) (hu : un + 20 < cLine)
    (hret : ∀ h' tk', Fr g' L' h' m → News g' L' h' [(D3, lstO vs 0), (L' + 1 + 1, o2), (L' + 1, o1), (54, o54), (47, o47)] →
      wpAny (model PySem.Challenge.rw_pe0153_01.prog w) (ktrTop dp un gd (Str.ofString "law") lS.1 L' fa cdv (lCl L') outer) (execs rest (lE L' fa cdv)) Q (fun _ _ => False) { s with heap := h', toks := tk' }) :
    wpAny (model PySem.Challenge.rw_pe0153_01.prog w) (ktrTop dp un gd (Str.ofString "law") lS.1 L' fa cdv (lCl L') outer) (execs (lI.1 ++ rest) (lE L' fa cdv)) Q (fun _ _ => False) s := by
  have hM := mp2 m2 m3
  rw [hM] at F
  rw [hM] at hret
  have hvl := hi.length
  have hml : (Txt.mul (Str.ofString ".") ((dt.length : Int) + (tn : Int))).length ≤ 10 := mul_len _ (by omega)
  simp only [lI, List.cons_append, List.nil_append]
  (try k_fold)
  k_steps
  refine Stp.into ?_
  refine LCg.ListComp_U (F₀ := by k_asm) (by with_unfolding_all rfl) (by decide) (by rfl) (by decide) (by rfl) ?_
  k_steps
  refine Stp.into ?_
  (rename Fr _ _ _ _ => F9); (rename News _ _ _ _ => N9)
  refine LCg.CompSrc.ledger rfl F9 N9 (by k_mem) (by rw [PySem.sizeLine_eq, List.size_toArray]; omega) ?_
  intro g9
  refine' kct_list (rowQ (Txt.mul (Str.ofString ".") ((dt.length : Int) + (tn : Int)))) hi (fun k t I oI C oC D m₂ ys h tk E' hk9 hC hx9 F N off ne mk => ?_) ?_
  · have off' := off
    simp only [LCg.Off3, and_true] at off
    dsimp only
    rcases hv _ hk9 with hq9 | hq9 | hq9 <;> subst hq9 <;> (try k_fold) <;> k_steps
    all_goals (rename Fr _ _ _ _ => F9)
    all_goals (rename News _ _ _ _ => N9)
    all_goals exact Stp.into ⟨_, _, _, rfl, F9, newsSub N9 (fun q hq => .tail _ hq), off', .inr ⟨_, .head _, rfl, _, rfl⟩, kct_el rfl rfl rfl⟩
  · unfold KPfDone
    intro ys hys hylen
    show LCg.FinE _ _ _ _ _ _ _
    intro D h tk F9 N9 o1
    (try dsimp only)
    (try k_fold)
    k_steps
    refine Stp.into ?_
    (with_reducible rename CarriedAll _ (List.map _ _) => ktC)
    refine KT.join_B 16 (by first | assumption | is_list | exact News.isList (by k_asm) (by k_mem)) ktC (fun a _ => Nat.le_trans (rowQ_len _ _ (by assumption)) (by decide)) (by first | omega | kt_fact) (by decide) ?_
    intro _ _
    k_steps
    · rename (_ != _) = true => hq
      rw [← hx] at hq
      simp at hq
    · (rename Fr _ _ _ _ => F9); (rename News _ _ _ _ => N9)
      refine hret _ _ F9 (newsSub N9 ?_)
      repeat' (first | refine sub_cons (by k_mem) ?_ | exact fun _ h => absurd h List.not_mem_nil)
end

end Mine
end

section
theorem Mine.woff_LawE {M : PySem.Model} {A : PySem.Around} {E Q : PySem.Value → PySem.Shared → Prop} {s : PySem.Shared} (h : PySem.wpAny M A (PySem.call (.builtin "no") []) Q E s) : PySem.wpAny M A (PySem.call (.builtin "no") []) Q E s := by
  w_top off
  first | (walk1; fail) | exact h
open PySem PySem.W PyProof.Rows PySem.Calls PySem.Spec
set_option maxRecDepth 100000
namespace Mine
theorem filled21 (w : World) : (hd.heap_39 w.params).In ({} : Heap) → PySem.Challenge.rw_pe0153_01.foot = 4 := by
  k_fill
  intro _; rfl
noncomputable def lK0' : List Stmt := (lB'.drop 10).take 1
noncomputable abbrev lK0 : {b : List Stmt // lK0' = b} := by
  refine' ⟨_, ?h⟩
  case h => conv => lhs; whnf
noncomputable def lK1' : List Stmt := (lB'.drop 11).take 1
noncomputable abbrev lK1 : {b : List Stmt // lK1' = b} := by
  refine' ⟨_, ?h⟩
  case h => conv => lhs; whnf
noncomputable def lK2' : List Stmt := (lB'.drop 12).take 1
noncomputable abbrev lK2 : {b : List Stmt // lK2' = b} := by
  refine' ⟨_, ?h⟩
  case h => conv => lhs; whnf

noncomputable def whB : Stmt → List Stmt
  | .While _ b _ _ => b
  | _ => []
noncomputable def whT : Stmt → PySem.Expr
  | .While t _ _ _ => t
  | _ => .Constant .none 0 ⟨0, 0, 0, 0⟩
noncomputable def lWB' : List Stmt := whB (headStmt lK1')
noncomputable abbrev lWB : {b : List Stmt // lWB' = b} := by
  refine' ⟨_, ?h⟩
  case h => conv => lhs; whnf
noncomputable def lWT' : PySem.Expr := whT (headStmt lK1')
noncomputable abbrev lWT : {b : PySem.Expr // lWT' = b} := by
  refine' ⟨_, ?h⟩
  case h => conv => lhs; whnf
theorem intsAre_snoc : ∀ {tv : List Value} {ts : List Int} {x : Int}, IntsAre tv (ts ++ [x]) → ∃ tv' tx, tv = tv' ++ [.int x tx] ∧ IntsAre tv' ts
  | _, [], x, h => by
    cases h with
    | cons k t r => cases r; exact ⟨[], t, rfl, .nil⟩
  | _, y :: ts, x, h => by
    cases h with
    | cons k t r =>
      obtain ⟨tv', tx, rfl, h2⟩ := intsAre_snoc r
      exact ⟨.int y t :: tv', tx, rfl, .cons y t h2⟩
noncomputable def trimR (ts : List Int) : List Int := (ts.reverse.dropWhile (· == 0)).reverse
section
local macro_rules | `(tactic| walk_at "call ref") => `(tactic| (refine Stp.out ?_))
local macro_rules | `(tactic| walk_at "exec While BoolOp cons nil") => `(tactic| (refine Stp.out ?_))
local macro_rules | `(tactic| walk_at "subscriptTail Name UnaryOp") => `(tactic| (k_dflt (refine' last_M ?N ?m ?_; (case N => k_asm); (case m => k_mem))))
local macro_rules | `(tactic| walk_at "WhlRest") => `(tactic| (refine Stp.out ?_))
local macro_rules | `(tactic| walk_at "WhlPost") => `(tactic| (refine Stp.out ?_))
local macro_rules | `(tactic| walk_at "call builtin:list.pop") => `(tactic| (refine Stp.out ?_))

theorem trimR_nil : trimR [] = [] := rfl
theorem trimR_zero (ts : List Int) : trimR (ts ++ [0]) = trimR ts := by
  simp [trimR]
theorem trimR_ne (ts : List Int) {x : Int} (h : x ≠ 0) : trimR (ts ++ [x]) = ts ++ [x] := by
  simp [trimR, h]
local macro_rules | `(tactic| walk_at "compareOp NotEq ref ref") => `(tactic| (refine Stp.out ?_))
local macro_rules | `(tactic| walk_at "compareOp Eq ref ref") => `(tactic| (refine Stp.out ?_))
local macro_rules | `(tactic| walk_at "WhlIf") => `(tactic| (refine Stp.out ?_))
set_option maxHeartbeats 4000000 in
theorem pEw {w : World} {p : Program} {loose : List Str} {mean : ExcName → Option Value} {mg mb : Str → Option Value}
    {dp un : Nat} {gd : Option (List Code)} {outer : List Env} {A₀ : Around} {base g' : Heap} {L' fa : Addr} {cdv : Value} {m : Str → Option Value} {s : Shared} {Q : Flow → Shared → Prop}
    {D3 ta : Addr} {vs : List Value} {o1 o2 o54 o47 : Obj}
    (_B : Below A₀ base outer g') (_X : (hd.heap_39 w.params).In g') (_T : Top p loose mean mg mb g')
    (m2 : m (Str.ofString "told") = some (.ref ta)) (ne3 : @Ne Nat D3 ta) (nec2 : @Ne Nat (L' + 1 + 1) ta) (nec1 : @Ne Nat (L' + 1) ta) (ne54 : @Ne Nat 54 ta) (ne47 : @Ne Nat 47 ta) (hu : un + 80 < cLine) {ts0 : List Int}
    (hret : ∀ tv e h' tk', Fr g' L' h' m → News g' L' h' [(ta, lstO tv e), (D3, lstO vs 0), (L' + 1 + 1, o2), (L' + 1, o1), (54, o54), (47, o47)] → IntsAre tv (trimR ts0) → Q .next { s with heap := h', toks := tk' }) :
    ∀ (n : Nat) (ts : List Int) (tv : List Value) (e : Nat) (h : Heap) (tk : Nat), ts.length = n → n ≤ 20 → trimR ts = trimR ts0 → IntsAre tv ts → Fr g' L' h m → News g' L' h [(ta, lstO tv e), (D3, lstO vs 0), (L' + 1 + 1, o2), (L' + 1, o1), (54, o54), (47, o47)] →
      WhlRest PySem.Challenge.rw_pe0153_01.prog w (ktrTop dp un gd (Str.ofString "law") lS.1 L' fa cdv (lCl L') outer) (fun _ _ => False) (lE L' fa cdv) lWT.1 lWB.1 [] Q (n + 1) { s with heap := h, toks := tk } := by
  have hM := mp1 m2
  intro n
  induction n with
  | zero =>
    intro ts tv e h tk hn _ htr hi F N
    obtain rfl : ts = [] := List.eq_nil_of_length_eq_zero hn
    obtain rfl : tv = [] := by cases hi; rfl
    rw [hM] at F
    refine whl_turn (by passes_own) ?_
    (try k_fold)
    k_steps
    refine Stp.into ?_
    (rename Fr _ _ _ _ => F9); (rename News _ _ _ _ => N9)
    refine ke_ne_ints (ys := []) (xs := []) (News.isList N9 (by k_mem)) (News.isList N9 (.head _)) .nil .nil (by show un + 64 < _; omega) ?_
    rw [show (!decide (([] : List Int) = [])) = false from rfl]
    k_steps
    refine Stp.into (WhlIf.no rfl ?_)
    k_steps
    exact hret _ _ _ _ (frC (by assumption) hM.symm) (newsSub N9 (fun q hq => .tail _ hq)) (by rw [← htr]; exact hi)
  | succ n ih =>
    intro ts tv e h tk hn hn2 htr hi F N
    obtain ⟨ts', x, rfl⟩ : ∃ ts' x, ts = ts' ++ [x] := by
      rcases List.eq_nil_or_concat ts with h | ⟨l, b, h⟩
      · rw [h] at hn; cases hn
      · exact ⟨l, b, by rw [h, List.concat_eq_append]⟩
    have hn' : ts'.length = n := by rw [List.length_append, List.length_singleton] at hn; omega
    obtain ⟨tv', tx, rfl, hi'⟩ : ∃ tv' tx, tv = tv' ++ [.int x tx] ∧ IntsAre tv' ts' := intsAre_snoc hi
    have hvl := hi'.length
    rw [hM] at F
    refine whl_turn (by passes_own) ?_
    (try k_fold)
    k_steps
    refine Stp.into ?_
    (rename Fr _ _ _ _ => F9); (rename News _ _ _ _ => N9)
    refine ke_ne_ints (ys := []) (xs := tv' ++ [.int x tx]) (News.isList N9 (by k_mem)) (News.isList N9 (.head _)) hi .nil (by show un + 64 < _; omega) ?_
    rw [show (!decide (ts' ++ [x] = [])) = true from by simp]
    k_steps
    · refine Stp.into (WhlIf.yes rfl ?_)
      rename x = 0 => hx0
      k_steps
      refine Stp.into ?_
      (rename Fr _ _ _ _ => F9); (rename News _ _ _ _ => N9)
      refine' kpa_pop (us := tv' ++ [.int x tx]) F9 N9 ?U hi (by simp) ?z ?_
      case U => k_upd
      case z => rw [PySem.sizeLine_eq, List.length_append, List.length_singleton]; omega
      intro h8 t8 F8 N8 hi8
      rw [List.dropLast_concat] at N8
      (try dsimp only)
      k_steps
      refine Stp.into ?_
      refine ih ts' tv' _ _ _ hn' (by omega) ?_ hi' (frC F8 hM.symm) (newsSub N8 (fun q hq => .tail _ hq))
      rw [← htr, hx0, trimR_zero]
    · refine Stp.into (WhlIf.no rfl ?_)
      rename x ≠ 0 => hx0
      k_steps
      exact hret _ _ _ _ (frC (by assumption) hM.symm) (newsSub N9 (fun q hq => .tail _ hq)) (by rw [← htr, trimR_ne _ hx0]; exact hi)
set_option maxHeartbeats 4000000 in
theorem pE {w : World} {p : Program} {loose : List Str} {mean : ExcName → Option Value} {mg mb : Str → Option Value}
    {dp un : Nat} {gd : Option (List Code)} {outer : List Env} {A₀ : Around} {base g' : Heap} {L' fa : Addr} {cdv : Value} {m : Str → Option Value} {s : Shared} {Q : Flow → Shared → Prop} {rest : List Stmt}
    {D3 : Addr} {n0 n1 n2 n3 n4 n5 : Int} {t0 t1 t2 t3 t4 t5 tx : Tok} {o1 o2 o54 o47 : Obj} {sent w0 wl : Str} {mid : List Str} {g0 g1 gv : Nat}
    (B : Below A₀ base outer g') (F : Fr g' L' s.heap m) (X : (hd.heap_39 w.params).In g') (T : Top p loose mean mg mb g')
    (N : News g' L' s.heap [(D3, lstO [Value.int n0 t0, .int n1 t1, .int n2 t2, .int n3 t3, .int n4 t4, .int n5 t5] 0), (L' + 1 + 1, o2), (L' + 1, o1), (54, o54), (47, o47)])
    (h54 : @LT.lt Nat _ 54 L') (h47 : @LT.lt Nat _ 47 L')
    (hgv : gv = pickN [n0, n1, n2, n3, n4, n5] 2) (hg0 : g0 = gv + pickN [n0, n1, n2, n3, n4, n5] 0) (hg1 : g1 = gv + pickN [n0, n1, n2, n3, n4, n5] 1)
    (hw : sent.length ≤ 100) (hin : (Builtin.Str.occurrences sent (Str.ofString "...") 0 sent.length 1).isEmpty = false) (hsp : Txt.split sent (Str.ofString "...") = w0 :: (mid ++ [wl])) (hwl : wl.length ≠ 0) (hmid : mid.length ≤ 90)
    (hmatch : ∀ ls : List Int, (∀ c ∈ ls, c = 0 ∨ c = 1) → ls.length ≤ 9 → ls ≠ [] → ellP w0 mid wl (rowsS ls) = decide (reachN g0 g1 gv ls / 64 = 1))
    (hne : trimR (countsP g0 g1 gv).reverse ≠ [])
    (m2 : m (Str.ofString "sent") = some (.str sent tx)) (m3 : m (Str.ofString "items") = some (.ref D3)) (hdp : dp + 4 < recursionLimit) (hu : un + 80 < cLine)
    (hret : ∀ h' tk' m' ta tv e, Fr g' L' h' m' → News g' L' h' [(ta, lstO tv e), (D3, lstO [Value.int n0 t0, .int n1 t1, .int n2 t2, .int n3 t3, .int n4 t4, .int n5 t5] 0), (L' + 1 + 1, o2), (L' + 1, o1), (54, o54), (47, o47)] → IntsAre tv (trimR (countsP g0 g1 gv).reverse) → m' (Str.ofString "told") = some (.ref ta) → (∀ y, y ≠ Str.ofString "told" → m' y = m y) → @LT.lt Nat _ L' ta →
      wpAny (model PySem.Challenge.rw_pe0153_01.prog w) (ktrTop dp un gd (Str.ofString "law") lS.1 L' fa cdv (lCl L') outer) (execs rest (lE L' fa cdv)) Q (fun _ _ => False) { s with heap := h', toks := tk' }) :
    wpAny (model PySem.Challenge.rw_pe0153_01.prog w) (ktrTop dp un gd (Str.ofString "law") lS.1 L' fa cdv (lCl L') outer) (execs (lK0.1 ++ (lK1.1 ++ (lK2.1 ++ rest))) (lE L' fa cdv)) Q (fun _ _ => False) s := by
  have hM := mp2 m2 m3
  rw [hM] at F
  simp only [lK0, lK1, lK2, List.cons_append, List.nil_append]
  (try k_fold)
  k_steps
  refine Stp.into ?_
  (rename Fr _ _ _ _ => F9); (rename News _ _ _ _ => N9)
  refine' con_counts (B := B) (F := F9) (X := X) (T := T) rfl (News.isList N9 (.head _)) hgv hg0 hg1 hw hin hsp hwl hmid hmatch ?d ?u ?_
  case d => omega
  case u => omega
  intro tc h9 tk9 cv ep kp hsz hget hic
  obtain ⟨N9, l9, l9b⟩ := news_add F9 N9 kp hsz hget
  have F9 := kp.fr F9
  k_lt l9
  have hcl := hic.length
  have hcl9 : (countsP g0 g1 gv).length = 9 := by simp [countsP]
  (try dsimp only)
  k_steps
  refine Stp.into ?_
  (rename Fr _ _ _ _ => F9); (rename News _ _ _ _ => N9); (rename IntsAre _ (List.reverse _) => hrev)
  obtain ⟨ta, hta⟩ := nameHead N9
  subst hta
  have lta : @LT.lt Nat _ L' ta := by omega
  have l3 : @Ne Nat D3 ta := neN (by omega)
  have lc2 : @Ne Nat (L' + 1 + 1) ta := neN (by omega)
  have lc1 : @Ne Nat (L' + 1) ta := neN (by omega)
  have l54 : @Ne Nat 54 ta := neN (by omega)
  have l47 : @Ne Nat 47 ta := neN (by omega)
  have F9 := frC F9 (congrArg (fun mm : Str → Option Value => fun y => if y = Str.ofString "told" then some (Value.ref ta) else mm y) hM).symm
  have N9 := newsSub (l := [(ta, lstO _ 0), (D3, lstO [Value.int n0 t0, .int n1 t1, .int n2 t2, .int n3 t3, .int n4 t4, .int n5 t5] 0), (L' + 1 + 1, o2), (L' + 1, o1), (54, o54), (47, o47)]) N9 (fun q hq => by
    rcases List.mem_cons.mp hq with h | h
    · rw [h]; exact .head _
    · exact .tail _ (.tail _ h))
  refine whl_start ((countsP g0 g1 gv).reverse.length + 1) ?_
  refine pEw (m := fun y => if y = Str.ofString "told" then some (Value.ref ta) else m y) (ts0 := (countsP g0 g1 gv).reverse) B X T rfl l3 lc2 lc1 l54 l47 hu ?_ _ (countsP g0 g1 gv).reverse _ _ _ _ rfl (by rw [List.length_reverse]; omega) rfl hrev F9 N9
  intro tv e h8 tk8 F8 N8 hi8
  (try dsimp only)
  k_steps
  refine Stp.into ?_
  (rename Fr _ _ _ _ => F9); (rename News _ _ _ _ => N9)
  refine ke_eq_ints (ys := []) (xs := tv) (News.isList N9 (by k_mem)) (News.isList N9 (.head _)) hi8 .nil (by show un + 64 < _; omega) ?_
  rw [show decide (trimR (countsP g0 g1 gv).reverse = []) = false from by simp [hne]]
  k_steps
  exact hret _ _ _ ta tv e F9 (newsSub N9 (fun q hq => .tail _ hq)) hi8 rfl (fun y e0 => if_neg e0) lta

end
end Mine
end

section
theorem Mine.woff_LawF {M : PySem.Model} {A : PySem.Around} {E Q : PySem.Value → PySem.Shared → Prop} {s : PySem.Shared} (h : PySem.wpAny M A (PySem.call (.builtin "no") []) Q E s) : PySem.wpAny M A (PySem.call (.builtin "no") []) Q E s := by
  w_top off
  first | (walk1; fail) | exact h
open PySem PySem.W PyProof.Rows PySem.Calls PySem.Spec
set_option maxRecDepth 100000
namespace Mine
theorem filled22 (w : World) : (hd.heap_39 w.params).In ({} : Heap) → PySem.Challenge.rw_pe0153_01.foot = 4 := by
  k_fill
  intro _; rfl
noncomputable def lF0' : List Stmt := (lB'.drop 13).take 1
noncomputable abbrev lF0 : {b : List Stmt // lF0' = b} := by
  refine' ⟨_, ?h⟩
  case h => conv => lhs; whnf
noncomputable def lF1' : List Stmt := (lB'.drop 14).take 1
noncomputable abbrev lF1 : {b : List Stmt // lF1' = b} := by
  refine' ⟨_, ?h⟩
  case h => conv => lhs; whnf

/-- the words between the rows of dots: the ready ones, and the last -/
noncomputable def wordsF (st : List (List Int) × List Int) (item : Int) : List (List Int) × List Int := if item = 2 then (st.1 ++ [st.2], []) else (st.1, st.2 ++ [item])
noncomputable def wordsP (ns : List Int) : List (List Int) × List Int := ns.foldl wordsF ([], [])
inductive WR (tl : List (Addr × Obj)) : List Addr → List (List Int) → Prop
  | nil : WR tl [] []
  | cons {a : Addr} {ws : List Int} {vs : List Value} {e : Nat} {as : List Addr} {wss : List (List Int)} : (a, lstO vs e) ∈ tl → IntsAre vs ws → WR tl as wss → WR tl (a :: as) (ws :: wss)
theorem WR.mono {tl tl' : List (Addr × Obj)} {as : List Addr} {wss : List (List Int)} (x : WR tl as wss) (h : ∀ q ∈ tl, q ∈ tl') : WR tl' as wss := by
  induction x with
  | nil => exact .nil
  | cons hm hi _ ih => exact .cons (h _ hm) hi ih
theorem WR.append {tl : List (Addr × Obj)} {as bs : List Addr} {wss vss : List (List Int)} (x : WR tl as wss) (y : WR tl bs vss) : WR tl (as ++ bs) (wss ++ vss) := by
  induction x with
  | nil => exact y
  | cons hm hi _ ih => exact .cons hm hi ih
theorem WR.len {tl : List (Addr × Obj)} {as : List Addr} {wss : List (List Int)} (x : WR tl as wss) : as.length = wss.length := by
  induction x with
  | nil => rfl
  | cons _ _ _ ih => simp [ih]
section
local macro_rules | `(tactic| k_all) => `(tactic| assumption)
local macro_rules | `(tactic| walk_at "exec For Name Name cons nil") => `(tactic| (refine Stp.out ?_))
local macro_rules | `(tactic| walk_at "pyIter ref") => `(tactic| (refine Stp.out ?_))
local macro_rules | `(tactic| walk_at "UnrEnd") => `(tactic| (refine Stp.out ?_))
local macro_rules | `(tactic| walk_at "subscriptTail Name UnaryOp") => `(tactic| (k_dflt (refine' last_M ?N ?m ?_; (case N => k_asm); (case m => k_mem))))

set_option maxHeartbeats 4000000 in
theorem pF {w : World} {p : Program} {loose : List Str} {mean : ExcName → Option Value} {mg mb : Str → Option Value}
    {dp un : Nat} {gd : Option (List Code)} {outer : List Env} {A₀ : Around} {base g' : Heap} {L' fa : Addr} {cdv : Value} {m : Str → Option Value} {s : Shared} {Q : Flow → Shared → Prop} {rest : List Stmt}
    {D3 ta : Addr} {vs tv : List Value} {ns : List Int} {e3 et : Nat} {o54 o47 : Obj}
    (B : Below A₀ base outer g') (F : Fr g' L' s.heap m) (X : (hd.heap_39 w.params).In g') (T : Top p loose mean mg mb g')
    (N : News g' L' s.heap [(ta, lstO tv et), (D3, lstO vs e3), (54, o54), (47, o47)]) (h54 : @LT.lt Nat _ 54 L') (h47 : @LT.lt Nat _ 47 L') (hD3 : @LT.lt Nat _ L' D3) (hta : @LT.lt Nat _ L' ta)
    (hi : IntsAre vs ns) (hn : ns.length = 6)
    (m3 : m (Str.ofString "items") = some (.ref D3)) (hdp : dp + 4 < recursionLimit) (hu : un + 80 < cLine)
    (hret : ∀ h' tk' m' wa as al e tl vl el, Fr g' L' h' m' → News g' L' h' ((wa, lstO (as.map Value.ref ++ [.ref al]) e) :: (al, lstO vl el) :: (ta, lstO tv et) :: (54, o54) :: (47, o47) :: tl) → WR tl as (wordsP ns).1 → IntsAre vl (wordsP ns).2 → m' (Str.ofString "words") = some (.ref wa) → (∀ y, y ≠ Str.ofString "words" → y ≠ Str.ofString "item" → m' y = m y) → (∀ p ∈ tl, @LT.lt Nat _ L' p.1) → @LT.lt Nat _ L' wa → @LT.lt Nat _ L' al →
      wpAny (model PySem.Challenge.rw_pe0153_01.prog w) (ktrTop dp un gd (Str.ofString "law") lS.1 L' fa cdv (lCl L') outer) (execs rest (lE L' fa cdv)) Q (fun _ _ => False) { s with heap := h', toks := tk' }) :
    wpAny (model PySem.Challenge.rw_pe0153_01.prog w) (ktrTop dp un gd (Str.ofString "law") lS.1 L' fa cdv (lCl L') outer) (execs (lF0.1 ++ (lF1.1 ++ rest)) (lE L' fa cdv)) Q (fun _ _ => False) s := by
  have hM := mp1 m3
  rw [hM] at F
  have hvl := hi.length
  simp only [lF0, lF1, List.cons_append, List.nil_append]
  (try k_fold)
  k_steps
  refine Stp.into ?_
  (rename Fr _ _ _ _ => lF')
  (with_unfolding_all refine' For_invVF lF' ?k1 ?k2 ?_; (case k1 => exact rfl); (case k2 => exact rfl))
  k_steps
  refine Stp.into ?_
  (rename Fr _ _ _ _ => F9); (rename News _ _ _ _ => N9)
  have hd3w := N9
  obtain ⟨wa, hwa⟩ := nameHead N9
  subst hwa
  obtain ⟨ca, hca⟩ := nameHead (kti_tail N9)
  subst hca
  have F9 := frC F9 (congrArg (fun mm : Str → Option Value => fun y => if y = Str.ofString "words" then some (Value.ref wa) else mm y) hM).symm
  have N9 := newsSub (l := (wa, lstO (([] : List Addr).map Value.ref ++ [.ref ca]) 0) :: (ca, lstO [] 0) :: (ta, lstO tv et) :: (54, o54) :: (47, o47) :: (D3, lstO vs e3) :: []) N9 (by repeat (first | exact subR _ | exact subN | refine subC (by repeat (first | exact List.Mem.head _ | refine List.Mem.tail _ ?_)) ?_ | refine subT ?_))
  refine' iter_listUnr (ax := D3) (lo := lstO vs e3) (vs := vs) (n := e3) rfl F9 N9 (by repeat (first | exact List.Mem.head _ | refine List.Mem.tail _ ?_)) rfl rfl fun I hI => ?_
  have hwI : @LT.lt Nat _ wa I := hI _ (.head _)
  have hcI : @LT.lt Nat _ ca I := hI _ (.tail _ (.head _))
  have htI : @LT.lt Nat _ ta I := hI _ (.tail _ (.tail _ (.head _)))
  have h54I : @LT.lt Nat _ 54 I := hI _ (.tail _ (.tail _ (.tail _ (.head _))))
  have h47I : @LT.lt Nat _ 47 I := hI _ (.tail _ (.tail _ (.tail _ (.tail _ (.head _)))))
  have h3I : @LT.lt Nat _ D3 I := hI _ (.tail _ (.tail _ (.tail _ (.tail _ (.tail _ (.head _))))))
  refine listRest_ind (Inv := fun r m' news => ∃ as al vl tl e el wd rr, IntsAre r rr ∧ news = (wa, lstO (as.map Value.ref ++ [.ref al]) e) :: (al, lstO vl el) :: (ta, lstO tv et) :: (54, o54) :: (47, o47) :: (D3, lstO vs e3) :: tl ∧ WR tl as wd.1 ∧ IntsAre vl wd.2 ∧ rr.foldl wordsF wd = wordsP ns ∧
    as.length + rr.length ≤ 6 ∧ vl.length + rr.length ≤ 6 ∧ (∀ p ∈ tl, p.1 ≠ wa) ∧ (∀ p ∈ tl, p.1 ≠ al) ∧ (∀ p ∈ tl, p.1 ≠ I) ∧ (∀ p ∈ tl, @LT.lt Nat _ L' p.1) ∧ @Ne Nat al wa ∧ @Ne Nat al I ∧ @Ne Nat al ta ∧ @Ne Nat al D3 ∧ @LT.lt Nat _ L' al ∧
    m' (Str.ofString "words") = some (.ref wa) ∧ (∀ y, y ≠ Str.ofString "words" → y ≠ Str.ofString "item" → m' y = m y)) ?done ?turn _ _ _ ?start
  case start =>
    have q1 : @Ne Nat ca wa := neN (by omega)
    have q2 : @Ne Nat ca ta := neN (by omega)
    have q3 : @Ne Nat ca D3 := neN (by omega)
    exact ⟨[], ca, [], [], 0, 0, ([], []), ns, hi, rfl, .nil, .nil, rfl, by rw [hn]; decide, by rw [hn]; decide, fun p hp => absurd hp List.not_mem_nil, fun p hp => absurd hp List.not_mem_nil, fun p hp => absurd hp List.not_mem_nil, fun p hp => absurd hp List.not_mem_nil, q1, Nat.ne_of_lt hcI, q2, q3, by omega, rfl, fun y e0 e1 => if_neg e0⟩
  case turn =>
    rintro v r m1 news1 ⟨as, al, vl, tl, e, el, wd, rr, i1, rfl, i2, i3, i4, i5, i6, i7, i8, i9, i10, i11, i12, i13, i14, i15, q1, q2⟩ it h1 tk1 hic F1 N1
    obtain ⟨x, tx, rr', rfl, rfl, i1'⟩ : ∃ x tx rr', rr = x :: rr' ∧ v = .int x tx ∧ IntsAre r rr' := by
      cases i1 with | cons d td h => exact ⟨d, td, _, rfl, rfl, h⟩
    have hM1 := mp1 q1
    have F1 := frC F1 (congrArg (fun mm : Str → Option Value => fun y => if y = Str.ofString "item" then some (Value.int x tx) else mm y) hM1)
    simp only [List.length_cons] at i5 i6
    k_steps
    · refine Stp.into ?_
      rename x = 2 => hx2
      (rename Fr _ _ _ _ => F9); (rename News _ _ _ _ => N9)
      obtain ⟨d, hd⟩ := nameHead N9
      subst hd
      have hl := (by assumption : @LT.lt Nat _ I d ∧ @LT.lt Nat _ wa d ∧ @LT.lt Nat _ al d ∧ @LT.lt Nat _ ta d ∧ @LT.lt Nat _ 54 d ∧ @LT.lt Nat _ 47 d ∧ @LT.lt Nat _ D3 d ∧ AllLt d tl)
      have htl := allLt_mem hl.2.2.2.2.2.2.2
      have ew : (as.map Value.ref ++ [.ref al]) ++ [.ref d] = ((as ++ [al]).map Value.ref ++ [.ref d]) := by simp
      rw [List.push_toArray, ew] at N9
      have e2 : wordsF wd x = (wd.1 ++ [wd.2], []) := if_pos hx2
      refine ⟨_, _, _, (wa, lstO ((as ++ [al]).map Value.ref ++ [.ref d]) (e + 1)) :: (d, lstO [] 0) :: (ta, lstO tv et) :: (54, o54) :: (47, o47) :: (D3, lstO vs e3) :: (al, lstO vl el) :: tl, rfl, F9, newsSub N9 ?_, ?_, by repeat (first | exact List.Mem.head _ | refine List.Mem.tail _ ?_), as ++ [al], d, [], (al, lstO vl el) :: tl, e + 1, 0, (wd.1 ++ [wd.2], []), rr', i1', rfl, (i2.mono fun q hq => .tail _ hq).append (.cons (.head _) i3 .nil), .nil, by rw [← e2]; exact i4, by rw [List.length_append, List.length_singleton]; omega, by simp only [List.length_nil]; omega, ?_, ?_, ?_, ?_, Nat.ne_of_gt hl.2.1, Nat.ne_of_gt hl.1, Nat.ne_of_gt hl.2.2.2.1, Nat.ne_of_gt hl.2.2.2.2.2.2.1, by omega, rfl, fun y e0 e1 => ?_⟩
      · repeat (first | exact subR _ | exact subN | refine subC (by repeat (first | exact List.Mem.head _ | refine List.Mem.tail _ ?_)) ?_ | refine subT ?_)
      · exact offM (Nat.ne_of_lt hwI) (offM (Nat.ne_of_gt hl.1) (offM (Nat.ne_of_lt htI) (offM (Nat.ne_of_lt h54I) (offM (Nat.ne_of_lt h47I) (offM (Nat.ne_of_lt h3I) (offM i12 i9))))))
      · exact offM i11 i7
      · intro p hp
        rcases List.mem_cons.mp hp with rfl | hp
        · exact Nat.ne_of_lt hl.2.2.1
        · exact Nat.ne_of_lt (htl p hp)
      · exact offM i12 i9
      · intro p hp
        rcases List.mem_cons.mp hp with rfl | hp
        · exact i15
        · exact i10 p hp
      · show (if y = _ then _ else if y = _ then _ else _) = _
        rw [if_neg e1, if_neg e0]; exact q2 y e0 e1
    · refine Stp.into ?_
      rename x ≠ 2 => hx2
      (rename Fr _ _ _ _ => F9); (rename News _ _ _ _ => N9)
      rw [List.push_toArray] at N9
      have e2 : wordsF wd x = (wd.1, wd.2 ++ [x]) := if_neg hx2
      refine ⟨_, _, _, (wa, lstO (as.map Value.ref ++ [.ref al]) e) :: (al, lstO (vl ++ [.int x tx]) (el + 1)) :: (ta, lstO tv et) :: (54, o54) :: (47, o47) :: (D3, lstO vs e3) :: tl, rfl, F9, N9, ?_, by repeat (first | exact List.Mem.head _ | refine List.Mem.tail _ ?_), as, al, vl ++ [.int x tx], tl, e, el + 1, (wd.1, wd.2 ++ [x]), rr', i1', rfl, i2, i3.append (.cons _ _ .nil), by rw [← e2]; exact i4, by omega, by rw [List.length_append, List.length_singleton]; omega, i7, i8, i9, i10, i11, i12, i13, i14, i15, rfl, fun y e0 e1 => ?_⟩
      · exact offM (Nat.ne_of_lt hwI) (offM i12 (offM (Nat.ne_of_lt htI) (offM (Nat.ne_of_lt h54I) (offM (Nat.ne_of_lt h47I) (offM (Nat.ne_of_lt h3I) i9)))))
      · show (if y = _ then _ else if y = _ then _ else _) = _
        rw [if_neg e1, if_neg e0]; exact q2 y e0 e1
  case done =>
    rintro m1 news1 ⟨as, al, vl, tl, e, el, wd, rr, i1, rfl, i2, i3, i4, i5, i6, i7, i8, i9, i10, i11, i12, i13, i14, i15, q1, q2⟩ h1 tk1 F1 N1
    obtain rfl : rr = [] := by cases i1; rfl
    have i4 : wd = wordsP ns := i4
    rw [← i4] at hret
    exact hret _ _ _ wa as al e tl vl el F1 (newsSub N1 (by repeat (first | exact subR _ | exact subN | refine subC (by repeat (first | exact List.Mem.head _ | refine List.Mem.tail _ ?_)) ?_ | refine subT ?_))) i2 i3 q1 q2 i10 (by omega) i15
end

end Mine
end

section
theorem Mine.woff_LawG {M : PySem.Model} {A : PySem.Around} {E Q : PySem.Value → PySem.Shared → Prop} {s : PySem.Shared} (h : PySem.wpAny M A (PySem.call (.builtin "no") []) Q E s) : PySem.wpAny M A (PySem.call (.builtin "no") []) Q E s := by
  w_top off
  first | (walk1; fail) | exact h
open PySem PySem.W PyProof.Rows PySem.Calls PySem.Spec
set_option maxRecDepth 100000
namespace Mine
theorem filled23 (w : World) : (hd.heap_39 w.params).In ({} : Heap) → PySem.Challenge.rw_pe0153_01.foot = 4 := by
  k_fill
  intro _; rfl
noncomputable def lG1' : List Stmt := (lB'.drop 15).take 2
noncomputable abbrev lG1 : {b : List Stmt // lG1' = b} := by
  refine' ⟨_, ?h⟩
  case h => conv => lhs; whnf
noncomputable def lG2' : List Stmt := (lB'.drop 17).take 2
noncomputable abbrev lG2 : {b : List Stmt // lG2' = b} := by
  refine' ⟨_, ?h⟩
  case h => conv => lhs; whnf

theorem len_v {prog : Program} {w : World} {A : Around} {E : Value → Shared → Prop} {s : Shared} {h₀ : Heap} {L l : Addr} {news : List (Addr × Obj)} {vs : List Value} {e n : Nat} {Q : Value → Shared → Prop} (N : News h₀ L s.heap news) (hm : (l, lstO vs e) ∈ news) (hn : vs.length = n) (hs : n ≤ 1000)
    (h : Q (.int (n : Int) (s.toks + 1)) { s with toks := s.toks + 1 + 1 }) : wpAny (model prog w) A (call (.builtin "len") [.ref l]) Q E s := by
  have e : vs.toArray.size = n := by rw [List.size_toArray, hn]
  refine len_list (News.isList N hm) (by rw [e]; omega) ?_
  rw [e]; exact h
theorem mul_l {prog : Program} {w : World} {A : Around} {E : Value → Shared → Prop} {s : Shared} {a b : Int} {t u : Tok} {Q : Value → Shared → Prop} (ha : 0 ≤ a) (ha2 : a < 2 ^ 64) (h : Q (.int (a * b) s.toks) { s with toks := s.toks + 1 }) :
    wpAny (model prog w) A (binaryOp .Mult (.int a t) (.int b u)) Q E s := mul_int h (IntMulOk.of_left (bits_of_lt ha ha2))
theorem mul_r {prog : Program} {w : World} {A : Around} {E : Value → Shared → Prop} {s : Shared} {a b : Int} {t u : Tok} {Q : Value → Shared → Prop} (ha : 0 ≤ b) (ha2 : b < 2 ^ 64) (h : Q (.int (a * b) s.toks) { s with toks := s.toks + 1 }) :
    wpAny (model prog w) A (binaryOp .Mult (.int a t) (.int b u)) Q E s := mul_int h (IntMulOk.of_right (bits_of_lt ha ha2))
section
local macro_rules | `(tactic| k_all) => `(tactic| assumption)
local macro_rules | `(tactic| walk_at "subscriptTail Name UnaryOp") => `(tactic| (k_dflt (refine' last_M (vs := Value.ref _ :: List.map Value.ref _) ?N ?m ?_; (case N => k_asm); (case m => exact .head _))))
local macro_rules | `(tactic| walk_at "call builtin:len") => `(tactic| (k_here; k_dflt (refine len_v (by k_asm) (by k_mem) (by first | assumption | rfl) (by omega) ?_)))
local macro_rules | `(tactic| walk_at "binaryOp Pow int int") => `(tactic| (refine Stp.out ?_))
local macro_rules | `(tactic| walk_at "binaryOp Mult int int") => `(tactic| (refine Stp.out ?_))

set_option maxHeartbeats 4000000 in
theorem pG1 {w : World} {p : Program} {loose : List Str} {mean : ExcName → Option Value} {mg mb : Str → Option Value}
    {dp un : Nat} {gd : Option (List Code)} {outer : List Env} {A₀ : Around} {base g' : Heap} {L' fa : Addr} {cdv : Value} {m : Str → Option Value} {s : Shared} {Q : Flow → Shared → Prop} {rest : List Stmt}
    {wa a0 al : Addr} {ms : List Addr} {v0 vl : List Value} {e e0 el wd : Nat} {tw : Tok} {tl : List (Addr × Obj)}
    (B : Below A₀ base outer g') (F : Fr g' L' s.heap m) (X : (hd.heap_39 w.params).In g') (T : Top p loose mean mg mb g')
    (N : News g' L' s.heap ((wa, lstO (Value.ref a0 :: (ms.map Value.ref ++ [Value.ref al])) e) :: (a0, lstO v0 e0) :: (al, lstO vl el) :: tl))
    (hms : ms.length ≤ 6) (h0 : v0.length ≤ 6) (h1 : vl.length ≤ 6) (hwd : wd ≤ 15) (hwd1 : 1 ≤ wd)
    (m1 : m (Str.ofString "words") = some (.ref wa)) (m2 : m (Str.ofString "width") = some (.int (wd : Int) tw)) (hdp : dp + 4 < recursionLimit) (hu : un + 80 < cLine)
    (hret : ∀ h' tk' m' t1 t2 t3 t4, Fr g' L' h' m' → News g' L' h' ((wa, lstO (Value.ref a0 :: (ms.map Value.ref ++ [Value.ref al])) e) :: (a0, lstO v0 e0) :: (al, lstO vl el) :: tl) →
      m' (Str.ofString "base") = some (.int (2 ^ wd) t1) → m' (Str.ofString "gone") = some (.int ((ms.length + 1 : Nat) : Int) t2) → m' (Str.ofString "over") = some (.int (2 ^ (ms.length + 1) * (2 ^ wd) ^ 10) t3) → m' (Str.ofString "under") = some (.int ((2 ^ wd) ^ (ms.length + 1 + v0.length + vl.length) * (2 ^ wd - 2)) t4) →
      (∀ y, y ≠ Str.ofString "base" → y ≠ Str.ofString "gone" → y ≠ Str.ofString "over" → y ≠ Str.ofString "under" → m' y = m y) →
      wpAny (model PySem.Challenge.rw_pe0153_01.prog w) (ktrTop dp un gd (Str.ofString "law") lS.1 L' fa cdv (lCl L') outer) (execs rest (lE L' fa cdv)) Q (fun _ _ => False) { s with heap := h', toks := tk' }) :
    wpAny (model PySem.Challenge.rw_pe0153_01.prog w) (ktrTop dp un gd (Str.ofString "law") lS.1 L' fa cdv (lCl L') outer) (execs (lG1.1 ++ (lG2.1 ++ rest)) (lE L' fa cdv)) Q (fun _ _ => False) s := by
  have hM := mp2 m1 m2
  rw [hM] at F
  have hlen : (Value.ref a0 :: (ms.map Value.ref ++ [Value.ref al])).length = ms.length + 2 := by simp
  simp only [lG1, lG2, List.cons_append, List.nil_append]
  (try k_fold)
  k_steps
  refine Stp.into ?_
  refine pow_s (n := wd) rfl (by omega) (by decide) ?_
  have hb0 : (0 : Int) < 2 ^ wd := Int.pow_pos (by decide)
  have hb1 : (2 : Int) ^ wd ≤ 2 ^ 15 := by
    have : (2 : Nat) ^ wd ≤ 2 ^ 15 := Nat.pow_le_pow_right (by decide) hwd
    exact_mod_cast this
  generalize hbb : (2 : Int) ^ wd = b at *
  have hb2 : 2 ≤ b := by
    have : (2 : Nat) ^ 1 ≤ 2 ^ wd := Nat.pow_le_pow_right (by decide) hwd1
    rw [← hbb]; exact_mod_cast this
  have hba : b.natAbs < 2 ^ 64 := by omega
  (try dsimp only)
  k_steps
  refine Stp.into ?_
  refine pow_s (n := ms.length + 1) (by omega) (by omega) (by decide) ?_
  (try dsimp only)
  k_steps
  refine Stp.into ?_
  refine pow_s (n := 10) rfl (by omega) hba ?_
  (try dsimp only)
  k_steps
  refine Stp.into ?_
  have hp0 : (0 : Int) < 2 ^ (ms.length + 1) := Int.pow_pos (by decide)
  have hp1 : (2 : Int) ^ (ms.length + 1) < 2 ^ 64 := by
    have : (2 : Nat) ^ (ms.length + 1) < 2 ^ 64 := Nat.pow_lt_pow_right (by decide) (by omega)
    exact_mod_cast this
  refine mul_l (Int.le_of_lt hp0) hp1 ?_
  (try dsimp only)
  k_steps
  refine Stp.into ?_
  refine pow_s (n := ms.length + 1 + v0.length + vl.length) (by omega) (by omega) hba ?_
  (try dsimp only)
  k_steps
  refine Stp.into ?_
  refine mul_r (by omega) (by omega) ?_
  (try dsimp only)
  k_steps
  (rename Fr _ _ _ _ => F9); (rename News _ _ _ _ => N9)
  have eg : ((ms.length + 2 : Nat) : Int) - 1 = ((ms.length + 1 : Nat) : Int) := by omega
  rw [eg] at F9
  refine hret _ _ _ _ _ _ _ F9 N9 rfl rfl rfl rfl (fun y e1 e2 e3 e4 => ?_)
  show (if y = _ then _ else if y = _ then _ else if y = _ then _ else if y = _ then _ else _) = _
  rw [if_neg e4, if_neg e3, if_neg e2, if_neg e1]
  exact (congrFun hM y).symm
end

end Mine
end

section
theorem Mine.woff_LawH {M : PySem.Model} {A : PySem.Around} {E Q : PySem.Value → PySem.Shared → Prop} {s : PySem.Shared} (h : PySem.wpAny M A (PySem.call (.builtin "no") []) Q E s) : PySem.wpAny M A (PySem.call (.builtin "no") []) Q E s := by
  w_top off
  first | (walk1; fail) | exact h
open PySem PySem.W PyProof.Rows PySem.Calls PySem.Spec
set_option maxRecDepth 100000
namespace Mine
theorem filled24 (w : World) : (hd.heap_39 w.params).In ({} : Heap) → PySem.Challenge.rw_pe0153_01.foot = 4 := by
  k_fill
  intro _; rfl
noncomputable def lH' : List Stmt := (lB'.drop 19).take 1
noncomputable abbrev lH : {b : List Stmt // lH' = b} := by
  refine' ⟨_, ?h⟩
  case h => conv => lhs; whnf

theorem slice_mid (x y : Value) (ms : List Value) : (slicePick (x :: (ms ++ [y])).toArray (some 1) (some (-1)) none).toList = ms := by
  have e : sliceBounds (some 1) (some (-1)) none (x :: (ms ++ [y])).toArray.size = (((1 : Nat) : Int), ((ms.length + 1 : Nat) : Int), 1) := by
    simp only [sliceBounds, Option.getD_none, show (1 : Int) > 0 by decide, if_true, if_neg (show ¬ ((1 : Int) < 0) by decide), if_pos (show (-1 : Int) < 0 by decide), List.size_toArray, List.length_cons, List.length_append, List.length_nil]
    have m1 : max (0 : Int) (min 1 ((ms.length + (0 + 1) + 1 : Nat) : Int)) = ((1 : Nat) : Int) := by
      rw [Int.min_eq_left (show (1 : Int) ≤ ((ms.length + (0 + 1) + 1 : Nat) : Int) from Int.ofNat_le.mpr (Nat.succ_le_succ (Nat.zero_le _)))]; rfl
    have m2 : max (0 : Int) (min (-1 + ((ms.length + (0 + 1) + 1 : Nat) : Int)) ((ms.length + (0 + 1) + 1 : Nat) : Int)) = ((ms.length + 1 : Nat) : Int) := by
      have e : (-1 : Int) + ((ms.length + (0 + 1) + 1 : Nat) : Int) = ((ms.length + 1 : Nat) : Int) := by
        rw [Int.natCast_add, Int.add_comm (-1), Int.add_assoc]; exact Int.add_zero _
      rw [e, Int.min_eq_left (Int.ofNat_le.mpr (Nat.le_succ _)), Int.max_eq_right (Int.natCast_nonneg _)]
    rw [m1, m2]
  rw [kmk_pick_nat _ e]
  show ((x :: (ms ++ [y])).drop 1).take (ms.length + 1 - 1) = ms
  simp
/-- one word more under the stroke -/
noncomputable def stepU (wd : Nat) (u : Int) (w : List Int) : Int := u * (1 + (2 ^ wd - 2) * dval wd (leadBits w))
theorem leadBits_bounds (wd : Nat) (h1 : 1 ≤ wd) (w : List Int) : ∀ x ∈ leadBits w, 0 ≤ x ∧ x < 2 ^ wd := by
  intro q hq
  obtain ⟨j, _, e⟩ := List.mem_map.mp hq
  have h2 : (2 : Int) ≤ 2 ^ wd := by
    have : (2 : Nat) ^ 1 ≤ 2 ^ wd := Nat.pow_le_pow_right (by decide) h1
    exact_mod_cast this
  rw [← e]
  split <;> omega
section
local macro_rules | `(tactic| k_all) => `(tactic| assumption)
local macro_rules | `(tactic| walk_at "binaryOp Mult int int") => `(tactic| (refine Stp.out ?_))
local macro_rules | `(tactic| walk_at "call ref") => `(tactic| (refine Stp.out ?_))
local macro_rules | `(tactic| walk_at "pyIter ref") => `(tactic| (refine Stp.out ?_))
local macro_rules | `(tactic| walk_at "UnrEnd") => `(tactic| (refine Stp.out ?_))
local macro_rules | `(tactic| walk_at "exec For Name Subscript cons nil") => `(tactic| (refine Stp.out ?_))
local macro_rules | `(tactic| walk_at "subscriptTail Name Slice ref ref") => `(tactic| (refine Stp.out ?_))

set_option maxHeartbeats 4000000 in
theorem pH {w : World} {p : Program} {loose : List Str} {mean : ExcName → Option Value} {mg mb : Str → Option Value}
    {dp un : Nat} {gd : Option (List Code)} {outer : List Env} {A₀ : Around} {base g' : Heap} {L' fa : Addr} {cdv : Value} {m : Str → Option Value} {s : Shared} {Q : Flow → Shared → Prop} {rest : List Stmt}
    {wa a0 al ta : Addr} {ms : List Addr} {wss : List (List Int)} {tv : List Value} {e et wd : Nat} {tw tb tu : Tok} {u0 : Int} {tl : List (Addr × Obj)} {p54 : Array Value}
    (B : Below A₀ base outer g') (F : Fr g' L' s.heap m) (X : (hd.heap_39 w.params).In g') (T : Top p loose mean mg mb g')
    (N : News g' L' s.heap ((wa, lstO (Value.ref a0 :: (ms.map Value.ref ++ [Value.ref al])) e) :: (54, tabObj p54) :: (47, tabObj #[]) :: (ta, lstO tv et) :: tl)) (h54 : @LT.lt Nat _ 54 L') (h47 : @LT.lt Nat _ 47 L') (hta : @LT.lt Nat _ L' ta) (htl : ∀ p ∈ tl, @LT.lt Nat _ L' p.1)
    (C2 : CodeHd g' 58 54) (tbx : TbX dPos dQual p54 g' tl)
    (hW : WR tl ms wss) (hms : ms.length ≤ 6) (hwl : ∀ w ∈ wss, w.length ≤ 6 ∧ ∀ x ∈ w, x = 0 ∨ x = 1) (hwd : wd ≤ 15) (hwd1 : 1 ≤ wd) (hu0 : 0 ≤ u0) (hu1 : u0 < 2 ^ 400)
    (hsp : ∀ w ∈ wss, ∀ k, k < w.length → (Builtin.Str.occurrences (Str.ofString "..." ++ rowsS (w.take (k + 1))) (Str.ofString "...") 0 (Str.ofString "..." ++ rowsS (w.take (k + 1))).length 1).isEmpty = false ∧ Txt.split (Str.ofString "..." ++ rowsS (w.take (k + 1))) (Str.ofString "...") = [Str.ofString "", rowsS (w.take (k + 1))])
    (m1 : m (Str.ofString "words") = some (.ref wa)) (m2 : m (Str.ofString "width") = some (.int (wd : Int) tw)) (m3 : m (Str.ofString "base") = some (.int (2 ^ wd) tb)) (m4 : m (Str.ofString "under") = some (.int u0 tu)) (hdp : dp + 70 < recursionLimit) (hu : un + 700 < cLine)
    (hret : ∀ h' tk' m' t1 p' tl', Fr g' L' h' m' → News g' L' h' ((54, tabObj p') :: (47, tabObj #[]) :: (ta, lstO tv et) :: tl') → TbX dPos dQual p' g' tl' → (∀ p ∈ tl', @LT.lt Nat _ L' p.1) →
      m' (Str.ofString "under") = some (.int (wss.foldl (stepU wd) u0) t1) → (∀ y, y ≠ Str.ofString "under" → y ≠ Str.ofString "word" → m' y = m y) →
      wpAny (model PySem.Challenge.rw_pe0153_01.prog w) (ktrTop dp un gd (Str.ofString "law") lS.1 L' fa cdv (lCl L') outer) (execs rest (lE L' fa cdv)) Q (fun _ _ => False) { s with heap := h', toks := tk' }) :
    wpAny (model PySem.Challenge.rw_pe0153_01.prog w) (ktrTop dp un gd (Str.ofString "law") lS.1 L' fa cdv (lCl L') outer) (execs (lH.1 ++ rest) (lE L' fa cdv)) Q (fun _ _ => False) s := by
  have hM := mp1 m1
  rw [hM] at F
  have hml := hW.len
  simp only [lH, List.cons_append, List.nil_append]
  (try k_fold)
  k_steps
  refine Stp.into ?_
  (rename Fr _ _ _ _ => lF')
  (with_unfolding_all refine' For_invVF lF' ?k1 ?k2 ?_; (case k1 => exact rfl); (case k2 => exact rfl))
  k_steps
  refine Stp.into ?_
  (refine' kmk_slice_lit ?zzF ?zzN ?zzl ?zzp ?zzq ?zze ?_ ?zzs ?zzt ?zzz; (case zzF => k_asm); (case zzN => k_asm); (case zzl => exact News.isList (by k_asm) (.head _)); (case zzp => exact IsPart.int _ _); (case zzq => exact IsPart.int _ _); (case zze => exact slice_mid _ _ _); (case zzs => with_unfolding_all rfl); (case zzt => kmk_pure); (case zzz => (rw [PySem.sizeLine_eq, List.size_toArray, List.length_cons, List.length_append, List.length_map]; simp only [List.length_cons, List.length_nil]; omega)))
  intro D8 h8 F8 N8 l8
  (try k_lt l8)
  k_steps
  refine Stp.into ?_
  (rename Fr _ _ _ _ => F9); (rename News _ _ _ _ => N9)
  have F9 := frC F9 hM.symm
  obtain ⟨Dm, hDm⟩ := nameHead N9
  subst hDm
  have hl := (by assumption : @LT.lt Nat _ wa Dm ∧ @LT.lt Nat _ 54 Dm ∧ @LT.lt Nat _ 47 Dm ∧ @LT.lt Nat _ ta Dm ∧ AllLt Dm tl)
  have hLd : @LT.lt Nat _ L' Dm := Nat.lt_trans hta hl.2.2.2.1
  have N9 := newsSub (l := (54, tabObj p54) :: (47, tabObj #[]) :: (ta, lstO tv et) :: (Dm, lstO (ms.map Value.ref) 0) :: tl) N9 (by repeat (first | exact subR _ | exact subN | refine subC (by repeat (first | exact List.Mem.head _ | refine List.Mem.tail _ ?_)) ?_ | refine subT ?_))
  refine' iter_listUnr (ax := Dm) (lo := lstO (ms.map Value.ref) 0) (vs := ms.map Value.ref) (n := 0) rfl F9 N9 (by repeat (first | exact List.Mem.head _ | refine List.Mem.tail _ ?_)) rfl rfl fun I hI => ?_
  have hdI : @LT.lt Nat _ Dm I := hI _ (.tail _ (.tail _ (.tail _ (.head _))))
  have htI : @LT.lt Nat _ ta I := hI _ (.tail _ (.tail _ (.head _)))
  have hlI : ∀ p ∈ tl, p.1 ≠ I := fun p hp => Nat.ne_of_lt (hI _ (.tail _ (.tail _ (.tail _ (.tail _ hp)))))
  have hbase0 : (0 : Int) < 2 ^ wd := Int.pow_pos (by decide)
  have hbase1 : (2 : Int) ^ wd ≤ 2 ^ 15 := by
    have : (2 : Nat) ^ wd ≤ 2 ^ 15 := Nat.pow_le_pow_right (by decide) hwd
    exact_mod_cast this
  have hbase2 : (2 : Int) ≤ 2 ^ wd := by
    have : (2 : Nat) ^ 1 ≤ 2 ^ wd := Nat.pow_le_pow_right (by decide) hwd1
    exact_mod_cast this
  refine listRest_ind (Inv := fun r m' news => ∃ as ws u tu' p' tl', r = as.map Value.ref ∧ WR tl' as ws ∧ (∀ w ∈ ws, w ∈ wss) ∧ news = (54, tabObj p') :: (47, tabObj #[]) :: (ta, lstO tv et) :: (Dm, lstO (ms.map Value.ref) 0) :: tl' ∧ TbX dPos dQual p' g' tl' ∧ (∀ p ∈ tl', @LT.lt Nat _ L' p.1) ∧ (∀ p ∈ tl', p.1 ≠ I) ∧ ws.foldl (stepU wd) u = wss.foldl (stepU wd) u0 ∧
    0 ≤ u ∧ u < 2 ^ (400 + 110 * (wss.length - ws.length)) ∧ ws.length ≤ wss.length ∧ m' (Str.ofString "under") = some (.int u tu') ∧ (∀ y, y ≠ Str.ofString "under" → y ≠ Str.ofString "word" → m' y = m y)) ?done ?turn _ _ _ ?start
  case start => exact ⟨ms, wss, u0, tu, p54, tl, rfl, hW, fun w hw => hw, rfl, tbx, htl, hlI, rfl, hu0, by rw [Nat.sub_self]; exact hu1, Nat.le_refl _, m4, fun y e0 e1 => rfl⟩
  case turn =>
    rintro v r m1' news1 ⟨as, ws, u, tu', p', tl', i1, i2, i3, rfl, i4, i5, i6, i7, i8, i9, i10, q1, q2⟩ it h1 tk1 hic F1 N1
    obtain ⟨a, as', rfl, rfl, rfl⟩ : ∃ a as', as = a :: as' ∧ v = .ref a ∧ r = as'.map Value.ref := by
      cases as with
      | nil => cases i1
      | cons a as' => cases i1; exact ⟨a, as', rfl, rfl, rfl⟩
    obtain ⟨w, ws', rfl⟩ : ∃ w ws', ws = w :: ws' := by
      cases i2 with | cons _ _ _ => exact ⟨_, _, rfl⟩
    obtain ⟨hw6, hwb⟩ := hwl w (i3 w (.head _))
    obtain ⟨vw, ew, hmw, hiw, i2'⟩ : ∃ vw ew, (a, lstO vw ew) ∈ tl' ∧ IntsAre vw w ∧ WR tl' as' ws' := by
      cases i2 with | cons hm hi h => exact ⟨_, _, hm, hi, h⟩
    have p1 := (q2 (Str.ofString "width") (by decide) (by decide)).trans m2
    have p2 := (q2 (Str.ofString "base") (by decide) (by decide)).trans m3
    have hM1 := mp3 p1 p2 q1
    have F1 := frC F1 (congrArg (fun mm : Str → Option Value => fun y => if y = Str.ofString "word" then some (Value.ref a) else mm y) hM1)
    have hIh : @LT.lt Nat _ I h1.objs.size := Heap.lt_size (N1 _ (.head _)).1
    have hLh : @LT.lt Nat _ L' h1.objs.size := F1.ns.lt
    have ht54 : ∀ p ∈ tl', p.1 ≠ 54 := fun p hp => Nat.ne_of_gt (Nat.lt_trans h54 (i5 p hp))
    k_steps
    refine Stp.into ?_
    (rename Fr _ _ _ _ => F9); (rename News _ _ _ _ => N9)
    have hlw := News.isList N9 (show (a, lstO vw ew) ∈ _ from .tail _ (.tail _ (.tail _ (.tail _ (.tail _ hmw)))))
    refine' con_lead (B := B) (F := F9) (X := X) (T := T) rfl (N := N9) (U := ?U) (C := C2) (Y := tl') (tbx := i4) (fun q hq => ?mY) (hl := hlw) (hi := hiw) hwb (by omega) hwd1 hw6 ?d ?u (hsp w (i3 w (.head _))) ?_
    case U => k_updF
    case mY => exact .tail _ (.tail _ (.tail _ (.tail _ (.tail _ hq))))
    case d => omega
    case u => omega
    intro t9 h9 tk9 p9 Y9 F9 N9 tb9 hY9
    have hd := dval_bounds wd (leadBits w) (leadBits_bounds wd hwd1 w)
    have hll : (leadBits w).length = w.length := by simp [leadBits]
    have hwl6 : wd * (leadBits w).length ≤ 15 * 6 := Nat.mul_le_mul hwd (by omega)
    have hd1 : dval wd (leadBits w) < 2 ^ 90 := Int.lt_of_lt_of_le hd.2 (by
      have : (2 : Nat) ^ (wd * (leadBits w).length) ≤ 2 ^ 90 := Nat.pow_le_pow_right (by decide) hwl6
      exact_mod_cast this)
    have hd0 := hd.1
    have hlenw : ws'.length + 1 ≤ wss.length := i10
    have hstep : stepU wd u w = u * (1 + (2 ^ wd - 2) * dval wd (leadBits w)) := rfl
    have i7 : ws'.foldl (stepU wd) (stepU wd u w) = wss.foldl (stepU wd) u0 := i7
    rw [hstep] at i7
    generalize dval wd (leadBits w) = ld at *
    refine mul_l (by omega) (by omega) ?_
    (try dsimp only)
    k_steps
    refine Stp.into ?_
    have hP0 : 0 ≤ (2 ^ wd - 2) * ld := Int.mul_nonneg (by omega) hd0
    have hP1 : (2 ^ wd - 2) * ld ≤ 2 ^ 15 * 2 ^ 90 := Int.mul_le_mul (by omega) (Int.le_of_lt hd1) hd0 (by decide)
    have hf1 : 1 + (2 ^ wd - 2) * ld ≤ 2 ^ 110 := by
      have : (2 : Int) ^ 15 * 2 ^ 90 + 1 ≤ 2 ^ 110 := by decide
      omega
    generalize (2 ^ wd - 2) * ld = pr at *
    have hub : u < 2 ^ 2000 := Int.lt_of_lt_of_le i9 (by
      have : (2 : Nat) ^ (400 + 110 * (wss.length - (ws'.length + 1))) ≤ 2 ^ 2000 := Nat.pow_le_pow_right (by decide) (Nat.le_trans (Nat.add_le_add_left (Nat.mul_le_mul_left 110 (Nat.le_trans (Nat.sub_le _ _) (show wss.length ≤ 6 by omega))) 400) (by decide))
      exact_mod_cast this)
    have hb1 := bits_of_lt i8 hub
    have hb2 : Builtin.Int.intBits (1 + pr) ≤ 111 := bits_of_lt (by omega) (Int.lt_of_le_of_lt hf1 (by decide))
    refine mul_int ?_ (IntMulOk.of_bits (Nat.le_trans hb1 (by decide)) (Nat.le_trans hb2 (by decide)))
    (try dsimp only)
    k_steps
    refine Stp.into ?_
    (rename Fr _ _ _ _ => F9); (rename News _ _ _ _ => N9)
    have hu1 : u * (1 + pr) < 2 ^ (400 + 110 * (wss.length - ws'.length)) := by
      have e1 : 400 + 110 * (wss.length - ws'.length) = (400 + 110 * (wss.length - (ws'.length + 1))) + 110 := by rw [decr hlenw, Nat.mul_succ, Nat.add_assoc]
      rw [e1, Int.pow_add]
      exact Int.lt_of_le_of_lt (Int.mul_le_mul_of_nonneg_left hf1 i8) (Int.mul_lt_mul_of_pos_right i9 (by decide))
    refine ⟨_, _, _, (54, tabObj p9) :: (47, tabObj #[]) :: (ta, lstO tv et) :: (Dm, lstO (ms.map Value.ref) 0) :: (tl' ++ Y9), rfl, F9, N9, ?_, by repeat (first | exact List.Mem.head _ | refine List.Mem.tail _ ?_), as', ws', u * (1 + pr), _, p9, tl' ++ Y9, rfl, i2'.mono fun q hq => List.mem_append_left _ hq, fun w' hw' => i3 w' (.tail _ hw'), rfl, tb9 _ _ i4, ?_, ?_, i7, Int.mul_nonneg i8 (by omega), hu1, by omega, rfl, fun y e0 e1 => ?_⟩
    · exact offM (Nat.ne_of_lt (hI _ (.head _))) (offM (Nat.ne_of_lt (hI _ (.tail _ (.head _)))) (offM (Nat.ne_of_lt htI) (offM (Nat.ne_of_lt hdI) (offA i6 fun p hp => Nat.ne_of_gt (Nat.lt_of_lt_of_le hIh (hY9 p hp))))))
    · intro p hp
      rcases List.mem_append.mp hp with hp | hp
      · exact i5 p hp
      · exact Nat.lt_of_lt_of_le hLh (hY9 p hp)
    · exact offA i6 fun p hp => Nat.ne_of_gt (Nat.lt_of_lt_of_le hIh (hY9 p hp))
    · show (if y = _ then _ else if y = _ then _ else if y = _ then _ else if y = _ then _ else if y = _ then _ else _) = _
      rw [if_neg e0, if_neg e1]
      by_cases g1 : y = Str.ofString "width"
      · rw [if_pos g1, g1, m2]
      · rw [if_neg g1]
        by_cases g2 : y = Str.ofString "base"
        · rw [if_pos g2, g2, m3]
        · rw [if_neg g2, if_neg e0]; exact q2 y e0 e1
  case done =>
    rintro m1' news1 ⟨as, ws, u, tu', p', tl', i1, i2, i3, rfl, i4, i5, i6, i7, i8, i9, i10, q1, q2⟩ h1 tk1 F1 N1
    obtain rfl : as = [] := by cases as; rfl; cases i1
    obtain rfl : ws = [] := by cases i2; rfl
    have i7 : u = wss.foldl (stepU wd) u0 := i7
    subst i7
    exact hret _ _ _ _ p' tl' F1 (newsSub N1 (by repeat (first | exact subR _ | exact subN | refine subC (by repeat (first | exact List.Mem.head _ | refine List.Mem.tail _ ?_)) ?_ | refine subT ?_))) i4 i5 q1 q2
end

end Mine
end

section
theorem Mine.woff_LawJ {M : PySem.Model} {A : PySem.Around} {E Q : PySem.Value → PySem.Shared → Prop} {s : PySem.Shared} (h : PySem.wpAny M A (PySem.call (.builtin "no") []) Q E s) : PySem.wpAny M A (PySem.call (.builtin "no") []) Q E s := by
  w_top off
  first | (walk1; fail) | exact h
open PySem PySem.W PyProof.Rows PySem.Calls PySem.Spec
set_option maxRecDepth 100000
namespace Mine
theorem filled25 (w : World) : (hd.heap_39 w.params).In ({} : Heap) → PySem.Challenge.rw_pe0153_01.foot = 4 := by
  k_fill
  intro _; rfl
noncomputable def lJ' : List Stmt := (lB'.drop 20).take 3
noncomputable abbrev lJ : {b : List Stmt // lJ' = b} := by
  refine' ⟨_, ?h⟩
  case h => conv => lhs; whnf

section
local macro_rules | `(tactic| k_all) => `(tactic| assumption)
local macro_rules | `(tactic| walk_at "binaryOp Mult int int") => `(tactic| (refine Stp.out ?_))
local macro_rules | `(tactic| walk_at "call ref") => `(tactic| (refine Stp.out ?_))
local macro_rules | `(tactic| walk_at "compareOp Eq ref ref") => `(tactic| (refine Stp.out ?_))

set_option maxHeartbeats 4000000 in
theorem pJ {w : World} {p : Program} {loose : List Str} {mean : ExcName → Option Value} {mg mb : Str → Option Value}
    {dp un : Nat} {gd : Option (List Code)} {outer : List Env} {A₀ : Around} {base g' : Heap} {L' fa : Addr} {cdv : Value} {m : Str → Option Value} {s : Shared} {Q : Flow → Shared → Prop}
    {ta : Addr} {tv : List Value} {told : List Int} {et wd : Nat} {tw tb tu : Tok} {ov uv : Int} {tl : List (Addr × Obj)} {p54 : Array Value}
    (B : Below A₀ base outer g') (F : Fr g' L' s.heap m) (X : (hd.heap_39 w.params).In g') (T : Top p loose mean mg mb g')
    (N : News g' L' s.heap ((54, tabObj p54) :: (47, tabObj #[]) :: (ta, lstO tv et) :: tl)) (h54 : @LT.lt Nat _ 54 L') (h47 : @LT.lt Nat _ 47 L') (hta : @LT.lt Nat _ L' ta) (htl : ∀ p ∈ tl, @LT.lt Nat _ L' p.1)
    (C1 : CodeHd g' 51 47) (C2 : CodeHd g' 58 54) (tbx : TbX dPos dQual p54 g' tl)
    (hi : IntsAre tv told) (hwd : wd ≤ 15) (hwd1 : 1 ≤ wd) (hov : 0 ≤ ov) (huv : 0 < uv) (hub : Builtin.Int.intBits uv ≤ 500) (hnd : ndig (Builtin.Int.intBits uv) ov ≤ 50) (hqb : Builtin.Int.intBits (ov / uv) ≤ 1000) (hqd : ndig wd (ov / uv) ≤ 60)
    (hfin : digs wd (ndig wd (ov / uv)) (ov / uv) = told)
    (m1 : m (Str.ofString "over") = some (.int ov tb)) (m2 : m (Str.ofString "width") = some (.int (wd : Int) tw)) (m4 : m (Str.ofString "under") = some (.int uv tu)) (m5 : m (Str.ofString "told") = some (.ref ta)) (hdp : dp + 70 < recursionLimit) (hu : un + 700 < cLine)
    (hret : ∀ h' tk' m' p p', Fr g' L' h' m' → News g' L' h' [(54, tabObj p), (47, tabObj p')] → Q (.ret (.bool true)) { s with heap := h', toks := tk' }) :
    wpAny (model PySem.Challenge.rw_pe0153_01.prog w) (ktrTop dp un gd (Str.ofString "law") lS.1 L' fa cdv (lCl L') outer) (execs lJ.1 (lE L' fa cdv)) Q (fun _ _ => False) s := by
  have hM := mp4 m1 m2 m4 m5
  rw [hM] at F
  have ht54 : ∀ p ∈ tl, p.1 ≠ 54 := fun p hp => Nat.ne_of_gt (Nat.lt_trans h54 (htl p hp))
  have ht47 : ∀ p ∈ tl, p.1 ≠ 47 := fun p hp => Nat.ne_of_gt (Nat.lt_trans h47 (htl p hp))
  (try k_fold)
  k_steps
  refine Stp.into ?_
  (rename Fr _ _ _ _ => F9); (rename News _ _ _ _ => N9)
  have hLh := F9.ns.lt
  refine' con_divmod (B := B) (F := F9) (X := X) (T := T) rfl (N := N9) (U1 := ?U1) (U2 := ?U2) (C1 := C1) (C2 := C2) (Y := tl) (tbi := .start) (tbd := tbx) (fun q hq => ?mY) hov huv hub hnd ?d ?u ?_
  case U1 => k_updF
  case U2 => intro o; k_updF
  case mY => simp [hq]
  case d => omega
  case u => omega
  intro t9 h9 tk9 p9 p9' Y9 k1 k2 F9 N9 tbi9 tbd9 hY9 ht9
  (try dsimp only)
  have hdm : ov / uv * uv + ov % uv = ov := by rw [Int.mul_comm]; exact Int.mul_ediv_add_emod ov uv
  have hr0 : 0 ≤ ov % uv := Int.emod_nonneg _ (by omega)
  have hr1 : ov % uv < uv := Int.emod_lt_of_pos _ huv
  have hq0 : 0 ≤ ov / uv := Int.ediv_nonneg hov (by omega)
  generalize ov / uv = q at *
  generalize ov % uv = r at *
  k_steps
  refine Stp.into ?_
  refine mul_int ?_ (IntMulOk.of_bits (Nat.le_trans hqb (by decide)) (Nat.le_trans hub (by decide)))
  (try dsimp only)
  k_steps
  · exact absurd hdm (by assumption)
  · refine Stp.into ?_
    (rename Fr _ _ _ _ => F9); (rename News _ _ _ _ => N9)
    have hY47 : ∀ p ∈ tl ++ Y9, p.1 ≠ 47 := fun p hp => by
      rcases List.mem_append.mp hp with hp | hp
      · exact ht47 p hp
      · exact Nat.ne_of_gt (Nat.lt_trans h47 (Nat.lt_of_lt_of_le hLh (hY9 p hp)))
    have tb2 := tbi9 g' tl .start
    simp only [List.cons_append] at N9
    have ht947 : @Ne Nat t9 47 := Nat.ne_of_gt (Nat.lt_trans h47 (Nat.lt_of_lt_of_le hLh ht9))
    generalize tl ++ Y9 = tl2 at *
    refine' con_int (B := B) (F := F9) (X := X) (T := T) rfl (N := N9) (U := ?U) (C := C1) (Y := tl2) (tbx := tb2) (fun q hq => ?mY) hq0 hwd1 ?n1 hqd ?d ?u ?_
    case U => k_updF
    case mY => simp [hq]
    case n1 => omega
    case d => omega
    case u => omega
    intro l9 h9 tk9 p9 vs9 ep9 Y3 F9 N9 tb3 hY3 hi9 hsz9
    simp only [List.cons_append] at N9
    (try dsimp only)
    k_steps
    refine Stp.into ?_
    (rename Fr _ _ _ _ => F9); (rename News _ _ _ _ => N9)
    refine ke_eq_ints (xs := vs9) (ys := tv) (News.isList N9 (.head _)) (News.isList N9 (show (ta, lstO tv et) ∈ _ from by simp)) hi9 hi (by show un + 64 < _; omega) ?_
    rw [hfin, show decide (told = told) = true from by simp]
    (try dsimp only)
    k_steps
    (rename Fr _ _ _ _ => F9); (rename News _ _ _ _ => N9)
    exact hret _ _ _ _ _ F9 (newsSub N9 (sub_cons (p := (54, tabObj _)) (by k_mem) (sub_cons (p := (47, tabObj _)) (by k_mem) (fun _ h => absurd h List.not_mem_nil))))
end

end Mine
end

section
theorem Mine.woff_LawK {M : PySem.Model} {A : PySem.Around} {E Q : PySem.Value → PySem.Shared → Prop} {s : PySem.Shared} (h : PySem.wpAny M A (PySem.call (.builtin "no") []) Q E s) : PySem.wpAny M A (PySem.call (.builtin "no") []) Q E s := by
  w_top off
  first | (walk1; fail) | exact h
open PySem PySem.W PyProof.Rows PySem.Calls PySem.Spec
set_option maxRecDepth 100000
namespace Mine
theorem filled26 (w : World) : (hd.heap_39 w.params).In ({} : Heap) → PySem.Challenge.rw_pe0153_01.foot = 4 := by
  k_fill
  intro _; rfl

noncomputable abbrev dotsT (tn : Nat) : Str := Txt.mul (Str.ofString ".") (3 - (tn : Int).fmod 3)
noncomputable abbrev sentT (its : List Int) (tn : Nat) : Str := quoUp (sentUp (dotsT tn) its 6) tn
noncomputable def under0 (wd : Nat) (wa0 : List Int) (mids : List (List Int)) (wl : List Int) : Int := (2 ^ wd) ^ (mids.length + 1 + wa0.length + wl.length) * (2 ^ wd - 2)
noncomputable def overP (wd : Nat) (mids : List (List Int)) : Int := 2 ^ (mids.length + 1) * (2 ^ wd) ^ 10
noncomputable def underP (wd : Nat) (wa0 : List Int) (mids : List (List Int)) (wl : List Int) : Int := mids.foldl (stepU wd) (under0 wd wa0 mids wl)
/-- what the plain law says of a text's pattern -/
structure SentOk (its : List Int) (tn : Nat) : Prop where
  hv : ∀ v ∈ its, v = 0 ∨ v = 1 ∨ v = 2
  hdl : (dotsT tn).length ≤ 3
  hq : ∀ k, k < tn → (quoUp (sentUp (dotsT tn) its 6) k).length ≤ 50
  hx : sentT its tn = Txt.join (Str.ofString "") (its.map (rowQ (Txt.mul (Str.ofString ".") (((dotsT tn).length : Int) + (tn : Int)))))
  hw : (sentT its tn).length ≤ 100
  hin : (Builtin.Str.occurrences (sentT its tn) (Str.ofString "...") 0 (sentT its tn).length 1).isEmpty = false
  hsp : ∃ w0 mid wl, Txt.split (sentT its tn) (Str.ofString "...") = w0 :: (mid ++ [wl]) ∧ wl.length ≠ 0 ∧ mid.length ≤ 90 ∧
    ∀ ls : List Int, (∀ c ∈ ls, c = 0 ∨ c = 1) → ls.length ≤ 9 → ls ≠ [] → ellP w0 mid wl (rowsS ls) = decide (reachN (pickN its 2 + pickN its 0) (pickN its 2 + pickN its 1) (pickN its 2) ls / 64 = 1)
structure NumOk (its : List Int) (wd : Nat) : Prop where
  hne : trimR (countsP (pickN its 2 + pickN its 0) (pickN its 2 + pickN its 1) (pickN its 2)).reverse ≠ []
  hwords : ∃ wa0 mids wl, (wordsP its).1 = wa0 :: mids ∧ (wordsP its).2 = wl ∧ wa0.length ≤ 6 ∧ mids.length ≤ 6 ∧ wl.length ≤ 6 ∧ (∀ w ∈ mids, w.length ≤ 6 ∧ ∀ x ∈ w, x = 0 ∨ x = 1) ∧
    (∀ w ∈ mids, ∀ k, k < w.length → (Builtin.Str.occurrences (Str.ofString "..." ++ rowsS (w.take (k + 1))) (Str.ofString "...") 0 (Str.ofString "..." ++ rowsS (w.take (k + 1))).length 1).isEmpty = false ∧ Txt.split (Str.ofString "..." ++ rowsS (w.take (k + 1))) (Str.ofString "...") = [Str.ofString "", rowsS (w.take (k + 1))]) ∧
    0 ≤ under0 wd wa0 mids wl ∧ under0 wd wa0 mids wl < 2 ^ 400 ∧ 0 < underP wd wa0 mids wl ∧ Builtin.Int.intBits (underP wd wa0 mids wl) ≤ 500 ∧ 0 ≤ overP wd mids ∧ ndig (Builtin.Int.intBits (underP wd wa0 mids wl)) (overP wd mids) ≤ 50 ∧
    Builtin.Int.intBits (overP wd mids / underP wd wa0 mids wl) ≤ 1000 ∧ ndig wd (overP wd mids / underP wd wa0 mids wl) ≤ 60 ∧
    digs wd (ndig wd (overP wd mids / underP wd wa0 mids wl)) (overP wd mids / underP wd wa0 mids wl) = trimR (countsP (pickN its 2 + pickN its 0) (pickN its 2 + pickN its 1) (pickN its 2)).reverse
noncomputable abbrev restA : List Stmt := l1.1 ++ (l2.1 ++ (l3.1 ++ (l4.1 ++ (lP0.1 ++ (lP1.1 ++ (lQ.1 ++ (lI.1 ++ (lK0.1 ++ (lK1.1 ++ (lK2.1 ++ (lF0.1 ++ (lF1.1 ++ (lG1.1 ++ (lG2.1 ++ (lH.1 ++ lJ.1)))))))))))))))
noncomputable def itemsP (ns : List Int) : List Int :=
  let ds := (ns.take 5).map (fun k : Int => k.fmod 3) ++ List.drop (ns.take 5).length [1, 0, 0, 2, 1]
  ds.take 1 ++ [2] ++ ds.drop 1
noncomputable def turnsP (ns : List Int) : Int := 1 + ((ns.take 5).map (fun k : Int => k.fdiv 3)).sum.fmod 3
theorem six {vs : List Value} {a b c d e f : Int} (h : IntsAre vs [a, b, c, d, e, f]) : ∃ t0 t1 t2 t3 t4 t5, vs = [.int a t0, .int b t1, .int c t2, .int d t3, .int e t4, .int f t5] := by
  cases h with | cons _ t0 h => cases h with | cons _ t1 h => cases h with | cons _ t2 h => cases h with | cons _ t3 h => cases h with | cons _ t4 h => cases h with | cons _ t5 h =>
    cases h; exact ⟨t0, t1, t2, t3, t4, t5, rfl⟩

set_option maxHeartbeats 4000000 in
theorem law_body {w : World} {p : Program} {loose : List Str} {mean : ExcName → Option Value} {mg mb : Str → Option Value}
    {dp un : Nat} {gd : Option (List Code)} {outer : List Env} {A₀ : Around} {base g' : Heap} {L' fa : Addr} {cdv : Value} {m : Str → Option Value} {s : Shared} {Q : Flow → Shared → Prop}
    {l : Addr} {vs : List Value} {ns : List Int} {o1 o2 : Obj} {n0 n1 n2 n3 n4 n5 : Int} {tn wd : Nat}
    (B : Below A₀ base outer g') (F : Fr g' L' s.heap m) (X : (hd.heap_39 w.params).In g') (T : Top p loose mean mg mb g')
    (N : News g' L' s.heap [(L' + 1 + 1, o2), (L' + 1, o1), (54, tabObj #[]), (47, tabObj #[])]) (ho1 : o1.data = .cell none) (ho2 : o2.data = .cell none)
    (hl : g'.IsList l vs.toArray) (hi : IntsAre vs ns) (hlen : ns.length ≤ 63) (h54 : @LT.lt Nat _ 54 L') (h47 : @LT.lt Nat _ 47 L') (C1 : CodeHd g' 51 47) (C2 : CodeHd g' 58 54)
    (hits : itemsP ns = [n0, n1, n2, n3, n4, n5]) (htn : turnsP ns = (tn : Int)) (htn1 : 1 ≤ tn) (htn3 : tn ≤ 3) (hwd : 12 + (ns.length : Int).fmod 4 = (wd : Int)) (hwd1 : 1 ≤ wd) (hwd2 : wd ≤ 15)
    (SO : SentOk [n0, n1, n2, n3, n4, n5] tn) (NO : NumOk [n0, n1, n2, n3, n4, n5] wd)
    (m1 : m (Str.ofString "script") = some (.ref l)) (hdp : dp + 80 < recursionLimit) (hu : un + 800 < cLine)
    (hret : ∀ h' tk' m' p p', Fr g' L' h' m' → News g' L' h' [(54, tabObj p), (47, tabObj p')] → Q (.ret (.bool true)) { s with heap := h', toks := tk' }) :
    wpAny (model PySem.Challenge.rw_pe0153_01.prog w) (ktrTop dp un gd (Str.ofString "law") lS.1 L' fa cdv (lCl L') outer) (execs (lA.1 ++ restA) (lE L' fa cdv)) Q (fun _ _ => False) s := by
  obtain ⟨w0, mid, wl, s1, s2, s3, s4⟩ := SO.hsp
  obtain ⟨wa0, mids, wlast, c1, c2, c3, c4, c5, c6, c7, c8, c9, c10, c11, c12, c13, c14, c15, c16⟩ := NO.hwords
  refine pA0 B F X T N hl hi hlen h54 h47 m1 ?_
  intro hA tkA mA D ws FA NA iA qA kA lA
  have hfl : (ns.take 5).length ≤ 5 := by rw [List.length_take]; omega
  refine pA1 B FA X T NA iA hfl h54 h47 lA qA ?_
  intro hB tkB mB D2 ws2 FB NB iB qB kB lB
  refine pA2 B FB X T NB iB (by rw [List.length_append, List.length_map, List.length_drop]; simp only [List.length_cons, List.length_nil]; omega) h54 h47 lA lB qB ?_
  intro hC tkC mC D3 ws3 FC NC iC qC kC lC
  have iC : IntsAre ws3 (itemsP ns) := iC
  rw [hits] at iC
  obtain ⟨t0, t1, t2, t3, t4, t5, rfl⟩ := six iC
  refine pA3 B FC X T NC ho1 iA hfl h54 h47 lA lC ((kC _ (by decide)).trans ((kB _ (by decide)).trans qA)) ?_
  intro hD tkD o1' tt FD ND dD
  rw [show (1 + (List.map (fun k : Int => k.fdiv 3) (List.take 5 ns)).sum.fmod 3) = (tn : Int) from htn] at dD
  have kS : mC (Str.ofString "script") = some (.ref l) := (kC _ (by decide)).trans ((kB _ (by decide)).trans ((kA _ (by decide)).trans m1))
  have hD3 : @LT.lt Nat _ (L' + 1 + 1) D3 := Nat.lt_trans lA lC
  refine pA4 B FD X T ND dD ho2 (by omega) (by omega) hl hi hlen h54 h47 hD3 kS ?_
  intro hE tkE mE o2' td t6 FE NE dE qE kE
  rw [hwd] at qE
  have kI : mE (Str.ofString "items") = some (.ref D3) := (kE _ (by decide)).trans qC
  refine pB B FE X T NE dE iC rfl SO.hv SO.hdl kI ?_
  intro hF tkF mF t7 FF NF qF kF
  refine pC B FF X T NF dD htn3 SO.hq qF (by omega) (by omega) ?_
  intro hG tkG mG t8 FG NG qG kG
  have kI2 : mG (Str.ofString "items") = some (.ref D3) := (kG _ (by decide) (by decide)).trans ((kF _ (by decide) (by decide)).trans kI)
  have kW2 : mG (Str.ofString "width") = some (.int (wd : Int) t6) := (kG _ (by decide) (by decide)).trans ((kF _ (by decide) (by decide)).trans qE)
  refine pD B FG X T NG dD dE htn3 SO.hdl iC rfl SO.hv SO.hx qG kI2 (by omega) (by omega) ?_
  intro hH tkH FH NH
  refine pE B FH X T NH h54 h47 rfl rfl rfl SO.hw SO.hin s1 s2 s3 s4 NO.hne qG kI2 (by omega) (by omega) ?_
  intro hI tkI mI ta tv et FI NI iI qI kI3 lI
  have NI' := newsSub (l := [(ta, lstO tv et), (D3, lstO [Value.int n0 t0, .int n1 t1, .int n2 t2, .int n3 t3, .int n4 t4, .int n5 t5] 0), (54, tabObj #[]), (47, tabObj #[])]) NI (by repeat (first | exact subR _ | exact subN | refine subC (by repeat (first | exact List.Mem.head _ | refine List.Mem.tail _ ?_)) ?_ | refine subT ?_))
  refine pF B FI X T NI' h54 h47 (by omega) lI iC rfl ((kI3 _ (by decide)).trans kI2) (by omega) (by omega) ?_
  intro hJ tkJ mJ wa as al e tl vl el FJ NJ WJ iJ qJ kJ hJ1 hJ2 hJ3
  rw [c1] at WJ
  rw [c2] at iJ
  obtain ⟨a0, ms, v0, e0, rfl, hm0, hi0, WJ'⟩ : ∃ a0 ms v0 e0, as = a0 :: ms ∧ (a0, lstO v0 e0) ∈ tl ∧ IntsAre v0 wa0 ∧ WR tl ms mids := by
    cases WJ with | cons hm hi h => exact ⟨_, _, _, _, rfl, hm, hi, h⟩
  have hms := WJ'.len
  have hv0 := hi0.length
  have hvl := iJ.length
  have kW3 : mJ (Str.ofString "width") = some (.int (wd : Int) t6) := (kJ _ (by decide) (by decide)).trans ((kI3 _ (by decide)).trans kW2)
  have NJ' := newsSub (l := (wa, lstO (Value.ref a0 :: (ms.map Value.ref ++ [Value.ref al])) e) :: (a0, lstO v0 e0) :: (al, lstO vl el) :: (54, tabObj #[]) :: (47, tabObj #[]) :: (ta, lstO tv et) :: tl) NJ (subC (.head _) (subC (.tail _ (.tail _ (.tail _ (.tail _ (.tail _ hm0))))) (by repeat (first | exact subR _ | exact subN | refine subC (by repeat (first | exact List.Mem.head _ | refine List.Mem.tail _ ?_)) ?_ | refine subT ?_))))
  refine pG1 B FJ X T NJ' (by omega) (by omega) (by omega) hwd2 hwd1 qJ kW3 (by omega) (by omega) ?_
  intro hK tkK mK r1 r2 r3 r4 FK NK k1 k2 k3 k4 kK
  have NK' := newsSub (l := (wa, lstO (Value.ref a0 :: (ms.map Value.ref ++ [Value.ref al])) e) :: (54, tabObj #[]) :: (47, tabObj #[]) :: (ta, lstO tv et) :: tl) NK (by repeat (first | exact subR _ | exact subN | refine subC (by repeat (first | exact List.Mem.head _ | refine List.Mem.tail _ ?_)) ?_ | refine subT ?_))
  rw [hms, hv0, hvl] at k4
  rw [hms] at k3
  refine pH B FK X T NK' h54 h47 lI hJ1 C2 .start WJ' (by omega) c6 hwd2 hwd1 c8 c9 c7 ((kK _ (by decide) (by decide) (by decide) (by decide)).trans qJ) ((kK _ (by decide) (by decide) (by decide) (by decide)).trans kW3) k1 k4 (by omega) (by omega) ?_
  intro hL tkL mL r5 p54 tl' FL NL tbL hL1 qL kL
  refine pJ B FL X T NL h54 h47 lI hL1 C1 C2 tbL iI hwd2 hwd1 c12 c10 c11 c13 c14 c15 c16 ((kL _ (by decide) (by decide)).trans k3) ((kL _ (by decide) (by decide)).trans ((kK _ (by decide) (by decide) (by decide) (by decide)).trans kW3)) qL ((kL _ (by decide) (by decide)).trans ((kK _ (by decide) (by decide) (by decide) (by decide)).trans ((kJ _ (by decide) (by decide)).trans qI))) (by omega) (by omega) ?_
  exact fun h' tk' m' p p' F N => hret h' tk' m' p p' F N

end Mine
end

section
theorem Mine.woff_LawT {M : PySem.Model} {A : PySem.Around} {E Q : PySem.Value → PySem.Shared → Prop} {s : PySem.Shared} (h : PySem.wpAny M A (PySem.call (.builtin "no") []) Q E s) : PySem.wpAny M A (PySem.call (.builtin "no") []) Q E s := by
  w_top off
  first | (walk1; fail) | exact h
open PySem PySem.W PyProof.Rows PySem.Calls PySem.Spec
set_option maxRecDepth 100000
namespace Mine
noncomputable abbrev PlainT : Prop := ∀ ns : List Int, ns.length ≤ 63 → ∃ n0 n1 n2 n3 n4 n5 : Int, ∃ tn wd : Nat, itemsP ns = [n0, n1, n2, n3, n4, n5] ∧ turnsP ns = (tn : Int) ∧ 1 ≤ tn ∧ tn ≤ 3 ∧ 12 + (ns.length : Int).fmod 4 = (wd : Int) ∧ 1 ≤ wd ∧ wd ≤ 15 ∧ SentOk [n0, n1, n2, n3, n4, n5] tn ∧ NumOk [n0, n1, n2, n3, n4, n5] wd
theorem plainI (plain : PlainT) {vs : List Value} {ns : List Int} (_ : IntsAre vs ns) (h : ¬ ((63 : Nat) : Int) < (ns.length : Int)) : ns.length ≤ 63 ∧ ∃ n0 n1 n2 n3 n4 n5 : Int, ∃ tn wd : Nat, itemsP ns = [n0, n1, n2, n3, n4, n5] ∧ turnsP ns = (tn : Int) ∧ 1 ≤ tn ∧ tn ≤ 3 ∧ 12 + (ns.length : Int).fmod 4 = (wd : Int) ∧ 1 ≤ wd ∧ wd ≤ 15 ∧ SentOk [n0, n1, n2, n3, n4, n5] tn ∧ NumOk [n0, n1, n2, n3, n4, n5] wd :=
  have h9 : ns.length ≤ 63 := by omega
  ⟨h9, plain ns h9⟩
set_option maxHeartbeats 8000000 in
theorem lawT (plain : PlainT) : PySem.Challenge.rw_pe0153_01.Holds := hd (by
  k_go0
  (all_goals try k_fold)
  (rename Fr _ _ _ _ => F9); (rename News _ _ _ _ => N9); (rename Below _ _ _ _ => B9); (rename Frag.In _ _ => X9); (rename Top _ _ _ _ _ (ghostOf _ _) => T9); (rename IntsAre _ _ => hi9)
  rename (¬ _) => hn9
  rename CodeHd _ _ (51, 47).2 => C19
  rename CodeHd _ _ (58, 54).2 => C29
  rename Heap.IsList (ghostOf _ _) _ _ => hl9
  rename (_ ∧ _) => l09
  obtain ⟨n0, n1, n2, n3, n4, n5, tn, wd, a1, a2, a3, a4, a5, a6, a7, a8, a9⟩ := (plainI plain hi9 hn9).2
  refine wpAny_noRaise ?_
  refine' law_body B9 ?F X9 T9 ?N ?o1 ?o2 hl9 hi9 (plainI plain hi9 hn9).1 l09.1 l09.2 C19 C29 a1 a2 a3 a4 a5 a6 a7 a8 a9 ?m1 ?d ?u ?_
  case F => exact F9
  case N => exact N9
  case o1 => assumption
  case o2 => assumption
  case m1 => rfl
  case d => decide
  case u => decide
  intro h' tk' m' p p' F N
  clear F9 N9
  k_steps)
end Mine
end

section
namespace Mine
/-- a pattern of rows (2: one row or more) takes a list of letter rows -/
noncomputable def Mb : List Int → List Int → Bool
  | [], [] => true
  | _ :: _, [] => false
  | [], _ :: _ => false
  | c :: p, x :: l => if c = 2 then Mb p l || Mb (c :: p) l else decide (c = x) && Mb p l
termination_by _ l => l.length
theorem Mb_nil_nil : Mb [] [] = true := by unfold Mb; rfl
theorem Mb_cons_nil (c : Int) (p : List Int) : Mb (c :: p) [] = false := by unfold Mb; rfl
theorem Mb_nil_cons (x : Int) (l : List Int) : Mb [] (x :: l) = false := by unfold Mb; rfl
theorem Mb_two (p : List Int) (x : Int) (l : List Int) : Mb (2 :: p) (x :: l) = (Mb p l || Mb (2 :: p) l) := by
  rw [Mb]; simp
theorem Mb_let {c : Int} (h : c ≠ 2) (p : List Int) (x : Int) (l : List Int) : Mb (c :: p) (x :: l) = (decide (c = x) && Mb p l) := by
  rw [Mb]; simp [h]
noncomputable def Lets (u : List Int) : Prop := ∀ c ∈ u, c ≠ 2
theorem Lets.tail {c : Int} {u : List Int} (h : Lets (c :: u)) : Lets u := fun x hx => h x (.tail _ hx)
theorem Lets.head {c : Int} {u : List Int} (h : Lets (c :: u)) : c ≠ 2 := h c (.head _)
theorem Mb_head : ∀ (u P l : List Int), Lets u → Mb (u ++ P) l = (decide (u <+: l) && Mb P (l.drop u.length))
  | [], P, l, _ => by simp
  | c :: u, P, [], h => by
    have : ¬ (c :: u <+: []) := by simp
    rw [List.cons_append, Mb_cons_nil]; simp
  | c :: u, P, x :: l, h => by
    rw [List.cons_append, Mb_let h.head, Mb_head u P l h.tail]
    by_cases e : c = x
    · subst e; simp [List.cons_prefix_cons]
    · simp [e, List.cons_prefix_cons]
theorem Mb_lets : ∀ (u l : List Int), Lets u → Mb u l = decide (u = l)
  | [], [], _ => by simp [Mb_nil_nil]
  | [], x :: l, _ => by simp [Mb_nil_cons]
  | c :: u, [], _ => by simp [Mb_cons_nil]
  | c :: u, x :: l, h => by
    rw [Mb_let h.head, Mb_lets u l h.tail]
    by_cases e : c = x <;> by_cases e2 : u = l <;> simp [e, e2]
theorem Mb_nil (l : List Int) : Mb [] l = l.isEmpty := by cases l <;> simp [Mb_nil_nil, Mb_nil_cons]
theorem suffix_cons_len {u l : List Int} {x : Int} (h : u.length ≤ l.length) : u <:+ x :: l ↔ u <:+ l := by
  rw [List.suffix_cons_iff]
  constructor
  · rintro (rfl | h2)
    · simp at h; omega
    · exact h2
  · exact .inr
theorem Mb_tail (u : List Int) (hu : Lets u) : ∀ (l P : List Int), Mb (P ++ u) l = (decide (u <:+ l) && Mb P (l.take (l.length - u.length)))
  | [], P => by
    cases P with
    | nil => cases u <;> simp [Mb_nil_nil, Mb_cons_nil]
    | cons c P => simp [Mb_cons_nil]
  | x :: l, [] => by
    rw [List.nil_append, Mb_lets u _ hu, Mb_nil]
    by_cases hs : u <:+ x :: l
    · by_cases hl : u.length = (x :: l).length
      · have := hs.eq_of_length hl
        subst this; simp
      · have h2 := hs.length_le
        have h3 : u ≠ x :: l := fun e => hl (by rw [e])
        have h4 : (x :: l).length - u.length ≠ 0 := by omega
        simp [h3, hs]
        simp at h4; omega
    · have h3 : u ≠ x :: l := fun e => hs (by rw [e]; exact List.suffix_refl _)
      simp [h3, hs]
  | x :: l, c :: P => by
    have ih := Mb_tail u hu l
    by_cases hlen : u.length ≤ l.length
    · have e1 : (x :: l).length - u.length = (l.length - u.length) + 1 := Nat.succ_sub hlen
      rw [e1, List.take_succ_cons]
      have e2 : decide (u <:+ x :: l) = decide (u <:+ l) := decide_eq_decide.mpr (suffix_cons_len hlen)
      rw [e2]
      by_cases hc : c = 2
      · subst hc
        rw [List.cons_append, Mb_two, Mb_two, ih P, ← List.cons_append, ih (2 :: P)]
        cases decide (u <:+ l) <;> simp
      · rw [List.cons_append, Mb_let hc, Mb_let hc, ih P]
        cases decide (u <:+ l) <;> cases decide (c = x) <;> simp
    · have e1 : (x :: l).length - u.length = 0 := Nat.sub_eq_zero_of_le (Nat.lt_of_not_le hlen)
      rw [e1, List.take_zero, Mb_cons_nil]
      have e2 : ¬ u <:+ l := fun h => hlen h.length_le
      have q1 := ih P
      have q2 := ih (c :: P)
      simp only [e2, decide_false, Bool.false_and] at q1 q2
      by_cases hc : c = 2
      · subst hc
        rw [List.cons_append, Mb_two, q1, ← List.cons_append, q2]; simp
      · rw [List.cons_append, Mb_let hc, q1]; simp
/-- the middle pieces, each found as far left as may be -/
noncomputable def pat : List (List Int) → List Int
  | [] => [2]
  | u :: us => 2 :: (u ++ pat us)
noncomputable def Gm (K : List Int → Bool) (u : List Int) : List Int → Bool
  | [] => false
  | y :: r => if u <+: y :: r ∧ u.length < (y :: r).length then K ((y :: r).drop u.length) else Gm K u r
theorem Gm_cons (K : List Int → Bool) (u : List Int) (y : Int) (r : List Int) : Gm K u (y :: r) = if u <+: y :: r ∧ u.length < (y :: r).length then K ((y :: r).drop u.length) else Gm K u r := rfl
noncomputable def Fm : List (List Int) → List Int → Bool
  | [], l => !l.isEmpty
  | _ :: _, [] => false
  | u :: us, _ :: r => Gm (Fm us) u r
theorem pat_two : ∀ us, ∃ P, pat us = 2 :: P
  | [] => ⟨[], rfl⟩
  | _ :: _ => ⟨_, rfl⟩
theorem Mb_mono (P : List Int) (y : Int) (t : List Int) (h : Mb (2 :: P) t = true) : Mb (2 :: P) (y :: t) = true := by
  rw [Mb_two, h]; simp
theorem Mb_suffix (P : List Int) : ∀ (pre t : List Int), Mb (2 :: P) t = true → Mb (2 :: P) (pre ++ t) = true
  | [], _, h => h
  | y :: pre, t, h => Mb_mono P y _ (Mb_suffix P pre t h)
theorem Gm_some (K : List Int → Bool) (u : List Int) : ∀ r, Gm K u r = true → ∃ pre t, r = pre ++ t ∧ u.length < t.length ∧ K (t.drop u.length) = true
  | [], h => by cases h
  | y :: r, h => by
    unfold Gm at h
    split at h
    · rename_i hc
      exact ⟨[], y :: r, rfl, hc.2, h⟩
    · obtain ⟨pre, t, rfl, h2, h3⟩ := Gm_some K u r h
      exact ⟨y :: pre, t, rfl, h2, h3⟩
theorem Mb_pat : ∀ (us : List (List Int)), (∀ u ∈ us, Lets u) → ∀ l, Mb (pat us) l = Fm us l
  | [], _, l => by
    show Mb [2] l = !l.isEmpty
    induction l with
    | nil => rw [Mb_cons_nil]; rfl
    | cons x l ih => rw [Mb_two, Mb_nil, ih]; cases l <;> rfl
  | u :: us, hu, l => by
    have hK := Mb_pat us (fun v hv => hu v (.tail _ hv))
    have hl := hu u (.head _)
    obtain ⟨P, hP⟩ := pat_two us
    have key : ∀ r x, Mb (2 :: (u ++ pat us)) (x :: r) = Gm (Fm us) u r := by
      intro r
      induction r with
      | nil =>
        intro x
        rw [Mb_two, Mb_cons_nil, hP]
        cases u <;> simp [Mb_cons_nil, Gm]
      | cons y r ih =>
        intro x
        rw [Mb_two, ih y, Mb_head _ _ _ hl, hK, Gm_cons]
        by_cases hc : u <+: y :: r ∧ u.length < (y :: r).length
        · rw [if_pos hc]
          have e1 : decide (u <+: y :: r) = true := by simp [hc.1]
          rw [e1, Bool.true_and]
          cases hg : Gm (Fm us) u r with
          | false => simp
          | true =>
            obtain ⟨pre, t, rfl, h2, h3⟩ := Gm_some _ _ _ hg
            rw [Bool.or_true]
            rw [← hK, hP] at h3 ⊢
            symm
            have e2 : ∃ q, (y :: (pre ++ t)).drop u.length = q ++ t.drop u.length := by
              have hlen : (y :: (pre ++ t)).length = (pre.length + 1) + t.length := by simp; omega
              refine ⟨((y :: pre) ++ t.take u.length).drop u.length, ?_⟩
              have e3 : y :: (pre ++ t) = ((y :: pre) ++ t.take u.length) ++ t.drop u.length := by simp
              rw [e3, List.drop_append_of_le_length]
              simp; omega
            obtain ⟨q, hq⟩ := e2
            rw [hq]
            exact Mb_suffix P q _ h3
        · rw [if_neg hc]
          have : (decide (u <+: y :: r) && Fm us ((y :: r).drop u.length)) = false := by
            by_cases h1 : u <+: y :: r
            · have h2 : ¬ u.length < (y :: r).length := fun h => hc ⟨h1, h⟩
              have h3 : (y :: r).drop u.length = [] := List.drop_eq_nil_of_le (by omega)
              rw [h3]
              cases us <;> simp [Fm]
            · simp [h1]
          rw [this, Bool.false_or]
    cases l with
    | nil => show Mb (2 :: (u ++ pat us)) [] = _; rw [Mb_cons_nil]; rfl
    | cons x r => exact key r x
/-- the whole pattern -/
theorem Mb_whole (u0 uk : List Int) (us : List (List Int)) (h0 : Lets u0) (hk : Lets uk) (hs : ∀ u ∈ us, Lets u) (l : List Int) :
    Mb (u0 ++ (pat us ++ uk)) l = (decide (u0 <+: l) && (decide (uk <:+ l.drop u0.length) && Fm us ((l.drop u0.length).take ((l.drop u0.length).length - uk.length)))) := by
  rw [Mb_head _ _ _ h0, Mb_tail _ hk, Mb_pat us hs]
end Mine
end

section
open PySem PySem.W PyProof.Rows
set_option maxRecDepth 100000
namespace Mine
noncomputable def chkBits (its : List Int) : Bool :=
  let gv := pickN its 2
  let g0 := pickN its 2 + pickN its 0
  let g1 := pickN its 2 + pickN its 1
  its.length == 6 && decide (gv < 64) && decide (g0 < 64) && decide (g1 < 64) && (List.range 7).all fun p => (gv.testBit p == (its.getD p 3 == 2)) && (g0.testBit p == (its.getD p 3 == 2 || its.getD p 3 == 0)) && (g1.testBit p == (its.getD p 3 == 2 || its.getD p 3 == 1))
theorem stepN_bit (g gv st q : Nat) : (stepN g gv st).testBit q = ((decide (1 ≤ q) && (st.testBit (q - 1) && g.testBit (q - 1))) || (st.testBit q && gv.testBit q)) := by
  unfold stepN
  rw [Nat.testBit_or, Nat.testBit_shiftLeft, Nat.testBit_and, Nat.testBit_and]
theorem reach_bits {its : List Int} {g0 g1 gv : Nat} (hn : its.length = 6) (hv : ∀ p, p ≤ 6 → gv.testBit p = (its.getD p 3 == 2)) (h0 : ∀ p, p ≤ 6 → g0.testBit p = (its.getD p 3 == 2 || its.getD p 3 == 0)) (h1 : ∀ p, p ≤ 6 → g1.testBit p = (its.getD p 3 == 2 || its.getD p 3 == 1)) :
    ∀ (ls : List Int), (∀ c ∈ ls, c = 0 ∨ c = 1) → ∀ st, (ls.foldl (fun st c => stepN (if c = 0 then g0 else g1) gv st) st).testBit 6 = true ↔ ∃ p, p ≤ 6 ∧ st.testBit p = true ∧ Mb (its.drop p) ls = true
  | [], _, st => by
    constructor
    · intro h
      refine ⟨6, Nat.le_refl _, h, ?_⟩
      rw [List.drop_eq_nil_of_le (by omega), Mb_nil_nil]
    · rintro ⟨p, hp, h2, h3⟩
      by_cases hp6 : p = 6
      · subst hp6; exact h2
      · have hlt : p < its.length := by omega
        rw [List.drop_eq_getElem_cons hlt, Mb_cons_nil] at h3; cases h3
  | x :: ls, hx, st => by
    rw [List.foldl_cons, reach_bits hn hv h0 h1 ls (fun c hc => hx c (.tail _ hc))]
    have hx0 := hx x (.head _)
    have hg : ∀ p, p ≤ 6 → (if x = 0 then g0 else g1).testBit p = (its.getD p 3 == 2 || its.getD p 3 == x) := by
      intro p hp
      rcases hx0 with rfl | rfl
      · rw [if_pos rfl]; exact h0 p hp
      · rw [if_neg (by decide)]; exact h1 p hp
    have hx2 : x ≠ 2 := by rcases hx0 with rfl | rfl <;> decide
    have cons6 : ∀ p, p < 6 → its.drop p = its.getD p 3 :: its.drop (p + 1) := fun p hp => by
      rw [List.drop_eq_getElem_cons (by omega), List.getD_eq_getElem?_getD, List.getElem?_eq_getElem (by omega)]; rfl
    have d6 : its.getD 6 3 = 3 := by rw [List.getD_eq_getElem?_getD, List.getElem?_eq_none (by omega)]; rfl
    constructor
    · rintro ⟨q, hq, h2, h3⟩
      rw [stepN_bit] at h2
      simp only [Bool.or_eq_true, Bool.and_eq_true, decide_eq_true_eq] at h2
      rcases h2 with ⟨hq1, hb, hgb⟩ | ⟨hb, hgb⟩
      · refine ⟨q - 1, by omega, hb, ?_⟩
        rw [hg _ (by omega)] at hgb
        rw [cons6 (q - 1) (by omega)]
        have e : q - 1 + 1 = q := by omega
        rw [e]
        simp only [Bool.or_eq_true, beq_iff_eq] at hgb
        by_cases e2 : its.getD (q - 1) 3 = 2
        · rw [e2, Mb_two, h3]; simp
        · have e3 : its.getD (q - 1) 3 = x := hgb.resolve_left e2
          rw [Mb_let e2, h3, e3]; simp
      · refine ⟨q, hq, hb, ?_⟩
        rw [hv _ hq] at hgb
        have e2 : its.getD q 3 = 2 := by simpa using hgb
        have hq6 : q < 6 := by
          rcases Nat.lt_or_ge q 6 with h | h
          · exact h
          · have : q = 6 := by omega
            subst this; rw [d6] at e2; cases e2
        rw [cons6 q hq6, e2] at h3 ⊢
        rw [Mb_two, h3]; simp
    · rintro ⟨p, hp, hb, h3⟩
      have hp6 : p < 6 := by
        rcases Nat.lt_or_ge p 6 with h | h
        · exact h
        · have : p = 6 := by omega
          subst this
          rw [List.drop_eq_nil_of_le (by omega), Mb_nil_cons] at h3; cases h3
      have hc := cons6 p hp6
      rw [hc] at h3
      by_cases e2 : its.getD p 3 = 2
      · rw [e2, Mb_two, Bool.or_eq_true] at h3
        rcases h3 with h3 | h3
        · refine ⟨p + 1, by omega, ?_, h3⟩
          rw [stepN_bit, Nat.add_sub_cancel, hb, hg p hp, e2]; simp
        · refine ⟨p, hp, ?_, by rw [hc, e2]; exact h3⟩
          rw [stepN_bit, hb, hv p hp, e2]; simp
      · rw [Mb_let e2, Bool.and_eq_true, decide_eq_true_eq] at h3
        refine ⟨p + 1, by omega, ?_, h3.2⟩
        rw [stepN_bit, Nat.add_sub_cancel, hb, hg p hp, h3.1]; simp
theorem reach_lt {g0 g1 gv : Nat} (k0 : g0 < 64) (k1 : g1 < 64) (kv : gv < 64) : ∀ (ls : List Int) st, st < 128 → ls.foldl (fun st c => stepN (if c = 0 then g0 else g1) gv st) st < 128
  | [], _, h => h
  | c :: ls, st, _ => reach_lt k0 k1 kv ls _ (by show stepN (if c = 0 then g0 else g1) gv st < 128; split <;> exact stepN_lt (by assumption) kv)
/-- the sets of places tell just what the pattern takes -/
theorem reach_Mb {its : List Int} (hc : chkBits its = true) (ls : List Int) (hl : ∀ c ∈ ls, c = 0 ∨ c = 1) : decide (reachN (pickN its 2 + pickN its 0) (pickN its 2 + pickN its 1) (pickN its 2) ls / 64 = 1) = Mb its ls := by
  simp only [chkBits, Bool.and_eq_true, beq_iff_eq, decide_eq_true_eq, List.all_eq_true, List.mem_range] at hc
  obtain ⟨⟨⟨⟨hn, kv⟩, k0⟩, k1⟩, hb⟩ := hc
  have key := reach_bits (its := its) hn (fun p hp => (hb p (by omega)).1.1) (fun p hp => (hb p (by omega)).1.2) (fun p hp => (hb p (by omega)).2) ls hl 1
  have hlt := reach_lt k0 k1 kv ls 1 (by decide)
  have e6 : ∀ n, n < 128 → (n.testBit 6 = true ↔ n / 64 = 1) := by
    intro n hn
    have : n.testBit 6 = decide (n / 64 % 2 = 1) := by rw [Nat.testBit_eq_decide_div_mod_eq]
    rw [this, decide_eq_true_eq, Nat.mod_eq_of_lt (Nat.div_lt_of_lt_mul hn)]
  rw [Bool.eq_iff_iff, decide_eq_true_eq]
  unfold reachN
  rw [← e6 _ hlt, key]
  constructor
  · rintro ⟨p, hp, h1, h2⟩
    have : p = 0 := by
      rcases Nat.eq_zero_or_pos p with h | h
      · exact h
      · rw [Nat.testBit_one_eq_true_iff_self_eq_zero] at h1; omega
    subst this; simpa using h2
  · intro h
    exact ⟨0, by omega, by decide, by simpa using h⟩
end Mine
end

section
open PySem PySem.W PyProof.Rows PySem.Builtin PySem.Builtin.Str
set_option maxRecDepth 100000
namespace Mine
noncomputable def rowN (c : Int) : List Nat := [if c = 0 then 97 else 98, 13, 10]
noncomputable def rowsN : List Int → List Nat
  | [] => []
  | c :: l => rowN c ++ rowsN l
theorem rowS_toList (c : Int) : (rowS c).cps.toList = rowN c := by
  unfold rowS rowN; split <;> decide +kernel
theorem rowsS_toList : ∀ l, (rowsS l).cps.toList = rowsN l
  | [] => by decide +kernel
  | c :: l => by
    rw [rowsS_cons]
    show ((rowS c).cps ++ (rowsS l).cps).toList = rowN c ++ rowsN l
    rw [Array.toList_append, rowS_toList, rowsS_toList l]
theorem rowsN_len : ∀ l, (rowsN l).length = 3 * l.length
  | [] => rfl
  | c :: l => by show (rowN c ++ rowsN l).length = _; rw [List.length_append, rowsN_len l]; simp [rowN]; omega
theorem rowsN_drop : ∀ (l : List Int) (k : Nat), (rowsN l).drop (3 * k) = rowsN (l.drop k)
  | l, 0 => rfl
  | [], k + 1 => by simp [rowsN]
  | c :: l, k + 1 => by
    rw [show 3 * (k + 1) = 3 * k + 1 + 1 + 1 by omega]
    exact rowsN_drop l k
theorem rowsN_take : ∀ (l : List Int) (k : Nat), (rowsN l).take (3 * k) = rowsN (l.take k)
  | l, 0 => rfl
  | [], k + 1 => by simp [rowsN]
  | c :: l, k + 1 => by
    rw [show 3 * (k + 1) = 3 * k + 1 + 1 + 1 by omega]
    show rowN c ++ (rowsN l).take (3 * k) = rowN c ++ rowsN (l.take k)
    rw [rowsN_take l k]
noncomputable def L01 (l : List Int) : Prop := ∀ c ∈ l, c = 0 ∨ c = 1
theorem L01.tail {c : Int} {l : List Int} (h : L01 (c :: l)) : L01 l := fun x hx => h x (.tail _ hx)
theorem L01.take {l : List Int} (h : L01 l) (k : Nat) : L01 (l.take k) := fun x hx => h x (List.mem_of_mem_take hx)
theorem L01.drop {l : List Int} (h : L01 l) (k : Nat) : L01 (l.drop k) := fun x hx => h x (List.mem_of_mem_drop hx)
theorem rowsN_inj : ∀ {a b : List Int}, L01 a → L01 b → rowsN a = rowsN b → a = b
  | [], [], _, _, _ => rfl
  | [], _ :: _, _, _, h => by simp [rowsN, rowN] at h
  | _ :: _, [], _, _, h => by simp [rowsN, rowN] at h
  | x :: a, y :: b, ha, hb, h => by
    have h1 : (if x = 0 then 97 else 98 : Nat) = (if y = 0 then 97 else 98) ∧ rowsN a = rowsN b := by
      simp only [rowsN, rowN, List.cons_append, List.nil_append, List.cons.injEq, true_and] at h; exact h
    have hx := ha x (.head _)
    have hy := hb y (.head _)
    have e : x = y := by
      rcases hx with rfl | rfl <;> rcases hy with rfl | rfl <;> first | rfl | (have := h1.1; simp at this)
    rw [e, rowsN_inj ha.tail hb.tail h1.2]
theorem prefix_take {u l : List Int} : u <+: l ↔ l.take u.length = u := by
  constructor
  · rintro ⟨t, rfl⟩; simp
  · intro h
    have e := List.take_append_drop u.length l
    rw [h] at e
    exact ⟨_, e⟩
theorem suffix_drop {u l : List Int} : u <:+ l ↔ u.length ≤ l.length ∧ l.drop (l.length - u.length) = u := by
  constructor
  · rintro ⟨t, rfl⟩; simp
  · rintro ⟨_, h⟩
    have e := List.take_append_drop (l.length - u.length) l
    rw [h] at e
    exact ⟨_, e⟩
/-- rows u lie at the head of rows t -/
theorem rows_at {t u : List Int} (ht : L01 t) (hu : L01 u) : ((rowsN t).take (3 * u.length) == rowsN u) = decide (u <+: t) := by
  rw [rowsN_take, Bool.eq_iff_iff, beq_iff_eq, decide_eq_true_eq, prefix_take]
  exact ⟨fun h => rowsN_inj (ht.take _) hu h, fun h => by rw [h]⟩
theorem len_rows (l : List Int) : (rowsS l).length = 3 * l.length := rowsS_len l
noncomputable def crS (u : List Int) : Str := Str.ofString "\r\n" ++ rowsS u
theorem crS_toList (u : List Int) : (crS u).cps.toList = 13 :: 10 :: rowsN u := by
  show ((Str.ofString "\r\n").cps ++ (rowsS u).cps).toList = _
  rw [Array.toList_append, rowsS_toList, show (Str.ofString "\r\n").cps.toList = [13, 10] by decide +kernel]; rfl
theorem crS_len (u : List Int) : (crS u).length = 2 + 3 * u.length := by
  show (Str.ofString "\r\n" ++ rowsS u).length = _
  rw [PySem.Str.length_append, len_rows, show (Str.ofString "\r\n").length = 2 by decide +kernel]
theorem starts_rows {l u : List Int} (hl : L01 l) (hu : L01 u) : Txt.startswith (rowsS l) (rowsS u) = decide (u <+: l) := by
  unfold Txt.startswith
  rw [StrLaws.subAt_eq, rowsS_toList, rowsS_toList, len_rows, len_rows, List.drop_zero, rows_at hl hu]
  by_cases h : u <+: l
  · have := h.length_le
    simp [h]; omega
  · simp [h]
theorem ends_rows {l u : List Int} (hl : L01 l) (hu : L01 u) : Txt.endswith (rowsS l) (rowsS u) = decide (u <:+ l) := by
  unfold Txt.endswith
  rw [StrLaws.subAt_eq, rowsS_toList, rowsS_toList, len_rows, len_rows]
  by_cases h : u.length ≤ l.length
  · have e : 3 * l.length - 3 * u.length = 3 * (l.length - u.length) := (Nat.mul_sub 3 _ _).symm
    rw [e, rowsN_drop, rows_at (hl.drop _) hu]
    have e1 : decide (0 + 3 * u.length ≤ 3 * l.length) = true := decide_eq_true (by rw [Nat.zero_add]; exact Nat.mul_le_mul_left 3 h)
    have e5 : (l.drop (l.length - u.length)).take u.length = l.drop (l.length - u.length) := List.take_of_length_le (by rw [List.length_drop, Nat.sub_sub_self h]; exact Nat.le_refl _)
    rw [e1, Bool.true_and, decide_eq_decide, suffix_drop, prefix_take, e5]
    exact ⟨fun hp => ⟨h, hp⟩, fun hp => hp.2⟩
  · have h2 : ¬ u <:+ l := fun q => h q.length_le
    have e1 : decide (0 + 3 * u.length ≤ 3 * l.length) = false := decide_eq_false (by rw [Nat.zero_add]; exact fun q => h (Nat.le_of_mul_le_mul_left q (by decide)))
    rw [e1]; simp [h2]
theorem ends_cr {l u : List Int} (hl : L01 l) (hu : L01 u) : (Txt.endswith (rowsS l) (crS u) : Bool) = decide (u <:+ l ∧ u.length < l.length) := by
  unfold Txt.endswith
  rw [StrLaws.subAt_eq, rowsS_toList, crS_toList, len_rows, crS_len]
  by_cases h : u.length < l.length
  · obtain ⟨k, hk⟩ : ∃ k, l.length = u.length + 1 + k := Nat.exists_eq_add_of_le h
    have e0 : 3 * l.length = 3 * k + 1 + (2 + 3 * u.length) := by omega
    have e : 3 * l.length - (2 + 3 * u.length) = 3 * k + 1 := by rw [e0, Nat.add_sub_cancel]
    rw [e, ← List.drop_drop, rowsN_drop]
    have hlt : k < l.length := by omega
    rw [List.drop_eq_getElem_cons hlt]
    have e1 : decide (0 + (2 + 3 * u.length) ≤ 3 * l.length) = true := decide_eq_true (by rw [Nat.zero_add, e0]; exact Nat.le_add_left _ _)
    rw [e1, Bool.true_and]
    have e2 : (List.drop 1 (rowsN (l[k] :: l.drop (k + 1)))) = 13 :: 10 :: rowsN (l.drop (k + 1)) := rfl
    rw [e2, show 2 + 3 * u.length = 3 * u.length + 1 + 1 by omega, List.take_succ_cons, List.take_succ_cons]
    have e3 : (13 :: 10 :: (rowsN (l.drop (k + 1))).take (3 * u.length) == 13 :: 10 :: rowsN u) = ((rowsN (l.drop (k + 1))).take (3 * u.length) == rowsN u) := by
      rw [Bool.eq_iff_iff]; simp
    rw [e3, rows_at (hl.drop _) hu, decide_eq_decide, suffix_drop, prefix_take]
    have e4 : l.length - u.length = k + 1 := by rw [hk, Nat.add_assoc, Nat.add_sub_cancel_left, Nat.add_comm]
    rw [e4, List.take_of_length_le (by rw [List.length_drop, ← e4, Nat.sub_sub_self (Nat.le_of_lt h)]; exact Nat.le_refl _)]
    constructor
    · exact fun hp => ⟨⟨Nat.le_of_lt h, hp⟩, h⟩
    · exact fun hp => hp.1.2
  · have e1 : decide (0 + (2 + 3 * u.length) ≤ 3 * l.length) = false := by simp; omega
    rw [e1]; simp [h]

noncomputable def gpos (u : List Int) : List Int → Option Nat
  | [] => none
  | y :: r => if u <+: y :: r ∧ u.length < (y :: r).length then some 0 else (gpos u r).map (· + 1)
theorem Gm_gpos (K : List Int → Bool) (u : List Int) : ∀ r, Gm K u r = match gpos u r with | none => false | some k => K ((r.drop k).drop u.length)
  | [] => rfl
  | y :: r => by
    rw [Gm_cons]
    unfold gpos
    split
    · rfl
    · rw [Gm_gpos K u r]
      cases gpos u r <;> rfl
theorem gpos_lt (u : List Int) : ∀ r k, gpos u r = some k → k + u.length < r.length
  | [], _, h => by cases h
  | y :: r, k, h => by
    unfold gpos at h
    split at h
    · rename_i hc
      cases h
      have := hc.2
      simpa using this
    · cases hg : gpos u r with
      | none => rw [hg] at h; cases h
      | some k' =>
        rw [hg] at h
        cases h
        have := gpos_lt u r k' hg
        simp; omega
/-- one search of a piece from a row's head on -/
theorem fnd_rows {l u : List Int} {m : Nat} (hl : L01 l) (hu : L01 u) (hm : m < l.length) : ∀ (d i : Nat), i + d = m →
    (List.range' (3 * i) (3 * d + 2)).find? (fun k => decide (k + (crS u).length ≤ 3 * m + 1) && subAt (rowsS l) (crS u) k) = (gpos u ((l.drop (i + 1)).take d)).map (fun k => 3 * (i + k) + 1) := by
  have sub : ∀ j, j < l.length → subAt (rowsS l) (crS u) (3 * j) = false ∧ subAt (rowsS l) (crS u) (3 * j + 1) = decide (u <+: l.drop (j + 1)) ∧ subAt (rowsS l) (crS u) (3 * j + 2) = false := by
    intro j hj
    have hd : (rowsN l).drop (3 * j) = (if l[j] = 0 then 97 else 98) :: 13 :: 10 :: rowsN (l.drop (j + 1)) := by
      rw [rowsN_drop, List.drop_eq_getElem_cons hj]; rfl
    have hd1 : (rowsN l).drop (3 * j + 1) = 13 :: 10 :: rowsN (l.drop (j + 1)) := by rw [← List.drop_drop, hd]; rfl
    have hd2 : (rowsN l).drop (3 * j + 2) = 10 :: rowsN (l.drop (j + 1)) := by rw [← List.drop_drop, hd]; rfl
    rw [StrLaws.subAt_eq, StrLaws.subAt_eq, StrLaws.subAt_eq, rowsS_toList, crS_toList, crS_len, hd, hd1, hd2]
    rw [show 2 + 3 * u.length = 3 * u.length + 1 + 1 by omega]
    refine ⟨?_, ?_, ?_⟩
    · rw [List.take_succ_cons]
      rw [beq_eq_false_iff_ne]
      intro h
      have h2 := List.head_eq_of_cons_eq h
      split at h2 <;> cases h2
    · rw [List.take_succ_cons, List.take_succ_cons]
      have e3 : (13 :: 10 :: (rowsN (l.drop (j + 1))).take (3 * u.length) == 13 :: 10 :: rowsN u) = ((rowsN (l.drop (j + 1))).take (3 * u.length) == rowsN u) := by
        rw [Bool.eq_iff_iff]; simp
      rw [e3, rows_at (hl.drop _) hu]
    · rw [List.take_succ_cons, beq_eq_false_iff_ne]
      intro h
      cases List.head_eq_of_cons_eq h
  intro d
  induction d with
  | zero =>
    intro i hi
    obtain ⟨s0, s1, s2⟩ := sub i (by omega)
    show ([3 * i, 3 * i + 1] : List Nat).find? _ = _
    have c1 : decide (3 * i + 1 + (crS u).length ≤ 3 * m + 1) = false := by rw [crS_len]; simp; omega
    rw [List.find?_cons, s0, Bool.and_false, List.find?_cons, c1, Bool.false_and]
    simp [gpos]
  | succ d ih =>
    intro i hi
    obtain ⟨s0, s1, s2⟩ := sub i (by omega)
    have er : List.range' (3 * i) (3 * (d + 1) + 2) = 3 * i :: (3 * i + 1) :: (3 * i + 2) :: List.range' (3 * (i + 1)) (3 * d + 2) := by
      rw [show 3 * (d + 1) + 2 = (3 * d + 2) + 1 + 1 + 1 by omega, List.range'_succ, List.range'_succ, List.range'_succ]
      rfl
    have hlt : i + 1 < l.length := by omega
    have ht : (l.drop (i + 1)).take (d + 1) = l[i + 1] :: (l.drop (i + 1 + 1)).take d := by rw [List.drop_eq_getElem_cons hlt, List.take_succ_cons]
    have hlen : ((l.drop (i + 1)).take (d + 1)).length = d + 1 := by rw [List.length_take, List.length_drop]; exact Nat.min_eq_left (Nat.le_sub_of_add_le (by omega))
    rw [er, List.find?_cons, s0, Bool.and_false, List.find?_cons, s1]
    rw [ht]
    unfold gpos
    rw [← ht]
    by_cases hc : u <+: (l.drop (i + 1)).take (d + 1) ∧ u.length < ((l.drop (i + 1)).take (d + 1)).length
    · rw [if_pos hc]
      have c1 : decide (3 * i + 1 + (crS u).length ≤ 3 * m + 1) = true := by rw [crS_len]; simp; have := hc.2; omega
      have c2 : decide (u <+: l.drop (i + 1)) = true := by simp; exact hc.1.trans (List.take_prefix _ _)
      rw [c1, c2]; simp
    · rw [if_neg hc]
      have c1 : (decide (3 * i + 1 + (crS u).length ≤ 3 * m + 1) && decide (u <+: l.drop (i + 1))) = false := by
        by_cases h1 : u.length ≤ d
        · have h2 : ¬ u <+: l.drop (i + 1) := fun h => hc ⟨by
            rw [prefix_take] at h ⊢
            rw [List.take_take, Nat.min_eq_left (by omega)]; exact h, by omega⟩
          simp [h2]
        · have : decide (3 * i + 1 + (crS u).length ≤ 3 * m + 1) = false := by rw [crS_len]; simp; omega
          rw [this, Bool.false_and]
      rw [c1]
      simp only [List.find?_cons, s2, Bool.and_false]
      rw [ih (i + 1) (by omega)]
      cases gpos u ((l.drop (i + 1 + 1)).take d) with
      | none => rfl
      | some k => simp; omega
theorem fnd_empty {x w : Str} (hw : w.length = 0) {s e : Nat} (h : s ≤ e) : fnd x w s e = some s := by
  rw [fnd_spec]
  obtain ⟨k, hk⟩ : ∃ k, e + 1 - s = k + 1 := ⟨e - s, Nat.succ_sub h⟩
  rw [hk, List.range'_succ, List.find?_cons]
  have hw2 : w.cps.toList = [] := by
    have : w.cps.size = 0 := hw
    rw [← List.length_eq_zero_iff, Array.length_toList]; exact this
  have : (decide (s + w.length ≤ e) && subAt x w s) = true := by
    rw [StrLaws.subAt_eq, hw, hw2]; simp; omega
  rw [this]
theorem findAll_skip {x w : Str} (hw : w.length = 0) (r : List Str) {s e : Nat} (h : s ≤ e) : findAll x (w :: r) s e = findAll x r s e := by
  show (match fnd x w s e with | none => false | some k => findAll x r (k + w.length) e) = _
  rw [fnd_empty hw h, hw]; rfl
noncomputable def midS (pre : List Str) : List (List Int) → List Str
  | [] => pre
  | u :: us => pre ++ crS u :: midS pre us
theorem findAll_pre {x : Str} : ∀ (pre r : List Str) {s e : Nat}, (∀ w ∈ pre, w.length = 0) → s ≤ e → findAll x (pre ++ r) s e = findAll x r s e
  | [], _, _, _, _, _ => rfl
  | w :: pre, r, s, e, hp, h => by
    rw [List.cons_append, findAll_skip (hp w (.head _)) _ h, findAll_pre pre r (fun v hv => hp v (.tail _ hv)) h]
theorem findAll_mid {l : List Int} {m : Nat} {pre : List Str} (hl : L01 l) (hm : m < l.length) (hp : ∀ w ∈ pre, w.length = 0) : ∀ (us : List (List Int)), (∀ u ∈ us, L01 u) → ∀ i, i ≤ m →
    findAll (rowsS l) (midS pre us) (3 * i) (3 * m + 1) = Fm us ((l.drop i).take (m + 1 - i))
  | [], _, i, hi => by
    have e : findAll (rowsS l) (midS pre []) (3 * i) (3 * m + 1) = findAll (rowsS l) [] (3 * i) (3 * m + 1) := by
      have := findAll_pre (x := rowsS l) pre [] (s := 3 * i) (e := 3 * m + 1) hp (by omega)
      rwa [List.append_nil] at this
    rw [e]
    show true = !((l.drop i).take (m + 1 - i)).isEmpty
    have : ((l.drop i).take (m + 1 - i)).length ≠ 0 := by rw [List.length_take, List.length_drop]; exact Nat.ne_of_gt (Nat.lt_min.mpr ⟨Nat.sub_pos_of_lt (Nat.lt_succ_of_le hi), Nat.sub_pos_of_lt (Nat.lt_of_le_of_lt hi hm)⟩)
    cases h : (l.drop i).take (m + 1 - i) with
    | nil => rw [h] at this; exact absurd rfl this
    | cons _ _ => rfl
  | u :: us, hu, i, hi => by
    show findAll (rowsS l) (pre ++ crS u :: midS pre us) (3 * i) (3 * m + 1) = _
    rw [findAll_pre pre _ hp (by omega)]
    show (match fnd (rowsS l) (crS u) (3 * i) (3 * m + 1) with | none => false | some k => findAll (rowsS l) (midS pre us) (k + (crS u).length) (3 * m + 1)) = _
    have hf := fnd_rows (m := m) hl (hu u (.head _)) hm (m - i) i (Nat.add_sub_of_le hi)
    rw [fnd_spec, show 3 * m + 1 + 1 - 3 * i = 3 * (m - i) + 2 from (Nat.sub_add_comm (m := 2) (Nat.mul_le_mul_left 3 hi)).trans (congrArg (· + 2) (Nat.mul_sub 3 m i).symm), hf]
    have ht : (l.drop i).take (m + 1 - i) = l[i] :: (l.drop (i + 1)).take (m - i) := by
      rw [List.drop_eq_getElem_cons (Nat.lt_of_le_of_lt hi hm), show m + 1 - i = (m - i) + 1 from Nat.succ_sub hi, List.take_succ_cons]
    rw [ht]
    show _ = Gm (Fm us) u ((l.drop (i + 1)).take (m - i))
    rw [Gm_gpos]
    cases hg : gpos u ((l.drop (i + 1)).take (m - i)) with
    | none => rfl
    | some k =>
      have hk := gpos_lt _ _ _ hg
      have hk2 : k + u.length < m - i := by
        exact Nat.lt_of_lt_of_le hk (List.length_take_le _ _)
      have hk3 := Nat.add_lt_of_lt_sub hk2
      simp only [Option.map_some]
      rw [crS_len, show 3 * (i + k) + 1 + (2 + 3 * u.length) = 3 * (i + k + 1 + u.length) by omega, findAll_mid hl hm hp us (fun v hv => hu v (.tail _ hv)) _ (by omega)]
      congr 1
      rw [List.drop_drop, List.drop_take, List.drop_drop]
      congr 1
      · rw [show i + k + 1 + u.length = i + (k + u.length) + 1 by omega, Nat.succ_sub_succ, Nat.sub_sub]
      · congr 1; omega
theorem cutE {A B n : Nat} (h : A + B + 1 ≤ n) : ∃ j, n - B - 1 = A + j ∧ n - A - B = j + 1 ∧ n - B = A + (j + 1) ∧ B ≤ n - A ∧ 3 * n - (2 + 3 * B) = 3 * (A + j) + 1 := by
  obtain ⟨j, rfl⟩ := Nat.exists_eq_add_of_le h
  have e : A + B + 1 + j = A + j + 1 + B := by omega
  have e3 : 3 * (A + j + 1 + B) = 3 * (A + j) + 1 + (2 + 3 * B) := by omega
  refine ⟨j, ?_, ?_, ?_, Nat.le_sub_of_add_le ?_, ?_⟩
  · rw [e, Nat.add_sub_cancel, Nat.add_sub_cancel]
  · rw [e, Nat.sub_right_comm, Nat.add_sub_cancel, Nat.add_assoc, Nat.add_sub_cancel_left]
  · rw [e, Nat.add_sub_cancel]; rfl
  · rw [Nat.add_comm B A]; exact Nat.le_trans (Nat.le_succ _) h
  · rw [e, e3, Nat.add_sub_cancel]
/-- _ellipsis_match on texts of rows tells what the pattern takes -/
theorem ell_Mb {u0 uk : List Int} {us : List (List Int)} {pre : List Str} (h0 : L01 u0) (hk : L01 uk) (hs : ∀ u ∈ us, L01 u) (hp : ∀ w ∈ pre, w.length = 0) (l : List Int) (hl : L01 l) :
    ellP (rowsS u0) (midS pre us) (crS uk) (rowsS l) = Mb (u0 ++ (pat us ++ uk)) l := by
  have lets : ∀ {u : List Int}, L01 u → Lets u := fun h c hc => by rcases h c hc with rfl | rfl <;> decide
  rw [Mb_whole u0 uk us (lets h0) (lets hk) (fun u hu => lets (hs u hu))]
  unfold ellP
  rw [starts_rows hl h0, ends_cr hl hk, len_rows, len_rows, crS_len]
  have e1 : ((3 * u0.length == 0) || decide (u0 <+: l)) = decide (u0 <+: l) := by
    cases u0 with
    | nil => simp
    | cons _ _ => simp
  rw [e1]
  by_cases hu0 : u0 <+: l
  · have hul := hu0.length_le
    by_cases hlen : u0.length + uk.length + 1 ≤ l.length
    · have e2 : decide (3 * u0.length + (2 + 3 * uk.length) ≤ 3 * l.length) = true := decide_eq_true (by omega)
      obtain ⟨j, j1, j2, j3, j4, j5⟩ := cutE hlen
      rw [e2, Bool.and_true]
      have e3 : decide (uk <:+ l ∧ uk.length < l.length) = decide (uk <:+ l.drop u0.length) := by
        rw [decide_eq_decide, suffix_drop, suffix_drop]
        simp only [List.length_drop, List.drop_drop]
        rw [j2, ← j3]
        constructor
        · exact fun h => ⟨j4, h.1.2⟩
        · exact fun h => ⟨⟨by omega, h.2⟩, by omega⟩
      rw [e3]
      congr 1
      congr 1
      have hf := findAll_mid (l := l) (m := l.length - uk.length - 1) (pre := pre) hl (by omega) hp us hs u0.length (by rw [j1]; exact Nat.le_add_right _ _)
      have e4 : 3 * l.length - (2 + 3 * uk.length) = 3 * (l.length - uk.length - 1) + 1 := by rw [j1]; exact j5
      rw [e4]
      have e5 : findAll (rowsS l) (if (3 * u0.length == 0) = true then rowsS u0 :: midS pre us else midS pre us) (3 * u0.length) (3 * (l.length - uk.length - 1) + 1) = findAll (rowsS l) (midS pre us) (3 * u0.length) (3 * (l.length - uk.length - 1) + 1) := by
        split
        · rename_i h9
          refine findAll_skip ?_ _ (by rw [j1]; omega)
          rw [len_rows]; simpa using h9
        · rfl
      rw [e5, hf]
      congr 1
      rw [List.length_drop, j1, j2]
      congr 1
      rw [Nat.add_assoc, Nat.add_sub_cancel_left]
    · have e2 : decide (3 * u0.length + (2 + 3 * uk.length) ≤ 3 * l.length) = false := by simp; omega
      rw [e2, Bool.and_false, Bool.false_and, Bool.and_false]
      symm
      by_cases hs2 : uk <:+ l.drop u0.length
      · have := hs2.length_le
        rw [List.length_drop] at this
        have e6 : (l.drop u0.length).length - uk.length = 0 := by rw [List.length_drop]; omega
        rw [e6, List.take_zero]
        cases us <;> simp [Fm]
      · simp [hs2]
  · simp [hu0]
end Mine
end

section
open PySem PySem.W PyProof.Rows PySem.Builtin PySem.Builtin.Str
set_option maxRecDepth 100000
namespace Mine
/-- where three dots stand, from the left, none twice used -/
noncomputable def occL : Nat → Nat → List Nat → List Nat
  | _, _, [] => []
  | k + 1, i, _ :: r => occL k (i + 1) r
  | 0, i, c :: r => if (c :: r).take 3 = [46, 46, 46] then i :: occL 2 (i + 1) r else occL 0 (i + 1) r
noncomputable def piecesL (L : List Nat) : Nat → List Nat → List (List Nat)
  | a, [] => [L.drop a]
  | a, c :: r => (L.drop a).take (c - a) :: piecesL L (c + 3) r
noncomputable def splitL (L : List Nat) : List (List Nat) := piecesL L 0 (occL 0 0 L)
theorem dots3_list : (Str.ofString "...").cps.toList = [46, 46, 46] := by decide +kernel
theorem dots3_len : (Str.ofString "...").length = 3 := by decide +kernel
theorem occ_fold (x : Str) (limit : Nat) : ∀ (d i : Nat) (arr : Array Nat) (free : Nat), i + d = x.length → arr.size + (d + 1) ≤ limit →
    (forIn (List.range' i (d + 1)) (arr, free) (StrLaws.occBody x (Str.ofString "...") x.length limit)).run.fst.toList = arr.toList ++ occL (free - i) i (x.cps.toList.drop i) := by
  intro d
  induction d with
  | zero =>
    intro i arr free hi hl
    have hx : x.cps.toList.length = x.length := Array.length_toList
    rw [List.drop_eq_nil_of_le (show x.cps.toList.length ≤ i from Nat.le_of_eq (hx.trans hi.symm))]
    show (forIn [i] (arr, free) (StrLaws.occBody x (Str.ofString "...") x.length limit)).run.fst.toList = _
    rw [List.forIn_cons]
    unfold StrLaws.occBody
    rw [if_neg (by rw [dots3_len]; rintro ⟨⟨_, h⟩, _⟩; omega)]
    simp [occL]
  | succ d ih =>
    intro i arr free hi hl
    have hx : x.cps.toList.length = x.length := Array.length_toList
    have hlt : i < x.cps.toList.length := hx ▸ sk2 hi
    rw [List.range'_succ, List.forIn_cons]
    rw [List.drop_eq_getElem_cons hlt]
    unfold StrLaws.occBody
    by_cases hf : free ≤ i
    · have e0 : free - i = 0 := Nat.sub_eq_zero_of_le hf
      rw [e0]
      unfold occL
      rw [← List.drop_eq_getElem_cons hlt]
      by_cases hs : (x.cps.toList.drop i).take 3 = [46, 46, 46]
      · have h3 : i + 3 ≤ x.length := by
          have := congrArg List.length hs
          rw [List.length_take, List.length_drop] at this
          exact hx ▸ min3 this
        have hc : ((arr.size < limit ∧ free ≤ i) ∧ i + (Str.ofString "...").length ≤ x.length) ∧ subAt x (Str.ofString "...") i = true := by
          rw [dots3_len, StrLaws.subAt_eq, dots3_len, dots3_list, hs]
          exact ⟨⟨⟨by omega, hf⟩, h3⟩, by decide⟩
        rw [if_pos hc, if_pos hs]
        show (forIn (List.range' (i + 1) (d + 1)) (arr.push i, i + (Str.ofString "...").length) (StrLaws.occBody x (Str.ofString "...") x.length limit)).run.fst.toList = _
        rw [ih (i + 1) _ _ (sk1 hi) (by simp; omega), dots3_len, show i + 3 - (i + 1) = 2 from Nat.add_sub_add_left i 3 1]
        simp
      · have hc : ¬ (((arr.size < limit ∧ free ≤ i) ∧ i + (Str.ofString "...").length ≤ x.length) ∧ subAt x (Str.ofString "...") i = true) := by
          rw [StrLaws.subAt_eq, dots3_len, dots3_list]
          rintro ⟨_, h⟩
          exact hs (by simpa using h)
        rw [if_neg hc, if_neg hs]
        show (forIn (List.range' (i + 1) (d + 1)) (arr, free) (StrLaws.occBody x (Str.ofString "...") x.length limit)).run.fst.toList = _
        rw [ih (i + 1) _ _ (sk1 hi) (by omega), show free - (i + 1) = 0 from Nat.sub_eq_zero_of_le (Nat.le_succ_of_le hf)]
    · obtain ⟨k, hk, hk2⟩ : ∃ k, free - i = k + 1 ∧ free - (i + 1) = k := ⟨_, decr (Nat.lt_of_not_le hf), rfl⟩
      rw [hk]
      unfold occL
      rw [if_neg (by rintro ⟨⟨⟨_, h⟩, _⟩, _⟩; exact hf h)]
      show (forIn (List.range' (i + 1) (d + 1)) (arr, free) (StrLaws.occBody x (Str.ofString "...") x.length limit)).run.fst.toList = _
      rw [ih (i + 1) _ _ (sk1 hi) (by omega), hk2]
theorem occ_all (x : Str) : occurrences x (Str.ofString "...") 0 x.length (x.length + 1) = occL 0 0 x.cps.toList := by
  rw [StrLaws.occ_eq]
  have := occ_fold x (x.length + 1) x.length 0 #[] 0 (by omega) (by simp)
  simpa using this
noncomputable def mkS (l : List Nat) : Str := ⟨l.toArray⟩
theorem strSub_mk (x : Str) (i j : Nat) : strSub x i j = mkS ((x.cps.toList.drop i).take (j - i)) := by
  apply PySem.Str.ext'
  apply Array.toList_inj.mp
  rw [StrLaws.strSub_toList]; rfl
theorem parts_mk (x : Str) : ∀ (cuts : List Nat) (a : Nat), StrLaws.partsFrom x 3 a cuts = (piecesL x.cps.toList a cuts).map mkS
  | [], a => by
    show [strSub x a x.length] = [mkS (x.cps.toList.drop a)]
    rw [strSub_mk, List.take_of_length_le (by rw [List.length_drop, Array.length_toList]; exact Nat.le_refl _)]
  | c :: r, a => by
    show strSub x a c :: StrLaws.partsFrom x 3 (c + 3) r = mkS _ :: (piecesL x.cps.toList (c + 3) r).map mkS
    rw [strSub_mk, parts_mk x r]
theorem strKind_pos (x : Str) : 1 ≤ Builtin.Str.strKind x := by
  unfold Builtin.Str.strKind; split
  · omega
  · split <;> omega
theorem split_dots (x : Str) (h : 3 ≤ x.length) : Txt.split x (Str.ofString "...") = (splitL x.cps.toList).map mkS := by
  unfold Txt.split
  have hk : Builtin.Str.strKind (Str.ofString "...") = 1 := by decide +kernel
  have h1 := strKind_pos x
  rw [if_neg (by rw [hk, dots3_len]; simp; omega), occ_all]
  split
  · rename_i he
    have he : occL 0 0 x.cps.toList = [] := by simpa using he
    unfold splitL
    rw [he]
    show [x] = [mkS (x.cps.toList.drop 0)]
    rfl
  · rw [StrLaws.partsBetween_eq, dots3_len, parts_mk]; rfl
theorem has_dots (x : Str) (i : Nat) (hi : (x.cps.toList.drop i).take 3 = [46, 46, 46]) : (occurrences x (Str.ofString "...") 0 x.length 1).isEmpty = false := by
  have h3 : i + 3 ≤ x.length := by
    have h9 := congrArg List.length hi
    have hx : x.cps.toList.length = x.length := Array.length_toList
    rw [List.length_take, List.length_drop] at h9
    exact hx ▸ min3 h9
  have hf : fnd x (Str.ofString "...") 0 x.length ≠ none := by
    rw [fnd_spec]
    intro hn
    have := (List.find?_eq_none.mp hn) i (by rw [List.mem_range']; exact ⟨i, by omega, by omega⟩)
    apply this
    rw [StrLaws.subAt_eq, dots3_len, dots3_list, hi]
    simp; omega
  unfold fnd at hf
  cases h : occurrences x (Str.ofString "...") 0 x.length 1 with
  | nil => rw [h] at hf; exact absurd rfl hf
  | cons _ _ => rfl
theorem occL_none : ∀ (k i : Nat) (t : List Nat), 46 ∉ t → occL k i t = []
  | _, _, [], _ => by unfold occL; rfl
  | k + 1, i, _ :: r, h => by unfold occL; exact occL_none k _ r (fun q => h (.tail _ q))
  | 0, i, c :: r, h => by
    unfold occL
    rw [if_neg, occL_none 0 _ r (fun q => h (.tail _ q))]
    intro q
    rw [List.take_succ_cons] at q
    exact h (by rw [List.head_eq_of_cons_eq q]; exact .head _)
theorem rowsN_no : ∀ l, 46 ∉ rowsN l
  | [] => List.not_mem_nil
  | c :: l => by
    intro h
    rcases List.mem_append.mp (show 46 ∈ rowN c ++ rowsN l from h) with h | h
    · unfold rowN at h; split at h <;> simp at h
    · exact rowsN_no l h
/-- what _law_leading splits -/
theorem lead_split (w : List Int) (k : Nat) : (occurrences (Str.ofString "..." ++ rowsS (w.take (k + 1))) (Str.ofString "...") 0 (Str.ofString "..." ++ rowsS (w.take (k + 1))).length 1).isEmpty = false ∧ Txt.split (Str.ofString "..." ++ rowsS (w.take (k + 1))) (Str.ofString "...") = [Str.ofString "", rowsS (w.take (k + 1))] := by
  have hL : (Str.ofString "..." ++ rowsS (w.take (k + 1))).cps.toList = 46 :: 46 :: 46 :: rowsN (w.take (k + 1)) := by
    show ((Str.ofString "...").cps ++ (rowsS (w.take (k + 1))).cps).toList = _
    rw [Array.toList_append, dots3_list, rowsS_toList]; rfl
  refine ⟨has_dots _ 0 (by rw [hL]; rfl), ?_⟩
  rw [split_dots _ (by rw [PySem.Str.length_append, dots3_len]; omega), hL]
  have : splitL (46 :: 46 :: 46 :: rowsN (w.take (k + 1))) = [[], rowsN (w.take (k + 1))] := by
    unfold splitL
    have e : occL 0 0 (46 :: 46 :: 46 :: rowsN (w.take (k + 1))) = [0] := by
      show (if _ then _ else _) = _
      rw [if_pos (show List.take 3 (46 :: 46 :: 46 :: rowsN (w.take (k + 1))) = [46, 46, 46] from rfl)]
      show 0 :: occL 0 3 (rowsN (w.take (k + 1))) = _
      rw [occL_none _ _ _ (rowsN_no _)]
    rw [e]; rfl
  rw [this]
  show [mkS [], mkS (rowsN (w.take (k + 1)))] = _
  have e1 : mkS (rowsN (w.take (k + 1))) = rowsS (w.take (k + 1)) := by
    apply PySem.Str.ext'
    apply Array.toList_inj.mp
    rw [rowsS_toList]; rfl
  rw [e1]; rfl
end Mine
end

section
theorem Mine.woff_PlE {M : PySem.Model} {A : PySem.Around} {E Q : PySem.Value → PySem.Shared → Prop} {s : PySem.Shared} (h : PySem.wpAny M A (PySem.call (.builtin "no") []) Q E s) : PySem.wpAny M A (PySem.call (.builtin "no") []) Q E s := by
  w_top off
  first | (walk1; fail) | exact h
open PySem PySem.W PyProof.Rows PySem.Builtin
set_option maxRecDepth 100000
namespace Mine
noncomputable def pickL (d : List Nat) (v : Int) : List Nat := if v = 0 then [97] else if v = 1 then [98] else d
noncomputable def sepL (r : Int) : List Nat := if r = 0 then [13] else if r = 1 then [13, 10] else [10]
noncomputable def sentUpL (d : List Nat) (ns : List Int) : Nat → List Nat
  | 0 => []
  | k + 1 => sentUpL d ns k ++ pickL d (ns.getD k 0) ++ sepL ((k : Int).fmod 3)
noncomputable def quoL (x : List Nat) : Nat → List Nat
  | 0 => x
  | k + 1 => f1 true (f2 false (quoL x k))
theorem app_toList (a b : Str) : (a ++ b).cps.toList = a.cps.toList ++ b.cps.toList := by
  show (a.cps ++ b.cps).toList = _; rw [Array.toList_append]
theorem pick_toList (d : Str) (v : Int) : (pickS d v).cps.toList = pickL d.cps.toList v := by
  unfold pickS pickL
  split
  · decide +kernel
  · split
    · decide +kernel
    · rfl
theorem sep_toList (r : Int) : (sepS r).cps.toList = sepL r := by
  unfold sepS sepL
  split
  · decide +kernel
  · split <;> decide +kernel
theorem sentUp_toList (d : Str) (ns : List Int) : ∀ k, (sentUp d ns k).cps.toList = sentUpL d.cps.toList ns k
  | 0 => by show (Str.ofString "").cps.toList = []; decide +kernel
  | k + 1 => by
    show (sentUp d ns k ++ pickS d (ns.getD k 0) ++ sepS ((k : Int).fmod 3)).cps.toList = _
    rw [app_toList, app_toList, sentUp_toList d ns k, pick_toList, sep_toList]; rfl
theorem quoUp_toList (x : Str) : ∀ k, (quoUp x k).cps.toList = quoL x.cps.toList k
  | 0 => rfl
  | k + 1 => by
    show (quo (quoUp x k)).cps.toList = _
    unfold quo
    show f1 true (f2 false (quoUp x k).cps.toList) = _
    rw [quoUp_toList x k]; rfl
theorem str_eq {a b : Str} (h : a.cps.toList = b.cps.toList) : a = b := PySem.Str.ext' (Array.toList_inj.mp h)
noncomputable def rowL (d : List Nat) (v : Int) : List Nat := pickL d v ++ [13, 10]
noncomputable def rowsL (d : List Nat) : List Int → List Nat
  | [] => []
  | v :: r => rowL d v ++ rowsL d r
theorem rowQ_toList (d : Str) (v : Int) : (rowQ d v).cps.toList = rowL d.cps.toList v := by
  unfold rowQ
  rw [app_toList, pick_toList, show (Str.ofString "\r\n").cps.toList = [13, 10] by decide +kernel]; rfl
theorem join_toList (d : Str) : ∀ its : List Int, (Txt.join (Str.ofString "") (its.map (rowQ d))).cps.toList = rowsL d.cps.toList its := by
  intro its
  rw [tjoin_flat]
  show flat (its.map (rowQ d)) = _
  induction its with
  | nil => rfl
  | cons v r ih => rw [List.map_cons, flat_cons, ih, rowQ_toList]; rfl
noncomputable def crN (u : List Int) : List Nat := 13 :: 10 :: rowsN u
theorem mk_cr (u : List Int) : mkS (crN u) = crS u := str_eq (by rw [crS_toList]; rfl)
theorem mk_rows (u : List Int) : mkS (rowsN u) = rowsS u := str_eq (by rw [rowsS_toList]; rfl)
noncomputable def midL (pre : List (List Nat)) : List (List Int) → List (List Nat)
  | [] => pre
  | u :: us => pre ++ crN u :: midL pre us
theorem midL_map (pre : List (List Nat)) : ∀ us, (midL pre us).map mkS = midS (pre.map mkS) us
  | [] => rfl
  | u :: us => by
    show (pre ++ crN u :: midL pre us).map mkS = _
    rw [List.map_append, List.map_cons, midL_map pre us, mk_cr]; rfl
noncomputable def is01 (l : List Int) : Bool := l.all fun c => c == 0 || c == 1
theorem is01_L {l : List Int} (h : is01 l = true) : L01 l := fun c hc => by
  have := List.all_eq_true.mp h c hc
  simpa using this
noncomputable def dL (tn : Nat) : List Nat := if tn = 1 then [46, 46] else if tn = 2 then [46] else [46, 46, 46]
noncomputable def DL (tn : Nat) : List Nat := if tn = 3 then [46, 46, 46, 46, 46, 46] else [46, 46, 46]
noncomputable def preL (tn : Nat) : List (List Nat) := if tn = 3 then [[]] else []
noncomputable def chkSent (its : List Int) (tn : Nat) : Bool :=
  let s0 := sentUpL (dL tn) its 6
  let L := rowsL (DL tn) its
  let wp := wordsP its
  let wa0 := wp.1.headD []
  let mids := wp.1.drop 1
  ((List.range tn).all fun k => decide ((quoL s0 k).length ≤ 50)) && (quoL s0 tn == L) && (its == wa0 ++ (pat mids ++ wp.2)) && (splitL L == rowsN wa0 :: (midL (preL tn) mids ++ [crN wp.2])) &&
    ((L.drop (3 * wa0.length)).take 3 == [46, 46, 46]) && decide (L.length ≤ 100) && decide (3 ≤ L.length) && (its.all fun v => v == 0 || v == 1 || v == 2) && decide ((midL (preL tn) mids).length ≤ 90) && is01 wa0 && is01 wp.2 && mids.all is01 && chkBits its
theorem dots_toList : (dotsT 1).cps.toList = dL 1 ∧ (dotsT 2).cps.toList = dL 2 ∧ (dotsT 3).cps.toList = dL 3 := by decide +kernel
theorem dots_len : (dotsT 1).length = 2 ∧ (dotsT 2).length = 1 ∧ (dotsT 3).length = 3 := by decide +kernel
theorem big_toList : (Txt.mul (Str.ofString ".") 3).cps.toList = [46, 46, 46] ∧ (Txt.mul (Str.ofString ".") 6).cps.toList = [46, 46, 46, 46, 46, 46] := by decide +kernel
theorem sentOk_of {its : List Int} {tn : Nat} (htn : tn = 1 ∨ tn = 2 ∨ tn = 3) (hc : chkSent its tn = true) : SentOk its tn := by
  have hd : (dotsT tn).cps.toList = dL tn := by rcases htn with rfl | rfl | rfl; exact dots_toList.1; exact dots_toList.2.1; exact dots_toList.2.2
  have hdl : (dotsT tn).length ≤ 3 := by rcases htn with rfl | rfl | rfl; rw [dots_len.1]; decide; rw [dots_len.2.1]; decide; rw [dots_len.2.2]; decide
  have hD : (Txt.mul (Str.ofString ".") (((dotsT tn).length : Int) + (tn : Int))).cps.toList = DL tn := by
    rcases htn with rfl | rfl | rfl
    · rw [dots_len.1]; exact big_toList.1
    · rw [dots_len.2.1]; exact big_toList.1
    · rw [dots_len.2.2]; exact big_toList.2
  have hpre : ∀ w ∈ (preL tn).map mkS, w.length = 0 := by
    rcases htn with rfl | rfl | rfl
    · exact fun w hw => absurd hw List.not_mem_nil
    · exact fun w hw => absurd hw List.not_mem_nil
    · intro w hw
      have : w = mkS [] := by simpa [preL] using hw
      rw [this]; rfl
  simp only [chkSent, Bool.and_eq_true, beq_iff_eq, decide_eq_true_eq, List.all_eq_true, List.mem_range] at hc
  obtain ⟨⟨⟨⟨⟨⟨⟨⟨⟨⟨⟨⟨c1, c2⟩, c3⟩, c4⟩, c5⟩, c6⟩, c7⟩, c8⟩, c9⟩, c10⟩, c11⟩, c12⟩, c13⟩ := hc
  have hx : sentT its tn = Txt.join (Str.ofString "") (its.map (rowQ (Txt.mul (Str.ofString ".") (((dotsT tn).length : Int) + (tn : Int))))) := by
    refine str_eq ?_
    rw [join_toList, hD, quoUp_toList, sentUp_toList, hd, c2]
  have hsL : (sentT its tn).cps.toList = rowsL (DL tn) its := by rw [hx, join_toList, hD]
  have hlen : (sentT its tn).length = (rowsL (DL tn) its).length := by
    rw [← hsL, Array.length_toList]; rfl
  refine ⟨fun v hv => ?_, hdl, fun k hk => ?_, hx, by omega, has_dots _ _ (by rw [hsL]; exact c5), ?_⟩
  · have := c8 v hv
    simp only [Bool.or_eq_true, beq_iff_eq] at this
    rcases this with (h | h) | h
    · exact .inl h
    · exact .inr (.inl h)
    · exact .inr (.inr h)
  · have h1 := c1 k hk
    have h2 : (quoUp (sentUp (dotsT tn) its 6) k).length = (quoL (sentUpL (dL tn) its 6) k).length := by
      rw [← hd, ← sentUp_toList, ← quoUp_toList, Array.length_toList]; rfl
    omega
  · refine ⟨rowsS ((wordsP its).1.headD []), midS ((preL tn).map mkS) ((wordsP its).1.drop 1), crS (wordsP its).2, ?_, by rw [crS_len]; omega, ?_, ?_⟩
    · rw [split_dots _ (by omega), hsL, c4, List.map_cons, List.map_append, midL_map, mk_rows, List.map_singleton, mk_cr]
    · rw [← midL_map, List.length_map]; exact c9
    · intro ls hl _ _
      rw [ell_Mb (is01_L c10) (is01_L c11) (fun u hu => is01_L (c12 u hu)) hpre ls hl, ← c3, ← reach_Mb c13 ls hl]
end Mine
end

section
theorem Mine.woff_PlF {M : PySem.Model} {A : PySem.Around} {E Q : PySem.Value → PySem.Shared → Prop} {s : PySem.Shared} (h : PySem.wpAny M A (PySem.call (.builtin "no") []) Q E s) : PySem.wpAny M A (PySem.call (.builtin "no") []) Q E s := by
  w_top off
  first | (walk1; fail) | exact h
open PySem PySem.W PyProof.Rows PySem.Builtin
set_option maxRecDepth 100000
namespace Mine
noncomputable def leadL (w : List Int) : List Int := (List.range w.length).map fun i => if decide (w.take (i + 1) <:+ w) then 1 else 0
theorem lead_eq {w : List Int} (h : L01 w) : leadBits w = leadL w := by
  unfold leadBits leadL
  refine List.map_congr_left fun i hi => ?_
  have hlt : i < w.length := List.mem_range.mp hi
  have e : ellP (Str.ofString "") [] (rowsS (w.take (i + 1))) (rowsS w) = decide (w.take (i + 1) <:+ w) := by
    unfold ellP
    have h0 : (Str.ofString "").length = 0 := by decide +kernel
    have hl1 : (w.take (i + 1)).length = i + 1 := by rw [List.length_take]; omega
    rw [ends_rows h (h.take _), len_rows, len_rows, h0, hl1]
    have e1 : decide (0 + 3 * (i + 1) ≤ 3 * w.length) = true := by simp; omega
    rw [e1]
    simp only [beq_self_eq_true, Bool.true_or, Bool.true_and, Bool.and_true, if_true]
    rw [findAll_skip h0 _ (Nat.zero_le _)]
    show (_ && true) = _
    rw [Bool.and_true]
  rw [e]
noncomputable def stepL (wd : Nat) (u : Int) (w : List Int) : Int := u * (1 + (2 ^ wd - 2) * dval wd (leadL w))
theorem fold_eq (wd : Nat) : ∀ (ws : List (List Int)) (u : Int), (∀ w ∈ ws, L01 w) → ws.foldl (stepU wd) u = ws.foldl (stepL wd) u
  | [], _, _ => rfl
  | w :: ws, u, h => by
    have e : stepU wd u w = stepL wd u w := by unfold stepU stepL; rw [lead_eq (h w (.head _))]
    rw [List.foldl_cons, List.foldl_cons, e, fold_eq wd ws _ (fun v hv => h v (.tail _ hv))]
noncomputable def toldP (its : List Int) : List Int := trimR (countsP (pickN its 2 + pickN its 0) (pickN its 2 + pickN its 1) (pickN its 2)).reverse
noncomputable def chkNum (told its : List Int) (wd : Nat) : Bool :=
  let wp := wordsP its
  let wa0 := wp.1.headD []
  let mids := wp.1.drop 1
  let u0 := under0 wd wa0 mids wp.2
  let uv := mids.foldl (stepL wd) u0
  let ov := overP wd mids
  let q := ov / uv
  !told.isEmpty && !wp.1.isEmpty && decide (wa0.length ≤ 6) && decide (mids.length ≤ 6) && decide (wp.2.length ≤ 6) && (mids.all fun w => decide (w.length ≤ 6) && is01 w) && decide (0 ≤ u0) && decide (u0 < 2 ^ 400) && decide (0 < uv) && decide (Builtin.Int.intBits uv ≤ 500) && decide (0 ≤ ov) &&
    decide (ndig (Builtin.Int.intBits uv) ov ≤ 50) && decide (Builtin.Int.intBits q ≤ 1000) && decide (ndig wd q ≤ 60) && (digs wd (ndig wd q) q == told)
theorem numOk_of {its : List Int} {wd : Nat} (hc : chkNum (toldP its) its wd = true) : NumOk its wd := by
  simp only [chkNum, Bool.and_eq_true, beq_iff_eq, decide_eq_true_eq, List.all_eq_true, Bool.not_eq_true', List.isEmpty_eq_false_iff] at hc
  obtain ⟨⟨⟨⟨⟨⟨⟨⟨⟨⟨⟨⟨⟨⟨c1, c2⟩, c3⟩, c4⟩, c5⟩, c6⟩, c7⟩, c8⟩, c9⟩, c10⟩, c11⟩, c12⟩, c13⟩, c14⟩, c15⟩ := hc
  refine ⟨c1, (wordsP its).1.headD [], (wordsP its).1.drop 1, (wordsP its).2, ?_, rfl, c3, c4, c5, fun w hw => ⟨(c6 w hw).1, is01_L (c6 w hw).2⟩, fun w _ k _ => lead_split w k, c7, c8, ?_⟩
  · cases h : (wordsP its).1 with
    | nil => exact absurd h c2
    | cons _ _ => rfl
  · have e : underP wd ((wordsP its).1.headD []) ((wordsP its).1.drop 1) (wordsP its).2 = ((wordsP its).1.drop 1).foldl (stepL wd) (under0 wd ((wordsP its).1.headD []) ((wordsP its).1.drop 1) (wordsP its).2) := fold_eq wd _ _ (fun w hw => is01_L (c6 w hw).2)
    rw [e]
    exact ⟨c9, c10, c11, c12, c13, c14, c15⟩
noncomputable def chkIts (its : List Int) : Bool := chkSent its 1 && chkSent its 2 && chkSent its 3 && (let t := toldP its; chkNum t its 12 && chkNum t its 13 && chkNum t its 14 && chkNum t its 15)
noncomputable def chk3 (a b c : Int) : Bool := [0, 1, 2].all fun d => [0, 1, 2].all fun e => chkIts [a, 2, b, c, d, e]
theorem chk000 : chk3 0 0 0 = true := by decide +kernel
theorem chk001 : chk3 0 0 1 = true := by decide +kernel
theorem chk002 : chk3 0 0 2 = true := by decide +kernel
theorem chk010 : chk3 0 1 0 = true := by decide +kernel
theorem chk011 : chk3 0 1 1 = true := by decide +kernel
theorem chk012 : chk3 0 1 2 = true := by decide +kernel
theorem chk020 : chk3 0 2 0 = true := by decide +kernel
theorem chk021 : chk3 0 2 1 = true := by decide +kernel
theorem chk022 : chk3 0 2 2 = true := by decide +kernel
theorem chk100 : chk3 1 0 0 = true := by decide +kernel
theorem chk101 : chk3 1 0 1 = true := by decide +kernel
theorem chk102 : chk3 1 0 2 = true := by decide +kernel
theorem chk110 : chk3 1 1 0 = true := by decide +kernel
theorem chk111 : chk3 1 1 1 = true := by decide +kernel
theorem chk112 : chk3 1 1 2 = true := by decide +kernel
theorem chk120 : chk3 1 2 0 = true := by decide +kernel
theorem chk121 : chk3 1 2 1 = true := by decide +kernel
theorem chk122 : chk3 1 2 2 = true := by decide +kernel
theorem chk200 : chk3 2 0 0 = true := by decide +kernel
theorem chk201 : chk3 2 0 1 = true := by decide +kernel
theorem chk202 : chk3 2 0 2 = true := by decide +kernel
theorem chk210 : chk3 2 1 0 = true := by decide +kernel
theorem chk211 : chk3 2 1 1 = true := by decide +kernel
theorem chk212 : chk3 2 1 2 = true := by decide +kernel
theorem chk220 : chk3 2 2 0 = true := by decide +kernel
theorem chk221 : chk3 2 2 1 = true := by decide +kernel
theorem chk222 : chk3 2 2 2 = true := by decide +kernel
theorem chk_all {a b c d e : Int} (ha : a = 0 ∨ a = 1 ∨ a = 2) (hb : b = 0 ∨ b = 1 ∨ b = 2) (hc : c = 0 ∨ c = 1 ∨ c = 2) (hd : d = 0 ∨ d = 1 ∨ d = 2) (he : e = 0 ∨ e = 1 ∨ e = 2) : chkIts [a, 2, b, c, d, e] = true := by
  have h : chk3 a b c = true := by
    rcases ha with rfl | rfl | rfl <;> rcases hb with rfl | rfl | rfl <;> rcases hc with rfl | rfl | rfl
    · exact chk000
    · exact chk001
    · exact chk002
    · exact chk010
    · exact chk011
    · exact chk012
    · exact chk020
    · exact chk021
    · exact chk022
    · exact chk100
    · exact chk101
    · exact chk102
    · exact chk110
    · exact chk111
    · exact chk112
    · exact chk120
    · exact chk121
    · exact chk122
    · exact chk200
    · exact chk201
    · exact chk202
    · exact chk210
    · exact chk211
    · exact chk212
    · exact chk220
    · exact chk221
    · exact chk222
  have h1 := List.all_eq_true.mp h d (by rcases hd with rfl | rfl | rfl <;> simp)
  exact List.all_eq_true.mp h1 e (by rcases he with rfl | rfl | rfl <;> simp)
theorem items_of (ns : List Int) : ∃ a b c d e : Int, itemsP ns = [a, 2, b, c, d, e] ∧ (a = 0 ∨ a = 1 ∨ a = 2) ∧ (b = 0 ∨ b = 1 ∨ b = 2) ∧ (c = 0 ∨ c = 1 ∨ c = 2) ∧ (d = 0 ∨ d = 1 ∨ d = 2) ∧ (e = 0 ∨ e = 1 ∨ e = 2) := by
  have z0 : (0 : Int) = 0 ∨ (0 : Int) = 1 ∨ (0 : Int) = 2 := by decide
  have z1 : (1 : Int) = 0 ∨ (1 : Int) = 1 ∨ (1 : Int) = 2 := by decide
  have z2 : (2 : Int) = 0 ∨ (2 : Int) = 1 ∨ (2 : Int) = 2 := by decide
  match ns with
  | [] => exact ⟨1, 0, 0, 2, 1, rfl, z1, z0, z0, z2, z1⟩
  | [x0] => exact ⟨_, 0, 0, 2, 1, rfl, mod3 x0, z0, z0, z2, z1⟩
  | [x0, x1] => exact ⟨_, _, 0, 2, 1, rfl, mod3 x0, mod3 x1, z0, z2, z1⟩
  | [x0, x1, x2] => exact ⟨_, _, _, 2, 1, rfl, mod3 x0, mod3 x1, mod3 x2, z2, z1⟩
  | [x0, x1, x2, x3] => exact ⟨_, _, _, _, 1, rfl, mod3 x0, mod3 x1, mod3 x2, mod3 x3, z1⟩
  | x0 :: x1 :: x2 :: x3 :: x4 :: r => exact ⟨_, _, _, _, _, rfl, mod3 x0, mod3 x1, mod3 x2, mod3 x3, mod3 x4⟩
theorem plain (ns : List Int) (_ : ns.length ≤ 63) : ∃ n0 n1 n2 n3 n4 n5 : Int, ∃ tn wd : Nat, itemsP ns = [n0, n1, n2, n3, n4, n5] ∧ turnsP ns = (tn : Int) ∧ 1 ≤ tn ∧ tn ≤ 3 ∧ 12 + (ns.length : Int).fmod 4 = (wd : Int) ∧ 1 ≤ wd ∧ wd ≤ 15 ∧ SentOk [n0, n1, n2, n3, n4, n5] tn ∧ NumOk [n0, n1, n2, n3, n4, n5] wd := by
  obtain ⟨a, b, c, d, e, hi, ha, hb, hc, hd, he⟩ := items_of ns
  have hk := chk_all ha hb hc hd he
  simp only [chkIts, Bool.and_eq_true] at hk
  obtain ⟨⟨⟨k1, k2⟩, k3⟩, ⟨⟨w12, w13⟩, w14⟩, w15⟩ := hk
  have ht : ∃ tn : Nat, turnsP ns = (tn : Int) ∧ (tn = 1 ∨ tn = 2 ∨ tn = 3) := by
    unfold turnsP
    rcases mod3 ((ns.take 5).map (fun k : Int => k.fdiv 3)).sum with h | h | h <;> rw [h]
    · exact ⟨1, rfl, .inl rfl⟩
    · exact ⟨2, rfl, .inr (.inl rfl)⟩
    · exact ⟨3, rfl, .inr (.inr rfl)⟩
  obtain ⟨tn, ht, ht3⟩ := ht
  have hw : ∃ wd : Nat, 12 + (ns.length : Int).fmod 4 = (wd : Int) ∧ (wd = 12 ∨ wd = 13 ∨ wd = 14 ∨ wd = 15) := by
    rw [Int.fmod_eq_emod_of_nonneg _ (by decide)]
    exact ⟨12 + ns.length % 4, by push_cast; rfl, mod4 _⟩
  obtain ⟨wd, hw, hw4⟩ := hw
  refine ⟨a, 2, b, c, d, e, tn, wd, hi, ht, by rcases ht3 with rfl | rfl | rfl <;> decide, by rcases ht3 with rfl | rfl | rfl <;> decide, hw, by rcases hw4 with rfl | rfl | rfl | rfl <;> decide, by rcases hw4 with rfl | rfl | rfl | rfl <;> decide, sentOk_of ht3 ?_, numOk_of ?_⟩
  · rcases ht3 with rfl | rfl | rfl
    · exact k1
    · exact k2
    · exact k3
  · rcases hw4 with rfl | rfl | rfl | rfl
    · exact w12
    · exact w13
    · exact w14
    · exact w15
end Mine
end

theorem PySem.Challenge.cw_pe0153_01_holds : PySem.Challenge.rw_pe0153_01.Holds := by
  exact Mine.lawT Mine.plain
