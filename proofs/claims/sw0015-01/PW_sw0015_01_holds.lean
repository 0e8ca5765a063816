import PyProof.Rows.All
import Wide.All
import OpenK.AllK
import Wide.FinOn
import PySem.Challenge.RW_sw0015_01
set_option Elab.async false
set_option rowWalk.seconds 0
namespace Mine
section
open PySem PySem.W PyProof.Rows
set_option maxRecDepth 100000 in
set_option maxHeartbeats 8000000 in
open_top hd for PySem.Challenge.rw_sw0015_01
end
theorem resetBase : True := by w_top off; trivial
section
open PySem PySem.W PyProof.Rows PySem.Calls PySem.Spec
section
variable {prog : Program} {w : World} {A₀ A : Around} {E : Value → Shared → Prop} {s : Shared} {K : Frag} {base h₀ : Heap} {outer : List Env} {L : Addr} {m mg mb : Str → Option Value} {env : Env} {p : Program} {loose : List Str} {mean : ExcName → Option Value}
  {R : Result → Shared → Prop} {name qual : Str} {params : Arguments} {body : List Stmt} {scope : Scope} {dV kV doc pm cdv ct oc : Value} {an od : Option Addr} {osl : Array (Option Value)} {f : Addr} {args : Args} {binds : List (Str × Value)}

theorem code_full (B : Below A₀ base outer h₀) (F : Fr h₀ L s.heap m) (X₀ : K.In h₀) (T : Top p loose mean mg mb h₀) (hA : A.frames = some (env :: outer)) (hf : env.frame = some L) (hke : env.scope.kind = .function)
    (ho : K.lookup f = some ⟨oc, od, .func (fnOf name qual params body scope dV kV doc pm an cdv ct), osl⟩) (hcd : codeIn K cdv qual = true) (hroom : A.depth < recursionLimit)
    (hbind : BindsTo s (fnOf name qual params body scope dV kV doc pm an cdv ct) args binds) (hloc : ∀ y ∈ binds, scope.names.lookup y.1 = some .local)
    (hne : binds ≠ [])
    (h : ∀ L' h₁ tk, s.toks < tk → Fr s.heap L' h₁ (fun y => binds.reverse.lookup y) → News s.heap L' h₁ [] → Below A base (env :: outer) s.heap → K.In s.heap → Top p loose mean mg mb s.heap →
      wpAny (model prog w) (A.deeper (envOf qual scope L' f cdv)) (execs body (envOf qual scope L' f cdv))
        (fun fl s' => R (.ok (.ret (match fl with | .ret v => v | _ => .none))) s')
        (fun e s' => wpAny (model prog w) (A.deeper (envOf qual scope L' f cdv)) (leaving (envOf qual scope L' f cdv) e) (fun _ s'' => R (.error e) s'') (fun e' s'' => R (.error e') s'') s')
        { s with heap := h₁, toks := tk })
    (hco : scope.isCoroutine = false) (hgen : scope.isGenerator = false) (hk : scope.kind = .function)
    (hcell : ∀ x ∈ scope.names, x.2 ≠ .cell) : codeAny (model prog w) A (.call (.ref f) args) R s := by
  have B₁ := pushX B F hf hke
  refine codeAny_call_def (fd := fnX name qual params body scope [] dV kV doc pm an cdv ct) (body := body) (binds := binds) hroom ((X₀.keeps F.keep) _ _ ho) rfl (T.nolimit.keeps F.keep) (codeRec_of (X₀.keeps F.keep) hcd) rfl hbind hcell hloc (fun h₁ hns hk₁ => ?_) hco hgen hk
  exact h s.heap.objs.size h₁ _ (Nat.lt_add_of_pos_right (List.length_pos_iff.mpr hne)) ⟨hns, hk₁, Nat.le_refl _⟩ News.nil ⟨hA, B₁.stays, B₁.frames⟩ (X₀.keeps F.keep) (T.keeps F.keep)

theorem code_fullC (B : Below A₀ base outer h₀) (F : Fr h₀ L s.heap m) (X₀ : K.In h₀) (T : Top p loose mean mg mb h₀) (hA : A.frames = some (env :: outer)) (hf : env.frame = some L) (hke : env.scope.kind = .function)
    (ho : K.lookup f = some ⟨oc, od, .func (fnOf name qual params body scope dV kV doc pm an cdv ct), osl⟩) (hcd : codeIn K cdv qual = true) (hroom : A.depth < recursionLimit)
    (hbind : BindsTo s (fnOf name qual params body scope dV kV doc pm an cdv ct) args binds) (hkind : (binds.all fun y => scope.names.lookup y.1 == some .local || scope.names.lookup y.1 == some .cell) = true)
    (hnd : ((cellsFrom 0 scope.names []).map (·.1)).Nodup)
    (h : ∀ L' h₁ tk cells, Fr s.heap L' h₁ (bindL (envOfC qual scope L' f cdv).kindOf binds fun _ => none) → News s.heap L' h₁ cells →
      CellsAre (bindC (envOfC qual scope L' f cdv).kindOf binds fun _ => none) (cellsFrom (L' + 1) scope.names []) cells → Below A base (env :: outer) s.heap → K.In s.heap → Top p loose mean mg mb s.heap →
      wpAny (model prog w) (A.deeper (envOfC qual scope L' f cdv)) (execs body (envOfC qual scope L' f cdv))
        (fun fl s' => R (.ok (.ret (match fl with | .ret v => v | _ => .none))) s')
        (fun e s' => wpAny (model prog w) (A.deeper (envOfC qual scope L' f cdv)) (leaving (envOfC qual scope L' f cdv) e) (fun _ s'' => R (.error e) s'') (fun e' s'' => R (.error e') s'') s')
        { s with heap := h₁, toks := tk })
    (hco : scope.isCoroutine = false) (hgen : scope.isGenerator = false) (hk : scope.kind = .function) : codeAny (model prog w) A (.call (.ref f) args) R s := by
  have B₁ := pushX B F hf hke
  refine codeAny_call_function hroom ((X₀.keeps F.keep) _ _ ho) rfl hco hgen rfl (codeRec_of (X₀.keeps F.keep) hcd) (hbind _ _ _ _ ?_)
  refine wpAny_newFunctionEnv_cells hk (kindsX hkind _) fun env' he s' x => ?_
  subst he
  refine ⟨(T.nolimit.keeps F.keep).keeps x.toInCall.keep, codeAny_func ?_⟩
  obtain ⟨h₁, tk, rfl, _⟩ := x.done
  have hk₁ := x.toInCall.keep
  obtain ⟨cells, NC, Y⟩ := Cl.news (h₀ := s.heap) (Nat.le_refl _) fun n c hm => ⟨x.cell n c (lookup_of_mem_nodup (cellsFrom_names scope.names 0 (s.heap.objs.size + 1) [] [] rfl ▸ hnd) hm), x.above n c hm⟩
  exact h s.heap.objs.size h₁ tk cells ⟨x.toInCall.ns, hk₁, Nat.le_refl _⟩ NC Y ⟨hA, B₁.stays, B₁.frames⟩ (X₀.keeps F.keep) (T.keeps F.keep)
end

noncomputable def Ct (w : World) (mean : ExcName → Option Value) (mg mb : Str → Option Value) (f : Addr) (vs : List Value) (D U : Nat) (Pre : Heap → Prop) (Post : Heap → Heap → Value → Prop) : Prop :=
  ∀ (dp un : Nat) (gd : Option (List Code)) (cn : Str) (cs : Scope) (a : Addr) (ccd : Value) (cl : List (Str × Addr)) (outer : List Env) (A₀ : Around) (base h₀ : Heap) (L : Addr) (m : Str → Option Value) (s : Shared) (Q E : Value → Shared → Prop),
    Below A₀ base outer h₀ → Fr h₀ L s.heap m → (Mine.hd.heap_39 w.params).In h₀ →
    Top Mine.hd.view_39 (looseW Mine.hd.view_39 [Str.ofString "_twin_re_1", Str.ofString "_twin_re_2"]) mean mg mb h₀ → cs.kind = .function →
    dp + D < recursionLimit → un + U < cLine → Pre s.heap →
    (∀ (v : Value) (h' : Heap) (tk' : Nat), (∀ b o, s.heap.get? b = some o → h'.get? b = some o) → Post s.heap h' v → Q v { s with heap := h', toks := tk' }) →
    wpAny (model PySem.Challenge.rw_sw0015_01.row.prog w) (ktrTop dp un gd cn cs L a ccd cl outer) (call (.ref f) vs) Q E s

theorem Ct.use {w : World} {mean : ExcName → Option Value} {mg mb : Str → Option Value} {f : Addr} {vs : List Value} {D U : Nat}
    {Pre : Heap → Prop} {Post : Heap → Heap → Value → Prop} (h : Ct w mean mg mb f vs D U Pre Post)
    {dp un : Nat} {gd : Option (List Code)} {cn : Str} {cs : Scope} {a : Addr} {ccd : Value} {cl : List (Str × Addr)} {outer : List Env} {A₀ : Around} {base h₀ : Heap} {L : Addr} {m : Str → Option Value} {s : Shared} {news : List (Addr × Obj)} {Q E : Value → Shared → Prop}
    (hB : Below A₀ base outer h₀) (hF : Fr h₀ L s.heap m) (hX : (Mine.hd.heap_39 w.params).In h₀) (hN : News h₀ L s.heap news)
    (hT : Top Mine.hd.view_39 (looseW Mine.hd.view_39 [Str.ofString "_twin_re_1", Str.ofString "_twin_re_2"]) mean mg mb h₀) (hk : cs.kind = .function)
    (hd : dp + D < recursionLimit) (hu : un + U < cLine) (hp : Pre s.heap)
    (hr : ∀ (v : Value) (h' : Heap) (tk' : Nat), (∀ b o, s.heap.get? b = some o → h'.get? b = some o) → Fr h₀ L h' m → News h₀ L h' news → Post s.heap h' v → Q v { s with heap := h', toks := tk' }) :
    wpAny (model PySem.Challenge.rw_sw0015_01.row.prog w) (ktrTop dp un gd cn cs L a ccd cl outer) (call (.ref f) vs) Q E s :=
  h dp un gd cn cs a ccd cl outer A₀ base h₀ L m s Q E hB hF hX hT hk hd hu hp fun v h' tk' kp po => hr v h' tk' kp (hF.keeps kp) (hN.grown kp) po

theorem news_add {h₀ h h' : Heap} {L a : Addr} {m : Str → Option Value} {news : List (Addr × Obj)} {o : Obj} (F : Fr h₀ L h m) (N : News h₀ L h' news) (e : h'.get? a = some o) (n : h.get? a = none) :
    News h₀ L h' ((a, o) :: news) := by
  intro q hq
  rcases List.mem_cons.mp hq with rfl | hq
  · refine ⟨e, ?_, ?_⟩
    · rintro rfl
      obtain ⟨oL, _, _, hL, _⟩ := F.ns
      rw [n] at hL; cases hL
    · cases hh : h₀.get? a with
      | none => rfl
      | some o' => rw [F.keep _ _ hh] at n; cases n
  · exact N q hq
theorem news_ne {h₀ h : Heap} {L a b : Addr} {news : List (Addr × Obj)} {o o' : Obj} (N : News h₀ L h news) (h1 : (a, o) ∈ news) (h2 : (b, o') ∈ news) (hc : o ≠ o') : a ≠ b := by
  rintro rfl
  have e1 := (N _ h1).1
  have e2 := (N _ h2).1
  exact hc (Option.some.inj (e1.symm.trans e2))
section
variable {prog : Program} {w : World} {A : Around} {E : Value → Shared → Prop} {s : Shared} {env : Env} {h₀ : Heap} {x : Str} {body : List Stmt} {Q : Flow → Shared → Prop}
theorem iter_rangeJ {r : Addr} {a₀ b₀ : Int} {t₀ u₀ v₀ : Tok} (n : Nat) {m₀ : Str → Option Value} {news : List (Addr × Obj)} (J : Nat → (Str → Option Value) → List (Addr × Obj) → Prop)
    (hh : A.handled = none) (hr : IsRange s.heap r a₀ b₀ 1 t₀ u₀ v₀) (hsmall : Builtin.Range.small a₀ b₀ 1 = true) (hn : Builtin.Range.rangeSize a₀ b₀ 1 = (n : Int)) (F : Fr h₀ env.locals s.heap m₀) (N : News h₀ env.locals s.heap news) (hj : J 0 m₀ news)
    (turn : ∀ i t m₁ nx h tk own, i < n → OwnOff own (nx.map (·.1)) → J i m₁ nx → Fr h₀ env.locals h (fun y => if y = x then some (.int (a₀ + (i : Int)) t) else m₁ y) → News h₀ env.locals h (nx ++ own) →
      wpAny (model prog w) A (execs body env) (InvPostG h₀ env.locals (J (i + 1)) own { s with heap := h, toks := tk } Q) E { s with heap := h, toks := tk })
    (done : ∀ m₁ nx h tk, J n m₁ nx → Fr h₀ env.locals h m₁ → News h₀ env.locals h nx → Q .next { s with heap := h, toks := tk }) :
    wpAny (model prog w) A (pyIter (.ref r)) (fun it s₂ => LoopAtV prog w A h₀ env x body Q E it s₂) E s := by
  refine wpAny_pyIter_range hr hsmall ?_
  have W : Walks prog w A s.heap.objs.size [s.heap.objs.size] [s.heap.objs.size] n (fun i v => i < n ∧ ∃ t, v = .int (a₀ + i * 1) t)
      (fun i h => IsRangeIter h s.heap.objs.size (a₀ + (i : Nat) * 1) ((n : Int) - (i : Nat)) 1) := (Walks.range hh _ a₀ 1 n).bound
  refine ⟨_, _, _, n, _, _, m₀, news, J, rfl, W, ?_, ?_, ?_, (by show IsRangeIter _ _ _ _ _; rw [hn]; simpa using Heap.get?_push_size _ rfl), F.push _, (fun p hp => ⟨Heap.get?_push_of_some _ (N p hp).1, (N p hp).2⟩), hj, ?_, ?_⟩
  · intro hm
    exact absurd F.ns.lt ((List.mem_singleton.mp hm) ▸ Nat.lt_irrefl _)
  · intro b hb
    rw [List.mem_singleton.mp hb]
    exact next_is_new F
  · intro p hp hI
    exact absurd (Heap.lt_size (N p hp).1) ((List.mem_singleton.mp hI) ▸ Nat.lt_irrefl _)
  · rintro i v m₁ news₁ s₁ own ⟨hh', tk', rfl⟩ hin hP hJ hoff hown _ hfp hst F₁ N₁
    have hI0 : h₀.get? s.heap.objs.size = none := next_is_new F
    have st' : hh'.get? s.heap.objs.size = some _ := hst
    have hIown := hfp _ (List.mem_singleton.mpr rfl) hI0 _ st'
    have hsep : OwnOff own (news₁.map (·.1)) := by
      intro p hp b hb e
      obtain ⟨q, hq, rfl⟩ := List.mem_map.mp hb
      have h1 := List.mem_singleton.mp (hown p hp)
      exact hoff q hq (List.mem_singleton.mpr (e ▸ h1))
    obtain ⟨_, t, rfl⟩ := hP
    have N₂ : News h₀ env.locals hh' (news₁ ++ own) := fun p hp => N₁ p ((List.mem_append.mp hp).elim (fun h => List.mem_append.mpr (.inr h)) fun h => List.mem_append.mpr (.inl h))
    rw [Int.mul_one] at F₁
    refine wpAny_mono (turn i t m₁ news₁ hh' tk' own hin hsep hJ F₁ N₂) (fun f s₂ p => ?_) fun _ _ e => e
    have fin : InvEndG h₀ env.locals (J (i + 1)) own { s with heap := hh', toks := tk' } s₂ → LoopStepU h₀ env.locals [s.heap.objs.size] own (J (i + 1)) { s with heap := hh', toks := tk' } .next s₂ := by
      rintro ⟨h', tk, m', news', nx, e, F', N', hn, ho, ha, hm⟩
      refine ⟨rfl, h', tk, m', nx, e, F', fun p hp => N' p ((List.mem_append.mp hp).elim (ho p) (hn p)), fun p hp hq => ?_, hm⟩
      exact ha _ hIown p.1 (List.mem_map.mpr ⟨p, hp, rfl⟩) (List.mem_singleton.mp hq).symm
    cases f with
    | ret v => exact .ret p
    | brk => exact .brk p
    | next => exact .next (fin p)
    | cont => exact .cont (fin p)
  · rintro h' tk m' news' F' N' _ hJ
    exact done m' news' h' tk hJ F' N'
end
noncomputable def Made (h h' : Heap) (nw : List (Addr × Obj)) : Prop := ∀ p ∈ nw, h'.get? p.1 = some p.2 ∧ h.get? p.1 = none
theorem made_of {h₀ h : Heap} {L : Addr} {nx : List (Addr × Obj)} (N : News h₀ L h nx) : Made h₀ h nx := fun p hp => ⟨(N p hp).1, (N p hp).2.2⟩
theorem news_made {h₀ h h' : Heap} {L : Addr} {m : Str → Option Value} {news nw : List (Addr × Obj)} (F : Fr h₀ L h m) (N : News h₀ L h' news) (M : Made h h' nw) :
    News h₀ L h' (nw ++ news) := by
  induction nw with
  | nil => exact N
  | cons p r ih => exact news_add F (ih fun q hq => M q (List.mem_cons_of_mem _ hq)) (M p List.mem_cons_self).1 (M p List.mem_cons_self).2
theorem allLt_mem {d : Addr} : ∀ {l : List (Addr × Obj)}, AllLt d l → ∀ p ∈ l, p.1 < d
  | [], _, _, h => nomatch h
  | _ :: _, x, p, h => by
    rcases List.mem_cons.mp h with rfl | h
    · exact x.1
    · exact allLt_mem x.2 p h
noncomputable def Has (m : Str → Option Value) : List (Str × Value) → Prop
  | [] => True
  | p :: r => m p.1 = some p.2 ∧ Has m r
noncomputable def mapOr (m : Str → Option Value) : List (Str × Value) → Str → Option Value
  | [] => m
  | p :: r => fun z => if z = p.1 then some p.2 else mapOr m r z
theorem has_map {m : Str → Option Value} : ∀ {l : List (Str × Value)}, Has m l → m = mapOr m l
  | [], _ => rfl
  | p :: r, h => by
    funext z
    show m z = if z = p.1 then some p.2 else mapOr m r z
    by_cases q : z = p.1
    · rw [if_pos q, q]; exact h.1
    · rw [if_neg q, ← has_map h.2]
theorem has_put {m : Str → Option Value} {x : Str} {v : Value} : ∀ {l : List (Str × Value)}, Has m l → (l.all fun p => p.1 != x) = true → Has (fun z => if z = x then some v else m z) l
  | [], _, _ => trivial
  | p :: r, h, a => by
    rw [List.all_cons, Bool.and_eq_true] at a
    exact ⟨by show (if p.1 = x then some v else m p.1) = _; rw [if_neg (by simpa using a.1)]; exact h.1, has_put h.2 a.2⟩
theorem item_base {prog : Program} {w : World} {A : Around} {E : Value → Shared → Prop} {s : Shared} {h₀ : Heap} {L l : Addr} {m : Str → Option Value} {value slice : PySem.Expr} {items : Array Value} {k : Int} {u : Tok} {x : Value} {Q : Value → Shared → Prop}
    (F : Fr h₀ L s.heap m) (hl : h₀.IsList l items) (hx : items[k.toNat]? = some x) (h0 : 0 ≤ k) (hfit : k < 2 ^ 63) (h : Q x s)
    (hs : subscripted slice false (.ref l) (.int k u) = operate [.ref l, .int k u] (getItem (.ref l) (.int k u)) := by with_unfolding_all rfl) :
    wpAny (model prog w) A (subscriptTail value slice (.ref l) (.int k u)) Q E s :=
  tail_any (F.lst hl).typeIs slot_list_getitem.lookup (wpAny_getItem_list (F.lst hl) h0 hfit hx h) hs
theorem item_baseT {prog : Program} {w : World} {A : Around} {E : Value → Shared → Prop} {s : Shared} {h₀ : Heap} {L p : Addr} {m : Str → Option Value} {value slice : PySem.Expr} {items : Array Value} {k : Int} {j : Nat} {u : Tok} {x : Value} {Q : Value → Shared → Prop}
    (F : Fr h₀ L s.heap m) (hp : h₀.get? p = some { cls := .type "tuple", data := .seq items }) (hj : seqIndex? k items.size = some j) (hx : items[j]? = some x) (hlo : -(2 ^ 63) ≤ k) (hfit : k < 2 ^ 63) (h : Q x s)
    (hs : subscripted slice false (.ref p) (.int k u) = operate [.ref p, .int k u] (getItem (.ref p) (.int k u)) := by with_unfolding_all rfl) :
    wpAny (model prog w) A (subscriptTail value slice (.ref p) (.int k u)) Q E s :=
  have ht : IsTup s.heap p items := ⟨_, F.keep _ _ hp, rfl, _, rfl⟩
  tail_any ht.typeIs slot_tuple_getitem.lookup (getItem_tuple ht hlo hfit hj hx h) hs
/-- what follows a statement: one node in place of a match in every step's end -/
noncomputable def Cont (M : Model) (A : Around) (rest : List Stmt) (env : Env) (Q : Flow → Shared → Prop) (E : Value → Shared → Prop) (f : Flow) (s : Shared) : Prop :=
  match f with
  | .next => wpAny M A (execs rest env) Q E s
  | f => Q f s
section
variable {M : Model} {A : Around} {st : Stmt} {rest : List Stmt} {env : Env} {Q : Flow → Shared → Prop} {E : Value → Shared → Prop} {s : Shared}
theorem wp_cons (h : wpAny M A (exec st env) (Cont M A rest env Q E) E s) : wpAny M A (execs (st :: rest) env) Q E s :=
  wpAny_execs_cons h
theorem Cont.next (h : wpAny M A (execs rest env) Q E s) : Cont M A rest env Q E .next s := h
theorem Cont.ret {v : Value} (h : Q (.ret v) s) : Cont M A rest env Q E (.ret v) s := h
theorem Cont.brk (h : Q .brk s) : Cont M A rest env Q E .brk s := h
theorem Cont.cont (h : Q .cont s) : Cont M A rest env Q E .cont s := h
end
end
theorem resetTk : True := by w_top off; trivial
section
open PySem PySem.W PyProof.Rows PySem.Calls PySem.Spec PySem.SeqAt
theorem runs_toks {M : Model} {Γ : PySem.Ctx} {p : Pos} {t : Sem Fin} {fs : List Frame} {s s' : Shared} {e : End} (r : Runs M Γ p t fs s e s') : s.toks ≤ s'.toks := by
  induction r with
  | done | raise | yield => exact Nat.le_refl _
  | fresh _ ih => exact Nat.le_of_succ_le ih
  | call _ _ i1 i2 => exact Nat.le_trans i1 i2
  | resumeFresh _ _ _ _ i1 i2 => exact Nat.le_trans i1 i2
  | resumeSuspended _ _ _ _ i1 i2 => exact Nat.le_trans i1 i2
  | segRet _ _ i1 i2 => exact Nat.le_trans i1 i2
  | segGen _ _ i1 i2 => exact Nat.le_trans i1 i2
  | segSuspGen _ _ _ _ i1 i2 => exact Nat.le_trans i1 i2
  | _ => assumption
theorem wakes_toks {M : Model} {Γ : PySem.Ctx} {p : Pos} {g : Nat} {r : Resume} {s s' : Shared} {res : GenResult} (h : Wakes M Γ p g r s res s') : s.toks ≤ s'.toks := by
  unfold Wakes at h
  split at h
  · exact h.elim
  · split at h
    · obtain ⟨e, s1, h1, _, _, rfl⟩ := h; have z := runs_toks h1; exact z
    · rw [h.2]; exact Nat.le_refl _
    · rw [h.2]; exact Nat.le_refl _
  · obtain ⟨e, s1, h1, _, _, rfl⟩ := h; have z := runs_toks h1; exact z
  · rw [h.2]; exact Nat.le_refl _
  · rw [h.2]; exact Nat.le_refl _
theorem wp_toks {α : Type} {M : Model} {Γ : PySem.Ctx} {t : Sem α} {Q : α → Pos → Shared → Prop} {E : Value → Pos → Shared → Prop} (n : Nat) : ∀ {p : Pos} {s : Shared}, n ≤ s.toks →
    Sem.wp M Γ t (fun a p' s' => n ≤ s'.toks → Q a p' s') (fun e p' s' => n ≤ s'.toks → E e p' s') p s → Sem.wp M Γ t Q E p s := by
  induction t with
  | pure a => exact fun hn h => h hn
  | raise e => exact fun hn h => h hn
  | unsupported | finish | yield | fork | await | register => exact fun _ h => h
  | rule _ k ih | «at» _ k ih | alloc _ k ih | loadIfAlive _ k ih | point _ k ih | ask k ih | os _ _ k ih | handled _ k ih | newGen _ k ih | stack k ih | thread k ih => exact fun hn h => ih _ hn h
  | fresh k ih => exact fun hn h => ih _ (Nat.le_succ_of_le hn) h
  | load a _ k ih | genState a k ih => exact fun hn ⟨o, ho, h⟩ => ⟨o, ho, ih _ hn h⟩
  | update a _ f k ih | choose _ _ k ih => exact fun hn ⟨ha, h⟩ => ⟨ha, ih _ hn h⟩
  | call c h g l k ih => exact fun hn ⟨r, s', hr, hR⟩ => ⟨r, s', hr, ih _ (Nat.le_trans hn (runs_toks hr)) hR⟩
  | resume g r l k ih => exact fun hn ⟨res, s', hw, h⟩ => ⟨res, s', hw, ih _ (Nat.le_trans hn (wakes_toks hw)) h⟩
theorem wpAny_toks {α : Type} {M : Model} {A : Around} {t : Sem α} {Q : α → Shared → Prop} {E : Value → Shared → Prop} {s : Shared}
    (h : wpAny M A t (fun a s' => s.toks ≤ s'.toks → Q a s') E s) : wpAny M A t Q E s := fun Γ p hΓ => by
  refine wp_toks (Q := fun a _ s' => Q a s') (E := fun e _ s' => E e s') s.toks (Nat.le_refl _) ?_
  refine Sem.wp_mono M Γ t ?_ ?_ p s (h Γ p hΓ)
  · intro _ _ _ x; exact x
  · intro _ _ _ x _; exact x
theorem gen_toks {α : Type} {M : Model} {A : Around} {t : Sem α} {Q : α → Shared → Prop} {E : Value → Shared → Prop} {h : Heap} {g d o} {X : Nat}
    (z : ∀ tk : Nat, X ≤ tk → wpAny M A t Q E ⟨h, g, d, tk, o⟩) : wpAny M A t Q E ⟨h, g, d, X, o⟩ := z X (Nat.le_refl _)

noncomputable def NB (h : Heap) : Prop := ∀ (M : Model) (t : Tok), Looks M h (sharingNotTold t) false
theorem NB.keeps {h h' : Heap} (x : NB h) (k : ∀ b o, h.get? b = some o → h'.get? b = some o) : NB h' := fun M t => (x M t).keeps k
theorem nb_of {w : World} {h : Heap} (X : (Mine.hd.heap_39 w.params).In h) : NB h := fun M t => by
  have e : nsIn (Mine.hd.heap_39 w.params) cStatics sharingNotToldKey = some none := by kernel_rfl
  intro A Q E s k q
  unfold sharingNotTold
  exact wpAny_bind (looks_nsIn X e A _ E s k (wpAny_pure q))
theorem created_any {M : Model} {A : Around} {E : Value → Shared → Prop} {s : Shared} {c : Bool} {t u : Tok} {Q : Bool → Shared → Prop} (hb : NB s.heap) (ht : 0 < t) (hu : 0 < u)
    (h1 : t = u → Q true s) (h2 : c = true → ∀ b, Q b s) (h3 : c = false → Q false s) : wpAny M A (isSame.created c t u) Q E s := by
  unfold isSame.created
  refine wpAny_ite ?_
  split
  · rename_i h; simp only [Bool.or_eq_true, beq_iff_eq] at h; rcases h with rfl | rfl <;> exact absurd (by assumption) (Nat.lt_irrefl 0)
  refine wpAny_ite ?_
  split
  · rename_i h; exact wpAny_pure (h1 (by simpa using h))
  refine wpAny_ite ?_
  cases c with
  | false => exact wpAny_pure (h3 rfl)
  | true =>
    rw [if_neg (by decide)]
    refine wpAny_bind ((hb M t).here ?_)
    rw [if_neg Bool.false_ne_true]
    refine wpAny_bind ((hb M u).here ?_)
    rw [if_neg Bool.false_ne_true]
    exact wpAny_bind (wpAny_rule (wpAny_bind (wpAny_askSetting (wpAny_pure (h2 rfl _)))))
theorem same_floats {M : Model} {A : Around} {E : Value → Shared → Prop} {s : Shared} {x y : UInt64} {t u : Tok} {Q : Bool → Shared → Prop} (hb : NB s.heap) (ht : 0 < t) (hu : 0 < u)
    (h : ∀ b, (b = true → x = y ∨ t = u) → Q b s) : wpAny M A (isSame (.float x t) (.float y u)) Q E s := by
  show wpAny _ _ (isSame.created (x == y && !Float64.isNaN x) t u) _ _ _
  exact created_any hb ht hu (fun e => h true fun _ => .inr e) (fun e b => h b fun _ => .inl (by simp only [Bool.and_eq_true, beq_iff_eq] at e; exact e.1)) fun _ => h false fun e => nomatch e
theorem rc_floats {prog : Program} {w : World} {A : Around} {E : Value → Shared → Prop} {s : Shared} {x y : UInt64} {t u : Tok} {Q : Value → Shared → Prop}
    (h : Q (.bool (Float64.cmp x y == some Ordering.eq)) s) : wpAny (model prog w) A (richCompare .Eq (.float x t) (.float y u)) Q E s :=
  richCompare_gives (AutoFloatOps.typeIs_float s x t) (AutoFloatOps.typeIs_float s y u) F.slot_float_eq F.entry_float_eq (F.args_float_eq_2 _ _) (AutoFloatG5.float___eq___float_float_0 x t y u) (fun x => nomatch x) h
theorem eq_floats {A : Around} {s : Shared} {x y : UInt64} {t u : Tok} (hb : NB s.heap) (ht : 0 < t) (hu : 0 < u) (hc : (Float64.cmp x y == some Ordering.eq) = true) :
    EqAt A s (.float x t) (.float y u) true := fun prog w E Q h => by
  unfold eqBool
  refine wpAny_holding ?_
  refine wpAny_ite_split (fun _ => ?_) (fun _ => ?_)
  · exact wpAny_bind (wpAny_rule (wpAny_pure h))
  · refine wpAny_bind (same_floats hb ht hu fun b _ => ?_)
    cases b with
    | true => exact wpAny_pure h
    | false =>
      rw [if_neg Bool.false_ne_true]
      exact wpAny_bind (rc_floats (by rw [hc]; exact wpAny_truthy_bool h))
noncomputable def Cu (w : World) (mean : ExcName → Option Value) (mg mb : Str → Option Value) (f : Addr) (vs : List Value) (D U : Nat) (Pre : Shared → Prop) (Post : Shared → Heap → Nat → Value → Prop) : Prop :=
  ∀ (dp un : Nat) (gd : Option (List Code)) (cn : Str) (cs : Scope) (a : Addr) (ccd : Value) (cl : List (Str × Addr)) (outer : List Env) (A₀ : Around) (base h₀ : Heap) (L : Addr) (m : Str → Option Value) (s : Shared) (Q E : Value → Shared → Prop),
    Below A₀ base outer h₀ → Fr h₀ L s.heap m → (Mine.hd.heap_39 w.params).In h₀ →
    Top Mine.hd.view_39 (looseW Mine.hd.view_39 [Str.ofString "_twin_re_1", Str.ofString "_twin_re_2"]) mean mg mb h₀ → cs.kind = .function →
    dp + D < recursionLimit → un + U < cLine → Pre s →
    (∀ (v : Value) (h' : Heap) (tk' : Nat), (∀ b o, s.heap.get? b = some o → h'.get? b = some o) → Post s h' tk' v → Q v { s with heap := h', toks := tk' }) →
    wpAny (model PySem.Challenge.rw_sw0015_01.row.prog w) (ktrTop dp un gd cn cs L a ccd cl outer) (call (.ref f) vs) Q E s
theorem Cu.use {w : World} {mean : ExcName → Option Value} {mg mb : Str → Option Value} {f : Addr} {vs : List Value} {D U : Nat}
    {Pre : Shared → Prop} {Post : Shared → Heap → Nat → Value → Prop} (h : Cu w mean mg mb f vs D U Pre Post)
    {dp un : Nat} {gd : Option (List Code)} {cn : Str} {cs : Scope} {a : Addr} {ccd : Value} {cl : List (Str × Addr)} {outer : List Env} {A₀ : Around} {base h₀ : Heap} {L : Addr} {m : Str → Option Value} {s : Shared} {news : List (Addr × Obj)} {Q E : Value → Shared → Prop}
    (hB : Below A₀ base outer h₀) (hF : Fr h₀ L s.heap m) (hX : (Mine.hd.heap_39 w.params).In h₀) (hN : News h₀ L s.heap news)
    (hT : Top Mine.hd.view_39 (looseW Mine.hd.view_39 [Str.ofString "_twin_re_1", Str.ofString "_twin_re_2"]) mean mg mb h₀) (hk : cs.kind = .function)
    (hd : dp + D < recursionLimit) (hu : un + U < cLine) (hp : Pre s)
    (hr : ∀ (v : Value) (h' : Heap) (tk' : Nat), (∀ b o, s.heap.get? b = some o → h'.get? b = some o) → Fr h₀ L h' m → News h₀ L h' news → Post s h' tk' v → Q v { s with heap := h', toks := tk' }) :
    wpAny (model PySem.Challenge.rw_sw0015_01.row.prog w) (ktrTop dp un gd cn cs L a ccd cl outer) (call (.ref f) vs) Q E s :=
  h dp un gd cn cs a ccd cl outer A₀ base h₀ L m s Q E hB hF hX hT hk hd hu hp fun v h' tk' kp po => hr v h' tk' kp (hF.keeps kp) (hN.grown kp) po
end
theorem resetOps : True := by w_top off; trivial
section
open PySem PySem.W PyProof.Rows
noncomputable def Cc (w : World) (mean : ExcName → Option Value) (mg mb : Str → Option Value) (f : Addr) (news : List (Addr × Obj)) (vs : List Value) (D U : Nat)
    (ret : Heap → Addr → (Str → Option Value) → Shared → (Value → Shared → Prop) → Prop) : Prop :=
  ∀ (dp un : Nat) (gd : Option (List Code)) (cn : Str) (cs : Scope) (a : Addr) (ccd : Value) (cl : List (Str × Addr)) (outer : List Env) (A₀ : Around) (base h₀ : Heap) (L : Addr) (m : Str → Option Value) (s : Shared) (Q E : Value → Shared → Prop),
    Below A₀ base outer h₀ → Fr h₀ L s.heap m → (Mine.hd.heap_39 w.params).In h₀ → News h₀ L s.heap news →
    Top Mine.hd.view_39 (looseW Mine.hd.view_39 [Str.ofString "_twin_re_1", Str.ofString "_twin_re_2"]) mean mg mb h₀ → cs.kind = .function →
    dp + D < recursionLimit → un + U < cLine → ret h₀ L m s Q →
    wpAny (model PySem.Challenge.rw_sw0015_01.row.prog w) (ktrTop dp un gd cn cs L a ccd cl outer) (call (.ref f) vs) Q E s
noncomputable def retV (news : List (Addr × Obj)) (R : Tok → Value) (h₀ : Heap) (L : Addr) (m : Str → Option Value) (s : Shared) (Q : Value → Shared → Prop) : Prop :=
  ∀ (t : Tok) (h' : Heap) (tk' : Nat), Fr h₀ L h' m → News h₀ L h' news → Q (R t) { s with heap := h', toks := tk' }
theorem Cc.use {w : World} {mean : ExcName → Option Value} {mg mb : Str → Option Value} {f : Addr} {news : List (Addr × Obj)} {vs : List Value} {D U : Nat}
    {ret : Heap → Addr → (Str → Option Value) → Shared → (Value → Shared → Prop) → Prop} (h : Cc w mean mg mb f news vs D U ret)
    {dp un : Nat} {gd : Option (List Code)} {cn : Str} {cs : Scope} {a : Addr} {ccd : Value} {cl : List (Str × Addr)} {outer : List Env} {A₀ : Around} {base h₀ : Heap} {L : Addr} {m : Str → Option Value} {s : Shared} {Q E : Value → Shared → Prop}
    (hB : Below A₀ base outer h₀) (hF : Fr h₀ L s.heap m) (hX : (Mine.hd.heap_39 w.params).In h₀) (hN : News h₀ L s.heap news)
    (hT : Top Mine.hd.view_39 (looseW Mine.hd.view_39 [Str.ofString "_twin_re_1", Str.ofString "_twin_re_2"]) mean mg mb h₀) (hk : cs.kind = .function)
    (hd : dp + D < recursionLimit) (hu : un + U < cLine) (hr : ret h₀ L m s Q) :
    wpAny (model PySem.Challenge.rw_sw0015_01.row.prog w) (ktrTop dp un gd cn cs L a ccd cl outer) (call (.ref f) vs) Q E s :=
  h dp un gd cn cs a ccd cl outer A₀ base h₀ L m s Q E hB hF hX hN hT hk hd hu hr
noncomputable def fr (a b : Int) : UInt64 := Float64.ofFrac (decide (a < 0) != decide (b < 0)) a.natAbs b.natAbs
theorem natAbs_big {n : Nat} (h : n < 1000) : n < 2 ^ 1023 := Nat.lt_of_lt_of_le h (by decide +kernel)
theorem over24 (h : 2 ^ 1024 - 2 ^ 970 ≤ (24 : Int).natAbs) : False := absurd h (by decide +kernel)
set_option maxRecDepth 100000 in
set_option maxHeartbeats 8000000 in
theorem c_lt {w : World} {mean : ExcName → Option Value} {mg mb : Str → Option Value} {news : List (Addr × Obj)} (a : Int) (b : Int) (ta : Tok) (tb : Tok) :
    Cc w mean mg mb 69 news [.int a ta, .int b tb] 1 8 (retV news (fun _ => .bool (decide (a < b)))) := by
  unfold Cc; k_fill; intro dp un gd cn cs ad ccd cl outer A₀ base h₀ L m s Q E hB hF hX hN hT hkind hdp hun hret
  refine wpAny_call ?_
  k_dflt cell_enter
  k_steps
  all_goals (first | exact hret _ _ _ (by assumption) (by assumption) | (refine (congrArg (fun v => Q v _) ?_).mp (hret 0 _ _ (by assumption) (by assumption)); first | (simp; done) | (refine congrArg Value.bool ?_; rw [Bool.eq_iff_iff]; simp)))
set_option maxRecDepth 100000 in
set_option maxHeartbeats 8000000 in
theorem c_eq {w : World} {mean : ExcName → Option Value} {mg mb : Str → Option Value} {news : List (Addr × Obj)} (a : Int) (b : Int) (ta : Tok) (tb : Tok) :
    Cc w mean mg mb 76 news [.int a ta, .int b tb] 1 8 (retV news (fun _ => .bool (decide (a = b)))) := by
  unfold Cc; k_fill; intro dp un gd cn cs ad ccd cl outer A₀ base h₀ L m s Q E hB hF hX hN hT hkind hdp hun hret
  refine wpAny_call ?_
  k_dflt cell_enter
  k_steps
  all_goals (first | exact hret _ _ _ (by assumption) (by assumption) | (refine (congrArg (fun v => Q v _) ?_).mp (hret 0 _ _ (by assumption) (by assumption)); first | (simp; done) | (refine congrArg Value.bool ?_; rw [Bool.eq_iff_iff]; simp)))
set_option maxRecDepth 100000 in
set_option maxHeartbeats 8000000 in
theorem c_ne {w : World} {mean : ExcName → Option Value} {mg mb : Str → Option Value} {news : List (Addr × Obj)} (a : Int) (b : Int) (ta : Tok) (tb : Tok) :
    Cc w mean mg mb 83 news [.int a ta, .int b tb] 1 8 (retV news (fun _ => .bool (decide (a ≠ b)))) := by
  unfold Cc; k_fill; intro dp un gd cn cs ad ccd cl outer A₀ base h₀ L m s Q E hB hF hX hN hT hkind hdp hun hret
  refine wpAny_call ?_
  k_dflt cell_enter
  k_steps
  all_goals (first | exact hret _ _ _ (by assumption) (by assumption) | (refine (congrArg (fun v => Q v _) ?_).mp (hret 0 _ _ (by assumption) (by assumption)); first | (simp; done) | (refine congrArg Value.bool ?_; rw [Bool.eq_iff_iff]; simp)))
set_option maxRecDepth 100000 in
set_option maxHeartbeats 8000000 in
theorem c_gt {w : World} {mean : ExcName → Option Value} {mg mb : Str → Option Value} {news : List (Addr × Obj)} (a : Int) (b : Int) (ta : Tok) (tb : Tok) :
    Cc w mean mg mb 90 news [.int a ta, .int b tb] 1 8 (retV news (fun _ => .bool (decide (b < a)))) := by
  unfold Cc; k_fill; intro dp un gd cn cs ad ccd cl outer A₀ base h₀ L m s Q E hB hF hX hN hT hkind hdp hun hret
  refine wpAny_call ?_
  k_dflt cell_enter
  k_steps
  all_goals (first | exact hret _ _ _ (by assumption) (by assumption) | (refine (congrArg (fun v => Q v _) ?_).mp (hret 0 _ _ (by assumption) (by assumption)); first | (simp; done) | (refine congrArg Value.bool ?_; rw [Bool.eq_iff_iff]; simp)))
set_option maxRecDepth 100000 in
set_option maxHeartbeats 8000000 in
theorem c_not_ {w : World} {mean : ExcName → Option Value} {mg mb : Str → Option Value} {news : List (Addr × Obj)} (a : Int) (ta : Tok) :
    Cc w mean mg mb 97 news [.int a ta] 1 8 (retV news (fun _ => .bool (decide (a = 0)))) := by
  unfold Cc; k_fill; intro dp un gd cn cs ad ccd cl outer A₀ base h₀ L m s Q E hB hF hX hN hT hkind hdp hun hret
  refine wpAny_call ?_
  k_dflt cell_enter
  k_steps
  all_goals (first | exact hret _ _ _ (by assumption) (by assumption) | (refine (congrArg (fun v => Q v _) ?_).mp (hret 0 _ _ (by assumption) (by assumption)); first | (simp; done) | (refine congrArg Value.bool ?_; rw [Bool.eq_iff_iff]; simp)))
set_option maxRecDepth 100000 in
set_option maxHeartbeats 8000000 in
theorem c_add {w : World} {mean : ExcName → Option Value} {mg mb : Str → Option Value} {news : List (Addr × Obj)} (a : Int) (b : Int) (ta : Tok) (tb : Tok) :
    Cc w mean mg mb 104 news [.int a ta, .int b tb] 1 8 (retV news (fun t => .int (a + b) t)) := by
  unfold Cc; k_fill; intro dp un gd cn cs ad ccd cl outer A₀ base h₀ L m s Q E hB hF hX hN hT hkind hdp hun hret
  refine wpAny_call ?_
  k_dflt cell_enter
  k_steps
  all_goals (first | exact hret _ _ _ (by assumption) (by assumption) | (refine (congrArg (fun v => Q v _) ?_).mp (hret 0 _ _ (by assumption) (by assumption)); first | (simp; done) | (refine congrArg Value.bool ?_; rw [Bool.eq_iff_iff]; simp)))
set_option maxRecDepth 100000 in
set_option maxHeartbeats 8000000 in
theorem c_and_ {w : World} {mean : ExcName → Option Value} {mg mb : Str → Option Value} {news : List (Addr × Obj)} (a : Bool) (b : Bool)  :
    Cc w mean mg mb 111 news [.bool a, .bool b] 1 8 (retV news (fun _ => .bool (a && b))) := by
  unfold Cc; k_fill; intro dp un gd cn cs ad ccd cl outer A₀ base h₀ L m s Q E hB hF hX hN hT hkind hdp hun hret
  refine wpAny_call ?_
  k_dflt cell_enter
  k_steps
  all_goals (first | exact hret _ _ _ (by assumption) (by assumption) | (refine (congrArg (fun v => Q v _) ?_).mp (hret 0 _ _ (by assumption) (by assumption)); first | (simp; done) | (refine congrArg Value.bool ?_; rw [Bool.eq_iff_iff]; simp)))
set_option maxRecDepth 100000 in
set_option maxHeartbeats 8000000 in
theorem c_or_ {w : World} {mean : ExcName → Option Value} {mg mb : Str → Option Value} {news : List (Addr × Obj)} (a : Bool) (b : Bool)  :
    Cc w mean mg mb 146 news [.bool a, .bool b] 1 8 (retV news (fun _ => .bool (a || b))) := by
  unfold Cc; k_fill; intro dp un gd cn cs ad ccd cl outer A₀ base h₀ L m s Q E hB hF hX hN hT hkind hdp hun hret
  refine wpAny_call ?_
  k_dflt cell_enter
  k_steps
  all_goals (first | exact hret _ _ _ (by assumption) (by assumption) | (refine (congrArg (fun v => Q v _) ?_).mp (hret 0 _ _ (by assumption) (by assumption)); first | (simp; done) | (refine congrArg Value.bool ?_; rw [Bool.eq_iff_iff]; simp)))
set_option maxRecDepth 100000 in
set_option maxHeartbeats 8000000 in
theorem c_sub {w : World} {mean : ExcName → Option Value} {mg mb : Str → Option Value} {news : List (Addr × Obj)} (a : Int) (b : Int) (ta : Tok) (tb : Tok) :
    Cc w mean mg mb 160 news [.int a ta, .int b tb] 1 8 (retV news (fun t => .int (a - b) t)) := by
  unfold Cc; k_fill; intro dp un gd cn cs ad ccd cl outer A₀ base h₀ L m s Q E hB hF hX hN hT hkind hdp hun hret
  refine wpAny_call ?_
  k_dflt cell_enter
  k_steps
  all_goals (first | exact hret _ _ _ (by assumption) (by assumption) | (refine (congrArg (fun v => Q v _) ?_).mp (hret 0 _ _ (by assumption) (by assumption)); first | (simp; done) | (refine congrArg Value.bool ?_; rw [Bool.eq_iff_iff]; simp)))
set_option maxRecDepth 100000 in
set_option maxHeartbeats 8000000 in
theorem c_mod {w : World} {mean : ExcName → Option Value} {mg mb : Str → Option Value} {news : List (Addr × Obj)} (a : Int) (b : Int) (ta : Tok) (tb : Tok) (hb : b ≠ 0) :
    Cc w mean mg mb 132 news [.int a ta, .int b tb] 1 8 (retV news (fun t => .int (Int.fmod a b) t)) := by
  unfold Cc; k_fill; intro dp un gd cn cs ad ccd cl outer A₀ base h₀ L m s Q E hB hF hX hN hT hkind hdp hun hret
  refine wpAny_call ?_
  k_dflt cell_enter
  k_steps
  all_goals (first | exact hret _ _ _ (by assumption) (by assumption) | (refine (congrArg (fun v => Q v _) ?_).mp (hret 0 _ _ (by assumption) (by assumption)); first | (simp; done) | (refine congrArg Value.bool ?_; rw [Bool.eq_iff_iff]; simp)))
set_option maxRecDepth 100000 in
set_option maxHeartbeats 8000000 in
theorem c_floordiv8 {w : World} {mean : ExcName → Option Value} {mg mb : Str → Option Value} {news : List (Addr × Obj)} (a : Int) (ta : Tok) (tb : Tok) :
    Cc w mean mg mb 118 news [.int a ta, .int 8 tb] 1 8 (retV news (fun t => .int (Int.fdiv a 8) t)) := by
  unfold Cc; k_fill; intro dp un gd cn cs ad ccd cl outer A₀ base h₀ L m s Q E hB hF hX hN hT hkind hdp hun hret
  refine wpAny_call ?_
  k_dflt cell_enter
  k_steps
  all_goals (first | exact hret _ _ _ (by assumption) (by assumption) | (refine (congrArg (fun v => Q v _) ?_).mp (hret 0 _ _ (by assumption) (by assumption)); first | (simp; done) | (refine congrArg Value.bool ?_; rw [Bool.eq_iff_iff]; simp)))
set_option maxRecDepth 100000 in
set_option maxHeartbeats 8000000 in
theorem c_lshift13 {w : World} {mean : ExcName → Option Value} {mg mb : Str → Option Value} {news : List (Addr × Obj)}  (ta : Tok) (tb : Tok) :
    Cc w mean mg mb 125 news [.int 1 ta, .int 3 tb] 1 8 (retV news (fun t => .int 8 t)) := by
  unfold Cc; k_fill; intro dp un gd cn cs ad ccd cl outer A₀ base h₀ L m s Q E hB hF hX hN hT hkind hdp hun hret
  refine wpAny_call ?_
  k_dflt cell_enter
  k_steps
  all_goals (first | exact hret _ _ _ (by assumption) (by assumption) | (refine (congrArg (fun v => Q v _) ?_).mp (hret 0 _ _ (by assumption) (by assumption)); first | (simp; done) | (refine congrArg Value.bool ?_; rw [Bool.eq_iff_iff]; simp)))
set_option maxRecDepth 100000 in
set_option maxHeartbeats 8000000 in
theorem c_rshift1 {w : World} {mean : ExcName → Option Value} {mg mb : Str → Option Value} {news : List (Addr × Obj)} (a : Int) (ta : Tok) (tb : Tok) (hb : 0 ≤ a ∧ a ≤ 8) :
    Cc w mean mg mb 153 news [.int a ta, .int 1 tb] 1 8 (retV news (fun t => .int (Int.fdiv a 2) t)) := by
  unfold Cc; k_fill; intro dp un gd cn cs ad ccd cl outer A₀ base h₀ L m s Q E hB hF hX hN hT hkind hdp hun hret
  refine wpAny_call ?_
  k_dflt cell_enter
  k_steps
  all_goals (first | exact hret _ _ _ (by assumption) (by assumption) | (refine (congrArg (fun v => Q v _) ?_).mp (hret 0 _ _ (by assumption) (by assumption)); first | (simp; done) | (refine congrArg Value.bool ?_; rw [Bool.eq_iff_iff]; simp)))
set_option maxRecDepth 100000 in
set_option maxHeartbeats 8000000 in
theorem c_xor {w : World} {mean : ExcName → Option Value} {mg mb : Str → Option Value} {news : List (Addr × Obj)} (a : Int) (b : Int) (ta : Tok) (tb : Tok) :
    Cc w mean mg mb 174 news [.int a ta, .int b tb] 1 8 (retV news (fun t => .int (Builtin.bitXor a b) t)) := by
  unfold Cc; k_fill; intro dp un gd cn cs ad ccd cl outer A₀ base h₀ L m s Q E hB hF hX hN hT hkind hdp hun hret
  refine wpAny_call ?_
  k_dflt cell_enter
  k_steps
  all_goals (first | exact hret _ _ _ (by assumption) (by assumption) | (refine (congrArg (fun v => Q v _) ?_).mp (hret 0 _ _ (by assumption) (by assumption)); first | (simp; done) | (refine congrArg Value.bool ?_; rw [Bool.eq_iff_iff]; simp)))
set_option maxRecDepth 100000 in
set_option maxHeartbeats 8000000 in
theorem c_truediv {w : World} {mean : ExcName → Option Value} {mg mb : Str → Option Value} {news : List (Addr × Obj)} (a : Int) (b : Int) (ta : Tok) (tb : Tok) (hb : b ≠ 0 ∧ a.natAbs < 1000) :
    Cc w mean mg mb 167 news [.int a ta, .int b tb] 1 8 (retV news (fun t => .float (fr a b) t)) := by
  unfold Cc; k_fill; intro dp un gd cn cs ad ccd cl outer A₀ base h₀ L m s Q E hB hF hX hN hT hkind hdp hun hret
  refine wpAny_call ?_
  k_dflt cell_enter
  k_steps
  all_goals (first | exact hret _ _ _ (by assumption) (by assumption) | (refine (congrArg (fun v => Q v _) ?_).mp (hret 0 _ _ (by assumption) (by assumption)); first | (simp; done) | (refine congrArg Value.bool ?_; rw [Bool.eq_iff_iff]; simp)))
set_option maxRecDepth 100000 in
set_option maxHeartbeats 8000000 in
theorem c_mulf24 {w : World} {mean : ExcName → Option Value} {mg mb : Str → Option Value} {news : List (Addr × Obj)} (a : UInt64) (ta : Tok) (tb : Tok) :
    Cc w mean mg mb 139 news [.float a ta, .int 24 tb] 1 8 (retV news (fun t => .float (Float64.mul a (Float64.ofInt 24)) t)) := by
  unfold Cc; k_fill; intro dp un gd cn cs ad ccd cl outer A₀ base h₀ L m s Q E hB hF hX hN hT hkind hdp hun hret
  refine wpAny_call ?_
  k_dflt cell_enter
  k_steps
  all_goals (first | exact hret _ _ _ (by assumption) (by assumption) | (refine (congrArg (fun v => Q v _) ?_).mp (hret 0 _ _ (by assumption) (by assumption)); first | (simp; done) | (refine congrArg Value.bool ?_; rw [Bool.eq_iff_iff]; simp)))
set_option maxRecDepth 100000 in
set_option maxHeartbeats 8000000 in
theorem c_mul {w : World} {mean : ExcName → Option Value} {mg mb : Str → Option Value} {news : List (Addr × Obj)} (a : Int) (b : Int) (ta : Tok) (tb : Tok) (hb : b.natAbs < 2 ^ 63) :
    Cc w mean mg mb 139 news [.int a ta, .int b tb] 1 8 (retV news (fun t => .int (a * b) t)) := by
  unfold Cc; k_fill; intro dp un gd cn cs ad ccd cl outer A₀ base h₀ L m s Q E hB hF hX hN hT hkind hdp hun hret
  refine wpAny_call ?_
  k_dflt cell_enter
  k_steps
  all_goals (first | exact hret _ _ _ (by assumption) (by assumption) | (refine (congrArg (fun v => Q v _) ?_).mp (hret 0 _ _ (by assumption) (by assumption)); first | (simp; done) | (refine congrArg Value.bool ?_; rw [Bool.eq_iff_iff]; simp)))
end
theorem resetSr : True := by w_top off; trivial
section
set_option maxRecDepth 100000
open PySem PySem.Sre
noncomputable def code1 : Array Nat := #[14, 4, 0, 1, 1, 6, 1, 16, 46, 1]
noncomputable def code2 : Array Nat := #[14, 9, 4, 1, 2, 16, 10, 16, 13, 0, 7, 7, 16, 13, 16, 10, 15, 18, 5, 16, 10, 15, 13, 11, 16, 13, 5, 5, 0, 16, 10, 1, 15, 2, 0, 1]
noncomputable def fr0 (pc s : Nat) (first : Bool) : Sre.Frame := { wait := .nextStart, pc, pos := s, outermost := first }
noncomputable def stA (code text : Array Nat) (pc s : Nat) (first : Bool) (seen : Seen) : M :=
  { code, text, lim := text.size, start := s, lastStart := text.size, wholeText := false, mustAdvance := false, pc, pos := s, handed := s, outermost := first, marks := #[],
    lastmark := -1, lastindex := -1, loops := #[], inner := none, frames := [fr0 pc s first], weight := 1, answer := none, seen, outcome := none }
theorem runFor_done {m : M} (h : m.outcome.isSome = true) : ∀ n, M.runFor n m = m
  | 0 => rfl
  | n + 1 => by show (if m.outcome.isSome then m else _) = m; rw [if_pos h]
theorem step_done {m : M} (h : m.outcome.isSome = true) : m.step = m := by
  show (if m.outcome.isSome then m else _) = m; rw [if_pos h]
theorem runFor_succ (n : Nat) (m : M) : M.runFor (n + 1) m = M.runFor n m.step := by
  show (if m.outcome.isSome then m else M.runFor n m.step) = _
  cases h : m.outcome.isSome with
  | true => rw [if_pos rfl, step_done h, runFor_done h]
  | false => rw [if_neg Bool.false_ne_true]
theorem runFor_add (a b : Nat) (m : M) : M.runFor (a + b) m = M.runFor b (M.runFor a m) := by
  induction a generalizing m with
  | zero => rw [Nat.zero_add]; rfl
  | succ a ih => rw [Nat.succ_add, runFor_succ, runFor_succ, ih]
theorem start1 (text : Array Nat) (s : Nat) : ∃ seen, (s < text.size → forSearch code1 text 0 s text.size false = stA code1 text 5 s true seen) := by
  apply Exists.intro
  case h =>
    intro h
    unfold forSearch
    have h1 : ¬ (s > text.size ∨ text.size - s < 1) := by omega
    show (if s > text.size || text.size - s < 1 then _ else _) = _
    rw [if_neg (by simpa using h1)]
    rfl
theorem a1_no {text : Array Nat} {s : Nat} {first : Bool} {seen : Seen} (h : (s == 0 || text.getD (s - 1) 0 == 10) = false) (hs : s < text.size) :
    ∃ seen', M.runFor 2 (stA code1 text 5 s first seen) = stA code1 text 5 (s + 1) false seen' := by
  apply Exists.intro
  case h =>
  rw [runFor_succ, runFor_succ]
  show M.step (M.step (stA code1 text 5 s first seen)) = _
  have e : M.step (stA code1 text 5 s first seen) = if (s == 0 || text.getD (s - 1) 0 == 10) = true then _ else _ := rfl
  rw [e, h, if_neg Bool.false_ne_true]
  show (if s < text.size then _ else _) = _
  rw [if_pos hs]
  rfl
theorem a1_end {text : Array Nat} {s : Nat} {first : Bool} {seen : Seen} (h : (s == 0 || text.getD (s - 1) 0 == 10) = false) (hs : s = text.size) :
    (M.runFor 3 (stA code1 text 5 s first seen)).outcome = some .failed := by
  rw [runFor_succ, runFor_succ, runFor_succ]
  show (M.step (M.step (M.step (stA code1 text 5 s first seen)))).outcome = _
  have e : M.step (stA code1 text 5 s first seen) = if (s == 0 || text.getD (s - 1) 0 == 10) = true then _ else _ := rfl
  rw [e, h, if_neg Bool.false_ne_true]
  show (M.step (if s < text.size then _ else _)).outcome = _
  rw [if_neg (by omega)]
  rfl
theorem a1_lit_no {text : Array Nat} {s : Nat} {first : Bool} {seen : Seen} (h : (s == 0 || text.getD (s - 1) 0 == 10) = true) (hs : s < text.size) (hc : (text.getD s 0 == 46) = false) :
    ∃ seen', M.runFor 3 (stA code1 text 5 s first seen) = stA code1 text 5 (s + 1) false seen' := by
  apply Exists.intro
  case h =>
  rw [runFor_succ, runFor_succ, runFor_succ]
  show M.step (M.step (M.step (stA code1 text 5 s first seen))) = _
  have e : M.step (stA code1 text 5 s first seen) = if (s == 0 || text.getD (s - 1) 0 == 10) = true then _ else _ := rfl
  rw [e, h, if_pos rfl]
  have e2 : ∀ seen', M.step { stA code1 text 5 s first seen' with pc := 7 } = if s ≥ text.size then _ else (match (Except.ok (text.getD s 0 == 46, _) : Except String (Bool × Seen)) with | .error why => _ | .ok (false, seen) => _ | .ok (true, seen) => _) := fun _ => rfl
  refine (congrArg M.step (e2 _)).trans ?_
  rw [if_neg (by omega), hc]
  show (if s < text.size then _ else _) = _
  rw [if_pos hs]
  rfl
/-- the machine under one attempt that starts at s, the pattern's word at pc, the text's place at pos -/
noncomputable def stB (code text : Array Nat) (s : Nat) (first : Bool) (pc0 pc pos : Nat) (seen : Seen) : M :=
  { stA code text pc0 s first seen with pc := pc, pos := pos }
theorem stB_end {code text : Array Nat} {s : Nat} {first : Bool} {pc0 pc pos : Nat} {seen : Seen} (hc : (if pc < code.size then ops[code.getD pc 0]? else none) = some .SUCCESS) :
    (M.runFor 3 (stB code text s first pc0 pc pos seen)).outcome = some .matched ∧ (M.runFor 3 (stB code text s first pc0 pc pos seen)).start = s ∧ (M.runFor 3 (stB code text s first pc0 pc pos seen)).handed = pos := by
  have hs : pc < code.size := by
    by_cases h : pc < code.size
    · exact h
    · rw [if_neg h] at hc; cases hc
  rw [if_pos hs] at hc
  have e1 : M.step (stB code text s first pc0 pc pos seen) = M.exec (stB code text s first pc0 pc pos seen) := by
    show (if pc < code.size then M.exec (stB code text s first pc0 pc pos seen) else _) = _
    rw [if_pos hs]
  have e2 : ∃ seen', M.exec (stB code text s first pc0 pc pos seen) = { stB code text s first pc0 pc pos seen' with handed := pos, answer := some true } := by
    apply Exists.intro
    case h =>
    unfold M.exec
    have hw : ops[M.word (stB code text s first pc0 pc pos seen) 0]? = some .SUCCESS := hc
    rw [hw]
    show (if (first && ((false && _) || (false && _))) = true then _ else _) = _
    rw [if_neg (by cases first <;> simp)]
    rfl
  obtain ⟨seen', e2⟩ := e2
  rw [runFor_succ, runFor_succ, runFor_succ, e1, e2]
  exact ⟨rfl, rfl, rfl⟩
theorem a1_lit_yes {text : Array Nat} {s : Nat} {first : Bool} {seen : Seen} (h : (s == 0 || text.getD (s - 1) 0 == 10) = true) (hs : s < text.size) (hc : (text.getD s 0 == 46) = true) :
    (M.runFor 5 (stA code1 text 5 s first seen)).outcome = some .matched ∧ (M.runFor 5 (stA code1 text 5 s first seen)).start = s ∧ (M.runFor 5 (stA code1 text 5 s first seen)).handed = s + 1 := by
  have key : ∃ seen', M.runFor 2 (stA code1 text 5 s first seen) = stB code1 text s first 5 9 (s + 1) seen' := by
    apply Exists.intro
    case h =>
    rw [runFor_succ, runFor_succ]
    show M.step (M.step (stA code1 text 5 s first seen)) = _
    have e : M.step (stA code1 text 5 s first seen) = if (s == 0 || text.getD (s - 1) 0 == 10) = true then _ else _ := rfl
    rw [e, h, if_pos rfl]
    have e2 : ∀ seen', M.step { stA code1 text 5 s first seen' with pc := 7 } = if s ≥ text.size then _ else (match (Except.ok (text.getD s 0 == 46, _) : Except String (Bool × Seen)) with | .error why => _ | .ok (false, seen) => _ | .ok (true, seen) => _) := fun _ => rfl
    refine (e2 _).trans ?_
    rw [if_neg (by omega), hc]
    rfl
  obtain ⟨seen', k⟩ := key
  rw [show (5 : Nat) = 2 + 3 from rfl, runFor_add, k]
  exact stB_end rfl
theorem a1_end2 {text : Array Nat} {s : Nat} {first : Bool} {seen : Seen} (h : (s == 0 || text.getD (s - 1) 0 == 10) = true) (hs : s = text.size) :
    (M.runFor 4 (stA code1 text 5 s first seen)).outcome = some .failed := by
  rw [runFor_succ, runFor_succ, runFor_succ, runFor_succ]
  show (M.step (M.step (M.step (M.step (stA code1 text 5 s first seen))))).outcome = _
  have e : M.step (stA code1 text 5 s first seen) = if (s == 0 || text.getD (s - 1) 0 == 10) = true then _ else _ := rfl
  rw [e, h, if_pos rfl]
  have e2 : ∀ seen', M.step { stA code1 text 5 s first seen' with pc := 7 } = if s ≥ text.size then _ else (match (Except.ok (text.getD s 0 == 46, _) : Except String (Bool × Seen)) with | .error why => _ | .ok (false, seen) => _ | .ok (true, seen) => _) := fun _ => rfl
  refine (congrArg (fun m => (M.step (M.step m)).outcome) (e2 _)).trans ?_
  rw [if_pos (by omega)]
  show (M.step (if s < text.size then _ else _)).outcome = _
  rw [if_neg (by omega)]
  rfl
noncomputable def hit1 (text : Array Nat) (p : Nat) : Bool := (p == 0 || text.getD (p - 1) 0 == 10) && text.getD p 0 == 46
noncomputable def Found (text : Array Nat) (hit : Nat → Bool) (width : Nat → Nat) (s : Nat) (m : M) : Prop :=
  (∃ p, s ≤ p ∧ p < text.size ∧ hit p = true ∧ (∀ q, s ≤ q → q < p → hit q = false) ∧ m.outcome = some .matched ∧ m.start = p ∧ m.handed = p + width p) ∨
    ((∀ q, s ≤ q → q < text.size → hit q = false) ∧ m.outcome = some .failed)
theorem search1 (text : Array Nat) : ∀ (k s : Nat) (first : Bool) (seen : Seen), s + k = text.size →
    ∃ N, N ≤ 3 * k + 6 ∧ Found text (hit1 text) (fun _ => 1) s (M.runFor N (stA code1 text 5 s first seen))
  | 0, s, first, seen, hk => by
    have hs : s = text.size := by omega
    cases h : (s == 0 || text.getD (s - 1) 0 == 10) with
    | false => exact ⟨3, by omega, .inr ⟨fun q h1 h2 => by omega, a1_end h hs⟩⟩
    | true => exact ⟨4, by omega, .inr ⟨fun q h1 h2 => by omega, a1_end2 h hs⟩⟩
  | k + 1, s, first, seen, hk => by
    have hs : s < text.size := by omega
    have next : ∀ (j : Nat) (hj : j ≤ 3) (seen' : Seen), M.runFor j (stA code1 text 5 s first seen) = stA code1 text 5 (s + 1) false seen' → hit1 text s = false →
        ∃ N, N ≤ 3 * (k + 1) + 6 ∧ Found text (hit1 text) (fun _ => 1) s (M.runFor N (stA code1 text 5 s first seen)) := by
      intro j hj seen' e hno
      obtain ⟨N, hN, hf⟩ := search1 text k (s + 1) false seen' (by omega)
      refine ⟨j + N, by omega, ?_⟩
      rw [runFor_add, e]
      rcases hf with ⟨p, h1, h2, h3, h4, r⟩ | ⟨h1, r⟩
      · refine .inl ⟨p, by omega, h2, h3, fun q q1 q2 => ?_, r⟩
        by_cases hq : q = s
        · rw [hq]; exact hno
        · exact h4 q (by omega) q2
      · refine .inr ⟨fun q q1 q2 => ?_, r⟩
        by_cases hq : q = s
        · rw [hq]; exact hno
        · exact h1 q (by omega) q2
    cases h : (s == 0 || text.getD (s - 1) 0 == 10) with
    | false =>
      obtain ⟨seen', e⟩ := a1_no (first := first) (seen := seen) h hs
      exact next 2 (by omega) seen' e (by unfold hit1; rw [h]; rfl)
    | true =>
      cases hc : (text.getD s 0 == 46) with
      | false =>
        obtain ⟨seen', e⟩ := a1_lit_no (first := first) (seen := seen) h hs hc
        exact next 3 (by omega) seen' e (by unfold hit1; rw [h, hc]; rfl)
      | true =>
        obtain ⟨e1, e2, e3⟩ := a1_lit_yes (first := first) (seen := seen) h hs hc
        exact ⟨5, by omega, .inl ⟨s, Nat.le_refl _, hs, by unfold hit1; rw [h, hc]; rfl, fun q h1 h2 => by omega, e1, e2, e3⟩⟩
-- the second pattern
noncomputable def frB (alt s : Nat) : Sre.Frame := { wait := .nextBranch, pc := alt, pos := s, outermost := true }
noncomputable def stC (text : Array Nat) (s alt pc pos : Nat) (seen : Seen) : M :=
  { stA code2 text 10 s true seen with pc := pc, pos := pos, frames := [frB alt s, fr0 10 s true], weight := 2 }
theorem c_start {text : Array Nat} {s : Nat} {seen : Seen} : ∃ seen', M.step (stA code2 text 10 s true seen) = stC text s 11 12 s seen' := by
  apply Exists.intro
  case h => rfl
theorem c_lit {text : Array Nat} {s alt pc pos : Nat} {seen : Seen} (hpc : pc < 36) (hop : ops[code2.getD pc 0]? = some .LITERAL) :
    ∃ seen' seen'', M.step (stC text s alt pc pos seen) = if pos ≥ text.size then (stC text s alt pc pos seen').say false else if (text.getD pos 0 == code2.getD (pc + 1) 0) = true then stC text s alt (pc + 2) (pos + 1) seen'' else (stC text s alt pc pos seen'').say false := by
  apply Exists.intro
  case h =>
  apply Exists.intro
  case h =>
  have e1 : M.step (stC text s alt pc pos seen) = M.exec (stC text s alt pc pos seen) := by
    show (if pc < code2.size then M.exec _ else _) = _
    rw [if_pos (show pc < code2.size from hpc)]
  rw [e1]
  unfold M.exec
  have hw : ops[M.word (stC text s alt pc pos seen) 0]? = some .LITERAL := hop
  rw [hw]
  show (if pos ≥ text.size then _ else (match accepts code2 pc (text.getD pos 0) _ with | .error why => _ | .ok (false, seen) => _ | .ok (true, seen) => _)) = _
  by_cases hp : pos ≥ text.size
  · rw [if_pos hp, if_pos hp]; rfl
  · rw [if_neg hp, if_neg hp]
    have ha : ∀ sn, accepts code2 pc (text.getD pos 0) sn = .ok (text.getD pos 0 == code2.getD (pc + 1) 0, sn) := by
      intro sn; unfold accepts; rw [hop]
    have hi : itemWidth code2 pc = 2 := by unfold itemWidth; rw [hop]
    rw [ha]
    cases hc : (text.getD pos 0 == code2.getD (pc + 1) 0) with
    | false => rw [if_neg Bool.false_ne_true]; rfl
    | true =>
      rw [if_pos rfl]
      show ({ stC text s alt pc pos _ with seen := _, pc := pc + itemWidth code2 pc, pos := pos + 1 } : M) = _
      rw [hi]; rfl
theorem c_no {text : Array Nat} {s alt alt' pc pos : Nat} {seen : Seen} (h : alt + code2.getD alt 0 = alt') (h0 : (code2.getD alt' 0 == 0) = false) :
    M.step ((stC text s alt pc pos seen).say false) = stC text s alt' (alt' + 1) s seen := by
  show (M.alternative _ (alt + code2.getD alt 0) _) = _
  rw [h]
  show (if (code2.getD alt' 0 == 0) = true then _ else _) = _
  rw [h0, if_neg Bool.false_ne_true]
  rfl
theorem c_jump {text : Array Nat} {s alt pc pos : Nat} {seen : Seen} (hpc : pc < 36) (hop : ops[code2.getD pc 0]? = some .JUMP) :
    ∃ seen', M.step (stC text s alt pc pos seen) = stC text s alt (pc + 1 + code2.getD (pc + 1) 0) pos seen' := by
  apply Exists.intro
  case h =>
  have e1 : M.step (stC text s alt pc pos seen) = M.exec (stC text s alt pc pos seen) := by
    show (if pc < code2.size then M.exec _ else _) = _
    rw [if_pos (show pc < code2.size from hpc)]
  rw [e1]
  unfold M.exec
  have hw : ops[M.word (stC text s alt pc pos seen) 0]? = some .JUMP := hop
  rw [hw]; rfl
theorem c_end {text : Array Nat} {s alt pos : Nat} {seen : Seen} :
    (M.runFor 4 (stC text s alt 35 pos seen)).outcome = some .matched ∧ (M.runFor 4 (stC text s alt 35 pos seen)).start = s ∧ (M.runFor 4 (stC text s alt 35 pos seen)).handed = pos := by
  have e : ∃ seen', M.step (stC text s alt 35 pos seen) = { stC text s alt 35 pos seen' with handed := pos, answer := some true } := by
    apply Exists.intro
    case h => rfl
  obtain ⟨seen', e⟩ := e
  rw [runFor_succ, e, runFor_succ, runFor_succ, runFor_succ]
  exact ⟨rfl, rfl, rfl⟩
-- the look behind the carriage return
noncomputable def stD (text : Array Nat) (s pc pos : Nat) (seen : Seen) : M :=
  { stA code2 text 10 s true seen with pc := pc, pos := pos, handed := s + 1, outermost := false, frames := [{ wait := .lookNot, pc := 26, pos := s + 1, outermost := true }, frB 23 s, fr0 10 s true], weight := 3 }
theorem d_start {text : Array Nat} {s : Nat} {seen : Seen} : ∃ seen', M.step (stC text s 23 26 (s + 1) seen) = stD text s 29 (s + 1) seen' := by
  apply Exists.intro
  case h =>
  rfl
theorem d_lit {text : Array Nat} {s : Nat} {seen : Seen} (h : s + 1 < text.size → (text.getD (s + 1) 0 == 10) = false) :
    ∃ seen', M.step (stD text s 29 (s + 1) seen) = (stD text s 29 (s + 1) seen').say false := by
  by_cases hp : s + 1 ≥ text.size
  · apply Exists.intro
    case h =>
    have e1 : M.step (stD text s 29 (s + 1) seen) = if s + 1 ≥ text.size then _ else (match (Except.ok (text.getD (s + 1) 0 == 10, _) : Except String (Bool × Seen)) with | .error why => _ | .ok (false, seen) => _ | .ok (true, seen) => _) := rfl
    rw [e1, if_pos hp]; rfl
  · apply Exists.intro
    case h =>
    have e1 : M.step (stD text s 29 (s + 1) seen) = if s + 1 ≥ text.size then _ else (match (Except.ok (text.getD (s + 1) 0 == 10, _) : Except String (Bool × Seen)) with | .error why => _ | .ok (false, seen) => _ | .ok (true, seen) => _) := rfl
    rw [e1, if_neg hp, h (by omega)]; rfl
theorem d_back {text : Array Nat} {s : Nat} {seen : Seen} : ∃ h, M.step ((stD text s 29 (s + 1) seen).say false) = { stC text s 23 32 (s + 1) seen with handed := h } := by
  apply Exists.intro
  case h => rfl
theorem d_end {text : Array Nat} {s h : Nat} {seen : Seen} :
    let m := M.runFor 5 { stC text s 23 32 (s + 1) seen with handed := h }
    m.outcome = some .matched ∧ m.start = s ∧ m.handed = s + 1 := by
  have e : ∃ seen', M.step (M.step { stC text s 23 32 (s + 1) seen with handed := h }) = { stC text s 23 35 (s + 1) seen' with handed := s + 1, answer := some true } := by
    obtain ⟨s1, e1⟩ : ∃ s1, M.step { stC text s 23 32 (s + 1) seen with handed := h } = { stC text s 23 35 (s + 1) s1 with handed := h } := by
      apply Exists.intro
      case h => rfl
    rw [e1]
    apply Exists.intro
    case h => rfl
  obtain ⟨seen', e⟩ := e
  dsimp only
  rw [runFor_succ, runFor_succ, e, runFor_succ, runFor_succ, runFor_succ]
  exact ⟨rfl, rfl, rfl⟩
noncomputable def hit2 (text : Array Nat) (p : Nat) : Bool := text.getD p 0 == 10 || text.getD p 0 == 13
noncomputable def width2 (text : Array Nat) (p : Nat) : Nat := if text.getD p 0 = 13 ∧ p + 1 < text.size ∧ text.getD (p + 1) 0 = 10 then 2 else 1
noncomputable def Ends (m : M) (s e : Nat) : Prop := m.outcome = some .matched ∧ m.start = s ∧ m.handed = e
theorem at2 {text : Array Nat} {s : Nat} {seen : Seen} (hs : s < text.size) (hh : hit2 text s = true) :
    ∃ N, N ≤ 40 ∧ Ends (M.runFor N (stA code2 text 10 s true seen)) s (s + width2 text s) := by
  have go : ∀ {m m' : M} {e k : Nat}, m.step = m' → (∃ N, N ≤ k ∧ Ends (M.runFor N m') s e) → ∃ N, N ≤ k + 1 ∧ Ends (M.runFor N m) s e := by
    rintro m m' e k h ⟨N, hN, r⟩
    exact ⟨N + 1, by omega, by rw [runFor_succ, h]; exact r⟩
  have up : ∀ {m : M} {e k j : Nat}, k ≤ j → (∃ N, N ≤ k ∧ Ends (M.runFor N m) s e) → ∃ N, N ≤ j ∧ Ends (M.runFor N m) s e := by
    rintro m e k j h ⟨N, hN, r⟩; exact ⟨N, by omega, r⟩
  obtain ⟨s1, e1⟩ := c_start (text := text) (s := s) (seen := seen)
  refine up (k := 24 + 1) (by omega) (go e1 ?_)
  obtain ⟨s2, s3, e2⟩ := c_lit (text := text) (s := s) (alt := 11) (pc := 12) (pos := s) (seen := s1) (by omega) rfl
  rw [if_neg (by omega)] at e2
  have k13 : code2.getD 13 0 = 13 := rfl
  have k15 : code2.getD 15 0 = 10 := rfl
  have k20 : code2.getD 20 0 = 10 := rfl
  have k25 : code2.getD 25 0 = 13 := rfl
  by_cases c13 : text.getD s 0 = 13
  · -- a carriage return
    rw [show code2.getD (12 + 1) 0 = 13 from rfl, c13, if_pos (by decide)] at e2
    refine up (k := 23 + 1) (by omega) (go e2 ?_)
    obtain ⟨s4, s5, e3⟩ := c_lit (text := text) (s := s) (alt := 11) (pc := 14) (pos := s + 1) (seen := s3) (by omega) rfl
    rw [show code2.getD (14 + 1) 0 = 10 from rfl] at e3
    by_cases n10 : s + 1 < text.size ∧ text.getD (s + 1) 0 = 10
    · rw [if_neg (by omega), n10.2, if_pos (by decide)] at e3
      refine up (k := 22 + 1) (by omega) (go e3 ?_)
      obtain ⟨s6, e4⟩ := c_jump (text := text) (s := s) (alt := 11) (pc := 16) (pos := s + 1 + 1) (seen := s5) (by omega) rfl
      refine up (k := 21 + 1) (by omega) (go e4 ?_)
      rw [show s + width2 text s = s + 1 + 1 by unfold width2; rw [if_pos ⟨c13, n10.1, n10.2⟩]]
      exact ⟨4, by omega, c_end⟩
    · have e3' : ∃ sn, M.step (stC text s 11 14 (s + 1) s3) = (stC text s 11 14 (s + 1) sn).say false := by
        rw [e3]
        by_cases hp : s + 1 ≥ text.size
        · exact ⟨_, if_pos hp⟩
        · have hb : (text.getD (s + 1) 0 == 10) = false := by
            cases hb : (text.getD (s + 1) 0 == 10) with
            | false => rfl
            | true => exact absurd ⟨by omega, by simpa using hb⟩ n10
          rw [if_neg hp, hb, if_neg Bool.false_ne_true]
          exact ⟨_, rfl⟩
      obtain ⟨s6, e3'⟩ := e3'
      refine up (k := 22 + 1) (by omega) (go e3' ?_)
      refine up (k := 21 + 1) (by omega) (go (c_no (alt' := 18) rfl rfl) ?_)
      obtain ⟨s7, s8, e5⟩ := c_lit (text := text) (s := s) (alt := 18) (pc := 19) (pos := s) (seen := s6) (by omega) rfl
      rw [if_neg (by omega), show code2.getD (19 + 1) 0 = 10 from rfl, c13, if_neg (by decide)] at e5
      refine up (k := 20 + 1) (by omega) (go e5 ?_)
      refine up (k := 19 + 1) (by omega) (go (c_no (alt' := 23) rfl rfl) ?_)
      obtain ⟨s9, s10, e6⟩ := c_lit (text := text) (s := s) (alt := 23) (pc := 24) (pos := s) (seen := s8) (by omega) rfl
      rw [if_neg (by omega), show code2.getD (24 + 1) 0 = 13 from rfl, c13, if_pos (by decide)] at e6
      refine up (k := 18 + 1) (by omega) (go e6 ?_)
      obtain ⟨s11, e7⟩ := d_start (text := text) (s := s) (seen := s10)
      refine up (k := 17 + 1) (by omega) (go e7 ?_)
      obtain ⟨s12, e8⟩ := d_lit (text := text) (s := s) (seen := s11) (fun hp => by
        cases hb : (text.getD (s + 1) 0 == 10) with
        | false => rfl
        | true => exact absurd ⟨hp, by simpa using hb⟩ n10)
      refine up (k := 16 + 1) (by omega) (go e8 ?_)
      obtain ⟨h9, e9⟩ := d_back (text := text) (s := s) (seen := s12)
      refine up (k := 15 + 1) (by omega) (go e9 ?_)
      rw [show s + width2 text s = s + 1 by unfold width2; rw [if_neg (fun q => n10 ⟨q.2.1, q.2.2⟩)]]
      exact ⟨5, by omega, d_end⟩
  · have c10 : text.getD s 0 = 10 := by
      unfold hit2 at hh
      simp only [Bool.or_eq_true, beq_iff_eq] at hh
      exact hh.resolve_right c13
    rw [show code2.getD (12 + 1) 0 = 13 from rfl, c10, if_neg (by decide)] at e2
    refine up (k := 23 + 1) (by omega) (go e2 ?_)
    refine up (k := 22 + 1) (by omega) (go (c_no (alt' := 18) rfl rfl) ?_)
    obtain ⟨s7, s8, e5⟩ := c_lit (text := text) (s := s) (alt := 18) (pc := 19) (pos := s) (seen := s3) (by omega) rfl
    rw [if_neg (by omega), show code2.getD (19 + 1) 0 = 10 from rfl, c10, if_pos (by decide)] at e5
    refine up (k := 21 + 1) (by omega) (go e5 ?_)
    obtain ⟨s6, e4⟩ := c_jump (text := text) (s := s) (alt := 18) (pc := 21) (pos := s + 1) (seen := s8) (by omega) rfl
    refine up (k := 20 + 1) (by omega) (go e4 ?_)
    rw [show s + width2 text s = s + 1 by unfold width2; rw [if_neg (fun q => c13 q.1)]]
    exact ⟨4, by omega, c_end⟩
theorem inSet2 (c : Nat) (seen : Seen) : ∃ seen', inSet code2 c 36 5 true seen = .ok (c == 10 || c == 13, seen') := by
  cases h : (c == 10) with
  | true =>
    apply Exists.intro
    case h =>
    show (if (c == 10) = true then _ else _) = _
    rw [h, if_pos rfl]
    rfl
  | false =>
    cases h' : (c == 13) with
    | true =>
      apply Exists.intro
      case h =>
      show (if (c == 10) = true then _ else (if (c == 13) = true then _ else _)) = _
      rw [h, if_neg Bool.false_ne_true, h', if_pos rfl]
      rfl
    | false =>
      apply Exists.intro
      case h =>
      show (if (c == 10) = true then _ else (if (c == 13) = true then _ else _)) = _
      rw [h, if_neg Bool.false_ne_true, h', if_neg Bool.false_ne_true]
      rfl
theorem adm (text : Array Nat) (m : M) (hc : m.code = code2) (ht : m.text = text) (hl : m.lim = text.size) : ∀ (k s : Nat) (seen : Seen), s + k = text.size →
    (∃ p seen', M.admitted m (k + 1) s seen = .ok (some p, seen') ∧ s ≤ p ∧ p < text.size ∧ hit2 text p = true ∧ ∀ q, s ≤ q → q < p → hit2 text q = false) ∨
      (∃ seen', M.admitted m (k + 1) s seen = .ok (none, seen') ∧ ∀ q, s ≤ q → q < text.size → hit2 text q = false)
  | 0, s, seen, hk => by
    refine .inr ⟨seen, ?_, fun q h1 h2 => by omega⟩
    show (if s ≥ m.lim then _ else _) = _
    rw [if_pos (by omega)]
  | k + 1, s, seen, hk => by
    have hs : ¬ s ≥ m.lim := by omega
    obtain ⟨seen', e⟩ := inSet2 (text.getD s 0) seen
    have e0 : M.admitted m (k + 1 + 1) s seen = match inSet code2 (text.getD s 0) 36 5 true seen with
      | .ok (true, seen) => .ok (some s, seen)
      | .ok (false, seen) => M.admitted m (k + 1) (s + 1) seen
      | .error why => .error why := by
      show (if s ≥ m.lim then _ else _) = _
      rw [if_neg hs, hc, ht]; rfl
    rw [e] at e0
    cases h : hit2 text s with
    | true =>
      have h' : (text.getD s 0 == 10 || text.getD s 0 == 13) = true := h
      rw [h'] at e0
      exact .inl ⟨s, seen', e0, Nat.le_refl _, by omega, h, fun q h1 h2 => by omega⟩
    | false =>
      have h' : (text.getD s 0 == 10 || text.getD s 0 == 13) = false := h
      rw [h'] at e0
      have e1 : M.admitted m (k + 1 + 1) s seen = M.admitted m (k + 1) (s + 1) seen' := e0
      rcases adm text m hc ht hl k (s + 1) seen' (by omega) with ⟨p, sn, a, b, c, d, e⟩ | ⟨sn, a, b⟩
      · refine .inl ⟨p, sn, e1.trans a, by omega, c, d, fun q h1 h2 => ?_⟩
        by_cases hq : q = s
        · rw [hq]; exact h
        · exact e q (by omega) h2
      · refine .inr ⟨sn, e1.trans a, fun q h1 h2 => ?_⟩
        by_cases hq : q = s
        · rw [hq]; exact h
        · exact b q (by omega) h2
theorem find1 (text : Array Nat) (s : Nat) (hs : s ≤ text.size) :
    ∃ N, N ≤ 3 * text.size + 40 ∧ Found text (hit1 text) (fun _ => 1) s (M.runFor N (forSearch code1 text 0 s text.size false)) := by
  by_cases h : s < text.size
  · obtain ⟨seen, e⟩ := start1 text s
    rw [e h]
    obtain ⟨N, hN, f⟩ := search1 text (text.size - s) s true seen (by omega)
    exact ⟨N, by omega, f⟩
  · refine ⟨1, by omega, .inr ⟨fun q h1 h2 => by omega, ?_⟩⟩
    have e : ∃ m : M, forSearch code1 text 0 s text.size false = m.say false ∧ m.outcome = none ∧ m.frames = [] := by
      unfold forSearch
      show ∃ m : M, (if s > text.size || text.size - s < 1 then _ else _) = m.say false ∧ _
      rw [if_pos (by simp; omega)]
      exact ⟨_, rfl, rfl, rfl⟩
    obtain ⟨m, e, e1, e2⟩ := e
    rw [e, runFor_succ]
    show (M.step (m.say false)).outcome = _
    obtain ⟨⟩ := m
    cases e1; cases e2
    rfl
theorem find2 (text : Array Nat) (s : Nat) (hs : s ≤ text.size) :
    ∃ N, N ≤ 3 * text.size + 40 ∧ Found text (hit2 text) (width2 text) s (M.runFor N (forSearch code2 text 0 s text.size false)) := by
  have fail : ∀ m : M, m.outcome = none → m.frames = [] → (M.runFor 1 (m.say false)).outcome = some .failed := by
    intro m e1 e2
    rw [runFor_succ]
    show (M.step (m.say false)).outcome = _
    obtain ⟨⟩ := m
    cases e1; cases e2
    rfl
  by_cases h : s < text.size
  · have e : ∃ m : M, forSearch code2 text 0 s text.size false = (match M.admitted m (text.size + 1 - s) s m.seen with
        | .ok (some s, seen) => M.attemptAt { m with mustAdvance := false, seen } s true
        | .ok (none, seen) => M.say { m with seen } false
        | .error why => m.stick why) ∧ m.code = code2 ∧ m.text = text ∧ m.lim = text.size ∧ m.outcome = none ∧ m.frames = [] ∧
        ∀ p seen', ∃ seen'', M.attemptAt { m with mustAdvance := false, seen := seen' } p true = stA code2 text 10 p true seen'' := by
      unfold forSearch
      show ∃ m : M, (if s > text.size || text.size - s < 1 then _ else _) = _ ∧ _
      rw [if_neg (by simp; omega)]
      exact ⟨_, rfl, rfl, rfl, rfl, rfl, rfl, fun p seen' => ⟨seen', rfl⟩⟩
    obtain ⟨m, e, ec, et, el, eo, ef, ea⟩ := e
    rw [e, show text.size + 1 - s = (text.size - s) + 1 by omega]
    rcases adm text m ec et el (text.size - s) s m.seen (by omega) with ⟨p, sn, a, b, c, d, ee⟩ | ⟨sn, a, b⟩
    · rw [a]
      obtain ⟨sn', ea⟩ := ea p sn
      obtain ⟨N, hN, r⟩ := at2 (text := text) (s := p) (seen := sn') c d
      refine ⟨N, by omega, .inl ⟨p, b, c, d, ee, ?_⟩⟩
      rw [← ea] at r
      exact r
    · rw [a]
      exact ⟨1, by omega, .inr ⟨b, fail _ eo ef⟩⟩
  · refine ⟨1, by omega, .inr ⟨fun q h1 h2 => by omega, ?_⟩⟩
    have e : ∃ m : M, forSearch code2 text 0 s text.size false = m.say false ∧ m.outcome = none ∧ m.frames = [] := by
      unfold forSearch
      show ∃ m : M, (if s > text.size || text.size - s < 1 then _ else _) = m.say false ∧ _
      rw [if_pos (by simp; omega)]
      exact ⟨_, rfl, rfl, rfl⟩
    obtain ⟨m, e, e1, e2⟩ := e
    rw [e]
    exact fail m e1 e2
end
theorem resetRe : True := by w_top off; trivial
section
open PySem PySem.W PyProof.Rows PySem.Calls PySem.Spec
set_option maxRecDepth 100000
theorem plainAttrs_pat : PlainAttrs "re.Pattern" :=
  ⟨⟨"object.__getattribute__", by rw [typeLookup_type, builtinLookup_eq_fast]; kernel_rfl, by decide +kernel⟩, by rw [typeLookup_type, builtinLookup_eq_fast]; kernel_rfl⟩
theorem slot_pat_sub : Slot "re.Pattern" "sub" "re.Pattern.sub" :=
  .of (owner := "re.Pattern") (n := "sub") (by rw [typeLookup_type, builtinLookup_eq_fast]; kernel_rfl) (by decide +kernel) (by decide +kernel) (by decide +kernel)
    (by first | exact .inl (by decide +kernel) | exact .inr (by decide +kernel)) (by rw [isSubtype_type]; kernel_rfl)
theorem type_pat_sub : typeOf (.builtin "re.Pattern.sub") = pure (.type "method_descriptor") := by show builtinType _ = _; rw [builtinType_eq_fast]; kernel_rfl
theorem entry_pat_sub : entryFor table "re.Pattern.sub" = some Builtin.«re.Pattern.sub» := entryFor_of_tree (by kernel_rfl)
theorem entry_pat_loop : entryFor table "re.Pattern.sub.loop" = some Builtin.«re.Pattern.sub.loop» := entryFor_of_tree (by kernel_rfl)
theorem owner_pat : Manifest.owners.lookup (String.ofList ['n', 'r', 'e', 't', 't', 'a', 'P', '.', 'e', 'r'].reverse) = some Manifest.sig_re_Pattern := by kernel_rfl
theorem args_pat_sub (a b c : Value) : argsOk "re.Pattern.sub" ⟨[a, b, c], []⟩ := by
  unfold argsOk; rw [signature?_of (id := "re.Pattern.sub") (n := ['b', 'u', 's']) (o := ['n', 'r', 'e', 't', 't', 'a', 'P', '.', 'e', 'r']) (by kernel_rfl) owner_pat]; kernel_rfl
theorem str_nocall : typeLookup (.type "str") "__call__" = pure none := by rw [typeLookup_type, builtinLookup_eq_fast]; kernel_rfl
section
open PySem.Builtin PySem.Builtin.Re
variable {Mo : Model} {A : Around} {E : Value → Shared → Prop} {s : Shared}
theorem drive {Q : Sre.M → Shared → Prop} : ∀ (T N : Nat) (m : Sre.M), N < 4 * T → (Sre.M.runFor N m).outcome.isSome = true → Q (Sre.M.runFor N m) s → wpAny Mo A (reDrive T m) Q E s
  | 0, N, m, h, _, _ => by omega
  | T + 1, N, m, h, ho, hq => by
    unfold reDrive
    show wpAny Mo A (if (Sre.M.runFor 4 m).outcome.isSome then pure (Sre.M.runFor 4 m) else do rule "sre.turn"; reDrive T (Sre.M.runFor 4 m)) Q E s
    by_cases h4 : N ≤ 4
    · have e : Sre.M.runFor 4 m = Sre.M.runFor N m := by
        rw [show (4 : Nat) = N + (4 - N) by omega, runFor_add, runFor_done ho]
      rw [e, if_pos ho]; exact wpAny_pure hq
    · have e : Sre.M.runFor N m = Sre.M.runFor (N - 4) (Sre.M.runFor 4 m) := by
        rw [← runFor_add]; congr 1; omega
      cases hd : (Sre.M.runFor 4 m).outcome.isSome with
      | true =>
        rw [if_pos rfl]
        rw [e, runFor_done hd] at hq
        exact wpAny_pure hq
      | false =>
        rw [if_neg Bool.false_ne_true]
        rw [e] at ho hq
        exact wpAny_bind (wpAny_rule (drive T (N - 4) _ (by omega) ho hq))
theorem forIn_nothing {f : Nat → PUnit → Sem (ForInStep PUnit)} (hf : ∀ i (Q : ForInStep PUnit → Shared → Prop), Q (.yield ⟨⟩) s → wpAny Mo A (f i ⟨⟩) Q E s) {Q : PUnit → Shared → Prop} (h : Q ⟨⟩ s) :
    ∀ l : List Nat, wpAny Mo A (forIn l PUnit.unit f) Q E s
  | [] => by rw [List.forIn_nil]; exact wpAny_pure h
  | a :: l => by
    rw [List.forIn_cons]
    exact wpAny_bind (hf a _ (forIn_nothing hf h l))
theorem runToEnd {Q : Option Sre.M → Shared → Prop} {m : Sre.M} {N : Nat} (hN : N < 2 ^ 60) {text : Array Nat} {hit : Nat → Bool} {width : Nat → Nat} {st : Nat}
    (hf : Found text hit width st (Sre.M.runFor N m))
    (hm : ∀ p m', st ≤ p → p < text.size → hit p = true → (∀ q, st ≤ q → q < p → hit q = false) → m'.start = p → m'.handed = p + width p → Q (some m') s)
    (hn : (∀ q, st ≤ q → q < text.size → hit q = false) → Q none s) : wpAny Mo A (reRunToEnd m) Q E s := by
  have ho : (Sre.M.runFor N m).outcome.isSome = true := by
    rcases hf with ⟨p, _, _, _, _, e, _⟩ | ⟨_, e⟩ <;> rw [e] <;> rfl
  unfold reRunToEnd
  refine wpAny_bind (drive (2 ^ 64) N m (by omega) ho ?_)
  refine wpAny_bind (forIn_nothing (fun i Q hq => ?_) ?_ _)
  · by_cases h : (Sre.M.runFor N m).seen.has i = true
    · rw [if_pos h]; exact wpAny_bind (wpAny_rule (wpAny_pure hq))
    · rw [if_neg h]; exact wpAny_pure hq
  · rcases hf with ⟨p, h1, h2, h3, h4, e, e1, e2⟩ | ⟨h1, e⟩
    · rw [e]; exact wpAny_pure (hm p _ h1 h2 h3 h4 e1 e2)
    · rw [e]; exact wpAny_pure (hn h1)
structure IsPat (h : Heap) (pa ca : Addr) (cvals : Array Value) : Prop where
  pat : ∃ ps pt fl ft, h.get? pa = some { cls := .type "re.Pattern", data := .fields #[.str ps pt, .int fl ft, .int 0 0, .none, .none, .ref ca, .int 0 0] }
  code : h.get? ca = some { cls := .type "tuple", data := .seq cvals 0 }
theorem wholeTarget {pa ca : Addr} {cvals : Array Value} {code : Array Nat} {x : Str} {t : Tok} {Q : ReTarget → Shared → Prop} (P : IsPat s.heap pa ca cvals) (hc : (cvals.map reRawOf).map (·.toNat) = code)
    (h : Q { pattern := .ref pa, string := .str x t, code, text := x.cps, kind := 0, groups := 0, pos := 0, lim := x.cps.size } s) : wpAny Mo A (reWholeTarget (.ref pa) (.str x t)) Q E s := by
  obtain ⟨⟨ps, pt, fl, ft, h1⟩, h2⟩ := P
  unfold reWholeTarget
  refine wpAny_bind (wpAny_fieldsOf h1 rfl ?_)
  refine wpAny_bind ?_
  unfold reTextOf
  refine wpAny_bind ?_
  refine wpAny_pure ?_
  dsimp only
  refine wpAny_pure ?_
  dsimp only
  rw [if_neg (by intro h; cases h), if_neg (by intro h; cases h)]
  refine wpAny_bind ?_
  unfold reNoCollectionInside
  rw [if_neg (by intro h; cases h)]
  refine wpAny_pure ?_
  refine wpAny_bind ?_
  unfold reRawItems
  refine wpAny_bind (wpAny_seqItems h2 rfl (wpAny_pure (wpAny_pure ?_)))
  rw [← hc] at h
  exact h
theorem litCheck {Q : Unit → Shared → Prop} {x : Str} {t : Tok} (h : Q () s) : wpAny Mo A (reLiteralCannotBeTurned (.str x t)) Q E s := by
  unfold reLiteralCannotBeTurned
  refine wpAny_bind ?_
  refine wpAny_pure ?_
  rw [if_neg (by intro h; cases h)]
  exact wpAny_pure h
/-- what the loop gives from a place on: no match, then the rest; a match at p, then up to it, the new text, and so on -/
structure Norm (text : Array Nat) (hit : Nat → Bool) (width : Nat → Nat) (rep : List Nat) (norm : Nat → List Nat) : Prop where
  none : ∀ s, s ≤ text.size → (∀ q, s ≤ q → q < text.size → hit q = false) → norm s = (text.extract s text.size).toList
  some : ∀ s p, s ≤ p → p < text.size → hit p = true → (∀ q, s ≤ q → q < p → hit q = false) → norm s = (text.extract s p).toList ++ rep ++ norm (p + width p)
  width : ∀ p, p < text.size → hit p = true → 1 ≤ width p ∧ p + width p ≤ text.size
noncomputable def cat (ys : List Str) : List Nat := (ys.map (·.cps.toList)).flatten
theorem strsAre_append {a b : List Value} {x y : List Str} (h : StrsAre a x) (h' : StrsAre b y) : StrsAre (a ++ b) (x ++ y) := by
  induction h with
  | nil => exact h'
  | cons z t _ ih => exact .cons z t ih
theorem cat_append (a b : List Str) : cat (a ++ b) = cat a ++ cat b := by simp [cat]
theorem strsAre_length {a : List Value} {x : List Str} (h : StrsAre a x) : a.length = x.length := by
  induction h with
  | nil => rfl
  | cons _ _ _ ih => simp [ih]
end
section
open PySem.Builtin PySem.Builtin.Re
variable {prog : Program} {w : World} {A : Around} {R : Result → Shared → Prop} {s : Shared}
noncomputable abbrev loopArgs (pa : Addr) (x : Str) (t : Tok) (rep : Str) (tr : Tok) (n done start : Int) (l : Addr) : Args :=
  ⟨[.ref pa, .str x t, .str rep tr, rawInt 0, rawInt 0, rawInt n, rawInt done, rawInt start, .bool false, .ref l, .bool false], []⟩
theorem glued_cat (ys : List Str) : ((Txt.join ⟨#[]⟩ ys).cps.toList) = cat ys := by
  have key : ∀ (l : List Str) (acc : Array Nat), (l.foldl (fun acc p => acc ++ (#[] : Array Nat) ++ p.cps) acc).toList = acc.toList ++ cat l := by
    intro l
    induction l with
    | nil => intro acc; simp [cat]
    | cons a l ih => intro acc; rw [List.foldl_cons, ih]; simp [cat]
  cases ys with
  | nil => rfl
  | cons a l =>
    show ((l.foldl (fun acc p => acc ++ (#[] : Array Nat) ++ p.cps) a.cps).toList) = _
    rw [key]; simp [cat]
theorem push_piece {M : Model} {A : Around} {E : Value → Shared → Prop} {h₀ h : Heap} {L l : Addr} {m : Str → Option Value} {pcs : List Value} {ep tk : Nat} {v : Value} {Q : Unit → Shared → Prop} {s : Shared}
    (F : Fr h₀ L h m) {news : List (Addr × Obj)} (N : News h₀ L h ((l, listOf pcs.toArray ep) :: news)) (hoff : ∀ p ∈ news, p.1 ≠ l) (hsz : pcs.length ≤ 10000000)
    (hq : ∀ h', Fr h₀ L h' m → News h₀ L h' ((l, listOf (pcs ++ [v]).toArray (ep + 1)) :: news) → Q () { s with heap := h', toks := tk }) :
    wpAny M A (updateSeq l (·.push v)) Q E { s with heap := h, toks := tk } := by
  have z := N _ List.mem_cons_self
  have hs : pcs.toArray.size ≤ sizeLine := by rw [List.size_toArray, sizeLine_eq]; omega
  have e : Obj.mapSeq (·.push v) (listOf pcs.toArray ep) = listOf (pcs ++ [v]).toArray (ep + 1) := by
    unfold Obj.mapSeq
    show ({ cls := _, dict := _, data := .seq (pcs.toArray.push v) (if ((pcs.toArray.push v).size == pcs.toArray.size) = true then ep else ep + 1), slots := _ } : Obj) = _
    rw [if_neg (by simp)]
    simp
  refine wpAny_updateSeq z.1 rfl (hq _ (F.change (Heap.SameBut.update ..) z.2.1 z.2.2) ?_) hs (by rw [Array.size_push]; omega)
  intro p hp
  rcases List.mem_cons.mp hp with rfl | hp
  · refine ⟨?_, z.2⟩
    rw [Heap.get?_update_self _ z.1 (by rw [e]; rfl), e]
  · exact ⟨((Heap.SameBut.update ..).2 _ (hoff p hp)).trans (N p (List.mem_cons_of_mem _ hp)).1, (N p (List.mem_cons_of_mem _ hp)).2⟩
theorem slice_piece {M : Model} {A : Around} {E : Value → Shared → Prop} {text : Array Nat} {b e tk : Nat} {Q : Value → Shared → Prop} {s : Shared} {h : Heap} (hsz : text.size ≤ 10000000)
    (hq : Q (.str ⟨text.extract b e⟩ tk) { s with heap := h, toks := tk + 1 }) : wpAny M A (reSlice text 0 b e) Q E { s with heap := h, toks := tk } := by
  unfold reSlice
  rw [if_pos (by rfl)]
  refine wpAny_mkStr hq ?_
  show (text.extract b e).size ≤ _
  rw [Array.size_extract, sizeLine_eq]
  omega
theorem le17 {a b : Nat} (h : a ≤ b) : 16 * a + b ≤ 17 * b := by omega
theorem sub_loop {pa ca l : Addr} {cvals : Array Value} {code : Array Nat} {x rep : Str} {t tr : Tok} {hit : Nat → Bool} {width : Nat → Nat} {norm : Nat → List Nat} {target : List Nat}
    (hc : (cvals.map reRawOf).map (·.toNat) = code) (hx : x.cps.size ≤ 100000) (hrep : rep.cps.size ≤ 16)
    (hfind : ∀ s, s ≤ x.cps.size → ∃ N, N ≤ 3 * x.cps.size + 40 ∧ Found x.cps hit width s (Sre.M.runFor N (Sre.forSearch code x.cps 0 s x.cps.size false)))
    (hn : Norm x.cps hit width rep.cps.toList norm) {h₀ : Heap} {L : Addr} {m : Str → Option Value} {news : List (Addr × Obj)} (hoff : ∀ p ∈ news, p.1 ≠ l) (hpa : IsPat h₀ pa ca cvals)
    (hR : ∀ (t' : Tok) (h' : Heap) (tk' : Nat) (y : Str), y.cps.toList = target → Fr h₀ L h' m → News h₀ L h' news → R (.ok (.ret (.str y t'))) { s with heap := h', toks := tk' }) :
    ∀ (k st : Nat) (n : Int) (pcs : List Value) (ys : List Str) (ep : Nat) (h : Heap) (tk : Nat), st + k = x.cps.size → Fr h₀ L h m → News h₀ L h ((l, listOf pcs.toArray ep) :: news) → StrsAre pcs ys →
      cat ys ++ norm st = target → ys.length ≤ 2 * st → (ys.map (·.length)).sum ≤ 16 * st →
      codeAny (model prog w) A (.builtin "re.Pattern.sub.loop" (loopArgs pa x t rep tr n st st l)) R { s with heap := h, toks := tk } := by
  intro k
  induction k using Nat.strongRecOn with
  | ind k ih =>
    intro st n pcs ys ep h tk hk F N hp hcat hlen hsum
    refine codeAny_builtin entry_pat_loop ?_
    have P : IsPat h pa ca cvals := ⟨let ⟨a, b, c, d, e⟩ := hpa.pat; ⟨a, b, c, d, F.keep _ _ e⟩, F.keep _ _ hpa.code⟩
    unfold Builtin.«re.Pattern.sub.loop»
    dsimp only [loopArgs, rawInt]
    refine wpAny_bind (wholeTarget P hc ?_)
    rw [if_pos (by rfl)]
    refine wpAny_bind (litCheck ?_)
    dsimp only
    refine wpAny_bind ?_
    rw [if_neg (by intro h; cases h)]
    unfold reNextFound
    dsimp only
    rw [Int.toNat_natCast]
    obtain ⟨N0, hN0, hf⟩ := hfind st (by omega)
    have hpl : pcs.length = ys.length := strsAre_length hp
    refine runToEnd (by omega) hf ?_ ?_
    · intro p m' h1 h2 h3 h4 e1 e2
      dsimp only
      have hw := hn.width p h2 h3
      have hns := hn.some st p h1 h2 h3 h4
      -- the part behind the slice
      have rest : ∀ (pcs' : List Value) (ys' : List Str) (ep' : Nat) (h' : Heap) (tk' : Nat), Fr h₀ L h' m → News h₀ L h' ((l, listOf pcs'.toArray ep') :: news) → StrsAre pcs' ys' → cat ys' ++ (rep.cps.toList ++ norm (p + width p)) = target →
          ys'.length ≤ 2 * st + 1 → (ys'.map (·.length)).sum ≤ 16 * st + (p - st) →
          wpAny (model prog w) (A.under (.builtin "re.Pattern.sub.loop" (loopArgs pa x t rep tr n st st l))) (do updateSeq l (·.push (.str rep tr)); again (.builtin "re.Pattern.sub.loop" ⟨[.ref pa, .str x t, .str rep tr, .int 0 0, .int 0 0, .int (n + 1) 0, .int (m'.handed : Nat) 0, .int (m'.handed : Nat) 0, .bool (m'.handed == m'.start), .ref l, .bool false], []⟩))
            (fun fin s' => match fin with | .done f => R (.ok f) s' | .again c' => c'.quiet = true ∧ codeAny (model prog w) A c' R s') (fun e s' => R (.error e) s') { s with heap := h', toks := tk' } := by
        intro pcs' ys' ep' h' tk' F' N' hp' hcat' hlen' hsum'
        have hpl' : pcs'.length = ys'.length := strsAre_length hp'
        refine wpAny_bind (push_piece F' N' hoff (by omega) fun h'' F'' N'' => ?_)
        refine wpAny_pure ⟨plainId_quiet (by decide +kernel) _, ?_⟩
        have eb : (m'.handed == m'.start) = false := by
          rw [e1, e2]; simp; omega
        rw [eb, e2]
        refine ih (x.cps.size - (p + width p)) (by omega) (p + width p) (n + 1) _ (ys' ++ [rep]) _ h'' tk' (by omega) F'' N'' (strsAre_append hp' (.cons rep tr .nil)) ?_ ?_ ?_
        · rw [cat_append, List.append_assoc]
          rw [show cat [rep] = rep.cps.toList by simp [cat]]
          exact hcat'
        · rw [List.length_append]; simp only [List.length_cons, List.length_nil]; omega
        · rw [List.map_append, List.sum_append]
          simp only [List.map_cons, List.map_nil, List.sum_cons, List.sum_nil]
          have : rep.length = rep.cps.size := rfl
          omega
      by_cases hlt : st < m'.start
      · rw [if_pos hlt]
        refine wpAny_bind (slice_piece (by omega) ?_)
        refine wpAny_bind (push_piece F N hoff (by omega) fun h' F' N' => ?_)
        rw [if_pos (by rfl)]
        refine wpAny_bind (wpAny_pure ?_)
        rw [if_pos (by rfl)]
        rw [e1] at N'
        refine rest _ (ys ++ [⟨x.cps.extract st p⟩]) _ h' _ F' N' (strsAre_append hp (.cons _ _ .nil)) ?_ ?_ ?_
        · rw [cat_append, List.append_assoc, ← hcat, hns]
          simp [cat]
        · rw [List.length_append]; simp only [List.length_cons, List.length_nil]; omega
        · rw [List.map_append, List.sum_append]
          simp only [List.map_cons, List.map_nil, List.sum_cons, List.sum_nil]
          have : (⟨x.cps.extract st p⟩ : Str).length = (x.cps.extract st p).size := rfl
          rw [Array.size_extract, Nat.min_eq_left (Nat.le_of_lt (by assumption))] at this
          rw [this, Nat.add_zero]
          exact Nat.add_le_add_right hsum _
      · rw [if_neg hlt, if_pos (by rfl)]
        refine wpAny_bind (wpAny_pure ?_)
        rw [if_pos (by rfl)]
        have ep : p = st := by omega
        refine rest _ ys _ h _ F N hp ?_ (by omega) (by omega)
        rw [← hcat, hns, ep]
        simp
    · intro hno
      dsimp only
      have hns := hn.none st (by omega) hno
      have fin : ∀ (pcs' : List Value) (ys' : List Str) (ep' : Nat) (h' : Heap) (tk' : Nat), Fr h₀ L h' m → News h₀ L h' ((l, listOf pcs'.toArray ep') :: news) → StrsAre pcs' ys' → cat ys' = target →
          (ys'.map (·.length)).sum ≤ 17 * x.cps.size →
          wpAny (model prog w) (A.under (.builtin "re.Pattern.sub.loop" (loopArgs pa x t rep tr n st st l))) (do
              let joiner ← reSlice x.cps 0 0 0
              let text ← if ((← seqItems? (.ref l)).getD #[]).isEmpty then pure joiner else call (.builtin (if 0 == 0 then "str.join" else "bytes.join")) [joiner, .ref l]
              if false = true then ret (← holding [text] do newTuple [text, ← mkInt n]) else ret text)
            (fun fin s' => match fin with | .done f => R (.ok f) s' | .again c' => c'.quiet = true ∧ codeAny (model prog w) A c' R s') (fun e s' => R (.error e) s') { s with heap := h', toks := tk' } := by
        intro pcs' ys' ep' h' tk' F' N' hp' hcat' hsum'
        refine wpAny_bind (slice_piece (by omega) ?_)
        have z := N' _ List.mem_cons_self
        refine wpAny_bind (wpAny_seqItems z.1 rfl ?_)
        rw [show (⟨x.cps.extract 0 0⟩ : Str) = ⟨#[]⟩ by simp]
        cases hp' with
        | nil =>
          rw [if_pos (by rfl)]
          refine wpAny_bind (wpAny_pure ?_)
          dsimp only
          rw [if_neg Bool.false_ne_true]
          exact wpAny_pure (hR _ _ _ _ hcat' F' fun p hp => N' p (List.mem_cons_of_mem _ hp))
        | cons y ty hr =>
          rw [if_neg (by intro q; cases q)]
          refine wpAny_bind (join_list (ys := y :: _) ⟨_, z.1, rfl, _, rfl⟩ (by simpa using StrsAre.cons y ty hr) ?_ fun t' k => ?_)
          · show _ + _ * 0 ≤ _
            omega
          · dsimp only
            rw [if_neg Bool.false_ne_true]
            exact wpAny_pure (hR _ _ _ _ ((glued_cat _).trans hcat') F' fun p hp => N' p (List.mem_cons_of_mem _ hp))
      by_cases hlt : st < x.cps.size
      · rw [if_pos hlt]
        refine wpAny_bind (slice_piece (by omega) ?_)
        refine wpAny_bind (push_piece F N hoff (by omega) fun h' F' N' => ?_)
        refine fin _ (ys ++ [⟨x.cps.extract st x.cps.size⟩]) _ h' _ F' N' (strsAre_append hp (.cons _ _ .nil)) ?_ ?_
        · rw [cat_append, ← hcat, hns]; simp [cat]
        · rw [List.map_append, List.sum_append]
          simp only [List.map_cons, List.map_nil, List.sum_cons, List.sum_nil]
          have : (⟨x.cps.extract st x.cps.size⟩ : Str).length = (x.cps.extract st x.cps.size).size := rfl
          rw [Array.size_extract, Nat.min_self] at this
          rw [this, Nat.add_zero]
          exact Nat.le_trans (Nat.add_le_add hsum (Nat.sub_le _ _)) (le17 (Nat.le_of_lt hlt))
      · rw [if_neg hlt]
        refine fin _ ys _ h _ F N hp ?_ (by omega)
        rw [← hcat, hns]
        have : st = x.cps.size := by omega
        rw [this]; simp
/-- p.sub(rep, x), called as a method's builtin -/
theorem call_sub {Q E : Value → Shared → Prop} {pa ca : Addr} {cvals : Array Value} {code : Array Nat} {x rep : Str} {t tr : Tok} {hit : Nat → Bool} {width : Nat → Nat} {norm : Nat → List Nat}
    (hc : (cvals.map reRawOf).map (·.toNat) = code) (hx : x.cps.size ≤ 100000) (hrep : rep.cps.size ≤ 16) (h92 : rep.cps.contains 92 = false)
    (hfind : ∀ s, s ≤ x.cps.size → ∃ N, N ≤ 3 * x.cps.size + 40 ∧ Found x.cps hit width s (Sre.M.runFor N (Sre.forSearch code x.cps 0 s x.cps.size false)))
    (hn : Norm x.cps hit width rep.cps.toList norm) {h₀ : Heap} {L : Addr} {m : Str → Option Value} {news : List (Addr × Obj)} (hpa : IsPat h₀ pa ca cvals) (F : Fr h₀ L s.heap m) (N : News h₀ L s.heap news)
    (hQ : ∀ (t' : Tok) (h' : Heap) (tk' : Nat) (y : Str), y.cps.toList = norm 0 → Fr h₀ L h' m → News h₀ L h' news → Q (.str y t') { s with heap := h', toks := tk' }) :
    wpAny (model prog w) A (call (.builtin "re.Pattern.sub") [.ref pa, .str rep tr, .str x t]) Q E s := by
  have hk : ∀ b o, h₀.get? b = some o → s.heap.get? b = some o := F.keep
  have P : IsPat s.heap pa ca cvals := ⟨let ⟨a, b, c, d, e⟩ := hpa.pat; ⟨a, b, c, d, hk _ _ e⟩, hk _ _ hpa.code⟩
  obtain ⟨ps, pt, fl, ft, hp1⟩ := P.pat
  refine wpAny_call (codeAny_call_builtin slot_pat_sub.plain entry_pat_sub (slot_pat_sub.check _ _ _ _ _ _ _ _ ⟨_, hp1, rfl⟩ (args_pat_sub _ _ _) ?_))
  unfold Builtin.«re.Pattern.sub» reSubstitute
  dsimp only
  have hnamed : reNamed "re.Pattern.sub" "sub" ["repl", "string", "count"] 2 [.str rep tr, .str x t] [] = pure [some (.str rep tr), some (.str x t), none] := by
    with_unfolding_all rfl
  rw [hnamed]
  refine wpAny_bind (wpAny_pure ?_)
  dsimp only
  refine wpAny_bind (wpAny_pure ?_)
  refine wpAny_bind (wpAny_specialOf (typeIs_str _ _ _) str_nocall ?_)
  refine wpAny_bind ?_
  refine wpAny_bind (wpAny_pure ?_)
  refine wpAny_pure ?_
  dsimp only
  refine wpAny_bind (wpAny_pure ?_)
  rw [h92]
  rw [if_neg (by intro q; cases q), if_pos (by rfl)]
  refine wpAny_bind (wpAny_pure ?_)
  refine wpAny_bind (wpAny_holding (wholeTarget P hc ?_))
  rw [if_neg (by intro q; cases q)]
  refine wpAny_bind (newList_N F N (vs := []) (fun h' F' N' => ?_))
  refine wpAny_pure ⟨plainId_quiet (by decide +kernel) _, ?_⟩
  exact sub_loop (s := s) (l := s.heap.objs.size) hc hx hrep hfind hn (fun p hp => Nat.ne_of_lt (Heap.lt_size (N p hp).1)) hpa (fun t' h' tk' y hy F'' N'' => hQ t' h' tk' y hy F'' N'') x.cps.size 0 0 [] [] 0 h' s.toks (by omega) F' N' .nil (by simp [cat]) (by simp) (by simp)
end
end
theorem resetEn : True := by w_top off; trivial
section
open PySem PySem.W PyProof.Rows PySem.Calls PySem.Spec
section
variable {prog : Program} {w : World} {A : Around} {E : Value → Shared → Prop} {s : Shared}
theorem tupNext {it l : Addr} {i : Nat} {items : Array Value} {x : Value} {Q : Value → Shared → Prop} (hit : s.heap.IsTupleIter it l i) (hl : s.heap.IsTuple l items) (hx : items[i]? = some x)
    (hQ : ∀ h', h'.IsTupleIter it l (i + 1) → Heap.SameBut it s.heap h' → Q x { s with heap := h' }) : wpAny (model prog w) A (Builtin.SmallTypes.nextOf (.ref it)) Q E s := by
  have hT := hit.typeIs
  obtain ⟨o, ho, hc, hd⟩ := hit
  obtain ⟨ol, hol, _, nl, hdl⟩ := hl
  unfold Builtin.SmallTypes.nextOf
  refine wpAny_bind (wpAny_callSpecial?_slot (name := Str.ofString "__next__") hT F.slot_tuple_iterator_next (wpAny_call_entry F.slot_tuple_iterator_next hT F.entry_tuple_iterator_next ?_ (F.args_tuple_iterator_next_1 _)))
  show wpAny _ _ (field (.ref it) 0 >>= _) _ _ s
  refine wpAny_bind (wpAny_field ho hd (x := .ref l) rfl ?_)
  show wpAny _ _ (if (Value.ref l == Value.none) = true then _ else _) _ _ s
  rw [if_neg (show ¬ ((Value.ref l == Value.none) = true) from Bool.false_ne_true)]
  show wpAny _ _ (field (.ref it) 1 >>= _) _ _ s
  refine wpAny_bind (wpAny_field ho hd (x := .int i 0) rfl ?_)
  show wpAny _ _ (seqItems? (.ref l) >>= _) _ _ s
  refine wpAny_bind (wpAny_seqItems hol hdl ?_)
  simp only [Int.toNat_natCast, hx]
  refine wpAny_bind (wpAny_setField ho hd (by simp) (wpAny_pure ⟨x, rfl, wpAny_pure (hQ _ ⟨_, Heap.get?_update_self _ ho (Obj.isFreed_of_fields (Obj.data_mapFields hd _)), (Obj.cls_mapFields ..).trans hc, ?_⟩ (Heap.SameBut.update ..))⟩))
  rw [Obj.data_mapFields hd]; simp [rawInt]
theorem tupEnd {it l : Addr} {i : Nat} {items : Array Value} {Q : Value → Shared → Prop} (hh : A.handled = none) (hit : s.heap.IsTupleIter it l i) (hl : s.heap.IsTuple l items) (hx : items[i]? = none)
    (hE : ∀ h' e, Heap.ExtBut it s.heap h' → (∃ o, h'.get? e = some o ∧ o.cls = .type "StopIteration") → E (.ref e) { s with heap := h' }) :
    wpAny (model prog w) A (Builtin.SmallTypes.nextOf (.ref it)) Q E s := by
  have hT := hit.typeIs
  obtain ⟨o, ho, hc, hd⟩ := hit
  obtain ⟨ol, hol, _, nl, hdl⟩ := hl
  unfold Builtin.SmallTypes.nextOf
  refine wpAny_bind (wpAny_callSpecial?_slot (name := Str.ofString "__next__") hT F.slot_tuple_iterator_next (wpAny_call_entry F.slot_tuple_iterator_next hT F.entry_tuple_iterator_next ?_ (F.args_tuple_iterator_next_1 _)))
  show wpAny _ _ (field (.ref it) 0 >>= _) _ _ s
  refine wpAny_bind (wpAny_field ho hd (x := .ref l) rfl ?_)
  show wpAny _ _ (if (Value.ref l == Value.none) = true then _ else _) _ _ s
  rw [if_neg (show ¬ ((Value.ref l == Value.none) = true) from Bool.false_ne_true)]
  show wpAny _ _ (field (.ref it) 1 >>= _) _ _ s
  refine wpAny_bind (wpAny_field ho hd (x := .int i 0) rfl ?_)
  show wpAny _ _ (seqItems? (.ref l) >>= _) _ _ s
  refine wpAny_bind (wpAny_seqItems hol hdl ?_)
  simp only [Int.toNat_natCast, hx]
  refine wpAny_bind (wpAny_rule (wpAny_bind (wpAny_setField ho hd (by simp) ?_)))
  show wpAny _ _ (newExc (.type "StopIteration") [] >>= _) _ _ _
  refine wpAny_bind ?_
  simp only [newExc, newTuple]
  refine wpAny_bind (wpAny_newObj_type ?_ (by size_fits))
  refine wpAny_bind (m := firstArgMember _ _) (wpAny_of_eq (a := Value.none) (by first | rfl | (simp only [firstArgMember]; rfl)) ?_)
  refine wpAny_newObj_type ?_ (by size_fits)
  simp only [raiseNew]
  refine wpAny_bind (wpAny_handled ?_)
  first | rw [show A.in1.handled = none from hh] | rw [hh]
  refine wpAny_bind (wpAny_pure (wpAny_throw ?_))
  exact hE _ _ (((Heap.SameBut.update ..).extBut.push _).push _) ⟨_, Heap.get?_push_size _ rfl, rfl⟩
end
theorem drawsTup {prog : Program} {w : World} {A : Around} (hh : A.handled = none) (it l : Addr) (hne : l ≠ it) (items : Array Value) :
    Draws prog w A it [it, l] items.size (fun i v => items[i]? = some v) (fun i h => h.IsTupleIter it l i ∧ h.IsTuple l items) where
  live := fun _ _ st => let ⟨o, ho, _⟩ := st.1; ⟨o, ho⟩
  frame := fun _ _ _ st hk => ⟨st.1.at fun o e => hk it (by simp) o e, st.2.at fun o e => hk l (by simp) o e⟩
  item := fun i s Q E hi st hQ => tupNext st.1 st.2 (x := items[i]) (by simp [hi]) fun h' hit' hs' =>
    hQ _ h' s.toks (by simp [hi]) ⟨hit', st.2.extBut hs'.extBut hne⟩ hs'
  done := fun s Q E st hE => tupEnd hh st.1 st.2 (by simp) hE
set_option maxRecDepth 100000 in
theorem enumNewT (l : Addr) (items : Array Value) (n : Nat) (dct : Option Addr) (sl : Array (Option Value)) :
    Meets (Builtin.«enumerate.__new__» ⟨[.type "enumerate", .ref l], []⟩) (fun _ R s => s.heap.get? l = some { cls := .type "tuple", dict := dct, data := .seq items n, slots := sl } ∧
      R (.ok (.ret (.ref (s.heap.push { cls := .type "tuple_iterator", data := .fields #[.ref l, .int 0 0] }).objs.size)))
        { s with heap := (s.heap.push { cls := .type "tuple_iterator", data := .fields #[.ref l, .int 0 0] }).push { cls := .type "enumerate", data := .fields #[.none, .bool false, .ref s.heap.objs.size, rawInt 0, .none, .none] } }) :=
  .of_wp fun prog w A R s h => by
    obtain ⟨hp, g, d, tk, os⟩ := s; obtain ⟨hl, h⟩ := h
    have hsub := sub_enumerate
    have hL : Heap.IsTuple (Shared.heap ⟨hp, g, d, tk, os⟩) l items := ⟨_, hl, rfl, n, rfl⟩
    wp_walk using AutoSeq1.wpAny_loadPart' hl
    refine wpAny_stack_any fun st => wpAny_pure ?_
    split
    · rename_i c _ _ _ _ _
      cases (c == Value.type "enumerate")
      · wp_walk using AutoSeq1.wpAny_loadPart' hl, wpAny_pyIter_tuple hL
        exact ⟨_, rfl, h⟩
      · wp_walk using AutoSeq1.wpAny_loadPart' hl, wpAny_pyIter_tuple hL
        exact ⟨_, rfl, h⟩
    · wp_walk using AutoSeq1.wpAny_loadPart' hl, wpAny_pyIter_tuple hL
      exact ⟨_, rfl, h⟩
section
variable {prog : Program} {w : World} {A : Around} {E : Value → Shared → Prop} {s : Shared}
theorem call_enumT {l : Addr} {items : Array Value} {Q : Value → Shared → Prop} (hL : s.heap.IsTuple l items)
    (h : ∀ h', IsEnum h' (s.heap.objs.size + 1) s.heap.objs.size 0 .none → h'.IsTupleIter s.heap.objs.size l 0 → (∀ b o, s.heap.get? b = some o → h'.get? b = some o) → Q (.ref (s.heap.objs.size + 1)) { s with heap := h' }) :
    wpAny (model prog w) A (call (.type "enumerate") [.ref l]) Q E s := by
  obtain ⟨⟨c, dct, dt, sl⟩, hl, hc, n, hd⟩ := hL
  replace hc : c = .type "tuple" := hc
  replace hd : dt = .seq items n := hd
  subst hc hd
  refine callType_new F.called_enumerate (by decide) (F.typeCall_enumerate_1 _) (F.newCall_enumerate_1 _) (fun obj => F.args_object_init_2 obj _) F.entry_enumerate_new (enumNewT l items n dct sl) ⟨hl, ?_⟩
  have hz : (s.heap.push { cls := .type "tuple_iterator", data := .fields #[.ref l, .int 0 0] }).objs.size = s.heap.objs.size + 1 := Heap.size_push ..
  show _ ∧ _
  rw [hz]
  have he : IsEnum ((s.heap.push { cls := .type "tuple_iterator", data := .fields #[.ref l, .int 0 0] }).push
      { cls := .type "enumerate", data := .fields #[.none, .bool false, .ref s.heap.objs.size, rawInt 0, .none, .none] }) (s.heap.objs.size + 1) s.heap.objs.size 0 .none := by
    have := Heap.get?_push_size (s.heap.push { cls := .type "tuple_iterator", data := .fields #[.ref l, .int 0 0] })
      (o := { cls := .type "enumerate", data := .fields #[.none, .bool false, .ref s.heap.objs.size, rawInt 0, .none, .none] }) rfl
    rw [hz] at this; exact this
  exact ⟨⟨_, he, rfl⟩, h _ he ⟨_, Heap.get?_push_of_some _ (Heap.get?_push_size _ rfl), rfl, rfl⟩ fun b o x => Heap.get?_push_of_some _ (Heap.get?_push_of_some _ x)⟩
end
end
theorem resetCp : True := by w_top off; trivial
section
open PySem PySem.W PyProof.Rows PySem.Calls PySem.Spec
section
variable {prog : Program} {w : World} {A : Around} {E : Value → Shared → Prop} {s : Shared} {h₀ : Heap} {L : Addr} {m : Str → Option Value} {env : Env}
noncomputable def Turns (prog : Program) (w : World) (A : Around) (h₀ : Heap) (L : Addr) (m : Str → Option Value) (env : Env) (elt : PySem.Expr) (x : Str) (scope : Scope) (cl : List (Str × Addr)) (s : Shared) (P R : Nat → Value → Prop) (n : Nat) (news : List (Addr × Obj)) : Prop :=
  ∀ i v I oI C oC D ys m₂ h tk (Q E' : Value → Shared → Prop), i < n → P i v → LCg.NsObj oC m₂ → m₂ x = some v → Fr h₀ L h m → News h₀ L h ((I, oI) :: (C, oC) :: (D, LCg.lst ys) :: news) →
    (∀ y h' tk', R i y → Fr h₀ L h' m → News h₀ L h' ((I, oI) :: (C, oC) :: (D, LCg.lst ys) :: news) → Q y { s with heap := h', toks := tk' }) →
    wpAny (model prog w) A (eval elt (compEnvC scope cl C env)) Q E' { s with heap := h, toks := tk }
theorem rest_of (g : Heap) {elt : PySem.Expr} {x : Str} {scope : Scope} {cl : List (Str × Addr)} {S : List (Addr × Obj) → Prop} {P R : Nat → Value → Prop} {n : Nat} {news : List (Addr × Obj)} {Fin : List Value → List (Addr × Obj) → Prop}
    (hS : S news) (T : Turns prog w A h₀ L m env elt x scope cl s P R n news) (fin : ∀ ys : List Value, ys.length = n → (∀ i y, ys[i]? = some y → R i y) → Fin ys news) :
    ∀ k i (ys : List Value), i + k = n → ys.length = i → (∀ i y, ys[i]? = some y → R i y) →
      LCg.CompRest prog w A h₀ L m env elt x scope cl { s with heap := g } S P Fin k i ys news := by
  intro k
  induction k with
  | zero =>
    intro i ys hi hl hR
    exact LCg.CompRest.zero (fin ys (by omega) hR)
  | succ k ih =>
    intro i ys hi hl hR
    refine LCg.CompRest.succ fun v I oI C oC D m₂ h tk E' hP hn hx F N off ne => ?_
    refine T i v I oI C oC D ys m₂ h tk _ E' (by omega) hP hn hx F N fun y h' tk' hy F' N' => ?_
    exact ⟨h', tk', news, rfl, F', N', off, hS, ih (i + 1) (ys ++ [y]) (by omega) (by rw [List.length_append, hl]; rfl) (fun j z hz => by
      rcases Nat.lt_or_ge j ys.length with q | q
      · rw [List.getElem?_append_left q] at hz; exact hR j z hz
      · rw [List.getElem?_append_right q] at hz
        have : j - ys.length = 0 := by
          rcases e : j - ys.length with _ | t
          · rfl
          · rw [e] at hz; cases hz
        rw [this] at hz
        have e : y = z := Option.some.inj hz
        subst e
        have : j = i := by omega
        subst this; exact hy)⟩
noncomputable def AfterIter (prog : Program) (w : World) (A : Around) (h₀ : Heap) (L : Addr) (m : Str → Option Value) (env : Env) (elt : PySem.Expr) (x : Str) (scope : Scope) (cl : List (Str × Addr)) (Fin : Shared → List Value → List (Addr × Obj) → Prop) (it : Value) (s₂ : Shared) : Prop :=
  ∃ I fp n P St S news, it = .ref I ∧ Walks prog w A I fp [I] n P St ∧ n ≤ sizeLine ∧ (∀ i h, St i h → ∃ o, h.get? I = some o) ∧
    (∀ i h h' o nw, St i h → h.get? I = some o → h'.get? I = some o → (∀ b o, h₀.get? b = some o → h'.get? b = some o) → News h₀ L h' nw → S nw → St i h') ∧
    St 0 s₂.heap ∧ (∀ b ∈ fp, b < s₂.heap.objs.size) ∧ Fr h₀ L s₂.heap m ∧ News h₀ L s₂.heap news ∧ L ≠ I ∧ h₀.get? I = none ∧ (∀ p ∈ news, p.1 ≠ I) ∧ S news ∧
    LCg.CompRest prog w A h₀ L m env elt x scope cl s₂ S P (Fin s₂) n 0 [] news
theorem ListComp_G {elt iter : PySem.Expr} {x : Str} {px : Pos} {scope : Scope} {cl : List (Str × Addr)} {pos : Pos} {Q : Value → Shared → Prop} (_ : Fr h₀ L s.heap m)
    (hclos : closureFor scope env = pure cl) (hcell : ∀ y ∈ scope.names, y.2 ≠ .cell) (hkind : scope.kind = .function)
    (hnames : ∀ y ∈ scope.names, y.2 = .local → scope.names.lookup y.1 = some .local) (hx : scope.names.lookup x = some .local)
    (hs : ∀ x, foldedSetIterable iter env x = pure x)
    (h : wpAny (model prog w) A (eval iter env) (fun xv s₁ => wpAny (model prog w) A (pyIter xv) (AfterIter prog w A h₀ L m env elt x scope cl (fun s₂ => LCg.FinE h₀ L m s₂ Q)) E s₁) E s) :
    wpAny (model prog w) A (eval (.ListComp elt [⟨.Name x px, iter, [], 0⟩] scope pos) env) Q E s := by
  rw [eval_ListComp]
  refine wpAny_comprehension_free (use := none) rfl hs hclos hkind hnames (wpAny_mono h (fun xv s₁ h₁ => ?_) fun _ _ e => e)
  refine wpAny_mono h₁ (fun it s₂ h₂ => ?_) fun _ _ e => e
  obtain ⟨I, fp, n, P, St, S, news, rfl, W, hsz, hIo, hSt, hst, hfp, F, N, hIL, hI₀, off, hS, R⟩ := h₂
  refine LCg.block_U W hsz hIo hSt hcell hkind hx hst hfp F N hIL hI₀ off hS R ?_
  intro D C h tk m' ys news' F' N' o1 hn hC₀ hD₀ hCL hDL hCD offC fin
  refine ⟨m', hn, fun h'' hs'' => fin D h'' tk (F'.change hs'' hCL hC₀) (fun p hp => ?_) o1⟩
  refine ⟨hs''.extBut _ _ ?_ (N' p hp).1, (N' p hp).2⟩
  rcases List.mem_cons.mp hp with rfl | hp
  · exact Ne.symm hCD
  · exact offC p hp
theorem Assign_ListComp_G {elt iter : PySem.Expr} {x y : Str} {px py : Pos} {scope : Scope} {cl : List (Str × Addr)} {pos spos : Pos} {Q : Flow → Shared → Prop} (_ : Fr h₀ L s.heap m) (hLe : env.locals = L)
    (hsw : swapsWith (.ListComp elt [⟨.Name x px, iter, [], 0⟩] scope pos) (some (.Name y py)) spos.line env = pure true)
    (hclos : closureFor scope env = pure cl) (hcell : ∀ z ∈ scope.names, z.2 ≠ .cell) (hkind : scope.kind = .function)
    (hnames : ∀ z ∈ scope.names, z.2 = .local → scope.names.lookup z.1 = some .local) (hx : scope.names.lookup x = some .local)
    (hy : env.kindOf y = some .local) (hp : (env.scope.kind == .class || (env.scope.kind == .module && env.locals != env.globals)) = false)
    (hs : ∀ x, foldedSetIterable iter env x = pure x)
    (h : wpAny (model prog w) A (eval iter env) (fun xv s₁ => wpAny (model prog w) A (pyIter xv) (AfterIter prog w A h₀ L m env elt x scope cl (fun s₂ => LCg.FinA h₀ L m s₂ y Q)) E s₁) E s) :
    wpAny (model prog w) A (exec (.Assign [.Name y py] (.ListComp elt [⟨.Name x px, iter, [], 0⟩] scope pos) spos) env) Q E s := by
  subst hLe
  rw [exec_Assign_Name_used _ _ _ _ hsw]
  refine wpAny_bind (wpAny_standAt (wpAny_bind ?_))
  show wpAny _ A (do let _ ← comprehension (.ListComp elt [⟨.Name x px, iter, [], 0⟩] scope pos) scope env _ (newList []) false (eval iter env) (some (assign (.Name y py) env))) _ _ s
  refine wpAny_bind (wpAny_mono (wpAny_comprehension_free (use := some (assign (.Name y py) env)) (Q := fun _ s' => Q .next s') rfl hs hclos hkind hnames
    (wpAny_mono h (fun xv s₁ h₁ => ?_) fun _ _ e => e)) (fun _ s' hq => wpAny_pure (wpAny_pure hq)) fun _ _ e => e)
  refine wpAny_mono h₁ (fun it s₂ h₂ => ?_) fun _ _ e => e
  obtain ⟨I, fp, n, P, St, S, news, rfl, W, hsz, hIo, hSt, hst, hfp, F, N, hIL, hI₀, off, hS, R⟩ := h₂
  refine LCg.block_U W hsz hIo hSt hcell hkind hx hst hfp F N hIL hI₀ off hS R ?_
  intro D C h' tk m' ys news' F' N' o1 hn hC₀ hD₀ hCL hDL hCD offC fin
  show wpAny _ A (assign (.Name y py) env (.ref D)) _ _ _
  refine wpAny_assign_Name (wpAny_storeName_local hy F'.ns (fun h₂ hn₂ hs₂ => ?_) hp)
  have hL₀ : h₀.get? env.locals = none := Heap.get?_none_of_le F'.above
  have F₂ : Fr h₀ env.locals h₂ (fun z => if z = y then some (.ref D) else m z) := ⟨hn₂, fun b o e => hs₂.extBut b o (fun q => by rw [q, hL₀] at e; cases e) (F'.keep b o e), F'.above⟩
  refine ⟨m', hn.sameBut hs₂ hCL, fun h'' hs'' => fin D h'' _ (F₂.change hs'' hCL hC₀) (fun p hp => ?_) o1⟩
  have z : h₂.get? p.1 = some p.2 := hs₂.extBut _ _ (N' p hp).2.1 (N' p hp).1
  refine ⟨hs''.extBut _ _ ?_ z, (N' p hp).2⟩
  rcases List.mem_cons.mp hp with rfl | hp
  · exact Ne.symm hCD
  · exact offC p hp
theorem after_list {elt : PySem.Expr} {x : Str} {scope : Scope} {cl : List (Str × Addr)} {Fin : Shared → List Value → List (Addr × Obj) → Prop} {ax : Addr} {its : Array Value} {news : List (Addr × Obj)} {R : Nat → Value → Prop}
    (hh : A.handled = none) (F : Fr h₀ L s.heap m) (N : News h₀ L s.heap news) (hS : LCg.SrcAt h₀ ax its news) (hsz : its.size ≤ sizeLine)
    (T : Turns prog w A h₀ L m env elt x scope cl s (fun i v => its[i]? = some v) R its.size news)
    (fin : ∀ g, ∀ ys : List Value, ys.length = its.size → (∀ i y, ys[i]? = some y → R i y) → Fin { s with heap := g } ys news) :
    wpAny (model prog w) A (pyIter (.ref ax)) (AfterIter prog w A h₀ L m env elt x scope cl Fin) E s := by
  have hl := hS.list F.keep N
  have hlt : ax < s.heap.objs.size := by obtain ⟨_, e, _⟩ := hl; exact Heap.lt_size e
  refine wpAny_pyIter_list hl ?_
  have up : ∀ b o, s.heap.get? b = some o → (s.heap.push { cls := .type "list_iterator", data := .fields #[.ref ax, .int 0 0] }).get? b = some o := fun b o e => Heap.get?_push_of_some _ e
  refine ⟨_, _, _, _, _, _, news, rfl, Walks.list hh s.heap.objs.size ax (Nat.ne_of_lt hlt) its, hsz, (fun i h st => by obtain ⟨o, e, _⟩ := st.1; exact ⟨o, e⟩), LCg.list_st, ⟨⟨_, Heap.get?_push_size _ rfl, rfl, rfl⟩, hl.push _⟩, (fun b hb => ?_), F.keeps up, N.grown up, Nat.ne_of_lt F.ns.lt, next_is_new F, (fun p hp => Nat.ne_of_lt (Heap.lt_size (N p hp).1)), hS, ?_⟩
  · show b < (s.heap.push _).objs.size
    rw [Heap.size_push]
    rcases List.mem_cons.mp hb with rfl | hb
    · exact Nat.lt_succ_self _
    · rw [List.mem_singleton.mp hb]; exact Nat.lt_succ_of_lt hlt
  · exact rest_of _ hS (fun i v I oI C oC D ys m₂ h tk Q E' => T i v I oI C oC D ys m₂ h tk Q E') (fin _) its.size 0 [] (Nat.zero_add _) rfl (fun i y e => nomatch e)
theorem after_range {elt : PySem.Expr} {x : Str} {scope : Scope} {cl : List (Str × Addr)} {Fin : Shared → List Value → List (Addr × Obj) → Prop} {r : Addr} {a b : Int} {t u v : Tok} {n : Nat} {news : List (Addr × Obj)} {R : Nat → Value → Prop}
    (hh : A.handled = none) (F : Fr h₀ L s.heap m) (N : News h₀ L s.heap news) (hr : IsRange s.heap r a b 1 t u v) (hsm : Builtin.Range.small a b 1 = true) (hn : Builtin.Range.rangeSize a b 1 = ((n : Nat) : Int)) (hsz : n ≤ sizeLine)
    (T : Turns prog w A h₀ L m env elt x scope cl s (fun i v => ∃ t, v = Value.int (a + (i : Int)) t) R n news)
    (fin : ∀ g, ∀ ys : List Value, ys.length = n → (∀ i y, ys[i]? = some y → R i y) → Fin { s with heap := g } ys news) :
    wpAny (model prog w) A (pyIter (.ref r)) (AfterIter prog w A h₀ L m env elt x scope cl Fin) E s := by
  refine wpAny_pyIter_range hr hsm ?_
  refine ⟨_, _, _, _, _, (fun _ => True), news, rfl, LCg.range_walks hh a n, hsz, (fun i h st => ⟨_, st⟩), LCg.range_st, (by show IsRangeIter _ _ _ _ _; rw [hn]; simpa using Heap.get?_push_size _ rfl), (fun b hb => ?_), F.keeps fun _ _ e => Heap.get?_push_of_some _ e, N.grown fun _ _ e => Heap.get?_push_of_some _ e, Nat.ne_of_lt F.ns.lt, next_is_new F, (fun p hp => Nat.ne_of_lt (Heap.lt_size (N p hp).1)), trivial, ?_⟩
  · rw [List.mem_singleton.mp hb]
    show s.heap.objs.size < (s.heap.push _).objs.size
    rw [Heap.size_push]; exact Nat.lt_succ_self _
  · exact rest_of (S := fun _ => True) _ trivial (fun i v I oI C oC D ys m₂ h tk Q E' => T i v I oI C oC D ys m₂ h tk Q E') (fin _) n 0 [] (Nat.zero_add _) rfl (fun i y e => nomatch e)
theorem after_str {elt : PySem.Expr} {x : Str} {scope : Scope} {cl : List (Str × Addr)} {Fin : Shared → List Value → List (Addr × Obj) → Prop} {y : Str} {t : Tok} {news : List (Addr × Obj)} {R : Nat → Value → Prop}
    (hh : A.handled = none) (F : Fr h₀ L s.heap m) (N : News h₀ L s.heap news) (hsz : y.cps.size ≤ sizeLine)
    (T : Turns prog w A h₀ L m env elt x scope cl s (SignAt y) R y.cps.size news)
    (fin : ∀ g, ∀ ys : List Value, ys.length = y.cps.size → (∀ i z, ys[i]? = some z → R i z) → Fin { s with heap := g } ys news) :
    wpAny (model prog w) A (pyIter (.str y t)) (AfterIter prog w A h₀ L m env elt x scope cl Fin) E s := by
  have lt1 : ∀ g : Heap, ∀ b ∈ [s.heap.objs.size], ∀ o, b < (s.heap.push o).objs.size := fun _ b hb o => by
    rw [List.mem_singleton.mp hb, Heap.size_push]; exact Nat.lt_succ_self _
  have up : ∀ o, ∀ b o', s.heap.get? b = some o' → (s.heap.push o).get? b = some o' := fun o b o' e => Heap.get?_push_of_some _ e
  have fin2 : ∀ g, LCg.CompRest prog w A h₀ L m env elt x scope cl { s with heap := g } (fun _ => True) (SignAt y) (Fin { s with heap := g }) y.cps.size 0 [] news := fun g =>
    rest_of (S := fun _ => True) _ trivial (fun i v I oI C oC D ys m₂ h tk Q E' => T i v I oI C oC D ys m₂ h tk Q E') (fin _) y.cps.size 0 [] (Nat.zero_add _) rfl (fun i y e => nomatch e)
  cases ha : y.cps.all (· < 128)
  · refine wpAny_pyIter_wide ha ⟨_, _, _, _, _, (fun _ => True), news, rfl, Walks.strWide hh _ y t, hsz, ?_, ?_, ⟨_, Heap.get?_push_size _ rfl, rfl, rfl⟩, (fun b hb => lt1 h₀ b hb _), F.keeps (up _), N.grown (up _), Nat.ne_of_lt F.ns.lt, next_is_new F, (fun p hp => Nat.ne_of_lt (Heap.lt_size (N p hp).1)), trivial, fin2 _⟩
    · rintro i h ⟨o, e, _⟩; exact ⟨o, e⟩
    · rintro i h h' o nw ⟨o', e, q⟩ e1 e2 _ _ _
      rw [e] at e1; cases e1; exact ⟨_, e2, q⟩
  · refine wpAny_pyIter_ascii ha ⟨_, _, _, _, _, (fun _ => True), news, rfl, Walks.strAscii hh _ y t, hsz, ?_, ?_, ⟨_, Heap.get?_push_size _ rfl, rfl, rfl⟩, (fun b hb => lt1 h₀ b hb _), F.keeps (up _), N.grown (up _), Nat.ne_of_lt F.ns.lt, next_is_new F, (fun p hp => Nat.ne_of_lt (Heap.lt_size (N p hp).1)), trivial, fin2 _⟩
    · rintro i h ⟨o, e, _⟩; exact ⟨o, e⟩
    · rintro i h h' o nw ⟨o', e, q⟩ e1 e2 _ _ _
      rw [e] at e1; cases e1; exact ⟨_, e2, q⟩
end
theorem one_dot {ch : Nat} : (({ cps := #[ch] } : Str) == Str.ofString ".") = (ch == 46) := by
  rw [show Str.ofString "." = ⟨#[46]⟩ from by with_unfolding_all rfl]
  by_cases h : ch = 46
  · subst h; simp
  · rw [show (ch == 46) = false from by simpa using h]
    refine Bool.eq_false_iff.mpr fun q => h ?_
    have := eq_of_beq q
    simpa using this
theorem ints_of : ∀ {vs : List Value} {ns : List Int}, vs.length = ns.length → (∀ (i : Nat) v, vs[i]? = some v → ∃ t, v = Value.int (ns.getD i 0) t) → IntsAre vs ns
  | [], [], _, _ => .nil
  | v :: vs, n :: ns, hl, h => by
    obtain ⟨t, rfl⟩ := h 0 v rfl
    exact .cons _ _ (ints_of (by simpa using hl) fun i z hz => h (i + 1) z hz)
noncomputable def rowOf (c : Nat) (x : List Nat) : List Int := x.map fun ch => if ch = 46 then (c : Int) else ((2 - c : Nat) : Int)
theorem rowOf_ints {c : Nat} {y : Str} {ys : List Value} (hl : ys.length = y.cps.size) (h : ∀ (i : Nat) z, ys[i]? = some z → ∃ t, z = Value.int (if y.cps[i]? = some 46 then (c : Int) else ((2 - c : Nat) : Int)) t) : IntsAre ys (rowOf c y.cps.toList) := by
  refine ints_of (by rw [hl, rowOf, List.length_map, Array.length_toList]) fun i z hz => ?_
  obtain ⟨t, rfl⟩ := h i z hz
  have hi : i < y.cps.size := hl ▸ (List.getElem?_eq_some_iff.mp hz).1
  refine ⟨t, ?_⟩
  rw [rowOf, List.getD_eq_getElem?_getD, List.getElem?_map, Array.getElem?_toList, Array.getElem?_eq_getElem hi]
  simp
end
theorem resetCc : True := by w_top off; trivial
section
open PySem PySem.W PyProof.Rows PySem.Calls PySem.Spec
section
variable {prog : Program} {w : World} {A : Around} {E : Value → Shared → Prop} {s : Shared} {h₀ : Heap} {L : Addr} {m : Str → Option Value} {env : Env}
/-- one turn of a comprehension whose variable is a cell -/
noncomputable def TurnsC (prog : Program) (w : World) (A : Around) (h₀ : Heap) (L : Addr) (m : Str → Option Value) (env : Env) (elt : PySem.Expr) (x : Str) (scope : Scope) (cl : List (Str × Addr)) (s : Shared) (P R : Nat → Value → Prop) (n : Nat) (news : List (Addr × Obj)) : Prop :=
  ∀ i v I oI C oC c oc D ys h tk (Q E' : Value → Shared → Prop), i < n → P i v → oc.data = .cell (some v) → Fr h₀ L h m → News h₀ L h ((c, oc) :: (I, oI) :: (C, oC) :: (D, LCg.lst ys) :: news) →
    (∀ y h' tk', R i y → Fr h₀ L h' m → News h₀ L h' ((c, oc) :: (I, oI) :: (C, oC) :: (D, LCg.lst ys) :: news) → Q y { s with heap := h', toks := tk' }) →
    wpAny (model prog w) A (eval elt (compEnvC scope ((x, c) :: cl) C env)) Q E' { s with heap := h, toks := tk }
theorem newEnv_cell {scope : Scope} {globals : Addr} {cl : List (Str × Addr)} {qual : Str} {x : Str} {Q : Env → Shared → Prop}
    (hlay : ∀ k, cellsFrom k scope.names cl = (x, k) :: cl) (hpc : ∀ g, pushCells g scope.names = g.push { cls := .type "cell", data := .cell none })
    (h : Q { scope, locals := s.heap.objs.size, globals, cells := (x, s.heap.objs.size + 1) :: cl, qual, func := none, code := env.code, frame := env.frame, builtins := env.builtins }
      { s with heap := (s.heap.push { cls := .type "dict", data := .dict #[] }).push { cls := .type "cell", data := .cell none } }) :
    wpAny (model prog w) A (newFunctionEnv scope globals cl [] qual none .none (some env)) Q E s := by
  simp only [newFunctionEnv, Option.isSome_some, if_true]
  refine wpAny_bind (wpAny_alloc ?_)
  refine wpAny_bind (wpAny_layCells _ (fun name kind cells => by cases hkc : kind == NameKind.cell <;> simp [hkc]) _ _ _ _ ?_)
  rw [hpc, hlay]
  rw [show ({ s with heap := s.heap.push { cls := .type "dict", data := .dict #[] } } : Shared).heap.objs.size = s.heap.objs.size + 1 from Heap.size_push ..]
  rw [List.forIn_nil]
  exact wpAny_bind (wpAny_pure (wpAny_pure h))
theorem block_C {elt iter : PySem.Expr} {x : Str} {px : Pos} {scope : Scope} {cl : List (Str × Addr)} {pos : Pos} {s₂ : Shared} {I : Addr} {n : Nat} {fp : List Addr} {P R : Nat → Value → Prop} {St : Nat → Heap → Prop} {news : List (Addr × Obj)} {RR : Value → Addr → Result → Shared → Prop}
    (W : Walks prog w A I fp [I] n P St) (hsz : n ≤ sizeLine) (hIo : ∀ i h, St i h → ∃ o, h.get? I = some o)
    (hSt : ∀ i h h' o, St i h → h.get? I = some o → h'.get? I = some o → (∀ b o, h₀.get? b = some o → h'.get? b = some o) → News h₀ L h' news → St i h')
    (hlay : ∀ k, cellsFrom k scope.names cl = (x, k) :: cl) (hpc : ∀ g, pushCells g scope.names = g.push { cls := .type "cell", data := .cell none })
    (hkind : scope.kind = .function) (hx : (relabel scope env).names.lookup x = some .cell) (hst : St 0 s₂.heap) (hfp : ∀ b ∈ fp, b < s₂.heap.objs.size)
    (F : Fr h₀ L s₂.heap m) (N : News h₀ L s₂.heap news) (hIL : L ≠ I) (hI₀ : h₀.get? I = none) (off : ∀ p ∈ news, p.1 ≠ I)
    (T : TurnsC prog w A h₀ L m env elt x scope cl s₂ P R n news)
    (hRR : ∀ D C h tk m' ys, Fr h₀ L h m → News h₀ L h ((D, LCg.lst ys) :: news) → h.Ns C m' → h₀.get? C = none → C ≠ L → C ≠ D → (∀ p ∈ news, p.1 ≠ C) → (∀ p ∈ news, @Ne Nat p.1 D) → ys.length = n → (∀ i y, ys[i]? = some y → R i y) → RR (.ref D) C (.ok .next) { s₂ with heap := h, toks := tk }) :
    wpAny (model prog w) A (newList []) (fun acc s₃ => wpAny (model prog w) A (newFunctionEnv scope env.globals cl [] env.qual none .none (some env)) (fun cenv s₄ =>
      codeAny (model prog w) A (.compStart (.ListComp elt [⟨.Name x px, iter, [], 0⟩] scope pos) 0 (.ref I) acc { cenv with scope := relabel scope env }) (RR acc cenv.locals) s₄) E s₃) E s₂ := by
  refine wpAny_newObj_type (newEnv_cell hlay hpc ?_)
  dsimp only
  generalize hH2 : s₂.heap.push { cls := .type "list", dict := none, data := .seq ([] : List Value).toArray } = H2
  have hC : H2.objs.size = s₂.heap.objs.size + 1 := by rw [← hH2, Heap.size_push]
  generalize hH3 : H2.push { cls := .type "dict", data := .dict #[] } = H3
  have hc3 : H3.objs.size = s₂.heap.objs.size + 2 := by rw [← hH3, Heap.size_push, hC]
  generalize hh1 : H3.push { cls := .type "cell", data := .cell none } = h₁
  rw [hC]
  have old : ∀ b o, s₂.heap.get? b = some o → h₁.get? b = some o := fun b o e => hh1 ▸ Heap.get?_push_of_some _ (hH3 ▸ Heap.get?_push_of_some _ (hH2 ▸ Heap.get?_push_of_some _ e))
  have hacc : h₁.get? s₂.heap.objs.size = some (LCg.lst []) := hh1 ▸ Heap.get?_push_of_some _ (hH3 ▸ Heap.get?_push_of_some _ (hH2 ▸ Heap.get?_push_size _ rfl))
  have hns : H3.Ns (s₂.heap.objs.size + 1) (fun _ => none) := by
    have := Heap.Ns.new H2 (.type "dict")
    rw [hC] at this; exact hH3 ▸ this
  have hns₁ : h₁.Ns (s₂.heap.objs.size + 1) (fun _ => none) := hns.keeps fun b o e => hh1 ▸ Heap.get?_push_of_some _ e
  have hcell : h₁.get? (s₂.heap.objs.size + 2) = some { cls := .type "cell", data := .cell none } := by
    rw [← hc3]; exact hh1 ▸ Heap.get?_push_size _ rfl
  generalize hd : s₂.heap.objs.size = d at *
  have hIf : I ∈ fp := W.sub I (List.mem_singleton.mpr rfl)
  have hIlt : I < d := hfp I hIf
  have hst₁ : St 0 h₁ := W.frame _ _ _ hst fun b _ o e => old b o e
  have fresh : ∀ a, d ≤ a → s₂.heap.get? a = none := fun a ha => by
    cases e : s₂.heap.get? a with
    | none => rfl
    | some o' => exact absurd (Heap.lt_size e) (by rw [hd]; exact Nat.not_lt.mpr ha)
  have fresh₀ : ∀ a, d ≤ a → h₀.get? a = none := fun a ha => by
    cases e : h₀.get? a with
    | none => rfl
    | some o' => have := F.keep a o' e; rw [fresh a ha] at this; cases this
  have hLlt : L < d := hd ▸ F.ns.lt
  have nlt : ∀ p ∈ news, p.1 < d := fun p hp => hd ▸ Heap.lt_size (N p hp).1
  have n1 : ∀ b : Nat, b < d → b ≠ d ∧ b ≠ d + 1 ∧ b ≠ d + 2 := fun b hb => ⟨by omega, by omega, by omega⟩
  obtain ⟨oC₁, heC₁, hoC₁⟩ := LCg.ns_obj hns₁
  have loop : ∀ s₃ : Shared, s₃ = { s₂ with heap := h₁ } →
      codeAny (model prog w) A (.compLoop (.ListComp elt [⟨.Name x px, iter, [], 0⟩] scope pos) 0 (.ref I) (.ref d) (compEnvC scope ((x, d + 2) :: cl) (d + 1) env))
        (RR (.ref d) (d + 1)) s₃ := by
    rintro s₃ rfl
    refine codeAny_compLoop_tests
      (fun k s' => ∃ h' tk i ys v₀, s' = { s₂ with heap := h', toks := tk } ∧ i ≤ n ∧ k = n + 1 - i ∧ ys.length = i ∧ (∀ i y, ys[i]? = some y → R i y) ∧ St i h' ∧ Fr h₀ L h' m ∧ h'.get? (d + 1) = some oC₁ ∧ (∃ oc, h'.get? (d + 2) = some oc ∧ oc.data = .cell v₀) ∧ News h₀ L h' ((d, LCg.lst ys) :: news)) ?_ (n + 1)
      ⟨h₁, _, 0, [], none, rfl, Nat.zero_le _, rfl, rfl, (fun i y e => nomatch e), hst₁, F.keeps old, heC₁, ⟨_, hcell, rfl⟩, fun p hp => ?_⟩
    · rintro k s' ⟨h', tk, i, ys, v₀, rfl, hi, rfl, hyl, hR, hst', F', hn', hcl', N'⟩
      by_cases hlt : i < n
      · refine W.item i _ _ _ hlt hst' fun v h₂ tk₂ hPv hst₂ hk₂ => ?_
        have kk : ∀ b o, b ≠ I → h'.get? b = some o → h₂.get? b = some o := fun b o hb e => hk₂ b o (by simpa using hb) e
        obtain ⟨oc', hoc', hdc'⟩ := hcl'
        have hc₂ : h₂.get? (d + 2) = some oc' := kk _ _ (Ne.symm (n1 I hIlt).2.2) hoc'
        refine wpAny_assign_Name (wpAny_storeName_cell (c := d + 2) hkind hx (by simp [compEnvC]) ⟨_, hc₂, hdc'⟩ fun h₃ hcell₃ hs₃ => ?_)
        refine wpAny_tests_nil ?_
        simp only [if_true]
        have k3 : ∀ b o, b ≠ d + 2 → h₂.get? b = some o → h₃.get? b = some o := fun b o hb e => hs₃.extBut b o hb e
        have hDf : d + 2 ∉ fp := fun hm => by have q : @LT.lt Nat _ (d + 2) d := hfp _ hm; omega
        have hst₃ : St (i + 1) h₃ := W.frame _ _ _ hst₂ fun b hb o e => k3 b o (fun q => hDf (q ▸ hb)) e
        obtain ⟨oI, heI⟩ := hIo _ _ hst₃
        obtain ⟨oc, hoc, hdc⟩ := hcell₃
        have hC₃ : h₃.get? (d + 1) = some oC₁ := k3 _ _ (by omega) (kk _ _ (Ne.symm (n1 I hIlt).2.1) hn')
        have F₃ : Fr h₀ L h₃ m := (LCg.fr_but F' hk₂ hIL hI₀).change hs₃ (by have := (n1 L hLlt).2.2; exact Ne.symm this) (fresh₀ _ (by omega))
        have N₂ : News h₀ L h₂ ((d, LCg.lst ys) :: news) := LCg.news_but N' hk₂ fun p hp => by
          rcases List.mem_cons.mp hp with rfl | hp
          · exact Ne.symm (n1 I hIlt).1
          · exact off p hp
        have N₃ : News h₀ L h₃ ((d + 2, oc) :: (I, oI) :: (d + 1, oC₁) :: (d, LCg.lst ys) :: news) := fun p hp => by
          rcases List.mem_cons.mp hp with rfl | hp
          · exact ⟨hoc, Ne.symm (n1 L hLlt).2.2, fresh₀ _ (by omega)⟩
          rcases List.mem_cons.mp hp with rfl | hp
          · exact ⟨heI, Ne.symm hIL, hI₀⟩
          rcases List.mem_cons.mp hp with rfl | hp
          · exact ⟨hC₃, Ne.symm (n1 L hLlt).2.1, fresh₀ _ (by omega)⟩
          have z := N₂ p hp
          refine ⟨k3 _ _ ?_ z.1, z.2⟩
          rcases List.mem_cons.mp hp with rfl | hp
          · show (d : Nat) ≠ d + 2; omega
          · exact (n1 p.1 (nlt p hp)).2.2
        refine T i v I oI (d + 1) oC₁ (d + 2) oc d ys h₃ _ _ _ hlt hPv hdc F₃ N₃ fun y h₄ tk₄ hy F₄ N₄ => ?_
        have zc := (N₄ (d + 2, oc) List.mem_cons_self).1
        have zI := (N₄ (I, oI) (List.mem_cons_of_mem _ List.mem_cons_self)).1
        have zC := (N₄ (d + 1, oC₁) (List.mem_cons_of_mem _ (List.mem_cons_of_mem _ List.mem_cons_self))).1
        have zD := (N₄ (d, LCg.lst ys) (List.mem_cons_of_mem _ (List.mem_cons_of_mem _ (List.mem_cons_of_mem _ List.mem_cons_self)))).1
        have N₄' : News h₀ L h₄ news := fun p hp => N₄ p (List.mem_cons_of_mem _ (List.mem_cons_of_mem _ (List.mem_cons_of_mem _ (List.mem_cons_of_mem _ hp))))
        have hst₄ : St (i + 1) h₄ := hSt _ _ _ _ hst₃ heI zI F₄.keep N₄'
        refine append_at (hsz := by show ys.toArray.size ≤ sizeLine; rw [List.size_toArray, hyl]; exact Nat.le_trans hi hsz) zD fun h₅ hs₅ hD₅ => ?_
        have hDf' : d ∉ fp := fun hm => Nat.lt_irrefl _ (hfp _ hm)
        refine ⟨n + 1 - (i + 1), by omega, h₅, tk₄, i + 1, ys ++ [y], some v, rfl, hlt, rfl, by rw [List.length_append, List.length_singleton, hyl], ?_, W.frame _ _ _ hst₄ fun b hb o e => hs₅.extBut b o (fun q => hDf' (q ▸ hb)) e, F₄.change hs₅ (Ne.symm (n1 L hLlt).1) (fresh₀ _ (Nat.le_refl _)),
          hs₅.extBut _ _ (by show (d + 1 : Nat) ≠ d; omega) zC, ⟨oc, hs₅.extBut _ _ (by show (d + 2 : Nat) ≠ d; omega) zc, hdc⟩, fun p hp => ?_⟩
        · intro j z hz
          rcases Nat.lt_or_ge j ys.length with q | q
          · rw [List.getElem?_append_left q] at hz; exact hR j z hz
          · rw [List.getElem?_append_right q] at hz
            have h0 : j - ys.length = 0 := by
              rcases e : j - ys.length with _ | t
              · rfl
              · rw [e] at hz; cases hz
            rw [h0] at hz
            have e : y = z := Option.some.inj hz
            subst e
            have : j = i := by omega
            subst this; exact hy
        · rcases List.mem_cons.mp hp with rfl | hp
          · exact ⟨hD₅.trans (congrArg some (LCg.lst_snoc ys y)), Ne.symm (n1 L hLlt).1, fresh₀ _ (Nat.le_refl _)⟩
          · exact ⟨hs₅.extBut _ _ (n1 p.1 (nlt p hp)).1 (N₄' p hp).1, (N₄' p hp).2⟩
      · obtain rfl : i = n := Nat.le_antisymm hi (Nat.not_lt.mp hlt)
        refine W.done _ _ _ hst' fun h₂ tk₂ hk₂ => ?_
        refine hRR d (d + 1) h₂ tk₂ _ ys (LCg.fr_but F' hk₂ hIL hI₀) (LCg.news_but N' hk₂ fun p hp => by
          rcases List.mem_cons.mp hp with rfl | hp
          · exact Ne.symm (n1 I hIlt).1
          · exact off p hp) (hoC₁.ns (hk₂ _ _ (by simpa using Ne.symm (n1 I hIlt).2.1) hn')) (fresh₀ _ (by omega)) (Ne.symm (n1 L hLlt).2.1) (by show (d + 1 : Nat) ≠ d; omega) (fun p hp => (n1 p.1 (nlt p hp)).2.1) (fun p hp => (n1 p.1 (nlt p hp)).1) hyl hR
    · rcases List.mem_cons.mp hp with rfl | hp
      · exact ⟨hacc, Ne.symm (n1 L hLlt).1, fresh₀ _ (Nat.le_refl _)⟩
      · exact ⟨old _ _ (N p hp).1, (N p hp).2⟩
  exact codeAny_compStart_list (loop _ rfl) (W.self 0 _ _ _ hst₁ (loop _ rfl))
theorem off1_of {D : Addr} : ∀ {l : List (Addr × Obj)}, (∀ p ∈ l, @Ne Nat p.1 D) → LCg.Off1 D l
  | [], _ => trivial
  | _ :: _, h => ⟨h _ List.mem_cons_self, off1_of fun p hp => h p (List.mem_cons_of_mem _ hp)⟩
noncomputable def AfterC (prog : Program) (w : World) (A : Around) (h₀ : Heap) (L : Addr) (m : Str → Option Value) (env : Env) (elt : PySem.Expr) (x : Str) (scope : Scope) (cl : List (Str × Addr)) (y : Str) (Q : Flow → Shared → Prop) (xv : Value) (s₁ : Shared) : Prop :=
  ∃ ax its news R, xv = .ref ax ∧ A.handled = none ∧ Fr h₀ L s₁.heap m ∧ News h₀ L s₁.heap news ∧ LCg.SrcAt h₀ ax its news ∧ its.size ≤ sizeLine ∧
      (∀ g, TurnsC prog w A h₀ L m env elt x scope cl { s₁ with heap := g } (fun i v => its[i]? = some v) R its.size news) ∧
      ∀ g (ys : List Value), ys.length = its.size → (∀ i y, ys[i]? = some y → R i y) → LCg.FinA h₀ L m { s₁ with heap := g } y Q ys news
/-- y = [elt for x in the list], x a cell of the block's -/
theorem Assign_ListComp_C {elt iter : PySem.Expr} {x y : Str} {px py : Pos} {scope : Scope} {cl : List (Str × Addr)} {pos spos : Pos} {Q : Flow → Shared → Prop} (_ : Fr h₀ L s.heap m) (hLe : env.locals = L)
    (hsw : swapsWith (.ListComp elt [⟨.Name x px, iter, [], 0⟩] scope pos) (some (.Name y py)) spos.line env = pure true)
    (hclos : closureFor scope env = pure cl) (hlay : ∀ k, cellsFrom k scope.names cl = (x, k) :: cl) (hpc : ∀ g, pushCells g scope.names = g.push { cls := .type "cell", data := .cell none })
    (hkind : scope.kind = .function) (hnames : ∀ z ∈ scope.names, z.2 = .local → scope.names.lookup z.1 = some .local) (hx : (relabel scope env).names.lookup x = some .cell)
    (hy : env.kindOf y = some .local) (hp : (env.scope.kind == .class || (env.scope.kind == .module && env.locals != env.globals)) = false)
    (hs : ∀ x, foldedSetIterable iter env x = pure x)
    (h : wpAny (model prog w) A (eval iter env) (AfterC prog w A h₀ L m env elt x scope cl y Q) E s) :
    wpAny (model prog w) A (exec (.Assign [.Name y py] (.ListComp elt [⟨.Name x px, iter, [], 0⟩] scope pos) spos) env) Q E s := by
  subst hLe
  rw [exec_Assign_Name_used _ _ _ _ hsw]
  refine wpAny_bind (wpAny_standAt (wpAny_bind ?_))
  show wpAny _ A (do let _ ← comprehension (.ListComp elt [⟨.Name x px, iter, [], 0⟩] scope pos) scope env _ (newList []) false (eval iter env) (some (assign (.Name y py) env))) _ _ s
  refine wpAny_bind (wpAny_mono (wpAny_comprehension_free (use := some (assign (.Name y py) env)) (Q := fun _ s' => Q .next s') rfl hs hclos hkind hnames
    (wpAny_mono h (fun xv s₁ h₁ => ?_) fun _ _ e => e)) (fun _ s' hq => wpAny_pure (wpAny_pure hq)) fun _ _ e => e)
  obtain ⟨ax, its, news, R, rfl, hh, F, N, S, hsz, T, fin⟩ := h₁
  have hl := S.list F.keep N
  have hlt : ax < s₁.heap.objs.size := by obtain ⟨_, e, _⟩ := hl; exact Heap.lt_size e
  refine wpAny_pyIter_list hl ?_
  have up : ∀ b o, s₁.heap.get? b = some o → (s₁.heap.push { cls := .type "list_iterator", data := .fields #[.ref ax, .int 0 0] }).get? b = some o := fun b o e => Heap.get?_push_of_some _ e
  refine block_C (R := R) (Walks.list hh s₁.heap.objs.size ax (Nat.ne_of_lt hlt) its) hsz (fun i h st => by obtain ⟨o, e, _⟩ := st.1; exact ⟨o, e⟩) (fun i h h' o st e e' k N => LCg.list_st i h h' o news st e e' k N S) hlay hpc hkind hx ⟨⟨_, Heap.get?_push_size _ rfl, rfl, rfl⟩, hl.push _⟩ (fun b hb => ?_)
    (F.keeps up) (N.grown up) (Nat.ne_of_lt F.ns.lt) (next_is_new F) (fun p hp => Nat.ne_of_lt (Heap.lt_size (N p hp).1)) (T _) ?_
  · show b < (s₁.heap.push _).objs.size
    rw [Heap.size_push]
    rcases List.mem_cons.mp hb with rfl | hb
    · exact Nat.lt_succ_self _
    · rw [List.mem_singleton.mp hb]; exact Nat.lt_succ_of_lt hlt
  · intro D C h' tk m' ys F' N' hn hC₀ hCL hCD offC offD hyl hR
    show wpAny _ A (assign (.Name y py) env (.ref D)) _ _ _
    refine wpAny_assign_Name (wpAny_storeName_local hy F'.ns (fun h₂ hn₂ hs₂ => ?_) hp)
    have hL₀ : h₀.get? env.locals = none := Heap.get?_none_of_le F'.above
    have F₂ : Fr h₀ env.locals h₂ (fun z => if z = y then some (.ref D) else m z) := ⟨hn₂, fun b o e => hs₂.extBut b o (fun q => by rw [q, hL₀] at e; cases e) (F'.keep b o e), F'.above⟩
    refine ⟨m', hn.sameBut hs₂ hCL, fun h'' hs'' => fin (s₁.heap.push { cls := .type "list_iterator", data := .fields #[.ref ax, .int 0 0] }) ys hyl hR D h'' _ (F₂.change hs'' hCL hC₀) (fun p hp => ?_) (off1_of offD)⟩
    have z : h₂.get? p.1 = some p.2 := hs₂.extBut _ _ (N' p hp).2.1 (N' p hp).1
    refine ⟨hs''.extBut _ _ ?_ z, (N' p hp).2⟩
    rcases List.mem_cons.mp hp with rfl | hp
    · exact Ne.symm hCD
    · exact offC p hp
end
end
section
open PySem PySem.W PyProof.Rows PySem.Calls PySem.Spec
local macro_rules | `(tactic| walk_at $s:str) => `(tactic| k_extra $s)
local macro_rules | `(tactic| k_ne) => `(tactic| walk_at "M ne")

theorem resetWo : True := by w_top off; trivial
section
structure WSt where
  ws : List (Int × Int)
  worth : Int
  step : Int
noncomputable def wStep (ns : List Int) (st : WSt) (k : Nat) : WSt :=
  let c := ns.getD k 0
  if c = 1 then ⟨st.ws ++ [(0, (k : Int) + 1)], st.worth, st.step⟩ else
    let step := if st.step < 8 ∨ c ≠ ns.getD 0 0 then Int.fdiv st.step 2 else st.step
    ⟨st.ws ++ [(st.worth + (c - 1) * step, 0)], st.worth + (c - 1) * step, step⟩
noncomputable def wSt (ns : List Int) (i : Nat) : WSt := (List.range i).foldl (wStep ns) ⟨[(0, 0)], 0, 8⟩
noncomputable def IsTup2 (o : Obj) (w : Int × Int) : Prop := ∃ ta tb : Tok, o = { cls := .type "tuple", data := .seq #[.int w.1 ta, .int w.2 tb] }
structure WJ (ns : List Int) (x D : Addr) (i : Nat) (m : Str → Option Value) (nx : List (Addr × Obj)) (as : List Addr) (tups : List (Addr × Obj)) : Prop where
  len : as.length = i + 1
  wlen : (wSt ns i).ws.length = i + 1
  nx : nx = (D, listOf (as.map Value.ref).toArray i) :: tups
  get : ∀ (j : Nat) (a : Addr) (w : Int × Int), as[j]? = some a → (wSt ns i).ws[j]? = some w → ∃ o, (a, o) ∈ tups ∧ IsTup2 o w
  tup : ∀ p ∈ tups, p.2.cls = Value.type "tuple"
  worth : ∃ t, m (Str.ofString "worth") = some (.int (wSt ns i).worth t)
  step : ∃ t, m (Str.ofString "step") = some (.int (wSt ns i).step t)
  step8 : 0 ≤ (wSt ns i).step ∧ (wSt ns i).step ≤ 8
  worths : m (Str.ofString "worths") = some (.ref D)
  stalk : m (Str.ofString "stalk") = some (.ref x)
theorem wSt_succ (ns : List Int) (i : Nat) : wSt ns (i + 1) = wStep ns (wSt ns i) i := by
  unfold wSt; rw [List.range_succ, List.foldl_append]; rfl
theorem WJ.next {ns : List Int} {x D : Addr} {i : Nat} {m₁ m' : Str → Option Value} {nx : List (Addr × Obj)} {as : List Addr} {tups : List (Addr × Obj)} (J : WJ ns x D i m₁ nx as tups)
    (D' : Addr) {o : Obj} {w : Int × Int} {worth step : Int} (e : wSt ns (i + 1) = ⟨(wSt ns i).ws ++ [w], worth, step⟩) (ho : IsTup2 o w) (hs : 0 ≤ step ∧ step ≤ 8)
    (h1 : ∃ t, m' (Str.ofString "worth") = some (.int worth t)) (h2 : ∃ t, m' (Str.ofString "step") = some (.int step t)) (h3 : m' (Str.ofString "worths") = some (.ref D)) (h4 : m' (Str.ofString "stalk") = some (.ref x)) :
    WJ ns x D (i + 1) m' ((D, listOf ((as.map Value.ref).toArray.push (.ref D')) (i + 1)) :: (D', o) :: tups) (as ++ [D']) ((D', o) :: tups) where
  len := by rw [List.length_append, J.len]; rfl
  wlen := by rw [e]; show ((wSt ns i).ws ++ [w]).length = _; rw [List.length_append, J.wlen]; rfl
  nx := by simp
  get := by
    intro j a w' ha hw'
    rw [e] at hw'
    have hw2 : ((wSt ns i).ws ++ [w])[j]? = some w' := hw'
    by_cases hj : j < i + 1
    · rw [List.getElem?_append_left (by rw [J.len]; exact hj)] at ha
      rw [List.getElem?_append_left (by rw [J.wlen]; exact hj)] at hw2
      obtain ⟨o', h, r⟩ := J.get j a w' ha hw2
      exact ⟨o', List.mem_cons_of_mem _ h, r⟩
    · rw [List.getElem?_append_right (by rw [J.len]; omega), J.len] at ha
      rw [List.getElem?_append_right (by rw [J.wlen]; omega), J.wlen] at hw2
      have hj0 : j - (i + 1) = 0 := by
        rcases Nat.eq_zero_or_pos (j - (i + 1)) with h | h
        · exact h
        · rw [List.getElem?_eq_none (by simp; omega)] at ha; cases ha
      rw [hj0] at ha hw2
      cases ha; cases hw2
      exact ⟨o, List.mem_cons_self, ho⟩
  tup := by
    intro p hp
    rcases List.mem_cons.mp hp with rfl | hp
    · obtain ⟨ta, tb, rfl⟩ := ho; rfl
    · exact J.tup p hp
  worth := by rw [e]; exact h1
  step := by rw [e]; exact h2
  step8 := by rw [e]; exact hs
  worths := h3
  stalk := h4
theorem w_fin {h₀ : Heap} {L D D' : Addr} {J : (Str → Option Value) → List (Addr × Obj) → Prop} {m' : Str → Option Value} {own nx tups : List (Addr × Obj)} {o lo lo' : Obj} {s₁ : Shared} {h' : Heap} {tk : Nat}
    (F' : Fr h₀ L h' m') (N' : News h₀ L h' ((D', o) :: (D, lo') :: (tups ++ own))) (hoff : OwnOff own (nx.map (·.1))) (hnx : nx = (D, lo) :: tups) (hlt : AllLt D' (tups ++ own))
    (hj : J m' ((D, lo') :: (D', o) :: tups)) : InvEndG h₀ L J own s₁ { s₁ with heap := h', toks := tk } := by
  refine InvEndG.intro F' N' hj ?_ ?_ ?_
  · intro p hp b hb
    subst hnx
    simp only [List.map_cons, List.mem_cons] at hb
    rcases hb with rfl | rfl | hb
    · exact hoff p hp _ (by simp)
    · exact Nat.ne_of_lt (allLt_mem hlt p (List.mem_append_right _ hp))
    · exact hoff p hp _ (by simp only [List.map_cons]; exact List.mem_cons_of_mem _ hb)
  · intro p hp
    simp only [List.mem_cons, List.mem_append] at hp ⊢
    rcases hp with h | h | h
    · exact .inr (.inl h)
    · exact .inl h
    · exact .inr (.inr (.inl h))
  · intro p hp
    exact List.mem_cons_of_mem _ (List.mem_cons_of_mem _ (List.mem_append_right _ hp))
theorem wStep1 {ns : List Int} {i : Nat} (h : ns.getD ((i : Int)).toNat 0 = 1) : wSt ns (i + 1) = ⟨(wSt ns i).ws ++ [(0, (i : Int) + 1)], (wSt ns i).worth, (wSt ns i).step⟩ := by
  rw [wSt_succ]; unfold wStep; rw [Int.toNat_natCast] at h; simp only [h, if_true]
theorem wStep2 {ns : List Int} {i : Nat} (h : ¬ ns.getD ((i : Int)).toNat 0 = 1) (h2 : (wSt ns i).step < 8 ∨ ns.getD ((i : Int)).toNat 0 ≠ ns.getD (Int.toNat 0) 0) :
    wSt ns (i + 1) = ⟨(wSt ns i).ws ++ [((wSt ns i).worth + (ns.getD ((i : Int)).toNat 0 - 1) * (wSt ns i).step.fdiv 2, 0)], (wSt ns i).worth + (ns.getD ((i : Int)).toNat 0 - 1) * (wSt ns i).step.fdiv 2, (wSt ns i).step.fdiv 2⟩ := by
  rw [wSt_succ]; unfold wStep; rw [Int.toNat_natCast] at h h2 ⊢
  have h2' : (wSt ns i).step < 8 ∨ ns.getD i 0 ≠ ns.getD 0 0 := h2
  simp only [h, if_false, h2', if_true]
theorem wStep3 {ns : List Int} {i : Nat} (h : ¬ ns.getD ((i : Int)).toNat 0 = 1) (h2 : ¬ (wSt ns i).step < 8) (h3 : ¬ ns.getD ((i : Int)).toNat 0 ≠ ns.getD (Int.toNat 0) 0) :
    wSt ns (i + 1) = ⟨(wSt ns i).ws ++ [((wSt ns i).worth + (ns.getD ((i : Int)).toNat 0 - 1) * (wSt ns i).step, 0)], (wSt ns i).worth + (ns.getD ((i : Int)).toNat 0 - 1) * (wSt ns i).step, (wSt ns i).step⟩ := by
  rw [wSt_succ]; unfold wStep; rw [Int.toNat_natCast] at h h3 ⊢
  have h2' : ¬ ((wSt ns i).step < 8 ∨ ns.getD i 0 ≠ ns.getD 0 0) := fun q => q.elim h2 h3
  simp only [h, if_false, h2']
noncomputable def WorthsPost (ns : List Int) (h h' : Heap) (v : Value) : Prop :=
  ∃ (D : Addr) (as : List Addr) (nw : List (Addr × Obj)), v = .ref D ∧ Made h h' nw ∧ (D, listOf (as.map Value.ref).toArray ns.length) ∈ nw ∧ as.length = ns.length + 1 ∧ (wSt ns ns.length).ws.length = ns.length + 1 ∧
    ∀ (j : Nat) (a : Addr) (w : Int × Int), as[j]? = some a → (wSt ns ns.length).ws[j]? = some w → ∃ o, (a, o) ∈ nw ∧ IsTup2 o w
theorem map_fix5 {m : Str → Option Value} {y₁ y₂ y₃ y₄ : Str} {v₁ v₂ v₃ v₄ : Value} (h1 : m y₁ = some v₁) (h2 : m y₂ = some v₂) (h3 : m y₃ = some v₃) (h4 : m y₄ = some v₄) :
    m = fun z => if z = y₁ then some v₁ else if z = y₂ then some v₂ else if z = y₃ then some v₃ else if z = y₄ then some v₄ else m z := by
  funext z
  (repeat' split) <;> simp_all
local macro_rules | `(tactic| k_all) => `(tactic| assumption)
theorem lay1 : True := by
  k_with "M enter" => (refine wpAny_call ?_; k_dflt (refine' code_full ?zk1 ?zk2 ?zk3 ?zk5 ?zkA ?zkF ?zkK ?zk6 ?zk7 ?zk8 ?zk9 ?zkB ?zkP ?_ ?zc2 ?zc3 ?zc4 ?zc5; (case zkA => exact rfl); (case zkF => exact rfl); (case zkK => assumption); (case zk1 => k_asm); (case zk2 => k_asm); (case zk3 => k_asm); (case zk5 => k_asm); (case zk6 => k_is); (case zk7 => k_is); (case zk8 => ktr_room); (case zk9 => exact BindsTo.of_eq rfl); (case zc5 => decide); (case zkP => exact List.cons_ne_nil _ _); (case zkB => exact locs rfl); (case zc2 => exact rfl); (case zc3 => exact rfl); (case zc4 => exact rfl); k_whole); intro zL' zh' tk9 zp9 zF' zN' zB' zX' zT'; (try dsimp only); (try k_fold))
  k_with "M ne" => (refine neN ?_; (try dsimp only); intro ze9; have ze8 := Eq.symm ze9; (repeat ((with_reducible rename _ ≠ _ ∧ _ => zx9); obtain ⟨zy9, zz9⟩ := zx9)); with_reducible contradiction)
  k_with "call ref" => (k_here; k_dflt (first | ((with_reducible show wpAny _ _ (call (Value.ref 69) [Value.int _ _, Value.int _ _]) _ _ _); refine' Cc.use (c_lt _ _ _ _) ?zk1 ?zk2 ?zk3 ?zk4 ?zk5 ?zk6 ?zk7 ?zk8 ?_) | ((with_reducible show wpAny _ _ (call (Value.ref 76) [Value.int _ _, Value.int _ _]) _ _ _); refine' Cc.use (c_eq _ _ _ _) ?zk1 ?zk2 ?zk3 ?zk4 ?zk5 ?zk6 ?zk7 ?zk8 ?_) | ((with_reducible show wpAny _ _ (call (Value.ref 83) [Value.int _ _, Value.int _ _]) _ _ _); refine' Cc.use (c_ne _ _ _ _) ?zk1 ?zk2 ?zk3 ?zk4 ?zk5 ?zk6 ?zk7 ?zk8 ?_) | ((with_reducible show wpAny _ _ (call (Value.ref 90) [Value.int _ _, Value.int _ _]) _ _ _); refine' Cc.use (c_gt _ _ _ _) ?zk1 ?zk2 ?zk3 ?zk4 ?zk5 ?zk6 ?zk7 ?zk8 ?_) | ((with_reducible show wpAny _ _ (call (Value.ref 97) [Value.int _ _]) _ _ _); refine' Cc.use (c_not_ _ _) ?zk1 ?zk2 ?zk3 ?zk4 ?zk5 ?zk6 ?zk7 ?zk8 ?_) | ((with_reducible show wpAny _ _ (call (Value.ref 104) [Value.int _ _, Value.int _ _]) _ _ _); refine' Cc.use (c_add _ _ _ _) ?zk1 ?zk2 ?zk3 ?zk4 ?zk5 ?zk6 ?zk7 ?zk8 ?_) | ((with_reducible show wpAny _ _ (call (Value.ref 111) [Value.bool _, Value.bool _]) _ _ _); refine' Cc.use (c_and_ _ _) ?zk1 ?zk2 ?zk3 ?zk4 ?zk5 ?zk6 ?zk7 ?zk8 ?_) | ((with_reducible show wpAny _ _ (call (Value.ref 146) [Value.bool _, Value.bool _]) _ _ _); refine' Cc.use (c_or_ _ _) ?zk1 ?zk2 ?zk3 ?zk4 ?zk5 ?zk6 ?zk7 ?zk8 ?_) | ((with_reducible show wpAny _ _ (call (Value.ref 160) [Value.int _ _, Value.int _ _]) _ _ _); refine' Cc.use (c_sub _ _ _ _) ?zk1 ?zk2 ?zk3 ?zk4 ?zk5 ?zk6 ?zk7 ?zk8 ?_) | ((with_reducible show wpAny _ _ (call (Value.ref 132) [Value.int _ _, Value.int _ _]) _ _ _); refine' Cc.use (c_mod _ _ _ _ ?zkb) ?zk1 ?zk2 ?zk3 ?zk4 ?zk5 ?zk6 ?zk7 ?zk8 ?_; (case zkb => first | decide | omega)) | ((with_reducible show wpAny _ _ (call (Value.ref 118) [Value.int _ _, Value.int 8 _]) _ _ _); refine' Cc.use (c_floordiv8 _ _ _) ?zk1 ?zk2 ?zk3 ?zk4 ?zk5 ?zk6 ?zk7 ?zk8 ?_) | ((with_reducible show wpAny _ _ (call (Value.ref 125) [Value.int 1 _, Value.int 3 _]) _ _ _); refine' Cc.use (c_lshift13 _ _) ?zk1 ?zk2 ?zk3 ?zk4 ?zk5 ?zk6 ?zk7 ?zk8 ?_) | ((with_reducible show wpAny _ _ (call (Value.ref 153) [Value.int _ _, Value.int 1 _]) _ _ _); refine' Cc.use (c_rshift1 _ _ _ ?zkb) ?zk1 ?zk2 ?zk3 ?zk4 ?zk5 ?zk6 ?zk7 ?zk8 ?_; (case zkb => first | decide | omega)) | ((with_reducible show wpAny _ _ (call (Value.ref 174) [Value.int _ _, Value.int _ _]) _ _ _); refine' Cc.use (c_xor _ _ _ _) ?zk1 ?zk2 ?zk3 ?zk4 ?zk5 ?zk6 ?zk7 ?zk8 ?_) | ((with_reducible show wpAny _ _ (call (Value.ref 167) [Value.int _ _, Value.int _ _]) _ _ _); refine' Cc.use (c_truediv _ _ _ _ ?zkb) ?zk1 ?zk2 ?zk3 ?zk4 ?zk5 ?zk6 ?zk7 ?zk8 ?_; (case zkb => first | decide | omega)) | ((with_reducible show wpAny _ _ (call (Value.ref 139) [Value.float _ _, Value.int 24 _]) _ _ _); refine' Cc.use (c_mulf24 _ _ _) ?zk1 ?zk2 ?zk3 ?zk4 ?zk5 ?zk6 ?zk7 ?zk8 ?_) | ((with_reducible show wpAny _ _ (call (Value.ref 139) [Value.int _ _, Value.int _ _]) _ _ _); refine' Cc.use (c_mul _ _ _ _ ?zkb) ?zk1 ?zk2 ?zk3 ?zk4 ?zk5 ?zk6 ?zk7 ?zk8 ?_; (case zkb => first | decide | omega))); (case zk1 => k_asm); (case zk2 => k_asm); (case zk3 => k_asm); (case zk4 => k_asm); (case zk5 => k_asm); (case zk6 => first | exact rfl | assumption); (case zk7 => ktr_room); (case zk8 => ktr_units); (dsimp only [retV]); intro zt9 zh9 ztk9 zF9 zN9; (try k_fold))
  k_with "M steps" => repeat' (first | (k_unfold; (try dsimp only)) | (with_reducible first | refine Cont.next ?_ | refine Cont.ret ?_ | refine Cont.brk ?_ | refine Cont.cont ?_) | (k_end; wrow_close) | ((fail_if_success (with_reducible show wpAny _ _ (pyIter _) _ _ _)); walk1) | (dsimp only; (fail_if_success (with_reducible show wpAny _ _ (pyIter _) _ _ _)); walk1) | (leave1; try dsimp only) | fail "no step")
  k_with "subscriptTail" => (k_here; (with_reducible show wpAny _ _ (subscriptTail _ _ (Value.ref _) (Value.int _ _)) _ _ _); k_dflt (refine' item_base ?zk1 ?zk2 ?zk3 ?zk4 ?zk5 ?_ ?zk7; (case zk1 => k_asm); (case zk2 => with_reducible assumption); (case zk3 => with_reducible assumption); (case zk4 => omega); (case zk5 => omega); (case zk7 => with_unfolding_all rfl); k_whole))
  k_with "eval Name" => (k_here; k_dflt (refine' nameX_L ?zF ?zv ?_ ?za ?zb; (case za => rfl); (case zb => rfl); (case zF => k_asm); (case zv => rfl); k_whole))
  k_with "eval Name" => (k_here; (first | (with_reducible show wpAny _ _ (eval (PySem.Expr.Name (Str.ofString "range") _) _) _ _ _) | (with_reducible show wpAny _ _ (eval (PySem.Expr.Name (Str.ofString "len") _) _) _ _ _) | (with_reducible show wpAny _ _ (eval (PySem.Expr.Name (Str.ofString "max") _) _) _ _ _) | (with_reducible show wpAny _ _ (eval (PySem.Expr.Name (Str.ofString "min") _) _) _ _ _) | (with_reducible show wpAny _ _ (eval (PySem.Expr.Name (Str.ofString "int") _) _) _ _ _) | (with_reducible show wpAny _ _ (eval (PySem.Expr.Name (Str.ofString "enumerate") _) _) _ _ _) | (with_reducible show wpAny _ _ (eval (PySem.Expr.Name (Str.ofString "sum") _) _) _ _ _)); k_dflt (refine' nameX_B ?zF ?zX ?zT ?ze ?zv ?zn ?_ ?za ?zb; (case za => rfl); (case zb => rfl); (case zF => k_asm); (case zX => k_asm); (case zT => k_asm); (case ze => k_is); (case zv => boot_fast); (case zn => decide); k_whole))
  k_with "eval Name" => (k_here; (first | (with_reducible show wpAny _ _ (eval (PySem.Expr.Name (Str.ofString "lt") _) _) _ _ _) | (with_reducible show wpAny _ _ (eval (PySem.Expr.Name (Str.ofString "eq") _) _) _ _ _) | (with_reducible show wpAny _ _ (eval (PySem.Expr.Name (Str.ofString "ne") _) _) _ _ _) | (with_reducible show wpAny _ _ (eval (PySem.Expr.Name (Str.ofString "gt") _) _) _ _ _) | (with_reducible show wpAny _ _ (eval (PySem.Expr.Name (Str.ofString "not_") _) _) _ _ _) | (with_reducible show wpAny _ _ (eval (PySem.Expr.Name (Str.ofString "add") _) _) _ _ _) | (with_reducible show wpAny _ _ (eval (PySem.Expr.Name (Str.ofString "and_") _) _) _ _ _) | (with_reducible show wpAny _ _ (eval (PySem.Expr.Name (Str.ofString "floordiv") _) _) _ _ _) | (with_reducible show wpAny _ _ (eval (PySem.Expr.Name (Str.ofString "lshift") _) _) _ _ _) | (with_reducible show wpAny _ _ (eval (PySem.Expr.Name (Str.ofString "mod") _) _) _ _ _) | (with_reducible show wpAny _ _ (eval (PySem.Expr.Name (Str.ofString "mul") _) _) _ _ _) | (with_reducible show wpAny _ _ (eval (PySem.Expr.Name (Str.ofString "or_") _) _) _ _ _) | (with_reducible show wpAny _ _ (eval (PySem.Expr.Name (Str.ofString "rshift") _) _) _ _ _) | (with_reducible show wpAny _ _ (eval (PySem.Expr.Name (Str.ofString "sub") _) _) _ _ _) | (with_reducible show wpAny _ _ (eval (PySem.Expr.Name (Str.ofString "truediv") _) _) _ _ _) | (with_reducible show wpAny _ _ (eval (PySem.Expr.Name (Str.ofString "xor") _) _) _ _ _) | (with_reducible show wpAny _ _ (eval (PySem.Expr.Name (Str.ofString "indexOf") _) _) _ _ _) | (with_reducible show wpAny _ _ (eval (PySem.Expr.Name (Str.ofString "quotedata") _) _) _ _ _) | (with_reducible show wpAny _ _ (eval (PySem.Expr.Name (Str.ofString "rgb_to_hsv") _) _) _ _ _) | (with_reducible show wpAny _ _ (eval (PySem.Expr.Name (Str.ofString "hsv_to_rgb") _) _) _ _ _) | (with_reducible show wpAny _ _ (eval (PySem.Expr.Name (Str.ofString "_law_paint") _) _) _ _ _) | (with_reducible show wpAny _ _ (eval (PySem.Expr.Name (Str.ofString "_law_owner") _) _) _ _ _) | (with_reducible show wpAny _ _ (eval (PySem.Expr.Name (Str.ofString "_law_owners") _) _) _ _ _) | (with_reducible show wpAny _ _ (eval (PySem.Expr.Name (Str.ofString "_law_worths") _) _) _ _ _) | (with_reducible show wpAny _ _ (eval (PySem.Expr.Name (Str.ofString "_law_wins") _) _) _ _ _)); k_dflt (refine' nameX_K ?zF ?zX ?zT ?ze ?_ ?za ?zb; (case za => rfl); (case zb => rfl); (case zF => k_asm); (case zX => k_asm); (case zT => k_asm); (case ze => k_is); k_whole))
  k_with "execs cons" => (k_here; first | k_gentoks | k_made | with_reducible refine wp_cons ?_)
  trivial
set_option maxRecDepth 100000 in
set_option maxHeartbeats 8000000 in
theorem c_worths {w : World} {mean : ExcName → Option Value} {mg mb : Str → Option Value} (x : Addr) (vs : List Value) (ns : List Int) 
    (hi : IntsAre vs ns) (hl : ns.length ≤ 4) :
    Ct w mean mg mb 207 [.ref x] 2 16 (fun h => h.IsList x vs.toArray) (WorthsPost ns) := by
  unfold Ct; k_fill; intro dp un gd cn cs ad ccd cl outer A₀ base h₀ L m s Q E hB hF hX hT hkind hdp hun hpre hret
  have hl2 : ns.length < 2 ^ 62 := Nat.lt_of_le_of_lt hl (by decide)
  replace hl := PySem.Flt.Hid.mk hl
  walk_at "M enter"
  walk_at "M steps"
  rename Fr _ _ _ _ => F1
  rename News _ _ _ _ => N1
  rename IsRange _ _ _ _ _ _ _ _ => R1
  refine iter_rangeJ (ns.length) (fun i m nx => ∃ D as tups, WJ ns x D i m nx as tups) rfl R1 (small_one (by decide) (by decide) (by omega) (by omega)) (by rw [rangeSize_nat]; simp) F1 N1 ?_ ?_ ?_
  · exact ⟨_, [_], [_], ⟨rfl, rfl, rfl, by
      intro j a w h1 h2
      match j, h1, h2 with
      | 0, h1, h2 => cases h1; cases h2; exact ⟨_, List.Mem.head _, _, _, rfl⟩, by
      intro p hp; rw [List.mem_singleton.mp hp], ⟨_, rfl⟩, ⟨_, rfl⟩, ⟨(by decide : (0:Int) ≤ 8), (by decide : (8:Int) ≤ 8)⟩, rfl, rfl⟩⟩
  · rintro i t m₁ nx h tk own hin hoff ⟨D, as, tups, J⟩ F2 N2
    obtain ⟨tw, hw⟩ := J.worth
    obtain ⟨ts, hs⟩ := J.step
    have e := map_fix5 hw hs J.worths J.stalk
    rw [e, Int.zero_add] at F2
    rw [J.nx, List.cons_append] at N2
    dsimp only [envOf] at F2 N2
    have hs8 := J.step8
    have hfd : 0 ≤ (wSt ns i).step.fdiv 2 ∧ (wSt ns i).step.fdiv 2 ≤ 8 := by
      rw [Int.fdiv_eq_ediv_of_nonneg _ (by decide)]; omega
    have hsz : (List.map Value.ref as).toArray.size ≤ sizeLine := by
      rw [List.size_toArray, List.length_map, J.len, sizeLine_eq]; have := hl.out; omega
    have hD : ∀ p ∈ tups ++ own, p.1 ≠ D := by
      intro p hp
      rcases List.mem_append.mp hp with hp | hp
      · refine news_ne N2 (List.mem_cons_of_mem _ (List.mem_append_left _ hp)) List.mem_cons_self fun q => ?_
        have := J.tup p hp
        rw [q] at this; exact absurd (Value.type.inj this) (by decide)
      · exact hoff p hp D (by rw [J.nx]; exact List.mem_cons_self)
    walk_at "M steps"
    all_goals ((rename _ ∧ AllLt _ _ => hlt9); (with_reducible rename Fr _ _ _ _ => F9); (with_reducible rename News _ _ _ _ => N9))
    · exact w_fin F9 N9 hoff J.nx hlt9.2 ⟨D, _, _, J.next _ (wStep1 (by assumption)) ⟨_, _, rfl⟩ hs8 ⟨_, rfl⟩ ⟨_, rfl⟩ rfl rfl⟩
    · exact w_fin F9 N9 hoff J.nx hlt9.2 ⟨D, _, _, J.next _ (wStep2 (by assumption) (.inl (by assumption))) ⟨_, _, rfl⟩ hfd ⟨_, rfl⟩ ⟨_, rfl⟩ rfl rfl⟩
    · exact w_fin F9 N9 hoff J.nx hlt9.2 ⟨D, _, _, J.next _ (wStep2 (by assumption) (.inr (by assumption))) ⟨_, _, rfl⟩ hfd ⟨_, rfl⟩ ⟨_, rfl⟩ rfl rfl⟩
    · exact w_fin F9 N9 hoff J.nx hlt9.2 ⟨D, _, _, J.next _ (wStep3 (by assumption) (by assumption) (by assumption)) ⟨_, _, rfl⟩ hs8 ⟨_, rfl⟩ ⟨_, rfl⟩ rfl rfl⟩
  · rintro m₁ nx h tk ⟨D, as, tups, J⟩ F2 N2
    dsimp only [envOf] at F2 N2
    dsimp only
    rw [map_fix5 J.worths J.worths J.worths J.stalk] at F2
    walk_at "M steps"
    have F3 : Fr s.heap _ h _ := F2
    have N3 : News s.heap _ h _ := N2
    refine hret _ _ _ F3.keep ⟨D, as, nx, rfl, made_of N3, ?_, J.len, J.wlen, ?_⟩
    · rw [J.nx]; exact List.mem_cons_self
    · intro j a w h1 h2
      obtain ⟨o, h3, h4⟩ := J.get j a w h1 h2
      exact ⟨o, by rw [J.nx]; exact List.mem_cons_of_mem _ h3, h4⟩
end
theorem resetWi : True := by w_top off; trivial
section
open LSm
noncomputable abbrev WB := List Bool × List Bool
noncomputable def cutStep (nsr : List Int) (ra spot p : Int) (B : WB) (cut : Nat) : WB :=
  let rest := (spot - (ra - (cut : Int)) * p).toNat
  let v := nsr.getD ((cut : Int)).toNat 0
  let B0 := if 0 < v ∧ B.2.getD rest false = false then B.1.set spot.toNat true else B.1
  let B1 := if v < 2 ∧ B0.getD rest false = false then B.2.set spot.toNat true else B.2
  (B0, B1)
noncomputable def rowStep (sts : List (List Int)) (abc : List Int) (spot : Int) (B : WB) (row : Nat) : WB :=
  (List.range (abc.getD ((row : Int)).toNat 0).toNat).foldl (cutStep (sts.getD row []) (abc.getD ((row : Int)).toNat 0) spot ((5 : Int) ^ (2 - (row : Int)).toNat)) B
noncomputable def spotStep (sts : List (List Int)) (a b : Nat) (B : WB) (c : Nat) : WB :=
  (List.range 3).foldl (rowStep sts [(a : Int), b, c] (25 * a + 5 * b + c)) B
noncomputable def bStep (sts : List (List Int)) (a : Nat) (B : WB) (b : Nat) : WB := (List.range ((sts.getD 2 []).length + 1)).foldl (spotStep sts a b) B
noncomputable def aStep (sts : List (List Int)) (B : WB) (a : Nat) : WB := (List.range ((sts.getD 1 []).length + 1)).foldl (bStep sts a) B
noncomputable def wins0 : WB := (List.replicate 125 false, List.replicate 125 false)
noncomputable def winsP (sts : List (List Int)) : WB := (List.range ((sts.getD 0 []).length + 1)).foldl (aStep sts) wins0

noncomputable def BJ (W A0 A1 : Addr) (B : WB) (tail nx : List (Addr × Obj)) : Prop :=
  ∃ v0 v1, nx = (W, listOf #[.ref A0, .ref A1] 0) :: (A0, listOf v0.toArray 0) :: (A1, listOf v1.toArray 0) :: tail ∧ BoolsAre v0 B.1 ∧ BoolsAre v1 B.2 ∧ B.1.length = 125 ∧ B.2.length = 125
theorem foldl_succ {α : Type} (f : α → Nat → α) (b : α) (i : Nat) : (List.range (i + 1)).foldl f b = f ((List.range i).foldl f b) i := by
  rw [List.range_succ, List.foldl_append]; rfl
/-- what the first of a turn's two questions leaves of the first table -/
noncomputable def CutC (nsr : List Int) (ra spot p : Int) (B : WB) (cut : Nat) (b : List Bool) : Prop :=
  (¬ 0 < nsr.getD ((cut : Int)).toNat 0 ∧ b = B.1) ∨ (B.2.getD (spot - (ra - (cut : Int)) * p).toNat false = true ∧ b = B.1) ∨ (0 < nsr.getD ((cut : Int)).toNat 0 ∧ B.2.getD (spot - (ra - (cut : Int)) * p).toNat false = false ∧ b = B.1.set spot.toNat true)
/-- what a statement that may turn the first of the two tables leaves -/
noncomputable def CutEnd (base : Heap) (L W A0 : Addr) (ow : Obj) (l : List (Addr × Obj)) (m : Str → Option Value) (C : List Bool → Prop) (s : Shared) (f : Flow) (s' : Shared) : Prop :=
  f = .next ∧ ∃ h' tk' v0' b0', s' = { s with heap := h', toks := tk' } ∧ Fr base L h' m ∧ News base L h' ((W, ow) :: (A0, listOf v0'.toArray 0) :: l) ∧ BoolsAre v0' b0' ∧ b0'.length = 125 ∧ C b0'
theorem cut_fin {base h' : Heap} {L W A0 : Addr} {ow : Obj} {l : List (Addr × Obj)} {m : Str → Option Value} {C : List Bool → Prop} {v0 : List Value} {b0 : List Bool} {s : Shared} {tk : Nat}
    (F : Fr base L h' m) (N : News base L h' ((W, ow) :: (A0, listOf v0.toArray 0) :: l)) (hb : BoolsAre v0 b0) (hl : b0.length = 125) (hc : C b0) :
    CutEnd base L W A0 ow l m C s .next { s with heap := h', toks := tk } :=
  ⟨rfl, h', tk, v0, b0, rfl, F, N, hb, hl, hc⟩
theorem cut_one {prog : Program} {w : World} {A : Around} {env : Env} {st : Stmt} {rest : List Stmt} {Q : Flow → Shared → Prop} {E : Value → Shared → Prop} {s : Shared} {base : Heap} {L W A0 : Addr} {ow : Obj} {l : List (Addr × Obj)} {m : Str → Option Value}
    (C : List Bool → Prop) {x0 : List Value} (_F : Fr base L s.heap m) (_N : News base L s.heap ((W, ow) :: (A0, listOf x0.toArray 0) :: l))
    (h1 : wpAny (model prog w) A (execs [st] env) (CutEnd base L W A0 ow l m C s) E s)
    (h2 : ∀ h' tk' v0' b0', Fr base L h' m → News base L h' ((W, ow) :: (A0, listOf v0'.toArray 0) :: l) → BoolsAre v0' b0' → b0'.length = 125 → C b0' → wpAny (model prog w) A (execs rest env) Q E { s with heap := h', toks := tk' }) :
    wpAny (model prog w) A (execs (st :: rest) env) Q E s := by
  intro Γ p hΓ
  have h := h1 Γ p hΓ
  rw [execs_cons, Sem.wp_bind'] at h ⊢
  refine Sem.wp_mono _ Γ _ (fun f p' s' h' => ?_) (fun _ _ _ h' => h') _ _ h
  cases f with
  | next =>
    obtain ⟨_, h', tk', v0', b0', rfl, F, N, hb, hl, hc⟩ := (h' : CutEnd base L W A0 ow l m C s .next s')
    exact h2 h' tk' v0' b0' F N hb hl hc Γ p' hΓ
  | brk => exact nomatch (h' : CutEnd base L W A0 ow l m C s .brk s').1
  | cont => exact nomatch (h' : CutEnd base L W A0 ow l m C s .cont s').1
  | ret v => exact nomatch (h' : CutEnd base L W A0 ow l m C s (.ret v) s').1
/-- one turn's end under a loop over the two tables -/
theorem bj_fin {h₀ : Heap} {L W A0 A1 : Addr} {J : (Str → Option Value) → List (Addr × Obj) → Prop} {m' : Str → Option Value} {own nx news' tail : List (Addr × Obj)} {B B' : WB} {s₁ : Shared} {h' : Heap} {tk : Nat}
    (F' : Fr h₀ L h' m') (N' : News h₀ L h' news') (hoff : OwnOff own (nx.map (·.1))) (hb : BJ W A0 A1 B tail nx) {v0 v1 : List Value}
    (hn : ∀ p ∈ (W, listOf #[.ref A0, .ref A1] 0) :: (A0, listOf v0.toArray 0) :: (A1, listOf v1.toArray 0) :: (tail ++ own), p ∈ news')
    (h0 : BoolsAre v0 B'.1) (h1 : BoolsAre v1 B'.2) (l0 : B'.1.length = 125) (l1 : B'.2.length = 125)
    (hj : ∀ nx', BJ W A0 A1 B' tail nx' → J m' nx') : InvEndG h₀ L J own s₁ { s₁ with heap := h', toks := tk } := by
  obtain ⟨u0, u1, e, _⟩ := hb
  refine InvEndG.intro (nx := (W, listOf #[.ref A0, .ref A1] 0) :: (A0, listOf v0.toArray 0) :: (A1, listOf v1.toArray 0) :: tail) F' N' (hj _ ⟨v0, v1, rfl, h0, h1, l0, l1⟩) ?_ ?_ ?_
  · subst e; exact hoff
  · intro p hp
    refine hn p ?_
    simp only [List.mem_cons, List.mem_append] at hp ⊢
    rcases hp with h | h | h | h
    · exact .inl h
    · exact .inr (.inl h)
    · exact .inr (.inr (.inl h))
    · exact .inr (.inr (.inr (.inl h)))
  · intro p hp
    exact hn p (List.mem_cons_of_mem _ (List.mem_cons_of_mem _ (List.mem_cons_of_mem _ (List.mem_append_right _ hp))))
theorem boolsRep : ∀ k : Nat, BoolsAre (List.replicate k (.bool false)) (List.replicate k false)
  | 0 => .nil
  | k + 1 => .cons false (boolsRep k)
noncomputable def bools0 : List Value := List.replicate 125 (.bool false)
theorem bools0_are : BoolsAre bools0 (List.replicate 125 false) := by unfold bools0; exact boolsRep 125
theorem wins_ledger {h₀ h : Heap} {L W A0 A1 D1 D2 : Addr} {o2 o4 : Obj} (N : News h₀ L h [(W, listOf #[.ref A0, .ref A1] 0), (A1, listOf bools0.toArray 0), (D2, o2), (A0, listOf bools0.toArray 0), (D1, o4)]) :
    News h₀ L h [(W, listOf #[.ref A0, .ref A1] 0), (A0, listOf bools0.toArray 0), (A1, listOf bools0.toArray 0)] := fun p hp => N p (by
  simp only [List.mem_cons, List.not_mem_nil, or_false] at hp ⊢
  rcases hp with h | h | h
  · exact .inl h
  · exact .inr (.inr (.inr (.inl h)))
  · exact .inr (.inl h))
noncomputable def Apart3 (W A0 A1 : Nat) : Prop := A0 ≠ A1 ∧ W ≠ A0 ∧ W ≠ A1
theorem row_facts {h : Heap} {s0 s1 s2 : Addr} {v0 v1 v2 : List Value} {n0 n1 n2 : List Int} (hi0 : IntsAre v0 n0) (hi1 : IntsAre v1 n1) (hi2 : IntsAre v2 n2) (hl0 : n0.length ≤ 4) (hl1 : n1.length ≤ 4) (hl2 : n2.length ≤ 4)
    (hs0 : h.IsList s0 v0.toArray) (hs1 : h.IsList s1 v1.toArray) (hs2 : h.IsList s2 v2.toArray) {a b c r : Nat} (ha : a < n0.length + 1) (hb : b < n1.length + 1) (hc : c < n2.length + 1) (hr : r < 3) :
    ∃ (sr : Addr) (vsr : List Value) (nsr : List Int) (ra : Nat) (p : Int), (#[Value.ref s0, .ref s1, .ref s2])[((r : Int)).toNat]? = some (.ref sr) ∧ h.IsList sr vsr.toArray ∧ IntsAre vsr nsr ∧ nsr.length < 2 ^ 61 ∧
      [n0, n1, n2].getD r [] = nsr ∧ [(a : Int), (b : Int), (c : Int)].getD ((r : Int)).toNat 0 = (ra : Int) ∧ ra ≤ nsr.length ∧ ra ≤ 4 ∧ (5 : Int) ^ (2 - (r : Int)).toNat = p ∧ 1 ≤ p ∧ p ≤ 25 ∧
      ∀ k : Int, 0 ≤ k → k < ra → 0 ≤ 25 * (a : Int) + 5 * b + c - (ra - k) * p ∧ 25 * (a : Int) + 5 * b + c - (ra - k) * p < 125 := by
  match r, hr with
  | 0, _ => exact ⟨s0, v0, n0, a, 25, rfl, hs0, hi0, by omega, rfl, rfl, by omega, by omega, by decide, by omega, by omega, fun k h1 h2 => by omega⟩
  | 1, _ => exact ⟨s1, v1, n1, b, 5, rfl, hs1, hi1, by omega, rfl, rfl, by omega, by omega, by decide, by omega, by omega, fun k h1 h2 => by omega⟩
  | 2, _ => exact ⟨s2, v2, n2, c, 1, rfl, hs2, hi2, by omega, rfl, rfl, by omega, by omega, by decide, by omega, by omega, fun k h1 h2 => by omega⟩
theorem row_ledger {h₀ h : Heap} {L W A0 A1 T : Addr} {oT oW o0 o1 : Obj} {tail : List (Addr × Obj)} (N : News h₀ L h ((T, oT) :: (W, oW) :: (A0, o0) :: (A1, o1) :: tail)) :
    News h₀ L h ((W, oW) :: (A0, o0) :: (A1, o1) :: (T, oT) :: tail) := fun p hp => N p (by
  simp only [List.mem_cons] at hp ⊢
  rcases hp with h | h | h | h | h
  · exact .inr (.inl h)
  · exact .inr (.inr (.inl h))
  · exact .inr (.inr (.inr (.inl h)))
  · exact .inl h
  · exact .inr (.inr (.inr (.inr h))))
theorem cut_eq {nsr : List Int} {ra spot p : Int} {B : WB} {cut : Nat} {B0 B1 : List Bool}
    (h0 : (¬ 0 < nsr.getD ((cut : Int)).toNat 0 ∧ B0 = B.1) ∨ (B.2.getD (spot - (ra - (cut : Int)) * p).toNat false = true ∧ B0 = B.1) ∨ (0 < nsr.getD ((cut : Int)).toNat 0 ∧ B.2.getD (spot - (ra - (cut : Int)) * p).toNat false = false ∧ B0 = B.1.set spot.toNat true))
    (h1 : (¬ nsr.getD ((cut : Int)).toNat 0 < 2 ∧ B1 = B.2) ∨ (B0.getD (spot - (ra - (cut : Int)) * p).toNat false = true ∧ B1 = B.2) ∨ (nsr.getD ((cut : Int)).toNat 0 < 2 ∧ B0.getD (spot - (ra - (cut : Int)) * p).toNat false = false ∧ B1 = B.2.set spot.toNat true)) :
    cutStep nsr ra spot p B cut = (B0, B1) := by
  have e0 : (if 0 < nsr.getD ((cut : Int)).toNat 0 ∧ B.2.getD (spot - (ra - (cut : Int)) * p).toNat false = false then B.1.set spot.toNat true else B.1) = B0 := by
    rcases h0 with ⟨a, b⟩ | ⟨a, b⟩ | ⟨a, a', b⟩
    · rw [if_neg (fun q => a q.1), b]
    · rw [if_neg (fun q => by rw [a] at q; cases q.2), b]
    · rw [if_pos ⟨a, a'⟩, b]
  have e1 : (if nsr.getD ((cut : Int)).toNat 0 < 2 ∧ B0.getD (spot - (ra - (cut : Int)) * p).toNat false = false then B.2.set spot.toNat true else B.2) = B1 := by
    rcases h1 with ⟨a, b⟩ | ⟨a, b⟩ | ⟨a, a', b⟩
    · rw [if_neg (fun q => a q.1), b]
    · rw [if_neg (fun q => by rw [a] at q; cases q.2), b]
    · rw [if_pos ⟨a, a'⟩, b]
  unfold cutStep
  dsimp only
  rw [e0, e1]
theorem off_of {own nx : List (Addr × Obj)} {A : Addr} (h : OwnOff own (nx.map (·.1))) (hm : A ∈ nx.map (·.1)) : ∀ p ∈ own, p.1 ≠ A := fun p hp => h p hp A hm
noncomputable def WinsPost (sts : List (List Int)) (h h' : Heap) (v : Value) : Prop :=
  ∃ (W A0 A1 : Addr) (v0 v1 : List Value) (nw : List (Addr × Obj)), v = .ref W ∧ Made h h' nw ∧ nw = [(W, listOf #[.ref A0, .ref A1] 0), (A0, listOf v0.toArray 0), (A1, listOf v1.toArray 0)] ∧ BoolsAre v0 (winsP sts).1 ∧ BoolsAre v1 (winsP sts).2 ∧ (winsP sts).1.length = 125 ∧ (winsP sts).2.length = 125
local macro_rules | `(tactic| k_all) => `(tactic| assumption)
set_option maxRecDepth 100000 in
set_option maxHeartbeats 8000000 in
theorem c_wins {w : World} {mean : ExcName → Option Value} {mg mb : Str → Option Value} (S s0 s1 s2 : Addr) (v0 v1 v2 : List Value) (n0 n1 n2 : List Int)
    (hi0 : IntsAre v0 n0) (hi1 : IntsAre v1 n1) (hi2 : IntsAre v2 n2) (hl0 : n0.length ≤ 4) (hl1 : n1.length ≤ 4) (hl2 : n2.length ≤ 4) :
    Ct w mean mg mb 214 [.ref S] 2 16 (fun h => h.IsList S #[.ref s0, .ref s1, .ref s2] ∧ h.IsList s0 v0.toArray ∧ h.IsList s1 v1.toArray ∧ h.IsList s2 v2.toArray) (WinsPost [n0, n1, n2]) := by
  unfold Ct; k_fill; intro dp un gd cn cs ad ccd cl outer A₀ base h₀ L m s Q E hB hF hX hT hkind hdp hun hpre hret
  obtain ⟨hS, hs0, hs1, hs2⟩ := hpre
  have hk0 : n0.length < 2 ^ 61 := Nat.lt_of_le_of_lt hl0 (by decide)
  have hk1 : n1.length < 2 ^ 61 := Nat.lt_of_le_of_lt hl1 (by decide)
  have hk2 : n2.length < 2 ^ 61 := Nat.lt_of_le_of_lt hl2 (by decide)
  replace hl0 := PySem.Flt.Hid.mk hl0
  replace hl1 := PySem.Flt.Hid.mk hl1
  replace hl2 := PySem.Flt.Hid.mk hl2
  walk_at "M enter"
  walk_at "M steps"
  (with_reducible rename Fr _ _ _ _ => F1)
  (with_reducible rename News _ _ _ _ => N1)
  rename IsRange _ _ _ _ _ _ _ _ => R1
  rename _ < _ ∧ _ < _ ∧ _ < _ ∧ _ < _ => lt1
  rename _ < _ ∧ _ < _ ∧ _ < _ => lt2
  have N2 := wins_ledger N1
  have hap : Apart3 _ _ _ := ⟨Nat.ne_of_lt lt2.2.1, Nat.ne_of_gt lt1.2.2.1, Nat.ne_of_gt lt1.1⟩
  refine iter_rangeJ (n0.length + 1) (fun i m nx => ∃ W A0 A1, Apart3 W A0 A1 ∧ Has m [(Str.ofString "stalks", .ref S), (Str.ofString "wins", .ref W)] ∧ BJ W A0 A1 ((List.range i).foldl (aStep [n0, n1, n2]) wins0) [] nx)
    rfl R1 (small_one (by decide) (by decide) (by omega) (by omega)) (by rw [rangeSize_nat]; omega) F1 N2 ?_ ?_ ?_
  · exact ⟨_, _, _, hap, ⟨rfl, rfl, trivial⟩, _, _, rfl, bools0_are, bools0_are, rfl, rfl⟩
  · clear lt1 lt2 N2 hap N1 F1
    rintro ia ta m₁ nx h tk own hin hoff ⟨W, A0, A1, hap, hm, hb⟩ F2 N2
    obtain ⟨u0, u1, e, hu0, hu1, hq0, hq1⟩ := id hb
    subst e
    rw [has_map hm, Int.zero_add] at F2
    simp only [mapOr] at F2
    simp only [List.cons_append, List.nil_append] at N2
    dsimp only [envOf] at F2 N2
    dsimp only
    walk_at "M steps"
    (with_reducible rename Fr _ _ _ _ => F3)
    (with_reducible rename News _ _ _ _ => N3)
    rename IsRange _ _ _ _ _ _ _ _ => R3
    refine iter_rangeJ (n1.length + 1) (fun i m nx => Has m [(Str.ofString "stalks", .ref S), (Str.ofString "wins", .ref W), (Str.ofString "a", .int ia ta)] ∧ BJ W A0 A1 ((List.range i).foldl (bStep [n0, n1, n2] ia) ((List.range ia).foldl (aStep [n0, n1, n2]) wins0)) own nx)
      rfl R3 (small_one (by decide) (by decide) (by omega) (by omega)) (by rw [rangeSize_nat]; omega) F3 N3 ⟨⟨rfl, rfl, rfl, trivial⟩, _, _, rfl, hu0, hu1, hq0, hq1⟩ ?_ ?_
    · clear N3 F3 hu0 hu1 hq0 hq1
      rintro ib tb m₂ nx2 h2 tk2 own2 hin2 hoff2 ⟨hm2, hb2⟩ F2 N2
      obtain ⟨u0', u1', e, hu0, hu1, hq0, hq1⟩ := id hb2
      subst e
      rw [has_map hm2, Int.zero_add] at F2
      simp only [mapOr] at F2
      simp only [List.cons_append, List.nil_append] at N2
      dsimp only [envOf] at F2 N2
      dsimp only
      walk_at "M steps"
      (with_reducible rename Fr _ _ _ _ => F3)
      (with_reducible rename News _ _ _ _ => N3)
      rename IsRange _ _ _ _ _ _ _ _ => R4
      refine iter_rangeJ (n2.length + 1) (fun i m nx => Has m [(Str.ofString "stalks", .ref S), (Str.ofString "wins", .ref W), (Str.ofString "a", .int ia ta), (Str.ofString "b", .int ib tb)] ∧ BJ W A0 A1 ((List.range i).foldl (spotStep [n0, n1, n2] ia ib) ((List.range ib).foldl (bStep [n0, n1, n2] ia) ((List.range ia).foldl (aStep [n0, n1, n2]) wins0))) (own ++ own2) nx)
        rfl R4 (small_one (by decide) (by decide) (by omega) (by omega)) (by rw [rangeSize_nat]; omega) F3 N3 ⟨⟨rfl, rfl, rfl, rfl, trivial⟩, _, _, rfl, hu0, hu1, hq0, hq1⟩ ?_ ?_
      · clear N3 F3 hu0 hu1 hq0 hq1
        rintro ic tc m₃ nx3 h3 tk3 own3 hin3 hoff3 ⟨hm3, hb3⟩ F2 N2
        obtain ⟨u0'', u1'', e, hu0, hu1, hq0, hq1⟩ := id hb3
        subst e
        rw [has_map hm3, Int.zero_add] at F2
        simp only [mapOr] at F2
        simp only [List.cons_append, List.nil_append] at N2
        dsimp only [envOf] at F2 N2
        dsimp only
        walk_at "M steps"
        (with_reducible rename Fr _ _ _ _ => F3)
        (with_reducible rename News _ _ _ _ => N3)
        rename IsRange _ _ _ _ _ _ _ _ => R5
        refine iter_rangeJ 3 (fun i m nx => ∃ (T : Addr) (ts : Nat) (vs3 : List Value), IntsAre vs3 [(ia : Int), (ib : Int), (ic : Int)] ∧ Has m [(Str.ofString "stalks", .ref S), (Str.ofString "wins", .ref W), (Str.ofString "a", .int ia ta), (Str.ofString "b", .int ib tb), (Str.ofString "spot", .int (25 * ia + 5 * ib + ic) ts), (Str.ofString "tall", .ref T)] ∧
            BJ W A0 A1 ((List.range i).foldl (rowStep [n0, n1, n2] [(ia : Int), ib, ic] (25 * ia + 5 * ib + ic)) ((List.range ic).foldl (spotStep [n0, n1, n2] ia ib) ((List.range ib).foldl (bStep [n0, n1, n2] ia) ((List.range ia).foldl (aStep [n0, n1, n2]) wins0)))) ((T, listOf vs3.toArray 0) :: (own ++ own2 ++ own3)) nx)
          rfl R5 (by decide) (by decide) F3 (row_ledger N3) ⟨_, _, [.int _ _, .int _ _, .int _ _], .cons _ _ (.cons _ _ (.cons _ _ .nil)), ⟨rfl, rfl, rfl, rfl, rfl, rfl, trivial⟩, _, _, rfl, hu0, hu1, hq0, hq1⟩ ?_ ?_
        · clear N3 F3 hu0 hu1 hq0 hq1
          rintro ir tr m₄ nx4 h4 tk4 own4 hin4 hoff4 ⟨T, ts, vs3, hi3, hm4, hb4⟩ F2 N2
          obtain ⟨u0'', u1'', e, hu0, hu1, hq0, hq1⟩ := id hb4
          subst e
          rw [has_map hm4, Int.zero_add] at F2
          simp only [mapOr] at F2
          simp only [List.cons_append, List.nil_append] at N2
          dsimp only [envOf] at F2 N2
          dsimp only
          walk_at "M steps"
          obtain ⟨sr, vsr, nsr, ra, p, hsr, hsl, hir, hlr, hgr, hra, hra1, hra2, hp, hp1, hp2, hrest⟩ := row_facts hi0 hi1 hi2 hl0.out hl1.out hl2.out hs0 hs1 hs2 hin hin2 hin3 hin4
          (with_reducible rename Fr _ _ _ _ => F3)
          (with_reducible rename News _ _ _ _ => N3)
          rename IsRange _ _ _ _ _ _ _ _ => R6
          rw [hra] at R6
          refine iter_rangeJ ra (fun i m nx => Has m [(Str.ofString "stalks", .ref S), (Str.ofString "wins", .ref W), (Str.ofString "a", .int ia ta), (Str.ofString "b", .int ib tb), (Str.ofString "spot", .int (25 * ia + 5 * ib + ic) ts), (Str.ofString "tall", .ref T), (Str.ofString "row", .int ir tr)] ∧
              BJ W A0 A1 ((List.range i).foldl (cutStep nsr ([(ia : Int), (ib : Int), (ic : Int)].getD ((ir : Int)).toNat 0) (25 * ia + 5 * ib + ic) ((5 : Int) ^ (2 - (ir : Int)).toNat)) ((List.range ir).foldl (rowStep [n0, n1, n2] [(ia : Int), ib, ic] (25 * ia + 5 * ib + ic)) ((List.range ic).foldl (spotStep [n0, n1, n2] ia ib) ((List.range ib).foldl (bStep [n0, n1, n2] ia) ((List.range ia).foldl (aStep [n0, n1, n2]) wins0))))) ((T, listOf vs3.toArray 0) :: (own ++ own2 ++ own3 ++ own4)) nx)
            rfl R6 (small_one (by decide) (by decide) (by omega) (by omega)) (by rw [rangeSize_nat]; omega) F3 N3 ⟨⟨rfl, rfl, rfl, rfl, rfl, rfl, rfl, trivial⟩, _, _, rfl, hu0, hu1, hq0, hq1⟩ ?_ ?_
          · clear N3 F3 hu0 hu1 hq0 hq1
            rintro ik tc' m₅ nx5 h5 tk5 own5 hin5 hoff5 ⟨hm5, hb5⟩ F2 N2
            obtain ⟨x0, x1, e, hu0, hu1, hq0, hq1⟩ := id hb5
            subst e
            rw [has_map hm5, Int.zero_add] at F2
            simp only [mapOr] at F2
            simp only [List.cons_append, List.nil_append] at N2
            dsimp only [envOf] at F2 N2
            dsimp only
            have hR : 0 ≤ 25 * (ia : Int) + 5 * ib + ic - ([(ia : Int), (ib : Int), (ic : Int)].getD ((ir : Int)).toNat 0 - ik) * 5 ^ (2 - (ir : Int)).toNat ∧ 25 * (ia : Int) + 5 * ib + ic - ([(ia : Int), (ib : Int), (ic : Int)].getD ((ir : Int)).toNat 0 - ik) * 5 ^ (2 - (ir : Int)).toNat < 125 := by
              rw [hra, hp]; exact hrest ik (by omega) (by omega)
            have hS : 0 ≤ 25 * (ia : Int) + 5 * ib + ic ∧ 25 * (ia : Int) + 5 * ib + ic < 125 := by
              have q0 := hl0.out; have q1 := hl1.out; have q2 := hl2.out; omega
            have hDD : ∀ A, (A = A0 ∨ A = A1) → ∀ p ∈ (T, listOf vs3.toArray 0) :: (own ++ own2 ++ own3 ++ own4 ++ own5), p.1 ≠ A := by
              intro A hA p hp
              have hmA : ∀ {oW oA oB : Obj} {l : List (Addr × Obj)}, A ∈ ((W, oW) :: (A0, oA) :: (A1, oB) :: l).map (·.1) := by
                intro oW oA oB l; rcases hA with rfl | rfl <;> simp
              rcases List.mem_cons.mp hp with rfl | hp
              · have hne : vs3.length ≠ 125 := by have h9 := hi3.length; simp only [List.length_cons, List.length_nil] at h9; omega
                rcases hA with rfl | rfl
                · refine news_ne N2 (List.mem_cons_of_mem _ (List.mem_cons_of_mem _ (List.mem_cons_of_mem _ List.mem_cons_self))) (List.mem_cons_of_mem _ List.mem_cons_self) fun q => hne ?_
                  have q' : vs3.toArray = x0.toArray := by injection q with _ _ q _; injection q
                  rw [show vs3 = x0 by simpa using q', hu0.length, hq0]
                · refine news_ne N2 (List.mem_cons_of_mem _ (List.mem_cons_of_mem _ (List.mem_cons_of_mem _ List.mem_cons_self))) (List.mem_cons_of_mem _ (List.mem_cons_of_mem _ List.mem_cons_self)) fun q => hne ?_
                  have q' : vs3.toArray = x1.toArray := by injection q with _ _ q _; injection q
                  rw [show vs3 = x1 by simpa using q', hu1.length, hq1]
              · simp only [List.mem_append] at hp
                rcases hp with (((h | h) | h) | h) | h
                · exact off_of hoff hmA p h
                · exact off_of hoff2 hmA p h
                · exact off_of hoff3 hmA p h
                · exact off_of hoff4 hmA p h
                · exact off_of hoff5 hmA p h
            have hD0 := hDD A0 (.inl rfl)
            have hD1 := hDD A1 (.inr rfl)
            clear hDD
            have hap1 : @Ne Nat A0 A1 := hap.1
            have hap2 : @Ne Nat W A0 := hap.2.1
            have hap3 : @Ne Nat W A1 := hap.2.2
            rw [foldl_succ]
            generalize hB5 : List.foldl (cutStep nsr ([(ia : Int), (ib : Int), (ic : Int)].getD ((ir : Int)).toNat 0) (25 * ia + 5 * ib + ic) ((5 : Int) ^ (2 - (ir : Int)).toNat)) _ (List.range ik) = B5 at hq0 hq1 hu0 hu1 hb5 ⊢
            clear hB5
            repeat' (first | (k_unfold; (try dsimp only)) | (with_reducible first | refine Cont.next ?_ | refine Cont.ret ?_ | refine Cont.brk ?_ | refine Cont.cont ?_) | (k_end; wrow_close) | ((fail_if_success (with_reducible show wpAny _ _ (execs (Stmt.If _ _ _ _ :: _ :: _) _) _ _ _)); walk1) | (dsimp only; (fail_if_success (with_reducible show wpAny _ _ (execs (Stmt.If _ _ _ _ :: _ :: _) _) _ _ _)); walk1) | (leave1; try dsimp only) | fail "no step")
            dsimp only
            (with_reducible rename Fr _ _ _ _ => F3)
            (with_reducible rename News _ _ _ _ => N3)
            dsimp only at F3
            refine cut_one (CutC nsr ([(ia : Int), (ib : Int), (ic : Int)].getD ((ir : Int)).toNat 0) (25 * ia + 5 * ib + ic) ((5 : Int) ^ (2 - (ir : Int)).toNat) B5 ik) F3 N3 ?_ ?_
            · walk_at "M steps"
              all_goals ((with_reducible rename Fr _ _ _ _ => F9); (with_reducible rename News _ _ _ _ => N9))
              all_goals
                refine cut_fin F9 N9 (by assumption) ?_ ?_
                · first | assumption | (simp only [List.length_set]; assumption)
                · first | exact .inl ⟨by assumption, rfl⟩ | exact .inr (.inl ⟨by assumption, rfl⟩) | exact .inr (.inr ⟨by first | assumption | omega, by assumption, rfl⟩)
            · clear F3 N3
              intro h6 tk6 v0' b0' F3 N3 hb0 hl0' hC0
              try dsimp only
              walk_at "M steps"
              all_goals ((with_reducible rename Fr _ _ _ _ => F9); (with_reducible rename News _ _ _ _ => N9))
              all_goals
                rw [cut_eq hC0 (by first | exact .inl ⟨by assumption, rfl⟩ | exact .inr (.inl ⟨by assumption, rfl⟩) | exact .inr (.inr ⟨by first | assumption | omega, by assumption, rfl⟩))]
                refine bj_fin F9 N9 hoff5 hb5 (fun p hp => by simpa using hp) (by assumption) (by assumption) hl0' (by first | assumption | (simp only [List.length_set]; assumption)) (fun nx' hb' => ⟨⟨rfl, rfl, rfl, rfl, rfl, rfl, rfl, trivial⟩, hb'⟩)
          · rintro m₆ nx6 h6 tk6 ⟨hm6, hb6⟩ F4 N4
            obtain ⟨w0, w1, e, hw0, hw1, hr0, hr1⟩ := id hb6
            subst e
            dsimp only [envOf] at F4 N4
            dsimp only
            walk_at "M steps"
            refine bj_fin F4 N4 hoff4 hb4 (fun p hp => by simpa using hp) hw0 hw1 hr0 hr1 (fun nx' hb' => ⟨T, ts, vs3, hi3, ⟨hm6.1, hm6.2.1, hm6.2.2.1, hm6.2.2.2.1, hm6.2.2.2.2.1, hm6.2.2.2.2.2.1, trivial⟩, ?_⟩)
            rw [foldl_succ]
            unfold rowStep
            rw [hgr, hra, Int.toNat_natCast]
            rw [hra] at hb'
            exact hb'
        · rintro m₆ nx6 h6 tk6 ⟨T, ts, vs3, hi3, hm6, hb6⟩ F4 N4
          obtain ⟨w0, w1, e, hw0, hw1, hr0, hr1⟩ := id hb6
          subst e
          dsimp only [envOf] at F4 N4
          dsimp only
          walk_at "M steps"
          exact bj_fin F4 N4 hoff3 hb3 (fun p hp => by
            simp only [List.mem_cons, List.mem_append] at hp ⊢
            rcases hp with h | h | h | (h | h) | h
            · exact .inl h
            · exact .inr (.inl h)
            · exact .inr (.inr (.inl h))
            · exact .inr (.inr (.inr (.inr (.inl (.inl h)))))
            · exact .inr (.inr (.inr (.inr (.inl (.inr h)))))
            · exact .inr (.inr (.inr (.inr (.inr h))))) hw0 hw1 hr0 hr1 (fun nx' hb' => ⟨⟨hm6.1, hm6.2.1, hm6.2.2.1, hm6.2.2.2.1, trivial⟩, by rw [foldl_succ]; exact hb'⟩)
      · rintro m₃ nx3 h3 tk3 ⟨hm3, hb3⟩ F4 N4
        obtain ⟨w0, w1, e, hw0, hw1, hr0, hr1⟩ := id hb3
        subst e
        dsimp only [envOf] at F4 N4
        dsimp only
        walk_at "M steps"
        exact bj_fin F4 N4 hoff2 hb2 (fun p hp => by simpa using hp) hw0 hw1 hr0 hr1 (fun nx' hb' => ⟨⟨hm3.1, hm3.2.1, hm3.2.2.1, trivial⟩, by rw [foldl_succ]; exact hb'⟩)
    · rintro m₃ nx3 h3 tk3 ⟨hm3, hb3⟩ F4 N4
      obtain ⟨w0, w1, e, hw0, hw1, hr0, hr1⟩ := id hb3
      subst e
      dsimp only [envOf] at F4 N4
      dsimp only
      walk_at "M steps"
      exact bj_fin F4 N4 hoff hb (fun p hp => by simpa using hp) hw0 hw1 hr0 hr1 (fun nx' hb' => ⟨W, A0, A1, hap, ⟨hm3.1, hm3.2.1, trivial⟩, by rw [foldl_succ]; exact hb'⟩)
  · rintro m₁ nx h tk ⟨W, A0, A1, hap, hm, hb⟩ F2 N2
    obtain ⟨u0, u1, e, hu0, hu1, hq0, hq1⟩ := id hb
    subst e
    rw [has_map hm] at F2
    simp only [mapOr] at F2
    dsimp only [envOf] at F2 N2
    dsimp only
    walk_at "M steps"
    have F3 : Fr s.heap _ h _ := F2
    have N3 : News s.heap _ h _ := N2
    exact hret _ _ _ F3.keep ⟨W, A0, A1, u0, u1, _, rfl, made_of N3, rfl, hu0, hu1, hq0, hq1⟩
end
theorem resetQd : True := by w_top off; trivial
section
noncomputable def nlF : Bool → List Nat → List Nat
  | _, [] => []
  | b, c :: r => if b && c == 10 then nlF false r else if c = 13 then 13 :: 10 :: nlF true r else if c = 10 then 13 :: 10 :: nlF false r else c :: nlF false r
noncomputable abbrev nl (l : List Nat) : List Nat := nlF false l
noncomputable def dots : Bool → List Nat → List Nat
  | _, [] => []
  | b, c :: r => if b && c == 46 then 46 :: 46 :: dots false r else c :: dots (c == 10) r
theorem nl_skip {c : Nat} {r : List Nat} (h : c ≠ 13 ∧ c ≠ 10) : nl (c :: r) = c :: nl r := by
  show nlF false (c :: r) = _; rw [nlF.eq_2, Bool.false_and, if_neg Bool.false_ne_true, if_neg h.1, if_neg h.2]
theorem drop_cons {text : Array Nat} {s : Nat} (h : s < text.size) : text.toList.drop s = text.getD s 0 :: text.toList.drop (s + 1) := by
  rw [List.drop_eq_getElem_cons (by simpa using h)]
  congr 1
  simp [h]
theorem extract_list (text : Array Nat) (s e : Nat) : (text.extract s e).toList = (text.toList.drop s).take (e - s) := by simp
theorem take_drop_cons {text : Array Nat} {s p : Nat} (h : s < p) (hp : p ≤ text.size) : (text.toList.drop s).take (p - s) = text.getD s 0 :: (text.toList.drop (s + 1)).take (p - (s + 1)) := by
  rw [drop_cons (by omega), show p - s = (p - (s + 1)) + 1 by omega, List.take_succ_cons]
theorem nl_run {text : Array Nat} : ∀ (k s p : Nat), p - s = k → s ≤ p → p ≤ text.size → (∀ q, s ≤ q → q < p → hit2 text q = false) → nl (text.toList.drop s) = (text.toList.drop s).take (p - s) ++ nl (text.toList.drop p)
  | 0, s, p, hk, h1, h2, _ => by
    have : s = p := by omega
    subst this; simp
  | k + 1, s, p, hk, h1, h2, h3 => by
    have h4 := h3 s (Nat.le_refl _) (by omega)
    unfold hit2 at h4
    simp only [Bool.or_eq_false_iff, beq_eq_false_iff_ne] at h4
    rw [take_drop_cons (by omega) h2, drop_cons (by omega), nl_skip ⟨h4.2, h4.1⟩, nl_run k (s + 1) p (by omega) (by omega) h2 (fun q q1 q2 => h3 q (by omega) q2)]
    rfl
theorem norm2 (text : Array Nat) : Norm text (hit2 text) (width2 text) [13, 10] (fun s => nl (text.toList.drop s)) where
  none := fun s hs h => by
    show nl (text.toList.drop s) = _
    rw [nl_run (text.size - s) s text.size rfl hs (Nat.le_refl _) h, extract_list]
    simp
    rw [List.drop_eq_nil_of_le (by simp)]; rfl
  some := fun s p h1 h2 h3 h4 => by
    show nl (text.toList.drop s) = _ ++ _ ++ nl (text.toList.drop (p + width2 text p))
    rw [nl_run (p - s) s p rfl h1 (Nat.le_of_lt h2) h4, extract_list, List.append_assoc]
    congr 1
    rw [drop_cons h2]
    unfold hit2 at h3
    simp only [Bool.or_eq_true, beq_iff_eq] at h3
    by_cases c13 : text.getD p 0 = 13
    · show nlF false _ = _
      rw [c13, nlF.eq_2, Bool.false_and, if_neg Bool.false_ne_true, if_pos rfl]
      by_cases n10 : p + 1 < text.size ∧ text.getD (p + 1) 0 = 10
      · rw [drop_cons n10.1, n10.2, nlF.eq_2, if_pos (by decide)]
        unfold width2
        rw [if_pos ⟨c13, n10.1, n10.2⟩]
        rfl
      · unfold width2
        rw [if_neg (fun q => n10 ⟨q.2.1, q.2.2⟩)]
        by_cases hl : p + 1 < text.size
        · have hne : text.getD (p + 1) 0 ≠ 10 := fun q => n10 ⟨hl, q⟩
          have hb : (text.getD (p + 1) 0 == 10) = false := by simpa using hne
          show _ = [13, 10] ++ nlF false _
          rw [drop_cons hl, nlF.eq_2, nlF.eq_2, hb]
          rfl
        · rw [List.drop_eq_nil_of_le (by simp; omega)]
          rfl
    · have c10 := h3.resolve_right c13
      unfold width2
      rw [if_neg (fun q => c13 q.1), c10]
      show nlF false _ = _
      rw [nlF.eq_2, Bool.false_and, if_neg Bool.false_ne_true, if_neg (by decide), if_pos rfl]
      rfl
  width := fun p h1 h2 => by
    unfold width2
    by_cases h : text.getD p 0 = 13 ∧ p + 1 < text.size ∧ text.getD (p + 1) 0 = 10
    · rw [if_pos h]; omega
    · rw [if_neg h]; omega
noncomputable def atStart (text : Array Nat) (s : Nat) : Bool := s == 0 || text.getD (s - 1) 0 == 10
theorem dots_run {text : Array Nat} : ∀ (k s p : Nat), p - s = k → s ≤ p → p ≤ text.size → (∀ q, s ≤ q → q < p → hit1 text q = false) →
    dots (atStart text s) (text.toList.drop s) = (text.toList.drop s).take (p - s) ++ dots (atStart text p) (text.toList.drop p)
  | 0, s, p, hk, h1, h2, _ => by
    have : s = p := by omega
    subst this; simp
  | k + 1, s, p, hk, h1, h2, h3 => by
    have h4 := h3 s (Nat.le_refl _) (by omega)
    have h5 : (atStart text s && text.getD s 0 == 46) = false := h4
    rw [take_drop_cons (by omega) h2, drop_cons (by omega), dots.eq_2, h5, if_neg Bool.false_ne_true]
    have e : atStart text (s + 1) = (text.getD s 0 == 10) := rfl
    rw [← e, dots_run k (s + 1) p (by omega) (by omega) h2 (fun q q1 q2 => h3 q (by omega) q2)]
    rfl
theorem norm1 (text : Array Nat) : Norm text (hit1 text) (fun _ => 1) [46, 46] (fun s => dots (atStart text s) (text.toList.drop s)) where
  none := fun s hs h => by
    show dots (atStart text s) (text.toList.drop s) = _
    rw [dots_run (text.size - s) s text.size rfl hs (Nat.le_refl _) h, extract_list]
    simp
    rw [List.drop_eq_nil_of_le (by simp)]; rfl
  some := fun s p h1 h2 h3 h4 => by
    show dots (atStart text s) (text.toList.drop s) = _ ++ _ ++ dots (atStart text (p + 1)) (text.toList.drop (p + 1))
    rw [dots_run (p - s) s p rfl h1 (Nat.le_of_lt h2) h4, extract_list, List.append_assoc]
    congr 1
    have h5 : (atStart text p && text.getD p 0 == 46) = true := h3
    rw [drop_cons h2, dots.eq_2, h5, if_pos rfl]
    have h6 : text.getD p 0 = 46 := by simpa using (Bool.and_eq_true_iff.mp h5).2
    have e : atStart text (p + 1) = (text.getD p 0 == 10) := rfl
    rw [e, h6]; rfl
  width := fun p h1 h2 => by omega
noncomputable def cv1 : Array Value := #[.int 14 0, .int 4 0, .int 0 0, .int 1 0, .int 1 0, .int 6 0, .int 1 0, .int 16 0, .int 46 0, .int 1 0]
noncomputable def cv2 : Array Value := #[.int 14 0, .int 9 0, .int 4 0, .int 1 0, .int 2 0, .int 16 0, .int 10 0, .int 16 0, .int 13 0, .int 0 0, .int 7 0, .int 7 0, .int 16 0, .int 13 0, .int 16 0, .int 10 0, .int 15 0, .int 18 0, .int 5 0, .int 16 0, .int 10 0, .int 15 0, .int 13 0,
  .int 11 0, .int 16 0, .int 13 0, .int 5 0, .int 5 0, .int 0 0, .int 16 0, .int 10 0, .int 1 0, .int 15 0, .int 2 0, .int 0 0, .int 1 0]
set_option maxRecDepth 100000 in
theorem pat1 {w : World} {h : Heap} (X : (Mine.hd.heap_39 w.params).In h) : IsPat h 36 35 cv1 :=
  ⟨⟨_, _, _, _, X 36 _ (by with_unfolding_all rfl)⟩, X 35 _ (by with_unfolding_all rfl)⟩
set_option maxRecDepth 100000 in
theorem pat2 {w : World} {h : Heap} (X : (Mine.hd.heap_39 w.params).In h) : IsPat h 41 40 cv2 :=
  ⟨⟨_, _, _, _, X 41 _ (by with_unfolding_all rfl)⟩, X 40 _ (by with_unfolding_all rfl)⟩
theorem nlF_size : ∀ (l : List Nat) (b : Bool), (nlF b l).length ≤ 2 * l.length
  | [], _ => by simp [nlF]
  | c :: r, b => by
    rw [nlF.eq_2]
    have h0 := nlF_size r false
    have h1 := nlF_size r true
    split
    · simp only [List.length_cons]; omega
    · split
      · simp only [List.length_cons]; omega
      · split
        · simp only [List.length_cons]; omega
        · simp only [List.length_cons]; omega
noncomputable def quoted (x : List Nat) : List Nat := dots true (nl x)
theorem get_sub {prog : Program} {w : World} {A : Around} {E : Value → Shared → Prop} {s : Shared} {h₀ : Heap} {L pa ca : Addr} {m : Str → Option Value} {cv : Array Value} {pl : Sem Bool} {Q : Value × List Value → Shared → Prop}
    (P : IsPat h₀ pa ca cv) (F : Fr h₀ L s.heap m) (h : Q (.builtin "re.Pattern.sub", [.ref pa]) s) : wpAny (model prog w) A (getMethod (.ref pa) (PySem.Str.ofString "sub") pl) Q E s := by
  obtain ⟨ps, pt, fl, ft, e⟩ := P.pat
  exact getMethod_builtin ⟨_, F.keep _ _ e, rfl⟩ plainAttrs_pat slot_pat_sub type_pat_sub (fun a q => by cases q; exact ⟨_, F.keep _ _ e, rfl⟩) h
theorem lay2 : True := by
  k_with_none
  k_with "M enter" => (refine wpAny_call ?_; k_dflt (refine' code_full ?zk1 ?zk2 ?zk3 ?zk5 ?zkA ?zkF ?zkK ?zk6 ?zk7 ?zk8 ?zk9 ?zkB ?zkP ?_ ?zc2 ?zc3 ?zc4 ?zc5; (case zkA => exact rfl); (case zkF => exact rfl); (case zkK => assumption); (case zk1 => k_asm); (case zk2 => k_asm); (case zk3 => k_asm); (case zk5 => k_asm); (case zk6 => k_is); (case zk7 => k_is); (case zk8 => ktr_room); (case zk9 => exact BindsTo.of_eq rfl); (case zc5 => decide); (case zkP => exact List.cons_ne_nil _ _); (case zkB => exact locs rfl); (case zc2 => exact rfl); (case zc3 => exact rfl); (case zc4 => exact rfl); k_whole); intro zL' zh' tk9 zp9 zF' zN' zB' zX' zT'; (try dsimp only); (try k_fold))
  k_with "M ne" => (refine neN ?_; (try dsimp only); intro ze9; have ze8 := Eq.symm ze9; (repeat ((with_reducible rename _ ≠ _ ∧ _ => zx9); obtain ⟨zy9, zz9⟩ := zx9)); with_reducible contradiction)
  k_with "call ref" => (k_here; k_dflt (first | ((with_reducible show wpAny _ _ (call (Value.ref 69) [Value.int _ _, Value.int _ _]) _ _ _); refine' Cc.use (c_lt _ _ _ _) ?zk1 ?zk2 ?zk3 ?zk4 ?zk5 ?zk6 ?zk7 ?zk8 ?_) | ((with_reducible show wpAny _ _ (call (Value.ref 76) [Value.int _ _, Value.int _ _]) _ _ _); refine' Cc.use (c_eq _ _ _ _) ?zk1 ?zk2 ?zk3 ?zk4 ?zk5 ?zk6 ?zk7 ?zk8 ?_) | ((with_reducible show wpAny _ _ (call (Value.ref 83) [Value.int _ _, Value.int _ _]) _ _ _); refine' Cc.use (c_ne _ _ _ _) ?zk1 ?zk2 ?zk3 ?zk4 ?zk5 ?zk6 ?zk7 ?zk8 ?_) | ((with_reducible show wpAny _ _ (call (Value.ref 90) [Value.int _ _, Value.int _ _]) _ _ _); refine' Cc.use (c_gt _ _ _ _) ?zk1 ?zk2 ?zk3 ?zk4 ?zk5 ?zk6 ?zk7 ?zk8 ?_) | ((with_reducible show wpAny _ _ (call (Value.ref 97) [Value.int _ _]) _ _ _); refine' Cc.use (c_not_ _ _) ?zk1 ?zk2 ?zk3 ?zk4 ?zk5 ?zk6 ?zk7 ?zk8 ?_) | ((with_reducible show wpAny _ _ (call (Value.ref 104) [Value.int _ _, Value.int _ _]) _ _ _); refine' Cc.use (c_add _ _ _ _) ?zk1 ?zk2 ?zk3 ?zk4 ?zk5 ?zk6 ?zk7 ?zk8 ?_) | ((with_reducible show wpAny _ _ (call (Value.ref 111) [Value.bool _, Value.bool _]) _ _ _); refine' Cc.use (c_and_ _ _) ?zk1 ?zk2 ?zk3 ?zk4 ?zk5 ?zk6 ?zk7 ?zk8 ?_) | ((with_reducible show wpAny _ _ (call (Value.ref 146) [Value.bool _, Value.bool _]) _ _ _); refine' Cc.use (c_or_ _ _) ?zk1 ?zk2 ?zk3 ?zk4 ?zk5 ?zk6 ?zk7 ?zk8 ?_) | ((with_reducible show wpAny _ _ (call (Value.ref 160) [Value.int _ _, Value.int _ _]) _ _ _); refine' Cc.use (c_sub _ _ _ _) ?zk1 ?zk2 ?zk3 ?zk4 ?zk5 ?zk6 ?zk7 ?zk8 ?_) | ((with_reducible show wpAny _ _ (call (Value.ref 132) [Value.int _ _, Value.int _ _]) _ _ _); refine' Cc.use (c_mod _ _ _ _ ?zkb) ?zk1 ?zk2 ?zk3 ?zk4 ?zk5 ?zk6 ?zk7 ?zk8 ?_; (case zkb => first | decide | omega)) | ((with_reducible show wpAny _ _ (call (Value.ref 118) [Value.int _ _, Value.int 8 _]) _ _ _); refine' Cc.use (c_floordiv8 _ _ _) ?zk1 ?zk2 ?zk3 ?zk4 ?zk5 ?zk6 ?zk7 ?zk8 ?_) | ((with_reducible show wpAny _ _ (call (Value.ref 125) [Value.int 1 _, Value.int 3 _]) _ _ _); refine' Cc.use (c_lshift13 _ _) ?zk1 ?zk2 ?zk3 ?zk4 ?zk5 ?zk6 ?zk7 ?zk8 ?_) | ((with_reducible show wpAny _ _ (call (Value.ref 153) [Value.int _ _, Value.int 1 _]) _ _ _); refine' Cc.use (c_rshift1 _ _ _ ?zkb) ?zk1 ?zk2 ?zk3 ?zk4 ?zk5 ?zk6 ?zk7 ?zk8 ?_; (case zkb => first | decide | omega)) | ((with_reducible show wpAny _ _ (call (Value.ref 174) [Value.int _ _, Value.int _ _]) _ _ _); refine' Cc.use (c_xor _ _ _ _) ?zk1 ?zk2 ?zk3 ?zk4 ?zk5 ?zk6 ?zk7 ?zk8 ?_) | ((with_reducible show wpAny _ _ (call (Value.ref 167) [Value.int _ _, Value.int _ _]) _ _ _); refine' Cc.use (c_truediv _ _ _ _ ?zkb) ?zk1 ?zk2 ?zk3 ?zk4 ?zk5 ?zk6 ?zk7 ?zk8 ?_; (case zkb => first | decide | omega)) | ((with_reducible show wpAny _ _ (call (Value.ref 139) [Value.float _ _, Value.int 24 _]) _ _ _); refine' Cc.use (c_mulf24 _ _ _) ?zk1 ?zk2 ?zk3 ?zk4 ?zk5 ?zk6 ?zk7 ?zk8 ?_) | ((with_reducible show wpAny _ _ (call (Value.ref 139) [Value.int _ _, Value.int _ _]) _ _ _); refine' Cc.use (c_mul _ _ _ _ ?zkb) ?zk1 ?zk2 ?zk3 ?zk4 ?zk5 ?zk6 ?zk7 ?zk8 ?_; (case zkb => first | decide | omega))); (case zk1 => k_asm); (case zk2 => k_asm); (case zk3 => k_asm); (case zk4 => k_asm); (case zk5 => k_asm); (case zk6 => first | exact rfl | assumption); (case zk7 => ktr_room); (case zk8 => ktr_units); (dsimp only [retV]); intro zt9 zh9 ztk9 zF9 zN9; (try k_fold))
  k_with "M steps" => repeat' (first | (k_unfold; (try dsimp only)) | (with_reducible first | refine Cont.next ?_ | refine Cont.ret ?_ | refine Cont.brk ?_ | refine Cont.cont ?_) | (k_end; wrow_close) | ((fail_if_success (with_reducible show wpAny _ _ (pyIter _) _ _ _)); walk1) | (dsimp only; (fail_if_success (with_reducible show wpAny _ _ (pyIter _) _ _ _)); walk1) | (leave1; try dsimp only) | fail "no step")
  k_with "subscriptTail" => (k_here; (with_reducible show wpAny _ _ (subscriptTail _ _ (Value.ref _) (Value.int _ _)) _ _ _); k_dflt (refine' item_base ?zk1 ?zk2 ?zk3 ?zk4 ?zk5 ?_ ?zk7; (case zk1 => k_asm); (case zk2 => with_reducible assumption); (case zk3 => with_reducible assumption); (case zk4 => omega); (case zk5 => omega); (case zk7 => with_unfolding_all rfl); k_whole))
  k_with "eval Name" => (k_here; k_dflt (refine' nameX_L ?zF ?zv ?_ ?za ?zb; (case za => rfl); (case zb => rfl); (case zF => k_asm); (case zv => rfl); k_whole))
  k_with "eval Name" => (k_here; (first | (with_reducible show wpAny _ _ (eval (PySem.Expr.Name (Str.ofString "range") _) _) _ _ _) | (with_reducible show wpAny _ _ (eval (PySem.Expr.Name (Str.ofString "len") _) _) _ _ _) | (with_reducible show wpAny _ _ (eval (PySem.Expr.Name (Str.ofString "max") _) _) _ _ _) | (with_reducible show wpAny _ _ (eval (PySem.Expr.Name (Str.ofString "min") _) _) _ _ _) | (with_reducible show wpAny _ _ (eval (PySem.Expr.Name (Str.ofString "int") _) _) _ _ _) | (with_reducible show wpAny _ _ (eval (PySem.Expr.Name (Str.ofString "enumerate") _) _) _ _ _) | (with_reducible show wpAny _ _ (eval (PySem.Expr.Name (Str.ofString "sum") _) _) _ _ _)); k_dflt (refine' nameX_B ?zF ?zX ?zT ?ze ?zv ?zn ?_ ?za ?zb; (case za => rfl); (case zb => rfl); (case zF => k_asm); (case zX => k_asm); (case zT => k_asm); (case ze => k_is); (case zv => boot_fast); (case zn => decide); k_whole))
  k_with "eval Name" => (k_here; (first | (with_reducible show wpAny _ _ (eval (PySem.Expr.Name (Str.ofString "lt") _) _) _ _ _) | (with_reducible show wpAny _ _ (eval (PySem.Expr.Name (Str.ofString "eq") _) _) _ _ _) | (with_reducible show wpAny _ _ (eval (PySem.Expr.Name (Str.ofString "ne") _) _) _ _ _) | (with_reducible show wpAny _ _ (eval (PySem.Expr.Name (Str.ofString "gt") _) _) _ _ _) | (with_reducible show wpAny _ _ (eval (PySem.Expr.Name (Str.ofString "not_") _) _) _ _ _) | (with_reducible show wpAny _ _ (eval (PySem.Expr.Name (Str.ofString "add") _) _) _ _ _) | (with_reducible show wpAny _ _ (eval (PySem.Expr.Name (Str.ofString "and_") _) _) _ _ _) | (with_reducible show wpAny _ _ (eval (PySem.Expr.Name (Str.ofString "floordiv") _) _) _ _ _) | (with_reducible show wpAny _ _ (eval (PySem.Expr.Name (Str.ofString "lshift") _) _) _ _ _) | (with_reducible show wpAny _ _ (eval (PySem.Expr.Name (Str.ofString "mod") _) _) _ _ _) | (with_reducible show wpAny _ _ (eval (PySem.Expr.Name (Str.ofString "mul") _) _) _ _ _) | (with_reducible show wpAny _ _ (eval (PySem.Expr.Name (Str.ofString "or_") _) _) _ _ _) | (with_reducible show wpAny _ _ (eval (PySem.Expr.Name (Str.ofString "rshift") _) _) _ _ _) | (with_reducible show wpAny _ _ (eval (PySem.Expr.Name (Str.ofString "sub") _) _) _ _ _) | (with_reducible show wpAny _ _ (eval (PySem.Expr.Name (Str.ofString "truediv") _) _) _ _ _) | (with_reducible show wpAny _ _ (eval (PySem.Expr.Name (Str.ofString "xor") _) _) _ _ _) | (with_reducible show wpAny _ _ (eval (PySem.Expr.Name (Str.ofString "indexOf") _) _) _ _ _) | (with_reducible show wpAny _ _ (eval (PySem.Expr.Name (Str.ofString "quotedata") _) _) _ _ _) | (with_reducible show wpAny _ _ (eval (PySem.Expr.Name (Str.ofString "rgb_to_hsv") _) _) _ _ _) | (with_reducible show wpAny _ _ (eval (PySem.Expr.Name (Str.ofString "hsv_to_rgb") _) _) _ _ _) | (with_reducible show wpAny _ _ (eval (PySem.Expr.Name (Str.ofString "_law_paint") _) _) _ _ _) | (with_reducible show wpAny _ _ (eval (PySem.Expr.Name (Str.ofString "_law_owner") _) _) _ _ _) | (with_reducible show wpAny _ _ (eval (PySem.Expr.Name (Str.ofString "_law_owners") _) _) _ _ _) | (with_reducible show wpAny _ _ (eval (PySem.Expr.Name (Str.ofString "_law_worths") _) _) _ _ _) | (with_reducible show wpAny _ _ (eval (PySem.Expr.Name (Str.ofString "_law_wins") _) _) _ _ _)); k_dflt (refine' nameX_K ?zF ?zX ?zT ?ze ?_ ?za ?zb; (case za => rfl); (case zb => rfl); (case zF => k_asm); (case zX => k_asm); (case zT => k_asm); (case ze => k_is); k_whole))
  k_with "getMethod ref" => (k_here; (with_reducible show wpAny _ _ (getMethod (Value.ref _) (PySem.Str.ofString "sub") _) _ _ _); k_dflt (refine' get_sub (by assumption) ?zk2 ?_; (case zk2 => k_asm)))
  trivial
set_option maxRecDepth 100000 in
set_option maxHeartbeats 8000000 in
theorem c_quotedata {w : World} {mean : ExcName → Option Value} {mg mb : Str → Option Value} (x : Str) (t : Tok) (hx : x.cps.size ≤ 10000) :
    Ct w mean mg mb 48 [.str x t] 2 16 (fun _ => True) (fun _ _ v => ∃ y ty, v = .str y ty ∧ y.cps.toList = quoted x.cps.toList) := by
  unfold Ct; k_fill; intro dp un gd cn cs ad ccd cl outer A₀ base h₀ L m s Q E hB hF hX hT hkind hdp hun hpre hret
  have hP1 : IsPat s.heap 36 35 cv1 := pat1 (hX.keeps hF.keep)
  have hP2 : IsPat s.heap 41 40 cv2 := pat2 (hX.keeps hF.keep)
  walk_at "M enter"
  walk_at "M steps"
  (with_reducible rename Fr _ _ _ _ => F1)
  (with_reducible rename News _ _ _ _ => N1)
  rw [show Str.ofString "\x0d\n" = ⟨#[13, 10]⟩ from by decide +kernel]
  refine call_sub (h₀ := s.heap) (code := code2) (by decide +kernel) (by omega) (by decide +kernel) (by decide +kernel) (fun s hs => find2 x.cps s hs) (norm2 x.cps) hP2 F1 N1 (fun t' h' tk' y hy F2 N2 => ?_)
  clear F1 N1
  try dsimp only
  walk_at "M steps"
  (with_reducible rename Fr _ _ _ _ => F1)
  (with_reducible rename News _ _ _ _ => N1)
  rw [show Str.ofString ".." = ⟨#[46, 46]⟩ from by decide +kernel]
  have hy2 : y.cps.size ≤ 20000 := by
    rw [← Array.length_toList, hy]
    have h9 := nlF_size (x.cps.toList.drop 0) false
    simp only [List.drop_zero, Array.length_toList] at h9
    simp only [List.drop_zero, nl]
    omega
  refine call_sub (h₀ := s.heap) (code := code1) (by decide +kernel) (by omega) (by decide +kernel) (by decide +kernel) (fun s hs => find1 y.cps s hs) (norm1 y.cps) hP1 F1 N1 (fun t' h' tk' z hz F2 N2 => ?_)
  clear F1 N1
  try dsimp only
  walk_at "M steps"
  refine hret _ _ _ F2.keep ⟨z, _, rfl, ?_⟩
  rw [hz]
  show dots true (y.cps.toList.drop 0) = _
  rw [List.drop_zero, hy, List.drop_zero]
  rfl
end
theorem resetPl : True := by w_top off; trivial
section
noncomputable def sgn (n : Int) (i : Nat) : Str := Txt.item (Str.ofString ".o") ((n.fdiv (2 ^ i)).fmod 2)
noncomputable def wordLen (T : Nat) (n : Int) : Nat := ((n.fdiv 8).fmod (5 - (T : Int))).toNat
noncomputable def wordS (T : Nat) (n : Int) : Str := Txt.join (Str.ofString "") ((List.range (wordLen T n)).map (sgn n))
noncomputable def sg (n : Int) (i : Nat) : Nat := (Txt.charAt (Str.ofString ".o") ((n.fdiv (2 ^ i)).fmod 2)).getD 0
noncomputable def wl (T : Nat) (n : Int) : List Nat := (List.range (wordLen T n)).map (sg n)
theorem sg_or (n : Int) (i : Nat) : sg n i = 46 ∨ sg n i = 111 := by
  have a1 : 0 ≤ (n.fdiv (2 ^ i)).fmod 2 := Int.fmod_nonneg_of_pos _ (by omega)
  have a2 : (n.fdiv (2 ^ i)).fmod 2 < 2 := Int.fmod_lt_of_pos _ (by omega)
  unfold sg
  rcases (show (n.fdiv (2 ^ i)).fmod 2 = 0 ∨ (n.fdiv (2 ^ i)).fmod 2 = 1 by omega) with e | e <;> rw [e]
  · exact .inl (by decide +kernel)
  · exact .inr (by decide +kernel)
theorem join_cps (l : List Nat) (n : Int) : (Str.join (Str.ofString "") (l.map (sgn n))).cps.toList = l.map (sg n) := by
  rw [show Str.ofString "" = ⟨#[]⟩ from by with_unfolding_all rfl]
  induction l with
  | nil => rfl
  | cons a r ih =>
    rw [List.map_cons, PyProof.Rows.join_nil_cons, List.map_cons]
    show ((sgn n a).cps ++ _).toList = _
    rw [Array.toList_append, ih]; rfl
theorem wordS_cps (T : Nat) (n : Int) : (wordS T n).cps.toList = wl T n := by
  show (Builtin.Str.glued _ _).cps.toList = _
  rw [StrLaws.glued_eq_join]; exact join_cps _ _
theorem wl_len (T : Nat) (n : Int) : (wl T n).length = wordLen T n := by rw [wl, List.length_map, List.length_range]
noncomputable def Calm (l : List Nat) : Prop := ∀ c ∈ l, c ≠ 13 ∧ c ≠ 10
theorem wl_or (T : Nat) (n : Int) : ∀ c ∈ wl T n, c = 46 ∨ c = 111 := by
  intro c hc
  obtain ⟨i, _, rfl⟩ := List.mem_map.mp hc
  exact sg_or n i
theorem calm_of {l : List Nat} (h : ∀ c ∈ l, c = 46 ∨ c = 111) : Calm l := fun c hc => by rcases h c hc with rfl | rfl <;> decide
noncomputable def dq (i : Nat) (l : List Nat) : List Nat := if l.head? = some 46 then List.replicate i 46 ++ l else l
theorem dq_or {i : Nat} {l : List Nat} (h : ∀ c ∈ l, c = 46 ∨ c = 111) : ∀ c ∈ dq i l, c = 46 ∨ c = 111 := by
  intro c hc
  unfold dq at hc
  split at hc
  · rcases List.mem_append.mp hc with q | q
    · exact .inl (List.eq_of_mem_replicate q)
    · exact h c q
  · exact h c hc
theorem dq_dq (i : Nat) (l : List Nat) : dq 1 (dq i l) = dq (i + 1) l := by
  unfold dq
  by_cases h : l.head? = some 46
  · rw [if_pos h, if_pos h, if_pos]
    · rw [← List.append_assoc, List.replicate_append_replicate, Nat.add_comm]
    · cases i with
      | zero => exact h
      | succ i => rfl
  · rw [if_neg h, if_neg h, if_neg h]
theorem nl_app : ∀ {l r : List Nat}, Calm l → nl (l ++ r) = l ++ nl r
  | [], _, _ => rfl
  | c :: l, r, h => by
    rw [List.cons_append, nl_skip (h c List.mem_cons_self), nl_app fun d hd => h d (List.mem_cons_of_mem _ hd)]; rfl
theorem nl_10 (r : List Nat) : nl (10 :: r) = 13 :: 10 :: nl r := rfl
theorem nl_1310 (r : List Nat) : nl (13 :: 10 :: r) = 13 :: 10 :: nl r := rfl
theorem nlF_true {r : List Nat} (h : r.head? ≠ some 10) : nlF true r = nl r := by
  cases r with
  | nil => rfl
  | cons c r =>
    have hc : (c == 10) = false := by
      refine Bool.eq_false_iff.mpr fun q => h ?_
      rw [eq_of_beq q]; rfl
    show nlF true (c :: r) = nlF false (c :: r)
    rw [nlF.eq_2, nlF.eq_2, hc, Bool.true_and, Bool.false_and]
theorem nl_13 {r : List Nat} (h : r.head? ≠ some 10) : nl (13 :: r) = 13 :: 10 :: nl r := by
  show 13 :: 10 :: nlF true r = _
  rw [nlF_true h]
theorem dots_cons (b : Bool) (c : Nat) (r : List Nat) : dots b (c :: r) = if b && c == 46 then 46 :: 46 :: dots false r else c :: dots (c == 10) r := by rw [dots]
theorem dots_app : ∀ {l r : List Nat}, Calm l → dots false (l ++ r) = l ++ dots false r
  | [], _, _ => rfl
  | c :: l, r, h => by
    have hc : (c == 10) = false := by simpa using (h c List.mem_cons_self).2
    rw [List.cons_append, dots_cons, Bool.false_and, if_neg Bool.false_ne_true, hc, dots_app fun d hd => h d (List.mem_cons_of_mem _ hd)]; rfl
theorem dots_true {l r : List Nat} (h : Calm l) (hr : r.head? ≠ some 46) (hn : r.head? ≠ some 10) : dots true (l ++ r) = dq 1 l ++ dots false r := by
  cases l with
  | nil =>
    show dots true r = _
    cases r with
    | nil => rfl
    | cons c r =>
      have hc : (c == 46) = false := by
        refine Bool.eq_false_iff.mpr fun q => hr ?_
        rw [eq_of_beq q]; rfl
      rw [dots_cons, dots_cons, hc]; rfl
  | cons c l =>
    rw [List.cons_append, dots_cons, Bool.true_and]
    by_cases q : c = 46
    · subst q
      rw [if_pos (by rfl), dots_app fun d hd => h d (List.mem_cons_of_mem _ hd)]
      rfl
    · rw [if_neg (by simpa using q)]
      have hc : (c == 10) = false := by simpa using (h c List.mem_cons_self).2
      rw [hc, dots_app fun d hd => h d (List.mem_cons_of_mem _ hd)]
      unfold dq
      rw [if_neg (by simpa using q)]; rfl
theorem dots_end (r : List Nat) : dots false (13 :: 10 :: r) = 13 :: 10 :: dots true r := rfl
noncomputable def textL (i : Nat) (l0 l1 l2 : List Nat) : List Nat := dq i l0 ++ 13 :: 10 :: (dq i l1 ++ 13 :: 10 :: dq i l2)
theorem dots_three {l0 l1 l2 : List Nat} (h0 : Calm l0) (h1 : Calm l1) (h2 : Calm l2) : dots true (l0 ++ 13 :: 10 :: (l1 ++ 13 :: 10 :: l2)) = textL 1 l0 l1 l2 := by
  rw [dots_true h0 (by simp) (by simp), dots_end, dots_true h1 (by simp) (by simp), dots_end]
  have : dots true l2 = dq 1 l2 := by
    have := dots_true (r := []) h2 (by decide) (by decide)
    rw [List.append_nil] at this
    rw [this]; exact List.append_nil _
  rw [this]; rfl
inductive MailEnds : List Nat → List Nat → Prop
  | a : MailEnds [10] [13]
  | b : MailEnds [13, 10] [10]
  | c : MailEnds [13] [13, 10]
theorem head_app {l r : List Nat} (h : Calm l) (hr : r.head? ≠ some 10) : (l ++ r).head? ≠ some 10 := by
  cases l with
  | nil => exact hr
  | cons c l => intro q; exact (h c List.mem_cons_self).2 (Option.some.inj q)
theorem head_calm {l : List Nat} (h : Calm l) : l.head? ≠ some 10 := by
  cases l with
  | nil => exact fun q => nomatch q
  | cons c l => intro q; exact (h c List.mem_cons_self).2 (Option.some.inj q)
theorem nl_calm {l : List Nat} (h : Calm l) : nl l = l := by
  have := nl_app (r := []) h
  rw [List.append_nil] at this; rw [this]; exact List.append_nil _
theorem quoted_first {l0 l1 l2 e0 e1 : List Nat} (h0 : Calm l0) (h1 : Calm l1) (h2 : Calm l2) (he : MailEnds e0 e1) : quoted (l0 ++ e0 ++ l1 ++ e1 ++ l2) = textL 1 l0 l1 l2 := by
  have : nl (l0 ++ e0 ++ l1 ++ e1 ++ l2) = l0 ++ 13 :: 10 :: (l1 ++ 13 :: 10 :: l2) := by
    simp only [List.append_assoc]
    rw [nl_app h0]
    cases he with
    | a => rw [List.singleton_append, nl_10, nl_app h1, List.singleton_append, nl_13 (head_calm h2), nl_calm h2]
    | b => rw [List.cons_append, List.singleton_append, nl_1310, nl_app h1, List.singleton_append, nl_10, nl_calm h2]
    | c =>
      rw [List.singleton_append, nl_13 (head_app h1 (by simp)), nl_app h1, List.cons_append, List.singleton_append, nl_1310, nl_calm h2]
  unfold quoted
  rw [this, dots_three h0 h1 h2]
theorem quoted_next {i : Nat} {l0 l1 l2 : List Nat} (h0 : ∀ c ∈ l0, c = 46 ∨ c = 111) (h1 : ∀ c ∈ l1, c = 46 ∨ c = 111) (h2 : ∀ c ∈ l2, c = 46 ∨ c = 111) : quoted (textL i l0 l1 l2) = textL (i + 1) l0 l1 l2 := by
  have : nl (textL i l0 l1 l2) = textL i l0 l1 l2 := by
    unfold textL
    rw [nl_app (calm_of (dq_or h0)), nl_1310, nl_app (calm_of (dq_or h1)), nl_1310, nl_calm (calm_of (dq_or h2))]
  unfold quoted
  rw [this]
  conv => lhs; unfold textL
  rw [dots_three (calm_of (dq_or h0)) (calm_of (dq_or h1)) (calm_of (dq_or h2))]
  unfold textL
  rw [dq_dq, dq_dq, dq_dq]
/-- the mail ahead of the k-th sending -/
noncomputable def mail (k : Nat) (l0 l1 l2 e0 e1 : List Nat) : List Nat := if k = 0 then l0 ++ e0 ++ l1 ++ e1 ++ l2 else textL k l0 l1 l2
theorem mail_next {k : Nat} {l0 l1 l2 e0 e1 : List Nat} (h0 : ∀ c ∈ l0, c = 46 ∨ c = 111) (h1 : ∀ c ∈ l1, c = 46 ∨ c = 111) (h2 : ∀ c ∈ l2, c = 46 ∨ c = 111) (he : MailEnds e0 e1) :
    quoted (mail k l0 l1 l2 e0 e1) = mail (k + 1) l0 l1 l2 e0 e1 := by
  unfold mail
  rw [if_neg (Nat.succ_ne_zero k)]
  cases k with
  | zero => rw [if_pos rfl]; exact quoted_first (calm_of h0) (calm_of h1) (calm_of h2) he
  | succ k => rw [if_neg (Nat.succ_ne_zero k)]; exact quoted_next h0 h1 h2
theorem dq_len (i : Nat) (l : List Nat) : (dq i l).length ≤ i + l.length := by
  unfold dq; split <;> simp
theorem ends_len {e0 e1 : List Nat} (he : MailEnds e0 e1) : e0.length ≤ 2 ∧ e1.length ≤ 2 := by cases he <;> decide
theorem mail_len {k : Nat} {l0 l1 l2 e0 e1 : List Nat} (hk : k ≤ 3) (h0 : l0.length ≤ 4) (h1 : l1.length ≤ 4) (h2 : l2.length ≤ 4) (he : MailEnds e0 e1) : (mail k l0 l1 l2 e0 e1).length ≤ 40 := by
  unfold mail
  have := ends_len he
  have a0 := dq_len k l0
  have a1 := dq_len k l1
  have a2 := dq_len k l2
  split
  · simp only [List.length_append]; omega
  · unfold textL; simp only [List.length_append, List.length_cons]; omega
end
theorem resetRl : True := by w_top off; trivial
section
theorem ends_item {prog : Program} {w : World} {A : Around} {E : Value → Shared → Prop} {s : Shared} {h₀ : Heap} {L l a b c : Addr} {m : Str → Option Value} {news : List (Addr × Obj)} {value slice : PySem.Expr} {k : Int} {u ta tb tc ua ub uc : Tok} {n na nb nc : Nat} {Q : Value → Shared → Prop}
    (_ : Fr h₀ L s.heap m) (N : News h₀ L s.heap ((l, W.listOf #[.ref a, .ref b, .ref c] n) :: (c, W.listOf #[.str (Str.ofString "\r") tc, .str (Str.ofString "\r\n") uc] nc) :: (b, W.listOf #[.str (Str.ofString "\r\n") tb, .str (Str.ofString "\n") ub] nb) :: (a, W.listOf #[.str (Str.ofString "\n") ta, .str (Str.ofString "\r") ua] na) :: news))
    (h0 : 0 ≤ k) (h3 : k < 3)
    (h : ∀ e x y t u n, MailEnds x.cps.toList y.cps.toList → x.length ≤ 2 → y.length ≤ 2 → News h₀ L s.heap ((e, W.listOf #[.str x t, .str y u] n) :: news) → Q (.ref e) s)
    (hs : subscripted slice false (.ref l) (.int k u) = operate [.ref l, .int k u] (getItem (.ref l) (.int k u)) := by with_unfolding_all rfl) :
    wpAny (model prog w) A (subscriptTail value slice (.ref l) (.int k u)) Q E s := by
  have hl : s.heap.IsList l #[.ref a, .ref b, .ref c] := ⟨_, (N _ List.mem_cons_self).1, rfl, n, rfl⟩
  have N3 : News h₀ L s.heap news := fun p hp => N p (List.mem_cons_of_mem _ (List.mem_cons_of_mem _ (List.mem_cons_of_mem _ (List.mem_cons_of_mem _ hp))))
  have add : ∀ (e : Addr) (o : Obj), (e, o) ∈ ((l, W.listOf #[.ref a, .ref b, .ref c] n) :: (c, W.listOf #[.str (Str.ofString "\r") tc, .str (Str.ofString "\r\n") uc] nc) :: (b, W.listOf #[.str (Str.ofString "\r\n") tb, .str (Str.ofString "\n") ub] nb) :: (a, W.listOf #[.str (Str.ofString "\n") ta, .str (Str.ofString "\r") ua] na) :: news) → News h₀ L s.heap ((e, o) :: news) :=
    fun e o he p hp => by
      rcases List.mem_cons.mp hp with rfl | hp
      · exact N _ he
      · exact N3 p hp
  have e1 : (Str.ofString "\r").cps.toList = [13] := by with_unfolding_all rfl
  have e2 : (Str.ofString "\n").cps.toList = [10] := by with_unfolding_all rfl
  have e3 : (Str.ofString "\r\n").cps.toList = [13, 10] := by with_unfolding_all rfl
  have l1 : (Str.ofString "\r").length ≤ 2 := by with_unfolding_all decide
  have l2 : (Str.ofString "\n").length ≤ 2 := by with_unfolding_all decide
  have l3 : (Str.ofString "\r\n").length ≤ 2 := by with_unfolding_all decide
  rcases (show k = 0 ∨ k = 1 ∨ k = 2 by omega) with rfl | rfl | rfl
  · exact tail_any hl.typeIs slot_list_getitem.lookup (wpAny_getItem_list hl (by decide) (by decide) rfl (h a _ _ ta ua na (by rw [e1, e2]; exact .a) l2 l1 (add _ _ (List.mem_cons_of_mem _ (List.mem_cons_of_mem _ (List.mem_cons_of_mem _ List.mem_cons_self)))))) hs
  · exact tail_any hl.typeIs slot_list_getitem.lookup (wpAny_getItem_list hl (by decide) (by decide) rfl (h b _ _ tb ub nb (by rw [e2, e3]; exact .b) l3 l2 (add _ _ (List.mem_cons_of_mem _ (List.mem_cons_of_mem _ List.mem_cons_self))))) hs
  · exact tail_any hl.typeIs slot_list_getitem.lookup (wpAny_getItem_list hl (by decide) (by decide) rfl (h c _ _ tc uc nc (by rw [e1, e3]; exact .c) l1 l3 (add _ _ (List.mem_cons_of_mem _ List.mem_cons_self)))) hs
theorem wordS_len {T : Nat} (n : Int) (h1 : 1 ≤ T) (h3 : wordLen T n + T < 5) : (wordS T n).length ≤ 4 := by
  show (wordS T n).cps.size ≤ 4
  rw [← Array.length_toList, wordS_cps, wl_len]; omega
noncomputable def dueS (T : Nat) (n : Int) : Str := ⟨(dq T (wl T n)).toArray⟩
theorem head_slice (w : Str) : (Txt.slice w none (some 1) == Str.ofString ".") = decide (w.cps.toList.head? = some 46) := by
  obtain ⟨⟨l⟩⟩ := w
  cases l with
  | nil => decide +kernel
  | cons c r =>
    have h := eq_of_beq (slice_closes_to (x := ⟨⟨c :: r⟩⟩) (j := 1) ⟨by decide, by show (1 : Int) ≤ ((c :: r).length : Nat); rw [List.length_cons]; omega⟩)
    rw [h]
    show (({ cps := #[c] } : Str) == Str.ofString ".") = _
    rw [one_dot]
    show (c == 46) = decide ((c :: r).head? = some 46)
    rw [List.head?_cons]
    by_cases q : c = 46
    · subst q; rfl
    · rw [decide_eq_false (fun e => q (Option.some.inj e))]; simpa using q
theorem due_dot {T : Nat} {n : Int} (h : (Txt.slice (wordS T n) none (some 1) == Str.ofString ".") = true) : Txt.mul (Str.ofString ".") (T : Int) ++ wordS T n = dueS T n := by
  rw [head_slice, decide_eq_true_eq, wordS_cps] at h
  have e : (Txt.mul (Str.ofString ".") (T : Int) ++ wordS T n).cps.toList = dq T (wl T n) := by
    show ((Txt.mul (Str.ofString ".") (T : Int)).cps ++ (wordS T n).cps).toList = _
    rw [Array.toList_append, wordS_cps, show Str.ofString "." = ⟨#[46]⟩ from by with_unfolding_all rfl, mul_one_list, dq, if_pos h, Int.toNat_natCast]
  unfold dueS
  rw [← e]
theorem due_not {T : Nat} {n : Int} (h : (Txt.slice (wordS T n) none (some 1) == Str.ofString ".") = false) : wordS T n = dueS T n := by
  rw [head_slice, decide_eq_false_iff_not, wordS_cps] at h
  unfold dueS
  rw [dq, if_neg h, ← wordS_cps]
theorem start_mail {h₀ h : Heap} {L : Addr} {m : Str → Option Value} {T : Nat} {n0 n1 n2 : Int} {x y : Str} {t : Tok} (_ : Fr h₀ L h m) (hs : m (Str.ofString "sent") = some (.str (wordS T n0 ++ x ++ wordS T n1 ++ y ++ wordS T n2) t)) (he : MailEnds x.cps.toList y.cps.toList) :
    ∃ x0 t0 e0 e1, MailEnds e0 e1 ∧ x0.cps.toList = mail 0 (wl T n0) (wl T n1) (wl T n2) e0 e1 ∧ m (Str.ofString "sent") = some (.str x0 t0) := by
  refine ⟨_, t, _, _, he, ?_, hs⟩
  show ((((wordS T n0).cps ++ x.cps) ++ (wordS T n1).cps ++ y.cps) ++ (wordS T n2).cps).toList = _
  rw [Array.toList_append, Array.toList_append, Array.toList_append, Array.toList_append, wordS_cps, wordS_cps, wordS_cps]
  rfl
end
theorem resetSp : True := by w_top off; trivial
section
open PySem.Builtin PySem.Builtin.Str
noncomputable def crlf : Str := Str.ofString "\r\n"
theorem crlf_list : crlf.cps.toList = [13, 10] := by with_unfolding_all rfl
theorem crlf_len : crlf.length = 2 := by with_unfolding_all rfl
theorem at13 {x : Str} {i : Nat} (h : StrLaws.At x crlf x.length i) : x.cps.toList[i]? = some 13 := by
  have e := h.2
  rw [StrLaws.subAt_eq, beq_iff_eq, crlf_list, crlf_len] at e
  have : ((x.cps.toList.drop i).take 2)[0]? = some 13 := by rw [e]; rfl
  rw [List.getElem?_take_of_lt (by decide), List.getElem?_drop] at this
  exact this
theorem at_of {x : Str} {l r : List Nat} (hx : x.cps.toList = l ++ 13 :: 10 :: r) : StrLaws.At x crlf x.length l.length := by
  have hlen : x.length = l.length + 2 + r.length := by
    show x.cps.size = _
    rw [← Array.length_toList, hx, List.length_append, List.length_cons, List.length_cons]; omega
  refine ⟨by rw [crlf_len]; omega, ?_⟩
  rw [StrLaws.subAt_eq, hx, crlf_list, crlf_len, List.drop_left]
  rfl
theorem pos13 {d0 d1 d2 : List Nat} (h0 : Calm d0) (h1 : Calm d1) (h2 : Calm d2) {i : Nat} (h : (d0 ++ 13 :: 10 :: (d1 ++ 13 :: 10 :: d2))[i]? = some 13) : i = d0.length ∨ i = d0.length + 2 + d1.length := by
  have no : ∀ {l : List Nat}, Calm l → ∀ j, l[j]? ≠ some 13 := fun hl j e => (hl 13 (List.mem_of_getElem? e)).1 rfl
  rcases Nat.lt_or_ge i d0.length with q | q
  · rw [List.getElem?_append_left q] at h; exact absurd h (no h0 _)
  · rw [List.getElem?_append_right q] at h
    rcases e : i - d0.length with _ | _ | j
    · left; omega
    · rw [e] at h; cases h
    · rw [e] at h
      replace h : (d1 ++ 13 :: 10 :: d2)[j]? = some 13 := h
      rcases Nat.lt_or_ge j d1.length with q' | q'
      · rw [List.getElem?_append_left q'] at h; exact absurd h (no h1 _)
      · rw [List.getElem?_append_right q'] at h
        rcases e' : j - d1.length with _ | _ | k
        · right; omega
        · rw [e'] at h; cases h
        · rw [e'] at h; exact absurd h (no h2 _)
theorem occ_two {x : Str} {d0 d1 d2 : List Nat} (hx : x.cps.toList = d0 ++ 13 :: 10 :: (d1 ++ 13 :: 10 :: d2)) (h0 : Calm d0) (h1 : Calm d1) (h2 : Calm d2) :
    occurrences x crlf 0 x.length (x.length + 1) = [d0.length, d0.length + 2 + d1.length] := by
  obtain ⟨f, hc, hf⟩ := StrLaws.occ_tight x crlf (by rw [crlf_len]; decide)
  have hA := at_of hx
  have hB : StrLaws.At x crlf x.length (d0.length + 2 + d1.length) := by
    have := at_of (x := x) (l := d0 ++ 13 :: 10 :: d1) (r := d2) (by rw [hx]; simp)
    rw [List.length_append, List.length_cons, List.length_cons] at this
    rw [show d0.length + 2 + d1.length = d0.length + (d1.length + 1 + 1) by omega]; exact this
  have only : ∀ i, StrLaws.At x crlf x.length i → i = d0.length ∨ i = d0.length + 2 + d1.length := fun i hi => pos13 h0 h1 h2 (by rw [← hx]; exact at13 hi)
  revert hc
  generalize occurrences x crlf 0 x.length (x.length + 1) = l
  intro hc
  match l, hc with
  | [], hc => exact absurd hA (hf _ (by have : f = 0 := hc; omega))
  | c :: r, ⟨_, c2, c3, c4⟩ =>
    obtain rfl : c = d0.length := by
      rcases only c c2 with e | e
      · exact e
      · exact absurd hA (c3 _ (Nat.zero_le _) (by omega))
    rw [crlf_len] at c4
    match r, c4 with
    | [], c4 => exact absurd hB (hf _ (by have : f = d0.length + 2 := c4; omega))
    | c' :: r', ⟨e1, e2, _, e4⟩ =>
      obtain rfl : c' = d0.length + 2 + d1.length := by
        rcases only c' e2 with e | e
        · omega
        · exact e
      rw [crlf_len] at e4
      match r', e4 with
      | [], _ => rfl
      | c'' :: _, ⟨g1, g2, _, _⟩ => rcases only c'' g2 with e | e <;> omega
theorem split_three {x : Str} {d0 d1 d2 : List Nat} (hx : x.cps.toList = d0 ++ 13 :: 10 :: (d1 ++ 13 :: 10 :: d2)) (h0 : Calm d0) (h1 : Calm d1) (h2 : Calm d2) :
    Txt.split x crlf = [⟨d0.toArray⟩, ⟨d1.toArray⟩, ⟨d2.toArray⟩] := by
  have hlen : x.length = d0.length + 2 + d1.length + 2 + d2.length := by
    show x.cps.size = _
    rw [← Array.length_toList, hx]; simp only [List.length_append, List.length_cons]; omega
  have hk : ¬ Str.strKind x < Str.strKind crlf := by
    rw [show Str.strKind crlf = 1 from by with_unfolding_all rfl]
    unfold Str.strKind
    split
    · decide
    · split <;> decide
  unfold Txt.split
  rw [occ_two hx h0 h1 h2, crlf_len, if_neg (by simp only [Bool.or_eq_true, decide_eq_true_eq]; omega), if_neg (by simp)]
  show [strSub x 0 d0.length, strSub x (d0.length + 2) (d0.length + 2 + d1.length), strSub x (d0.length + 2 + d1.length + 2) x.length] = _
  rw [strSub_mk, strSub_mk, strSub_mk, hx]
  have a1 : (d0 ++ 13 :: 10 :: (d1 ++ 13 :: 10 :: d2)).drop (d0.length + 2) = d1 ++ 13 :: 10 :: d2 := by
    rw [← List.drop_drop, List.drop_left]; rfl
  have a2 : (d0 ++ 13 :: 10 :: (d1 ++ 13 :: 10 :: d2)).drop (d0.length + 2 + d1.length + 2) = d2 := by
    rw [show d0.length + 2 + d1.length + 2 = d0.length + 2 + (d1.length + 2) by omega, ← List.drop_drop, a1, ← List.drop_drop, List.drop_left]; rfl
  rw [a1, a2, List.drop_zero, Nat.sub_zero, List.take_left, show d0.length + 2 + d1.length - (d0.length + 2) = d1.length by omega, List.take_left, hlen, List.take_of_length_le (by omega)]
theorem mail_join {T : Nat} {n0 n1 n2 : Int} {e0 e1 : List Nat} {y : Str} (h1 : 1 ≤ T) (hy : y.cps.toList = mail T (wl T n0) (wl T n1) (wl T n2) e0 e1) : y = Txt.join (Str.ofString "\r\n") [dueS T n0, dueS T n1, dueS T n2] := by
  have e : (Txt.join (Str.ofString "\r\n") [dueS T n0, dueS T n1, dueS T n2]).cps.toList = textL T (wl T n0) (wl T n1) (wl T n2) := by
    show ((((dueS T n0).cps ++ crlf.cps) ++ (dueS T n1).cps ++ crlf.cps) ++ (dueS T n2).cps).toList = _
    simp only [Array.toList_append, crlf_list]
    show (((dq T (wl T n0) ++ [13, 10]) ++ dq T (wl T n1)) ++ [13, 10]) ++ dq T (wl T n2) = _
    unfold textL; simp
  unfold mail at hy
  rw [if_neg (by omega), ← e] at hy
  obtain ⟨⟨l⟩⟩ := y
  generalize Txt.join _ _ = z at hy ⊢
  obtain ⟨⟨l'⟩⟩ := z
  exact congrArg (fun l => Str.mk ⟨l⟩) hy
theorem split_mail {T : Nat} {n0 n1 n2 : Int} : Txt.split (Txt.join (Str.ofString "\r\n") [dueS T n0, dueS T n1, dueS T n2]) (Str.ofString "\r\n") = [dueS T n0, dueS T n1, dueS T n2] := by
  refine split_three (d0 := dq T (wl T n0)) (d1 := dq T (wl T n1)) (d2 := dq T (wl T n2)) ?_ (calm_of (dq_or (wl_or T n0))) (calm_of (dq_or (wl_or T n1))) (calm_of (dq_or (wl_or T n2)))
  show ((((dueS T n0).cps ++ crlf.cps) ++ (dueS T n1).cps ++ crlf.cps) ++ (dueS T n2).cps).toList = _
  simp only [Array.toList_append, crlf_list]
  show (((dq T (wl T n0) ++ [13, 10]) ++ dq T (wl T n1)) ++ [13, 10]) ++ dq T (wl T n2) = _
  simp
theorem joinT_len {a b c : Str} (ha : a.length ≤ 4) (hb : b.length ≤ 4) (hc : c.length ≤ 4) : (Txt.join (Str.ofString "\r\n") [a, b, c]).length ≤ 16 := by
  show ((((a.cps ++ crlf.cps) ++ b.cps ++ crlf.cps) ++ c.cps)).size ≤ 16
  have : crlf.cps.size = 2 := crlf_len
  have h1 : a.cps.size ≤ 4 := ha
  have h2 : b.cps.size ≤ 4 := hb
  have h3 : c.cps.size ≤ 4 := hc
  simp only [Array.size_append]; omega
theorem dueS_len {T : Nat} (n : Int) (h3 : wordLen T n + T < 5) : (dueS T n).length ≤ 4 := by
  show (dq T (wl T n)).toArray.size ≤ 4
  rw [List.size_toArray]
  have := dq_len T (wl T n)
  rw [wl_len] at this; omega
end
theorem resetPa : True := by w_top off; trivial
section
noncomputable abbrev c6 : UInt64 := 4618441417868443648
noncomputable abbrev c1 : UInt64 := 4607182418800017408
noncomputable abbrev hJ (h : UInt64) : Int := Flt.toInt Float64.truncOf (Float64.mul h c6)
noncomputable abbrev hf (h : UInt64) : UInt64 := Float64.sub (Float64.mul h c6) (Float64.ofInt (hJ h))
noncomputable abbrev fP (s v : UInt64) : UInt64 := Float64.mul v (Float64.sub c1 s)
noncomputable abbrev fQ (h s v : UInt64) : UInt64 := Float64.mul v (Float64.sub c1 (Float64.mul s (hf h)))
noncomputable abbrev fT (h s v : UInt64) : UInt64 := Float64.mul v (Float64.sub c1 (Float64.mul s (Float64.sub c1 (hf h))))
noncomputable def rgbF (h s v : UInt64) : UInt64 × UInt64 × UInt64 :=
  if (hJ h).fmod 6 = 0 then (v, fT h s v, fP s v) else if (hJ h).fmod 6 = 1 then (fQ h s v, v, fP s v) else if (hJ h).fmod 6 = 2 then (fP s v, v, fT h s v)
  else if (hJ h).fmod 6 = 3 then (fP s v, fQ h s v, v) else if (hJ h).fmod 6 = 4 then (fT h s v, fP s v, v) else (v, fP s v, fQ h s v)
noncomputable abbrev tup3 (x y z : UInt64) (t u v : Tok) : Obj := { cls := .type "tuple", data := .seq #[.float x t, .float y u, .float z v] }
noncomputable def TupF (x : UInt64 × UInt64 × UInt64) (h h' : Heap) (v : Value) : Prop := ∃ (a : Addr) (t1 t2 t3 : Nat), v = .ref a ∧ Made h h' [(a, tup3 x.1 x.2.1 x.2.2 t1 t2 t3)] ∧ (0 < t1 ∧ 0 < t2 ∧ 0 < t3) ∧ ((t1 = t2 → x.1 = x.2.1) ∧ (t1 = t3 → x.1 = x.2.2) ∧ (t2 = t3 → x.2.1 = x.2.2))
theorem tupF_of {h₀ h : Heap} {L a : Addr} {x y z : UInt64} {t u v : Nat} {r : UInt64 × UInt64 × UInt64} (N : News h₀ L h [(a, tup3 x y z t u v)]) (e : r = (x, y, z)) (h1 : 0 < t ∧ 0 < u ∧ 0 < v) (h2 : ¬t = u ∧ ¬t = v ∧ ¬u = v) : TupF r h₀ h (.ref a) := by
  subst e; exact ⟨a, t, u, v, rfl, made_of N, h1, fun q => absurd q h2.1, fun q => absurd q h2.2.1, fun q => absurd q h2.2.2⟩
theorem rgb0 {h s v : UInt64} (h0 : (hJ h).fmod 6 = 0) : rgbF h s v = (v, fT h s v, fP s v) := by unfold rgbF; rw [if_pos h0]
theorem rgb1 {h s v : UInt64} (h0 : (hJ h).fmod 6 ≠ 0) (h1 : (hJ h).fmod 6 = 1) : rgbF h s v = (fQ h s v, v, fP s v) := by unfold rgbF; rw [if_neg h0, if_pos h1]
theorem rgb2 {h s v : UInt64} (h0 : (hJ h).fmod 6 ≠ 0) (h1 : (hJ h).fmod 6 ≠ 1) (h2 : (hJ h).fmod 6 = 2) : rgbF h s v = (fP s v, v, fT h s v) := by unfold rgbF; rw [if_neg h0, if_neg h1, if_pos h2]
theorem rgb3 {h s v : UInt64} (h0 : (hJ h).fmod 6 ≠ 0) (h1 : (hJ h).fmod 6 ≠ 1) (h2 : (hJ h).fmod 6 ≠ 2) (h3 : (hJ h).fmod 6 = 3) : rgbF h s v = (fP s v, fQ h s v, v) := by unfold rgbF; rw [if_neg h0, if_neg h1, if_neg h2, if_pos h3]
theorem rgb4 {h s v : UInt64} (h0 : (hJ h).fmod 6 ≠ 0) (h1 : (hJ h).fmod 6 ≠ 1) (h2 : (hJ h).fmod 6 ≠ 2) (h3 : (hJ h).fmod 6 ≠ 3) (h4 : (hJ h).fmod 6 = 4) : rgbF h s v = (fT h s v, fP s v, v) := by unfold rgbF; rw [if_neg h0, if_neg h1, if_neg h2, if_neg h3, if_pos h4]
theorem rgb5 {h s v : UInt64} (h0 : (hJ h).fmod 6 ≠ 0) (h1 : (hJ h).fmod 6 ≠ 1) (h2 : (hJ h).fmod 6 ≠ 2) (h3 : (hJ h).fmod 6 ≠ 3) (h4 : (hJ h).fmod 6 ≠ 4) : rgbF h s v = (v, fP s v, fQ h s v) := by unfold rgbF; rw [if_neg h0, if_neg h1, if_neg h2, if_neg h3, if_neg h4]
theorem over_absurd {n : Nat} (h : 2 ^ 1024 - 2 ^ 970 ≤ n) (h' : n < 1000) : False :=
  absurd (Nat.lt_of_lt_of_le h' (Nat.le_trans (by decide +kernel : 1000 ≤ 2 ^ 1024 - 2 ^ 970) h)) (Nat.lt_irrefl _)
theorem lay3 : True := by
  k_with_none
  k_with "M enter" => (refine wpAny_call ?_; k_dflt (refine' code_full ?zk1 ?zk2 ?zk3 ?zk5 ?zkA ?zkF ?zkK ?zk6 ?zk7 ?zk8 ?zk9 ?zkB ?zkP ?_ ?zc2 ?zc3 ?zc4 ?zc5; (case zkA => exact rfl); (case zkF => exact rfl); (case zkK => assumption); (case zk1 => k_asm); (case zk2 => k_asm); (case zk3 => k_asm); (case zk5 => k_asm); (case zk6 => k_is); (case zk7 => k_is); (case zk8 => ktr_room); (case zk9 => exact BindsTo.of_eq rfl); (case zc5 => decide); (case zkP => exact List.cons_ne_nil _ _); (case zkB => exact locs rfl); (case zc2 => exact rfl); (case zc3 => exact rfl); (case zc4 => exact rfl); k_whole); intro zL' zh' tk9 zp9 zF' zN' zB' zX' zT'; (try dsimp only); (try k_fold))
  k_with "M ne" => (refine neN ?_; (try dsimp only); intro ze9; have ze8 := Eq.symm ze9; (repeat ((with_reducible rename _ ≠ _ ∧ _ => zx9); obtain ⟨zy9, zz9⟩ := zx9)); with_reducible contradiction)
  k_with "call ref" => (k_here; k_dflt (first | ((with_reducible show wpAny _ _ (call (Value.ref 69) [Value.int _ _, Value.int _ _]) _ _ _); refine' Cc.use (c_lt _ _ _ _) ?zk1 ?zk2 ?zk3 ?zk4 ?zk5 ?zk6 ?zk7 ?zk8 ?_) | ((with_reducible show wpAny _ _ (call (Value.ref 76) [Value.int _ _, Value.int _ _]) _ _ _); refine' Cc.use (c_eq _ _ _ _) ?zk1 ?zk2 ?zk3 ?zk4 ?zk5 ?zk6 ?zk7 ?zk8 ?_) | ((with_reducible show wpAny _ _ (call (Value.ref 83) [Value.int _ _, Value.int _ _]) _ _ _); refine' Cc.use (c_ne _ _ _ _) ?zk1 ?zk2 ?zk3 ?zk4 ?zk5 ?zk6 ?zk7 ?zk8 ?_) | ((with_reducible show wpAny _ _ (call (Value.ref 90) [Value.int _ _, Value.int _ _]) _ _ _); refine' Cc.use (c_gt _ _ _ _) ?zk1 ?zk2 ?zk3 ?zk4 ?zk5 ?zk6 ?zk7 ?zk8 ?_) | ((with_reducible show wpAny _ _ (call (Value.ref 97) [Value.int _ _]) _ _ _); refine' Cc.use (c_not_ _ _) ?zk1 ?zk2 ?zk3 ?zk4 ?zk5 ?zk6 ?zk7 ?zk8 ?_) | ((with_reducible show wpAny _ _ (call (Value.ref 104) [Value.int _ _, Value.int _ _]) _ _ _); refine' Cc.use (c_add _ _ _ _) ?zk1 ?zk2 ?zk3 ?zk4 ?zk5 ?zk6 ?zk7 ?zk8 ?_) | ((with_reducible show wpAny _ _ (call (Value.ref 111) [Value.bool _, Value.bool _]) _ _ _); refine' Cc.use (c_and_ _ _) ?zk1 ?zk2 ?zk3 ?zk4 ?zk5 ?zk6 ?zk7 ?zk8 ?_) | ((with_reducible show wpAny _ _ (call (Value.ref 146) [Value.bool _, Value.bool _]) _ _ _); refine' Cc.use (c_or_ _ _) ?zk1 ?zk2 ?zk3 ?zk4 ?zk5 ?zk6 ?zk7 ?zk8 ?_) | ((with_reducible show wpAny _ _ (call (Value.ref 160) [Value.int _ _, Value.int _ _]) _ _ _); refine' Cc.use (c_sub _ _ _ _) ?zk1 ?zk2 ?zk3 ?zk4 ?zk5 ?zk6 ?zk7 ?zk8 ?_) | ((with_reducible show wpAny _ _ (call (Value.ref 132) [Value.int _ _, Value.int _ _]) _ _ _); refine' Cc.use (c_mod _ _ _ _ ?zkb) ?zk1 ?zk2 ?zk3 ?zk4 ?zk5 ?zk6 ?zk7 ?zk8 ?_; (case zkb => first | decide | omega)) | ((with_reducible show wpAny _ _ (call (Value.ref 118) [Value.int _ _, Value.int 8 _]) _ _ _); refine' Cc.use (c_floordiv8 _ _ _) ?zk1 ?zk2 ?zk3 ?zk4 ?zk5 ?zk6 ?zk7 ?zk8 ?_) | ((with_reducible show wpAny _ _ (call (Value.ref 125) [Value.int 1 _, Value.int 3 _]) _ _ _); refine' Cc.use (c_lshift13 _ _) ?zk1 ?zk2 ?zk3 ?zk4 ?zk5 ?zk6 ?zk7 ?zk8 ?_) | ((with_reducible show wpAny _ _ (call (Value.ref 153) [Value.int _ _, Value.int 1 _]) _ _ _); refine' Cc.use (c_rshift1 _ _ _ ?zkb) ?zk1 ?zk2 ?zk3 ?zk4 ?zk5 ?zk6 ?zk7 ?zk8 ?_; (case zkb => first | decide | omega)) | ((with_reducible show wpAny _ _ (call (Value.ref 174) [Value.int _ _, Value.int _ _]) _ _ _); refine' Cc.use (c_xor _ _ _ _) ?zk1 ?zk2 ?zk3 ?zk4 ?zk5 ?zk6 ?zk7 ?zk8 ?_) | ((with_reducible show wpAny _ _ (call (Value.ref 167) [Value.int _ _, Value.int _ _]) _ _ _); refine' Cc.use (c_truediv _ _ _ _ ?zkb) ?zk1 ?zk2 ?zk3 ?zk4 ?zk5 ?zk6 ?zk7 ?zk8 ?_; (case zkb => first | decide | omega)) | ((with_reducible show wpAny _ _ (call (Value.ref 139) [Value.float _ _, Value.int 24 _]) _ _ _); refine' Cc.use (c_mulf24 _ _ _) ?zk1 ?zk2 ?zk3 ?zk4 ?zk5 ?zk6 ?zk7 ?zk8 ?_) | ((with_reducible show wpAny _ _ (call (Value.ref 139) [Value.int _ _, Value.int _ _]) _ _ _); refine' Cc.use (c_mul _ _ _ _ ?zkb) ?zk1 ?zk2 ?zk3 ?zk4 ?zk5 ?zk6 ?zk7 ?zk8 ?_; (case zkb => first | decide | omega))); (case zk1 => k_asm); (case zk2 => k_asm); (case zk3 => k_asm); (case zk4 => k_asm); (case zk5 => k_asm); (case zk6 => first | exact rfl | assumption); (case zk7 => ktr_room); (case zk8 => ktr_units); (dsimp only [retV]); intro zt9 zh9 ztk9 zF9 zN9; (try k_fold))
  k_with "M steps" => repeat' (first | (k_unfold; (try dsimp only)) | (with_reducible first | refine Cont.next ?_ | refine Cont.ret ?_ | refine Cont.brk ?_ | refine Cont.cont ?_) | (k_end; wrow_close) | ((fail_if_success (with_reducible show wpAny _ _ (pyIter _) _ _ _)); walk1) | (dsimp only; (fail_if_success (with_reducible show wpAny _ _ (pyIter _) _ _ _)); walk1) | (leave1; try dsimp only) | fail "no step")
  k_with "subscriptTail" => (k_here; (with_reducible show wpAny _ _ (subscriptTail _ _ (Value.ref _) (Value.int _ _)) _ _ _); k_dflt (refine' item_base ?zk1 ?zk2 ?zk3 ?zk4 ?zk5 ?_ ?zk7; (case zk1 => k_asm); (case zk2 => with_reducible assumption); (case zk3 => with_reducible assumption); (case zk4 => omega); (case zk5 => omega); (case zk7 => with_unfolding_all rfl); k_whole))
  k_with "eval Name" => (k_here; k_dflt (refine' nameX_L ?zF ?zv ?_ ?za ?zb; (case za => rfl); (case zb => rfl); (case zF => k_asm); (case zv => rfl); k_whole))
  k_with "eval Name" => (k_here; (first | (with_reducible show wpAny _ _ (eval (PySem.Expr.Name (Str.ofString "range") _) _) _ _ _) | (with_reducible show wpAny _ _ (eval (PySem.Expr.Name (Str.ofString "len") _) _) _ _ _) | (with_reducible show wpAny _ _ (eval (PySem.Expr.Name (Str.ofString "max") _) _) _ _ _) | (with_reducible show wpAny _ _ (eval (PySem.Expr.Name (Str.ofString "min") _) _) _ _ _) | (with_reducible show wpAny _ _ (eval (PySem.Expr.Name (Str.ofString "int") _) _) _ _ _) | (with_reducible show wpAny _ _ (eval (PySem.Expr.Name (Str.ofString "enumerate") _) _) _ _ _) | (with_reducible show wpAny _ _ (eval (PySem.Expr.Name (Str.ofString "sum") _) _) _ _ _)); k_dflt (refine' nameX_B ?zF ?zX ?zT ?ze ?zv ?zn ?_ ?za ?zb; (case za => rfl); (case zb => rfl); (case zF => k_asm); (case zX => k_asm); (case zT => k_asm); (case ze => k_is); (case zv => boot_fast); (case zn => decide); k_whole))
  k_with "eval Name" => (k_here; (first | (with_reducible show wpAny _ _ (eval (PySem.Expr.Name (Str.ofString "lt") _) _) _ _ _) | (with_reducible show wpAny _ _ (eval (PySem.Expr.Name (Str.ofString "eq") _) _) _ _ _) | (with_reducible show wpAny _ _ (eval (PySem.Expr.Name (Str.ofString "ne") _) _) _ _ _) | (with_reducible show wpAny _ _ (eval (PySem.Expr.Name (Str.ofString "gt") _) _) _ _ _) | (with_reducible show wpAny _ _ (eval (PySem.Expr.Name (Str.ofString "not_") _) _) _ _ _) | (with_reducible show wpAny _ _ (eval (PySem.Expr.Name (Str.ofString "add") _) _) _ _ _) | (with_reducible show wpAny _ _ (eval (PySem.Expr.Name (Str.ofString "and_") _) _) _ _ _) | (with_reducible show wpAny _ _ (eval (PySem.Expr.Name (Str.ofString "floordiv") _) _) _ _ _) | (with_reducible show wpAny _ _ (eval (PySem.Expr.Name (Str.ofString "lshift") _) _) _ _ _) | (with_reducible show wpAny _ _ (eval (PySem.Expr.Name (Str.ofString "mod") _) _) _ _ _) | (with_reducible show wpAny _ _ (eval (PySem.Expr.Name (Str.ofString "mul") _) _) _ _ _) | (with_reducible show wpAny _ _ (eval (PySem.Expr.Name (Str.ofString "or_") _) _) _ _ _) | (with_reducible show wpAny _ _ (eval (PySem.Expr.Name (Str.ofString "rshift") _) _) _ _ _) | (with_reducible show wpAny _ _ (eval (PySem.Expr.Name (Str.ofString "sub") _) _) _ _ _) | (with_reducible show wpAny _ _ (eval (PySem.Expr.Name (Str.ofString "truediv") _) _) _ _ _) | (with_reducible show wpAny _ _ (eval (PySem.Expr.Name (Str.ofString "xor") _) _) _ _ _) | (with_reducible show wpAny _ _ (eval (PySem.Expr.Name (Str.ofString "indexOf") _) _) _ _ _) | (with_reducible show wpAny _ _ (eval (PySem.Expr.Name (Str.ofString "quotedata") _) _) _ _ _) | (with_reducible show wpAny _ _ (eval (PySem.Expr.Name (Str.ofString "rgb_to_hsv") _) _) _ _ _) | (with_reducible show wpAny _ _ (eval (PySem.Expr.Name (Str.ofString "hsv_to_rgb") _) _) _ _ _) | (with_reducible show wpAny _ _ (eval (PySem.Expr.Name (Str.ofString "_law_paint") _) _) _ _ _) | (with_reducible show wpAny _ _ (eval (PySem.Expr.Name (Str.ofString "_law_owner") _) _) _ _ _) | (with_reducible show wpAny _ _ (eval (PySem.Expr.Name (Str.ofString "_law_owners") _) _) _ _ _) | (with_reducible show wpAny _ _ (eval (PySem.Expr.Name (Str.ofString "_law_worths") _) _) _ _ _) | (with_reducible show wpAny _ _ (eval (PySem.Expr.Name (Str.ofString "_law_wins") _) _) _ _ _)); k_dflt (refine' nameX_K ?zF ?zX ?zT ?ze ?_ ?za ?zb; (case za => rfl); (case zb => rfl); (case zF => k_asm); (case zX => k_asm); (case zT => k_asm); (case ze => k_is); k_whole))
  k_with "execs cons" => (k_here; (with_reducible show wpAny _ _ _ _ _ (Shared.mk _ _ _ (HAdd.hAdd _ _) _)); refine gen_toks ?_; intro ztk9 zp9; (try dsimp only at zp9))
  k_with "execs nil" => (k_here; (with_reducible show wpAny _ _ _ _ _ (Shared.mk _ _ _ (HAdd.hAdd _ _) _)); refine gen_toks ?_; intro ztk9 zp9; (try dsimp only at zp9))
  trivial
set_option maxRecDepth 100000 in
set_option maxHeartbeats 8000000 in
theorem c_ratio {w : World} {mean : ExcName → Option Value} {mg mb : Str → Option Value} (a b : Int) (ta tb : Tok) (hb : b ≠ 0 ∧ a.natAbs < 1000) :
    Cu w mean mg mb 167 [.int a ta, .int b tb] 1 8 (fun _ => True) (fun s _ tk v => ∃ t : Nat, v = .float (fr a b) t ∧ s.toks < t ∧ t < tk) := by
  unfold Cu; k_fill; intro dp un gd cn cs ad ccd cl outer A₀ base h₀ L m s Q E hB hF hX hT hkind hdp hun hpre hret
  walk_at "M enter"
  walk_at "M steps"
  all_goals ((try k_unfold); (with_reducible rename Fr _ _ _ _ => F9); refine hret _ _ _ F9.keep ⟨_, rfl, ?_, ?_⟩ <;> omega)
set_option maxRecDepth 100000 in
set_option maxHeartbeats 8000000 in
theorem c_hsv {w : World} {mean : ExcName → Option Value} {mg mb : Str → Option Value} (h s v : UInt64) (th ts : Tok) (tv : Nat) (hv0 : 0 < tv)
    (hA : (Float64.cmp s 0 == some Ordering.eq) = false) (hB : Float64.isNaN (Float64.mul h c6) = false) (hC : Float64.isInf (Float64.mul h c6) = false) (hD : (hJ h).natAbs < 1000) :
    Cu w mean mg mb 62 [.float h th, .float s ts, .float v tv] 2 16 (fun s => tv < s.toks) (fun s' h' _ v' => TupF (rgbF h s v) s'.heap h' v') := by
  have hE : 0 ≤ (Flt.toInt Float64.truncOf (Float64.mul h 4618441417868443648)).fmod 6 ∧ (Flt.toInt Float64.truncOf (Float64.mul h 4618441417868443648)).fmod 6 < 6 := by
    rw [Int.fmod_eq_emod_of_nonneg _ (by decide)]; omega
  unfold Cu; k_fill; intro dp un gd cn cs ad ccd cl outer A₀ base h₀ L m s Q E hB hF hX hT hkind hdp hun hpre hret
  replace hpre : tv < s.toks := hpre
  walk_at "M enter"
  walk_at "M steps"
  all_goals (try clear hA)
  all_goals first
    | exact (over_absurd (by assumption) hD).elim
    | (exfalso; omega)
    | ((try k_unfold); (with_reducible rename Fr _ _ _ _ => F9); (with_reducible rename News _ _ _ _ => N9); refine hret _ _ _ F9.keep (tupF_of N9 ?_ ?_ ?_); rotate_left; omega; omega; first
        | exact rgb0 (by assumption)
        | exact rgb1 (by assumption) (by assumption)
        | exact rgb2 (by assumption) (by assumption) (by assumption)
        | exact rgb3 (by assumption) (by assumption) (by assumption) (by assumption)
        | exact rgb4 (by assumption) (by assumption) (by assumption) (by assumption) (by assumption)
        | exact rgb5 (by assumption) (by assumption) (by assumption) (by assumption) (by assumption))
end
theorem resetPb : True := by w_top off; trivial
section
noncomputable def paintF (hue share value : Nat) : UInt64 × UInt64 × UInt64 := rgbF (fr hue 24) (fr share 4) (fr value 4)
theorem hueFacts : ∀ hue : Nat, hue < 24 → Float64.isNaN (Float64.mul (fr hue 24) c6) = false ∧ Float64.isInf (Float64.mul (fr hue 24) c6) = false ∧ (hJ (fr hue 24)).natAbs < 1000 := by decide +kernel
theorem shareFacts : ∀ share : Nat, share < 5 → 0 < share → (Float64.cmp (fr share 4) 0 == some Ordering.eq) = false := by decide +kernel
theorem made_mono {h h1 h' : Heap} {nw : List (Addr × Obj)} (k : ∀ b o, h.get? b = some o → h1.get? b = some o) (M : Made h1 h' nw) : Made h h' nw := fun p hp =>
  ⟨(M p hp).1, by
    cases e : h.get? p.1 with
    | none => rfl
    | some o => have := k _ _ e; rw [(M p hp).2] at this; cases this⟩
theorem TupF.mono {r : UInt64 × UInt64 × UInt64} {h h1 h' : Heap} {v : Value} (k : ∀ b o, h.get? b = some o → h1.get? b = some o) (T : TupF r h1 h' v) : TupF r h h' v := by
  obtain ⟨a, t1, t2, t3, e, M, p⟩ := T
  exact ⟨a, t1, t2, t3, e, made_mono k M, p⟩
theorem lay4 : True := by
  k_with "call ref" => (k_here; (with_reducible show wpAny _ _ (call (Value.ref 62) [Value.float _ _, Value.float _ _, Value.float _ _]) _ _ _); k_dflt (refine' Cu.use (c_hsv _ _ _ _ _ _ ?zkp ?zka ?zkb ?zkc ?zkd) ?zk1 ?zk2 ?zk3 ?zk4 ?zk5 ?zk6 ?zk7 ?zk8 ?zkt ?_); (case zkp => omega); (case zkt => (show _ < _; dsimp only; omega)); (case zka => assumption); (case zkb => assumption); (case zkc => assumption); (case zkd => assumption); (case zk1 => k_asm); (case zk2 => k_asm); (case zk3 => k_asm); (case zk4 => k_asm); (case zk5 => k_asm); (case zk6 => first | exact rfl | assumption); (case zk7 => ktr_room); (case zk8 => ktr_units))
  k_with "call ref" => (k_here; (with_reducible show wpAny _ _ (call (Value.ref 167) [Value.int _ _, Value.int _ _]) _ _ _); k_dflt (refine' Cu.use (c_ratio _ _ _ _ ?zkb) ?zk1 ?zk2 ?zk3 ?zk4 ?zk5 ?zk6 ?zk7 ?zk8 trivial ?_); (case zkb => first | decide | omega); (case zk1 => k_asm); (case zk2 => k_asm); (case zk3 => k_asm); (case zk4 => k_asm); (case zk5 => k_asm); (case zk6 => first | exact rfl | assumption); (case zk7 => ktr_room); (case zk8 => ktr_units); (intro zv9 zh9 ztk9 zkp9 zF9 zN9 zT9; obtain ⟨zu9, ze9, zp9, zp8⟩ := zT9; (try dsimp only at zp9 zp8); subst ze9; clear zkp9); (try dsimp only); (try k_fold))
  trivial
set_option maxRecDepth 100000 in
set_option maxHeartbeats 8000000 in
theorem c_paint {w : World} {mean : ExcName → Option Value} {mg mb : Str → Option Value} (hue share value : Nat) (th ts tv : Tok) (h1 : hue < 24) (h2 : share < 5) (h2' : 0 < share) (h3 : value < 5) :
    Ct w mean mg mb 188 [.int hue th, .int share ts, .int value tv] 3 32 (fun _ => True) (TupF (paintF hue share value)) := by
  obtain ⟨e1, e2, e3⟩ := hueFacts hue h1
  have e4 := shareFacts share h2 h2'
  unfold Ct; k_fill; intro dp un gd cn cs ad ccd cl outer A₀ base h₀ L m s Q E hB hF hX hT hkind hdp hun hpre hret
  walk_at "M enter"
  walk_at "M steps"
  (with_reducible rename Fr _ _ _ _ => F9)
  rename TupF _ _ _ _ => T9
  exact hret _ _ _ F9.keep (TupF.mono (Fr.keep (by assumption)) T9)
end
theorem resetMx : True := by w_top off; trivial
section
open PySem.Flt
noncomputable def ltF (x y : UInt64) : Bool := Float64.cmp x y == some .lt
noncomputable def max3 (x y z : UInt64) : UInt64 := if ltF x y then (if ltF y z then z else y) else (if ltF x z then z else x)
noncomputable def min3 (x y z : UInt64) : UInt64 := if ltF y x then (if ltF z y then z else y) else (if ltF z x then z else x)
section
variable {prog : Program} {w : World} {A : Around} {E : Value → Shared → Prop} {s : Shared} {Q : Value → Shared → Prop}
theorem best_max (x y z : UInt64) (t u r : Nat) {v : Value} (h : (#[Value.float x t, .float y u, .float z r])[argBest (fun i j => ltV ((#[Value.float x t, .float y u, .float z r]).getD j .none) ((#[Value.float x t, .float y u, .float z r]).getD i .none)) 2]? = some v) :
    ∃ tk : Nat, v = .float (max3 x y z) tk ∧ ((tk = t ∧ max3 x y z = x) ∨ (tk = u ∧ max3 x y z = y) ∨ (tk = r ∧ max3 x y z = z)) := by
  by_cases h1 : ltF x y = true
  · by_cases h2 : ltF y z = true
    · have e : argBest (fun i j => ltV ((#[Value.float x t, .float y u, .float z r]).getD j .none) ((#[Value.float x t, .float y u, .float z r]).getD i .none)) 2 = 2 := by
        unfold ltF at h1 h2; simp [argBest, ltV, h1, h2]
      rw [e] at h; have em : max3 x y z = z := by simp [max3, h1, h2]
      exact ⟨r, by rw [em]; exact (Option.some.inj h).symm, .inr (.inr ⟨rfl, em⟩)⟩
    · have e : argBest (fun i j => ltV ((#[Value.float x t, .float y u, .float z r]).getD j .none) ((#[Value.float x t, .float y u, .float z r]).getD i .none)) 2 = 1 := by
        unfold ltF at h1 h2; simp [argBest, ltV, h1, h2]
      rw [e] at h; have em : max3 x y z = y := by simp [max3, h1, h2]
      exact ⟨u, by rw [em]; exact (Option.some.inj h).symm, .inr (.inl ⟨rfl, em⟩)⟩
  · by_cases h2 : ltF x z = true
    · have e : argBest (fun i j => ltV ((#[Value.float x t, .float y u, .float z r]).getD j .none) ((#[Value.float x t, .float y u, .float z r]).getD i .none)) 2 = 2 := by
        unfold ltF at h1 h2; simp [argBest, ltV, h1, h2]
      rw [e] at h; have em : max3 x y z = z := by simp [max3, h1, h2]
      exact ⟨r, by rw [em]; exact (Option.some.inj h).symm, .inr (.inr ⟨rfl, em⟩)⟩
    · have e : argBest (fun i j => ltV ((#[Value.float x t, .float y u, .float z r]).getD j .none) ((#[Value.float x t, .float y u, .float z r]).getD i .none)) 2 = 0 := by
        unfold ltF at h1 h2; simp [argBest, ltV, h1, h2]
      rw [e] at h; have em : max3 x y z = x := by simp [max3, h1, h2]
      exact ⟨t, by rw [em]; exact (Option.some.inj h).symm, .inl ⟨rfl, em⟩⟩
theorem best_min (x y z : UInt64) (t u r : Nat) {v : Value} (h : (#[Value.float x t, .float y u, .float z r])[argBest (fun i j => ltV ((#[Value.float x t, .float y u, .float z r]).getD i .none) ((#[Value.float x t, .float y u, .float z r]).getD j .none)) 2]? = some v) :
    ∃ tk : Nat, v = .float (min3 x y z) tk ∧ ((tk = t ∧ min3 x y z = x) ∨ (tk = u ∧ min3 x y z = y) ∨ (tk = r ∧ min3 x y z = z)) := by
  by_cases h1 : ltF y x = true
  · by_cases h2 : ltF z y = true
    · have e : argBest (fun i j => ltV ((#[Value.float x t, .float y u, .float z r]).getD i .none) ((#[Value.float x t, .float y u, .float z r]).getD j .none)) 2 = 2 := by
        unfold ltF at h1 h2; simp [argBest, ltV, h1, h2]
      rw [e] at h; have em : min3 x y z = z := by simp [min3, h1, h2]
      exact ⟨r, by rw [em]; exact (Option.some.inj h).symm, .inr (.inr ⟨rfl, em⟩)⟩
    · have e : argBest (fun i j => ltV ((#[Value.float x t, .float y u, .float z r]).getD i .none) ((#[Value.float x t, .float y u, .float z r]).getD j .none)) 2 = 1 := by
        unfold ltF at h1 h2; simp [argBest, ltV, h1, h2]
      rw [e] at h; have em : min3 x y z = y := by simp [min3, h1, h2]
      exact ⟨u, by rw [em]; exact (Option.some.inj h).symm, .inr (.inl ⟨rfl, em⟩)⟩
  · by_cases h2 : ltF z x = true
    · have e : argBest (fun i j => ltV ((#[Value.float x t, .float y u, .float z r]).getD i .none) ((#[Value.float x t, .float y u, .float z r]).getD j .none)) 2 = 2 := by
        unfold ltF at h1 h2; simp [argBest, ltV, h1, h2]
      rw [e] at h; have em : min3 x y z = z := by simp [min3, h1, h2]
      exact ⟨r, by rw [em]; exact (Option.some.inj h).symm, .inr (.inr ⟨rfl, em⟩)⟩
    · have e : argBest (fun i j => ltV ((#[Value.float x t, .float y u, .float z r]).getD i .none) ((#[Value.float x t, .float y u, .float z r]).getD j .none)) 2 = 0 := by
        unfold ltF at h1 h2; simp [argBest, ltV, h1, h2]
      rw [e] at h; have em : min3 x y z = x := by simp [min3, h1, h2]
      exact ⟨t, by rw [em]; exact (Option.some.inj h).symm, .inl ⟨rfl, em⟩⟩
theorem max_three_ff {x y z : UInt64} {t u r : Nat} {h₀ : Heap} {L : Addr} {m : Str → Option Value} {news : List (Addr × Obj)} (hh : A.handled = none) (F : Fr h₀ L s.heap m) (N : News h₀ L s.heap news)
    (h : ∀ h' (tk v : Nat), s.toks ≤ tk → (v = t ∧ max3 x y z = x) ∨ (v = u ∧ max3 x y z = y) ∨ (v = r ∧ max3 x y z = z) → Fr h₀ L h' m → News h₀ L h' news → Q (.float (max3 x y z) v) { s with heap := h', toks := tk }) : wpAny (model prog w) A (call (.builtin "max") [.float x t, .float y u, .float z r]) Q E s := by
  have hT : (s.heap.push { cls := .type "tuple", data := .seq #[.float x t, .float y u, .float z r] }).IsTuple s.heap.objs.size #[.float x t, .float y u, .float z r] := ⟨_, Heap.get?_push_size _ rfl, rfl, 0, rfl⟩
  refine wpAny_toks (call_max_three (wpAny_pyIter_tuple hT ?_))
  have hsz : (s.heap.push { cls := .type "tuple", data := .seq #[.float x t, .float y u, .float z r] }).objs.size = s.heap.objs.size + 1 := Heap.size_push ..
  refine ⟨_, [_, s.heap.objs.size], [_], _, _, _, _, rfl, Walks.tuple (A := A.in1) hh _ s.heap.objs.size (by rw [hsz]; exact Nat.ne_of_lt (Nat.lt_succ_self _)) #[.float x t, .float y u, .float z r],
    ⟨⟨_, Heap.get?_push_size _ rfl, rfl, rfl⟩, hT.push _⟩, fun c hc => ?_, by simp, cmpOf_gt _ (by simp [NumV.float]), fun v h' tk hP hk => ?_⟩
  · show c < ((s.heap.push _).push _).objs.size
    rw [Heap.size_push, hsz]
    rcases List.mem_cons.mp hc with rfl | hc
    · rw [hsz]; exact Nat.lt_succ_self _
    · rcases List.mem_cons.mp hc with rfl | hc
      · exact Nat.lt_succ_of_lt (Nat.lt_succ_self _)
      · cases hc
  · have hold : ∀ c o, s.heap.get? c = some o → h'.get? c = some o := fun c o e => by
      refine hk c o (fun hm => ?_) (Heap.get?_push_of_some _ (Heap.get?_push_of_some _ e))
      rcases List.mem_cons.mp hm with e1 | hm
      · have := Heap.lt_size e; rw [e1, hsz] at this; exact Nat.lt_irrefl _ (Nat.lt_of_succ_lt this)
      · cases hm
    obtain ⟨tv, rfl, pv⟩ := best_max x y z t u r hP
    exact fun le => h h' tk tv le pv (F.keeps hold) (N.grown hold)
theorem min_three_ff {x y z : UInt64} {t u r : Nat} {h₀ : Heap} {L : Addr} {m : Str → Option Value} {news : List (Addr × Obj)} (hh : A.handled = none) (F : Fr h₀ L s.heap m) (N : News h₀ L s.heap news)
    (h : ∀ h' (tk v : Nat), s.toks ≤ tk → (v = t ∧ min3 x y z = x) ∨ (v = u ∧ min3 x y z = y) ∨ (v = r ∧ min3 x y z = z) → Fr h₀ L h' m → News h₀ L h' news → Q (.float (min3 x y z) v) { s with heap := h', toks := tk }) : wpAny (model prog w) A (call (.builtin "min") [.float x t, .float y u, .float z r]) Q E s := by
  have hT : (s.heap.push { cls := .type "tuple", data := .seq #[.float x t, .float y u, .float z r] }).IsTuple s.heap.objs.size #[.float x t, .float y u, .float z r] := ⟨_, Heap.get?_push_size _ rfl, rfl, 0, rfl⟩
  refine wpAny_toks (call_min_three (wpAny_pyIter_tuple hT ?_))
  have hsz : (s.heap.push { cls := .type "tuple", data := .seq #[.float x t, .float y u, .float z r] }).objs.size = s.heap.objs.size + 1 := Heap.size_push ..
  refine ⟨_, [_, s.heap.objs.size], [_], _, _, _, _, rfl, Walks.tuple (A := A.in1) hh _ s.heap.objs.size (by rw [hsz]; exact Nat.ne_of_lt (Nat.lt_succ_self _)) #[.float x t, .float y u, .float z r],
    ⟨⟨_, Heap.get?_push_size _ rfl, rfl, rfl⟩, hT.push _⟩, fun c hc => ?_, by simp, cmpOf_lt _ (by simp [NumV.float]), fun v h' tk hP hk => ?_⟩
  · show c < ((s.heap.push _).push _).objs.size
    rw [Heap.size_push, hsz]
    rcases List.mem_cons.mp hc with rfl | hc
    · rw [hsz]; exact Nat.lt_succ_self _
    · rcases List.mem_cons.mp hc with rfl | hc
      · exact Nat.lt_succ_of_lt (Nat.lt_succ_self _)
      · cases hc
  · have hold : ∀ c o, s.heap.get? c = some o → h'.get? c = some o := fun c o e => by
      refine hk c o (fun hm => ?_) (Heap.get?_push_of_some _ (Heap.get?_push_of_some _ e))
      rcases List.mem_cons.mp hm with e1 | hm
      · have := Heap.lt_size e; rw [e1, hsz] at this; exact Nat.lt_irrefl _ (Nat.lt_of_succ_lt this)
      · cases hm
    obtain ⟨tv, rfl, pv⟩ := best_min x y z t u r hP
    exact fun le => h h' tk tv le pv (F.keeps hold) (N.grown hold)
end
theorem pos_of {v t u r : Nat} {A B C : Prop} (h : (v = t ∧ A) ∨ (v = u ∧ B) ∨ (v = r ∧ C)) (pt : 0 < t) (pu : 0 < u) (pr : 0 < r) : 0 < v := by
  rcases h with h | h | h <;> (rw [h.1]; assumption)
noncomputable abbrev c2 : UInt64 := 4611686018427387904
noncomputable abbrev c4 : UInt64 := 4616189618054758400
noncomputable def hsvH (r g b : UInt64) : UInt64 :=
  if (Float64.cmp r (max3 r g b) == some Ordering.eq) = true then Float64.sub (Float64.div (Float64.sub (max3 r g b) b) (Float64.sub (max3 r g b) (min3 r g b))) (Float64.div (Float64.sub (max3 r g b) g) (Float64.sub (max3 r g b) (min3 r g b)))
  else if (Float64.cmp g (max3 r g b) == some Ordering.eq) = true then Float64.sub (Float64.add c2 (Float64.div (Float64.sub (max3 r g b) r) (Float64.sub (max3 r g b) (min3 r g b)))) (Float64.div (Float64.sub (max3 r g b) b) (Float64.sub (max3 r g b) (min3 r g b)))
  else Float64.sub (Float64.add c4 (Float64.div (Float64.sub (max3 r g b) g) (Float64.sub (max3 r g b) (min3 r g b)))) (Float64.div (Float64.sub (max3 r g b) r) (Float64.sub (max3 r g b) (min3 r g b)))
noncomputable def hsvF (r g b : UInt64) : UInt64 × UInt64 × UInt64 := ((Float64.divmod (Float64.div (hsvH r g b) c6) c1).2, Float64.div (Float64.sub (max3 r g b) (min3 r g b)) (max3 r g b), max3 r g b)
theorem hsv1 {r g b : UInt64} (h : (Float64.cmp r (max3 r g b) == some Ordering.eq) = true) : hsvF r g b = ((Float64.divmod (Float64.div (Float64.sub (Float64.div (Float64.sub (max3 r g b) b) (Float64.sub (max3 r g b) (min3 r g b))) (Float64.div (Float64.sub (max3 r g b) g) (Float64.sub (max3 r g b) (min3 r g b)))) c6) c1).2, Float64.div (Float64.sub (max3 r g b) (min3 r g b)) (max3 r g b), max3 r g b) := by
  unfold hsvF hsvH; rw [if_pos h]
theorem hsv2 {r g b : UInt64} (h : (Float64.cmp r (max3 r g b) == some Ordering.eq) = false) (h' : (Float64.cmp g (max3 r g b) == some Ordering.eq) = true) : hsvF r g b = ((Float64.divmod (Float64.div (Float64.sub (Float64.add c2 (Float64.div (Float64.sub (max3 r g b) r) (Float64.sub (max3 r g b) (min3 r g b)))) (Float64.div (Float64.sub (max3 r g b) b) (Float64.sub (max3 r g b) (min3 r g b)))) c6) c1).2, Float64.div (Float64.sub (max3 r g b) (min3 r g b)) (max3 r g b), max3 r g b) := by
  unfold hsvF hsvH; rw [if_neg (by rw [h]; decide), if_pos h']
theorem hsv3 {r g b : UInt64} (h : (Float64.cmp r (max3 r g b) == some Ordering.eq) = false) (h' : (Float64.cmp g (max3 r g b) == some Ordering.eq) = false) : hsvF r g b = ((Float64.divmod (Float64.div (Float64.sub (Float64.add c4 (Float64.div (Float64.sub (max3 r g b) g) (Float64.sub (max3 r g b) (min3 r g b)))) (Float64.div (Float64.sub (max3 r g b) r) (Float64.sub (max3 r g b) (min3 r g b)))) c6) c1).2, Float64.div (Float64.sub (max3 r g b) (min3 r g b)) (max3 r g b), max3 r g b) := by
  unfold hsvF hsvH; rw [if_neg (by rw [h]; decide), if_neg (by rw [h']; decide)]
noncomputable def TupP (x : UInt64 × UInt64 × UInt64) (h h' : Heap) (v : Value) : Prop := ∃ (a : Addr) (t1 t2 t3 : Nat), v = .ref a ∧ Made h h' [(a, tup3 x.1 x.2.1 x.2.2 t1 t2 t3)] ∧ 0 < t1 ∧ 0 < t2 ∧ 0 < t3
theorem tupP_of {h₀ h : Heap} {L a : Addr} {x y z : UInt64} {t u v : Nat} {r : UInt64 × UInt64 × UInt64} (N : News h₀ L h [(a, tup3 x y z t u v)]) (e : r = (x, y, z)) (h1 : 0 < t ∧ 0 < u ∧ 0 < v) : TupP r h₀ h (.ref a) := by
  subst e; exact ⟨a, t, u, v, rfl, made_of N, h1⟩
theorem lay5 : True := by
  k_with_none
  k_with "M enter" => (refine wpAny_call ?_; k_dflt (refine' code_full ?zk1 ?zk2 ?zk3 ?zk5 ?zkA ?zkF ?zkK ?zk6 ?zk7 ?zk8 ?zk9 ?zkB ?zkP ?_ ?zc2 ?zc3 ?zc4 ?zc5; (case zkA => exact rfl); (case zkF => exact rfl); (case zkK => assumption); (case zk1 => k_asm); (case zk2 => k_asm); (case zk3 => k_asm); (case zk5 => k_asm); (case zk6 => k_is); (case zk7 => k_is); (case zk8 => ktr_room); (case zk9 => exact BindsTo.of_eq rfl); (case zc5 => decide); (case zkP => exact List.cons_ne_nil _ _); (case zkB => exact locs rfl); (case zc2 => exact rfl); (case zc3 => exact rfl); (case zc4 => exact rfl); k_whole); intro zL' zh' tk9 zp9 zF' zN' zB' zX' zT'; (try dsimp only); (try k_fold))
  k_with "M ne" => (refine neN ?_; (try dsimp only); intro ze9; have ze8 := Eq.symm ze9; (repeat ((with_reducible rename _ ≠ _ ∧ _ => zx9); obtain ⟨zy9, zz9⟩ := zx9)); with_reducible contradiction)
  k_with "call ref" => (k_here; k_dflt (first | ((with_reducible show wpAny _ _ (call (Value.ref 69) [Value.int _ _, Value.int _ _]) _ _ _); refine' Cc.use (c_lt _ _ _ _) ?zk1 ?zk2 ?zk3 ?zk4 ?zk5 ?zk6 ?zk7 ?zk8 ?_) | ((with_reducible show wpAny _ _ (call (Value.ref 76) [Value.int _ _, Value.int _ _]) _ _ _); refine' Cc.use (c_eq _ _ _ _) ?zk1 ?zk2 ?zk3 ?zk4 ?zk5 ?zk6 ?zk7 ?zk8 ?_) | ((with_reducible show wpAny _ _ (call (Value.ref 83) [Value.int _ _, Value.int _ _]) _ _ _); refine' Cc.use (c_ne _ _ _ _) ?zk1 ?zk2 ?zk3 ?zk4 ?zk5 ?zk6 ?zk7 ?zk8 ?_) | ((with_reducible show wpAny _ _ (call (Value.ref 90) [Value.int _ _, Value.int _ _]) _ _ _); refine' Cc.use (c_gt _ _ _ _) ?zk1 ?zk2 ?zk3 ?zk4 ?zk5 ?zk6 ?zk7 ?zk8 ?_) | ((with_reducible show wpAny _ _ (call (Value.ref 97) [Value.int _ _]) _ _ _); refine' Cc.use (c_not_ _ _) ?zk1 ?zk2 ?zk3 ?zk4 ?zk5 ?zk6 ?zk7 ?zk8 ?_) | ((with_reducible show wpAny _ _ (call (Value.ref 104) [Value.int _ _, Value.int _ _]) _ _ _); refine' Cc.use (c_add _ _ _ _) ?zk1 ?zk2 ?zk3 ?zk4 ?zk5 ?zk6 ?zk7 ?zk8 ?_) | ((with_reducible show wpAny _ _ (call (Value.ref 111) [Value.bool _, Value.bool _]) _ _ _); refine' Cc.use (c_and_ _ _) ?zk1 ?zk2 ?zk3 ?zk4 ?zk5 ?zk6 ?zk7 ?zk8 ?_) | ((with_reducible show wpAny _ _ (call (Value.ref 146) [Value.bool _, Value.bool _]) _ _ _); refine' Cc.use (c_or_ _ _) ?zk1 ?zk2 ?zk3 ?zk4 ?zk5 ?zk6 ?zk7 ?zk8 ?_) | ((with_reducible show wpAny _ _ (call (Value.ref 160) [Value.int _ _, Value.int _ _]) _ _ _); refine' Cc.use (c_sub _ _ _ _) ?zk1 ?zk2 ?zk3 ?zk4 ?zk5 ?zk6 ?zk7 ?zk8 ?_) | ((with_reducible show wpAny _ _ (call (Value.ref 132) [Value.int _ _, Value.int _ _]) _ _ _); refine' Cc.use (c_mod _ _ _ _ ?zkb) ?zk1 ?zk2 ?zk3 ?zk4 ?zk5 ?zk6 ?zk7 ?zk8 ?_; (case zkb => first | decide | omega)) | ((with_reducible show wpAny _ _ (call (Value.ref 118) [Value.int _ _, Value.int 8 _]) _ _ _); refine' Cc.use (c_floordiv8 _ _ _) ?zk1 ?zk2 ?zk3 ?zk4 ?zk5 ?zk6 ?zk7 ?zk8 ?_) | ((with_reducible show wpAny _ _ (call (Value.ref 125) [Value.int 1 _, Value.int 3 _]) _ _ _); refine' Cc.use (c_lshift13 _ _) ?zk1 ?zk2 ?zk3 ?zk4 ?zk5 ?zk6 ?zk7 ?zk8 ?_) | ((with_reducible show wpAny _ _ (call (Value.ref 153) [Value.int _ _, Value.int 1 _]) _ _ _); refine' Cc.use (c_rshift1 _ _ _ ?zkb) ?zk1 ?zk2 ?zk3 ?zk4 ?zk5 ?zk6 ?zk7 ?zk8 ?_; (case zkb => first | decide | omega)) | ((with_reducible show wpAny _ _ (call (Value.ref 174) [Value.int _ _, Value.int _ _]) _ _ _); refine' Cc.use (c_xor _ _ _ _) ?zk1 ?zk2 ?zk3 ?zk4 ?zk5 ?zk6 ?zk7 ?zk8 ?_) | ((with_reducible show wpAny _ _ (call (Value.ref 167) [Value.int _ _, Value.int _ _]) _ _ _); refine' Cc.use (c_truediv _ _ _ _ ?zkb) ?zk1 ?zk2 ?zk3 ?zk4 ?zk5 ?zk6 ?zk7 ?zk8 ?_; (case zkb => first | decide | omega)) | ((with_reducible show wpAny _ _ (call (Value.ref 139) [Value.float _ _, Value.int 24 _]) _ _ _); refine' Cc.use (c_mulf24 _ _ _) ?zk1 ?zk2 ?zk3 ?zk4 ?zk5 ?zk6 ?zk7 ?zk8 ?_) | ((with_reducible show wpAny _ _ (call (Value.ref 139) [Value.int _ _, Value.int _ _]) _ _ _); refine' Cc.use (c_mul _ _ _ _ ?zkb) ?zk1 ?zk2 ?zk3 ?zk4 ?zk5 ?zk6 ?zk7 ?zk8 ?_; (case zkb => first | decide | omega))); (case zk1 => k_asm); (case zk2 => k_asm); (case zk3 => k_asm); (case zk4 => k_asm); (case zk5 => k_asm); (case zk6 => first | exact rfl | assumption); (case zk7 => ktr_room); (case zk8 => ktr_units); (dsimp only [retV]); intro zt9 zh9 ztk9 zF9 zN9; (try k_fold))
  k_with "M steps" => repeat' (first | (k_unfold; (try dsimp only)) | (with_reducible first | refine Cont.next ?_ | refine Cont.ret ?_ | refine Cont.brk ?_ | refine Cont.cont ?_) | (k_end; wrow_close) | ((fail_if_success (with_reducible show wpAny _ _ (pyIter _) _ _ _)); walk1) | (dsimp only; (fail_if_success (with_reducible show wpAny _ _ (pyIter _) _ _ _)); walk1) | (leave1; try dsimp only) | fail "no step")
  k_with "subscriptTail" => (k_here; (with_reducible show wpAny _ _ (subscriptTail _ _ (Value.ref _) (Value.int _ _)) _ _ _); k_dflt (refine' item_base ?zk1 ?zk2 ?zk3 ?zk4 ?zk5 ?_ ?zk7; (case zk1 => k_asm); (case zk2 => with_reducible assumption); (case zk3 => with_reducible assumption); (case zk4 => omega); (case zk5 => omega); (case zk7 => with_unfolding_all rfl); k_whole))
  k_with "eval Name" => (k_here; k_dflt (refine' nameX_L ?zF ?zv ?_ ?za ?zb; (case za => rfl); (case zb => rfl); (case zF => k_asm); (case zv => rfl); k_whole))
  k_with "eval Name" => (k_here; (first | (with_reducible show wpAny _ _ (eval (PySem.Expr.Name (Str.ofString "range") _) _) _ _ _) | (with_reducible show wpAny _ _ (eval (PySem.Expr.Name (Str.ofString "len") _) _) _ _ _) | (with_reducible show wpAny _ _ (eval (PySem.Expr.Name (Str.ofString "max") _) _) _ _ _) | (with_reducible show wpAny _ _ (eval (PySem.Expr.Name (Str.ofString "min") _) _) _ _ _) | (with_reducible show wpAny _ _ (eval (PySem.Expr.Name (Str.ofString "int") _) _) _ _ _) | (with_reducible show wpAny _ _ (eval (PySem.Expr.Name (Str.ofString "enumerate") _) _) _ _ _) | (with_reducible show wpAny _ _ (eval (PySem.Expr.Name (Str.ofString "sum") _) _) _ _ _)); k_dflt (refine' nameX_B ?zF ?zX ?zT ?ze ?zv ?zn ?_ ?za ?zb; (case za => rfl); (case zb => rfl); (case zF => k_asm); (case zX => k_asm); (case zT => k_asm); (case ze => k_is); (case zv => boot_fast); (case zn => decide); k_whole))
  k_with "eval Name" => (k_here; (first | (with_reducible show wpAny _ _ (eval (PySem.Expr.Name (Str.ofString "lt") _) _) _ _ _) | (with_reducible show wpAny _ _ (eval (PySem.Expr.Name (Str.ofString "eq") _) _) _ _ _) | (with_reducible show wpAny _ _ (eval (PySem.Expr.Name (Str.ofString "ne") _) _) _ _ _) | (with_reducible show wpAny _ _ (eval (PySem.Expr.Name (Str.ofString "gt") _) _) _ _ _) | (with_reducible show wpAny _ _ (eval (PySem.Expr.Name (Str.ofString "not_") _) _) _ _ _) | (with_reducible show wpAny _ _ (eval (PySem.Expr.Name (Str.ofString "add") _) _) _ _ _) | (with_reducible show wpAny _ _ (eval (PySem.Expr.Name (Str.ofString "and_") _) _) _ _ _) | (with_reducible show wpAny _ _ (eval (PySem.Expr.Name (Str.ofString "floordiv") _) _) _ _ _) | (with_reducible show wpAny _ _ (eval (PySem.Expr.Name (Str.ofString "lshift") _) _) _ _ _) | (with_reducible show wpAny _ _ (eval (PySem.Expr.Name (Str.ofString "mod") _) _) _ _ _) | (with_reducible show wpAny _ _ (eval (PySem.Expr.Name (Str.ofString "mul") _) _) _ _ _) | (with_reducible show wpAny _ _ (eval (PySem.Expr.Name (Str.ofString "or_") _) _) _ _ _) | (with_reducible show wpAny _ _ (eval (PySem.Expr.Name (Str.ofString "rshift") _) _) _ _ _) | (with_reducible show wpAny _ _ (eval (PySem.Expr.Name (Str.ofString "sub") _) _) _ _ _) | (with_reducible show wpAny _ _ (eval (PySem.Expr.Name (Str.ofString "truediv") _) _) _ _ _) | (with_reducible show wpAny _ _ (eval (PySem.Expr.Name (Str.ofString "xor") _) _) _ _ _) | (with_reducible show wpAny _ _ (eval (PySem.Expr.Name (Str.ofString "indexOf") _) _) _ _ _) | (with_reducible show wpAny _ _ (eval (PySem.Expr.Name (Str.ofString "quotedata") _) _) _ _ _) | (with_reducible show wpAny _ _ (eval (PySem.Expr.Name (Str.ofString "rgb_to_hsv") _) _) _ _ _) | (with_reducible show wpAny _ _ (eval (PySem.Expr.Name (Str.ofString "hsv_to_rgb") _) _) _ _ _) | (with_reducible show wpAny _ _ (eval (PySem.Expr.Name (Str.ofString "_law_paint") _) _) _ _ _) | (with_reducible show wpAny _ _ (eval (PySem.Expr.Name (Str.ofString "_law_owner") _) _) _ _ _) | (with_reducible show wpAny _ _ (eval (PySem.Expr.Name (Str.ofString "_law_owners") _) _) _ _ _) | (with_reducible show wpAny _ _ (eval (PySem.Expr.Name (Str.ofString "_law_worths") _) _) _ _ _) | (with_reducible show wpAny _ _ (eval (PySem.Expr.Name (Str.ofString "_law_wins") _) _) _ _ _)); k_dflt (refine' nameX_K ?zF ?zX ?zT ?ze ?_ ?za ?zb; (case za => rfl); (case zb => rfl); (case zF => k_asm); (case zX => k_asm); (case zT => k_asm); (case ze => k_is); k_whole))
  k_with "execs cons" => (k_here; (with_reducible show wpAny _ _ _ _ _ (Shared.mk _ _ _ (HAdd.hAdd _ _) _)); refine gen_toks ?_; intro ztk9 zp9; (try dsimp only at zp9))
  k_with "execs nil" => (k_here; (with_reducible show wpAny _ _ _ _ _ (Shared.mk _ _ _ (HAdd.hAdd _ _) _)); refine gen_toks ?_; intro ztk9 zp9; (try dsimp only at zp9))
  k_with "call builtin:max" => (k_here; (with_reducible show wpAny _ _ (call (Value.builtin "max") [Value.float _ _, Value.float _ _, Value.float _ _]) _ _ _); k_dflt (refine' max_three_ff rfl ?zk1 ?zk2 ?_; (case zk1 => k_asm); (case zk2 => k_asm)); intro zh9 ztk9 zv9 zle9 zpv9 zF9 zN9; (try dsimp only at zle9); (replace zpv9 := pos_of zpv9 (by assumption) (by assumption) (by assumption)); (try k_fold))
  k_with "call builtin:min" => (k_here; (with_reducible show wpAny _ _ (call (Value.builtin "min") [Value.float _ _, Value.float _ _, Value.float _ _]) _ _ _); k_dflt (refine' min_three_ff rfl ?zk1 ?zk2 ?_; (case zk1 => k_asm); (case zk2 => k_asm)); intro zh9 ztk9 zv9 zle9 zpv9 zF9 zN9; (try dsimp only at zle9); (replace zpv9 := pos_of zpv9 (by assumption) (by assumption) (by assumption)); (try k_fold))
  trivial
set_option maxRecDepth 100000 in
set_option maxHeartbeats 8000000 in
theorem c_rgb {w : World} {mean : ExcName → Option Value} {mg mb : Str → Option Value} (r g b : UInt64) (tr tg tb : Nat) (pr : 0 < tr) (pg : 0 < tg) (pb : 0 < tb)
    (hM : (Float64.cmp (min3 r g b) (max3 r g b) == some Ordering.eq) = false) (hZ1 : ¬Float64.isZero (max3 r g b) = true) (hZ2 : ¬Float64.isZero (Float64.sub (max3 r g b) (min3 r g b)) = true) :
    Ct w mean mg mb 55 [.float r tr, .float g tg, .float b tb] 2 16 (fun _ => True) (TupP (hsvF r g b)) := by
  unfold Ct; k_fill; intro dp un gd cn cs ad ccd cl outer A₀ base h₀ L m s Q E hB hF hX hT hkind hdp hun hpre hret
  walk_at "M enter"
  walk_at "M steps"
  all_goals ((try k_unfold); (with_reducible rename Fr _ _ _ _ => F9); (with_reducible rename News _ _ _ _ => N9); refine hret _ _ _ F9.keep (tupP_of N9 ?_ ?_); rotate_left; omega; first
        | exact hsv1 (by assumption)
        | exact hsv2 (by assumption) (by assumption)
        | exact hsv3 (by assumption) (by assumption))
end
theorem resetIx : True := by w_top off; trivial
section
open PySem.Flt
section
variable {prog : Program} {w : World} {A : Around} {s : Shared} {env : Env} {h₀ : Heap}
noncomputable def TurnEnd (h₀ : Heap) (L : Addr) (nx : List (Addr × Obj)) (Jn : (Str → Option Value) → Prop) (s₁ : Shared) (Q : Flow → Shared → Prop) (f : Flow) (s₂ : Shared) : Prop := match f with
  | .next | .cont => ∃ h' tk m', s₂ = { s₁ with heap := h', toks := tk } ∧ Fr h₀ L h' m' ∧ News h₀ L h' nx ∧ Jn m'
  | .brk => Q .next s₂
  | .ret v => Q (.ret v) s₂
theorem forPair {R : Result → Shared → Prop} {xi xc : Str} {pk pv pt : Pos} {x1 : Nat} {body orelse : List Stmt} {I : Addr} {fp wr : List Addr} {n : Nat} {Pt : Nat → Array Value → Prop} {St : Nat → Heap → Prop} {Mid : Nat → Addr → Heap → Prop}
    {P2 : Nat → Value → Value → Prop} {m : Str → Option Value} {news : List (Addr × Obj)} (hh : A.handled = none) (W : WalksT prog w A I fp wr n Pt St Mid) (h2 : ∀ i vals, Pt i vals → ∃ v0 v1, vals = #[v0, v1] ∧ P2 i v0 v1)
    (hxi : env.kindOf xi = some .local) (hxc : env.kindOf xc = some .local) (hp : (env.scope.kind == .class || (env.scope.kind == .module && env.locals != env.globals)) = false)
    (hLf : env.locals ∉ fp) (hwr : ∀ b ∈ wr, h₀.get? b = none) (hnw : ∀ p ∈ news, p.1 ∉ wr)
    (hst : St 0 s.heap) (F : Fr h₀ env.locals s.heap m) (N : News h₀ env.locals s.heap news)
    (J : Nat → (Str → Option Value) → Prop) (h0 : J 0 m) (hlt : ∀ i m', J i m' → i < n)
    (step : ∀ i v0 v1 m₁ h tk own, P2 i v0 v1 → J i m₁ → Fr h₀ env.locals h (fun y => if y = xc then some v1 else if y = xi then some v0 else m₁ y) → News h₀ env.locals h (own ++ news) →
      wpAny (model prog w) A (execs body env) (TurnEnd h₀ env.locals (own ++ news) (J (i + 1)) { s with heap := h, toks := tk } fun f s' => R (.ok f) s') (notedBy (model prog w) A env fun e s' => R (.error e) s') { s with heap := h, toks := tk }) :
    codeAny (model prog w) A (.forLoop (.Tuple [.Name xi pk, .Name xc pv] x1 pt) (.ref I) body orelse env) R s := by
  have hLw : env.locals ∉ wr := fun h => hLf (W.sub _ h)
  have old : ∀ b o, h₀.get? b = some o → b ∉ wr := fun b o e hb => by rw [hwr b hb] at e; cases e
  refine codeAny_forLoop_any (fun k s' => ∃ h' tk m' i, s' = { s with heap := h', toks := tk } ∧ St i h' ∧ Fr h₀ env.locals h' m' ∧ News h₀ env.locals h' news ∧ J i m' ∧ k = n - i) ?_ n ⟨s.heap, s.toks, m, 0, rfl, hst, F, N, h0, rfl⟩
  rintro k s' ⟨H, tk, m', i, rfl, st1, F1, N1, j1, rfl⟩
  have lt1 := hlt i m' j1
  have move : ∀ g : Heap, (∀ b o, b ∉ wr → H.get? b = some o → g.get? b = some o) → Fr h₀ env.locals g m' ∧ News h₀ env.locals g news := fun g kp =>
    ⟨⟨F1.ns.at' fun o e => kp _ o hLw e, fun b o e => kp b o (old b o e) (F1.keep b o e), F1.above⟩, fun p q => ⟨kp _ _ (hnw p q) (N1 p q).1, (N1 p q).2⟩⟩
  refine W.item i _ _ _ lt1 st1 fun T vals g1 tk1 hv _ hT hMid k1 => ?_
  obtain ⟨v0, v1, rfl, hv2⟩ := h2 i vals hv
  refine W.go _ x1 pt i T _ _ _ hMid fun g2 st2 k2 => ?_
  have hT2 : g2.IsTuple T #[v0, v1] := hT.at fun o e => k2 T o (W.apart i T g1 hMid) e
  refine wpAny_assign_Tuple hh hT2 rfl rfl fun g3 x3 => ?_
  replace x3 : Heap.ExtBut g2.objs.size g2 g3 := x3
  have up3 : ∀ b o, g2.get? b = some o → g3.get? b = some o := fun b o x => x3 b o (Nat.ne_of_lt (Heap.lt_size x)) x
  obtain ⟨F3, N3⟩ := move g3 fun b o hb x => up3 b o (k2 b o hb (k1 b o hb x))
  show wpAny _ A (do holding [v1] (assign (.Name xi pk) env v0); do holding [] (assign (.Name xc pv) env v1); pure ()) _ _ _
  refine wpAny_bind (wpAny_holding (wpAny_assign_Name (wpAny_storeName_local hxi F3.ns (fun g4 n4 s4 => ?_) hp)))
  replace s4 : Heap.SameBut env.locals g3 g4 := s4
  have F4 := F3.set n4 s4
  refine wpAny_bind (wpAny_holding (wpAny_assign_Name (wpAny_storeName_local hxc F4.ns (fun g5 n5 s5 => wpAny_pure ?_) hp)))
  replace s5 : Heap.SameBut env.locals g4 g5 := s5
  have F5 := F4.set n5 s5
  have N5 : News h₀ env.locals g5 news := (N3.set s4).set s5
  have st5 : St (i + 1) g5 := W.frame _ _ _ st2 fun b hb o e => s5.extBut b o (fun q => hLf (q ▸ hb)) (s4.extBut b o (fun q => hLf (q ▸ hb)) (up3 b o e))
  refine wpAny_mono (step i v0 v1 m' g5 _ (ownOf h₀ fp g5) hv2 j1 F5 ((news_ownOf hLf).append N5)) (fun f s3 z => ?_) fun _ _ e => e
  have again : TurnEnd h₀ env.locals (ownOf h₀ fp g5 ++ news) (J (i + 1)) { s with heap := g5, toks := tk1 } (fun f s' => R (.ok f) s') .next s3 →
      ∃ q, q < n - i ∧ ∃ h' tk m' i, s3 = { s with heap := h', toks := tk } ∧ St i h' ∧ Fr h₀ env.locals h' m' ∧ News h₀ env.locals h' news ∧ J i m' ∧ q = n - i := by
    rintro ⟨h', tk', m2, rfl, F6, N6, j6⟩
    refine ⟨n - (i + 1), by omega, h', tk', m2, i + 1, rfl, ?_, F6, N6.right, j6, rfl⟩
    refine W.frame _ _ _ st5 fun b hb o e => ?_
    cases hn : h₀.get? b with
    | some o' =>
      have q := F5.keep b o' hn
      rw [e] at q
      exact (Option.some.inj q).symm ▸ F6.keep b o' hn
    | none => exact (N6 _ (List.mem_append_left _ (mem_ownOf hb hn e))).1
  cases f with
  | ret v => exact z
  | brk => exact z
  | cont => exact again z
  | next => exact again z
end
noncomputable abbrev tup6 (x y z : UInt64) (t u v : Tok) : Obj := { cls := .type "tuple", data := .seq #[.float x t, .float y u, .float z v, .float x t, .float y u, .float z v] }
noncomputable def at6 (x y z : UInt64) (i : Nat) : UInt64 := if i % 3 = 0 then x else if i % 3 = 1 then y else z
noncomputable def FirstAt (x y z b : UInt64) (i : Nat) : Prop := (Float64.cmp (at6 x y z i) b == some Ordering.eq) = true ∧ ∀ j, j < i → (Float64.cmp (at6 x y z j) b == some Ordering.eq) = false
theorem get6 {x y z : UInt64} {t1 t2 t3 : Tok} {i : Nat} {v : Value} (h : (#[Value.float x t1, .float y t2, .float z t3, .float x t1, .float y t2, .float z t3])[i]? = some v) :
    ∃ t, v = .float (at6 x y z i) t ∧ ((t = t1 ∧ at6 x y z i = x) ∨ (t = t2 ∧ at6 x y z i = y) ∨ (t = t3 ∧ at6 x y z i = z)) := by
  rcases i with _ | _ | _ | _ | _ | _ | i
  · exact ⟨t1, (Option.some.inj h).symm, .inl ⟨rfl, rfl⟩⟩
  · exact ⟨t2, (Option.some.inj h).symm, .inr (.inl ⟨rfl, rfl⟩)⟩
  · exact ⟨t3, (Option.some.inj h).symm, .inr (.inr ⟨rfl, rfl⟩)⟩
  · exact ⟨t1, (Option.some.inj h).symm, .inl ⟨rfl, rfl⟩⟩
  · exact ⟨t2, (Option.some.inj h).symm, .inr (.inl ⟨rfl, rfl⟩)⟩
  · exact ⟨t3, (Option.some.inj h).symm, .inr (.inr ⟨rfl, rfl⟩)⟩
  · simp at h
structure IsHint (b : Bool) (P : Prop) : Prop where
  out : b = true → P
theorem enumFacts {h₀ h : Heap} {L : Addr} {m : Str → Option Value} (F : Fr h₀ L h m) : L < h.objs.size ∧ ∀ b, h.objs.size ≤ b → h₀.get? b = none :=
  ⟨F.ns.lt, fun b hb => by
    cases e : h₀.get? b with
    | none => rfl
    | some o => exact absurd (Heap.lt_size (F.keep _ _ e)) (Nat.not_lt.mpr hb)⟩
theorem is_floats {prog : Program} {w w' : World} {A : Around} {E : Value → Shared → Prop} {s : Shared} {Q : Value → Shared → Prop} {h₀ : Heap} {L : Addr} {m : Str → Option Value} {x y : UInt64} {t u : Nat}
    (X : (Mine.hd.heap_39 w'.params).In h₀) (F : Fr h₀ L s.heap m) (ht : 0 < t) (hu : 0 < u) (h : ∀ b, (b = true → x = y ∨ t = u) → Q (.bool b) s) : wpAny (model prog w) A (compareOp .Is (.float x t) (.float y u)) Q E s := by
  show wpAny _ _ (do return Value.bool (← isSame (.float x t) (.float y u))) _ _ _
  exact wpAny_bind (same_floats ((nb_of X).keeps F.keep) ht hu fun b q => wpAny_pure (h b q))
theorem lay6 : True := by
  k_with_none
  k_with "M enter" => (refine wpAny_call ?_; k_dflt (refine' code_full ?zk1 ?zk2 ?zk3 ?zk5 ?zkA ?zkF ?zkK ?zk6 ?zk7 ?zk8 ?zk9 ?zkB ?zkP ?_ ?zc2 ?zc3 ?zc4 ?zc5; (case zkA => exact rfl); (case zkF => exact rfl); (case zkK => assumption); (case zk1 => k_asm); (case zk2 => k_asm); (case zk3 => k_asm); (case zk5 => k_asm); (case zk6 => k_is); (case zk7 => k_is); (case zk8 => ktr_room); (case zk9 => exact BindsTo.of_eq rfl); (case zc5 => decide); (case zkP => exact List.cons_ne_nil _ _); (case zkB => exact locs rfl); (case zc2 => exact rfl); (case zc3 => exact rfl); (case zc4 => exact rfl); k_whole); intro zL' zh' tk9 zp9 zF' zN' zB' zX' zT'; (try dsimp only); (try k_fold))
  k_with "M ne" => (refine neN ?_; (try dsimp only); intro ze9; have ze8 := Eq.symm ze9; (repeat ((with_reducible rename _ ≠ _ ∧ _ => zx9); obtain ⟨zy9, zz9⟩ := zx9)); with_reducible contradiction)
  k_with "call ref" => (k_here; k_dflt (first | ((with_reducible show wpAny _ _ (call (Value.ref 69) [Value.int _ _, Value.int _ _]) _ _ _); refine' Cc.use (c_lt _ _ _ _) ?zk1 ?zk2 ?zk3 ?zk4 ?zk5 ?zk6 ?zk7 ?zk8 ?_) | ((with_reducible show wpAny _ _ (call (Value.ref 76) [Value.int _ _, Value.int _ _]) _ _ _); refine' Cc.use (c_eq _ _ _ _) ?zk1 ?zk2 ?zk3 ?zk4 ?zk5 ?zk6 ?zk7 ?zk8 ?_) | ((with_reducible show wpAny _ _ (call (Value.ref 83) [Value.int _ _, Value.int _ _]) _ _ _); refine' Cc.use (c_ne _ _ _ _) ?zk1 ?zk2 ?zk3 ?zk4 ?zk5 ?zk6 ?zk7 ?zk8 ?_) | ((with_reducible show wpAny _ _ (call (Value.ref 90) [Value.int _ _, Value.int _ _]) _ _ _); refine' Cc.use (c_gt _ _ _ _) ?zk1 ?zk2 ?zk3 ?zk4 ?zk5 ?zk6 ?zk7 ?zk8 ?_) | ((with_reducible show wpAny _ _ (call (Value.ref 97) [Value.int _ _]) _ _ _); refine' Cc.use (c_not_ _ _) ?zk1 ?zk2 ?zk3 ?zk4 ?zk5 ?zk6 ?zk7 ?zk8 ?_) | ((with_reducible show wpAny _ _ (call (Value.ref 104) [Value.int _ _, Value.int _ _]) _ _ _); refine' Cc.use (c_add _ _ _ _) ?zk1 ?zk2 ?zk3 ?zk4 ?zk5 ?zk6 ?zk7 ?zk8 ?_) | ((with_reducible show wpAny _ _ (call (Value.ref 111) [Value.bool _, Value.bool _]) _ _ _); refine' Cc.use (c_and_ _ _) ?zk1 ?zk2 ?zk3 ?zk4 ?zk5 ?zk6 ?zk7 ?zk8 ?_) | ((with_reducible show wpAny _ _ (call (Value.ref 146) [Value.bool _, Value.bool _]) _ _ _); refine' Cc.use (c_or_ _ _) ?zk1 ?zk2 ?zk3 ?zk4 ?zk5 ?zk6 ?zk7 ?zk8 ?_) | ((with_reducible show wpAny _ _ (call (Value.ref 160) [Value.int _ _, Value.int _ _]) _ _ _); refine' Cc.use (c_sub _ _ _ _) ?zk1 ?zk2 ?zk3 ?zk4 ?zk5 ?zk6 ?zk7 ?zk8 ?_) | ((with_reducible show wpAny _ _ (call (Value.ref 132) [Value.int _ _, Value.int _ _]) _ _ _); refine' Cc.use (c_mod _ _ _ _ ?zkb) ?zk1 ?zk2 ?zk3 ?zk4 ?zk5 ?zk6 ?zk7 ?zk8 ?_; (case zkb => first | decide | omega)) | ((with_reducible show wpAny _ _ (call (Value.ref 118) [Value.int _ _, Value.int 8 _]) _ _ _); refine' Cc.use (c_floordiv8 _ _ _) ?zk1 ?zk2 ?zk3 ?zk4 ?zk5 ?zk6 ?zk7 ?zk8 ?_) | ((with_reducible show wpAny _ _ (call (Value.ref 125) [Value.int 1 _, Value.int 3 _]) _ _ _); refine' Cc.use (c_lshift13 _ _) ?zk1 ?zk2 ?zk3 ?zk4 ?zk5 ?zk6 ?zk7 ?zk8 ?_) | ((with_reducible show wpAny _ _ (call (Value.ref 153) [Value.int _ _, Value.int 1 _]) _ _ _); refine' Cc.use (c_rshift1 _ _ _ ?zkb) ?zk1 ?zk2 ?zk3 ?zk4 ?zk5 ?zk6 ?zk7 ?zk8 ?_; (case zkb => first | decide | omega)) | ((with_reducible show wpAny _ _ (call (Value.ref 174) [Value.int _ _, Value.int _ _]) _ _ _); refine' Cc.use (c_xor _ _ _ _) ?zk1 ?zk2 ?zk3 ?zk4 ?zk5 ?zk6 ?zk7 ?zk8 ?_) | ((with_reducible show wpAny _ _ (call (Value.ref 167) [Value.int _ _, Value.int _ _]) _ _ _); refine' Cc.use (c_truediv _ _ _ _ ?zkb) ?zk1 ?zk2 ?zk3 ?zk4 ?zk5 ?zk6 ?zk7 ?zk8 ?_; (case zkb => first | decide | omega)) | ((with_reducible show wpAny _ _ (call (Value.ref 139) [Value.float _ _, Value.int 24 _]) _ _ _); refine' Cc.use (c_mulf24 _ _ _) ?zk1 ?zk2 ?zk3 ?zk4 ?zk5 ?zk6 ?zk7 ?zk8 ?_) | ((with_reducible show wpAny _ _ (call (Value.ref 139) [Value.int _ _, Value.int _ _]) _ _ _); refine' Cc.use (c_mul _ _ _ _ ?zkb) ?zk1 ?zk2 ?zk3 ?zk4 ?zk5 ?zk6 ?zk7 ?zk8 ?_; (case zkb => first | decide | omega))); (case zk1 => k_asm); (case zk2 => k_asm); (case zk3 => k_asm); (case zk4 => k_asm); (case zk5 => k_asm); (case zk6 => first | exact rfl | assumption); (case zk7 => ktr_room); (case zk8 => ktr_units); (dsimp only [retV]); intro zt9 zh9 ztk9 zF9 zN9; (try k_fold))
  k_with "M steps" => repeat' (first | (k_unfold; (try dsimp only)) | (with_reducible first | refine Cont.next ?_ | refine Cont.ret ?_ | refine Cont.brk ?_ | refine Cont.cont ?_) | (k_end; wrow_close) | ((fail_if_success (with_reducible show wpAny _ _ (pyIter _) _ _ _)); walk1) | (dsimp only; (fail_if_success (with_reducible show wpAny _ _ (pyIter _) _ _ _)); walk1) | (leave1; try dsimp only) | fail "no step")
  k_with "subscriptTail" => (k_here; (with_reducible show wpAny _ _ (subscriptTail _ _ (Value.ref _) (Value.int _ _)) _ _ _); k_dflt (refine' item_base ?zk1 ?zk2 ?zk3 ?zk4 ?zk5 ?_ ?zk7; (case zk1 => k_asm); (case zk2 => with_reducible assumption); (case zk3 => with_reducible assumption); (case zk4 => omega); (case zk5 => omega); (case zk7 => with_unfolding_all rfl); k_whole))
  k_with "eval Name" => (k_here; k_dflt (refine' nameX_L ?zF ?zv ?_ ?za ?zb; (case za => rfl); (case zb => rfl); (case zF => k_asm); (case zv => rfl); k_whole))
  k_with "eval Name" => (k_here; (first | (with_reducible show wpAny _ _ (eval (PySem.Expr.Name (Str.ofString "range") _) _) _ _ _) | (with_reducible show wpAny _ _ (eval (PySem.Expr.Name (Str.ofString "len") _) _) _ _ _) | (with_reducible show wpAny _ _ (eval (PySem.Expr.Name (Str.ofString "max") _) _) _ _ _) | (with_reducible show wpAny _ _ (eval (PySem.Expr.Name (Str.ofString "min") _) _) _ _ _) | (with_reducible show wpAny _ _ (eval (PySem.Expr.Name (Str.ofString "int") _) _) _ _ _) | (with_reducible show wpAny _ _ (eval (PySem.Expr.Name (Str.ofString "enumerate") _) _) _ _ _) | (with_reducible show wpAny _ _ (eval (PySem.Expr.Name (Str.ofString "sum") _) _) _ _ _)); k_dflt (refine' nameX_B ?zF ?zX ?zT ?ze ?zv ?zn ?_ ?za ?zb; (case za => rfl); (case zb => rfl); (case zF => k_asm); (case zX => k_asm); (case zT => k_asm); (case ze => k_is); (case zv => boot_fast); (case zn => decide); k_whole))
  k_with "eval Name" => (k_here; (first | (with_reducible show wpAny _ _ (eval (PySem.Expr.Name (Str.ofString "lt") _) _) _ _ _) | (with_reducible show wpAny _ _ (eval (PySem.Expr.Name (Str.ofString "eq") _) _) _ _ _) | (with_reducible show wpAny _ _ (eval (PySem.Expr.Name (Str.ofString "ne") _) _) _ _ _) | (with_reducible show wpAny _ _ (eval (PySem.Expr.Name (Str.ofString "gt") _) _) _ _ _) | (with_reducible show wpAny _ _ (eval (PySem.Expr.Name (Str.ofString "not_") _) _) _ _ _) | (with_reducible show wpAny _ _ (eval (PySem.Expr.Name (Str.ofString "add") _) _) _ _ _) | (with_reducible show wpAny _ _ (eval (PySem.Expr.Name (Str.ofString "and_") _) _) _ _ _) | (with_reducible show wpAny _ _ (eval (PySem.Expr.Name (Str.ofString "floordiv") _) _) _ _ _) | (with_reducible show wpAny _ _ (eval (PySem.Expr.Name (Str.ofString "lshift") _) _) _ _ _) | (with_reducible show wpAny _ _ (eval (PySem.Expr.Name (Str.ofString "mod") _) _) _ _ _) | (with_reducible show wpAny _ _ (eval (PySem.Expr.Name (Str.ofString "mul") _) _) _ _ _) | (with_reducible show wpAny _ _ (eval (PySem.Expr.Name (Str.ofString "or_") _) _) _ _ _) | (with_reducible show wpAny _ _ (eval (PySem.Expr.Name (Str.ofString "rshift") _) _) _ _ _) | (with_reducible show wpAny _ _ (eval (PySem.Expr.Name (Str.ofString "sub") _) _) _ _ _) | (with_reducible show wpAny _ _ (eval (PySem.Expr.Name (Str.ofString "truediv") _) _) _ _ _) | (with_reducible show wpAny _ _ (eval (PySem.Expr.Name (Str.ofString "xor") _) _) _ _ _) | (with_reducible show wpAny _ _ (eval (PySem.Expr.Name (Str.ofString "indexOf") _) _) _ _ _) | (with_reducible show wpAny _ _ (eval (PySem.Expr.Name (Str.ofString "quotedata") _) _) _ _ _) | (with_reducible show wpAny _ _ (eval (PySem.Expr.Name (Str.ofString "rgb_to_hsv") _) _) _ _ _) | (with_reducible show wpAny _ _ (eval (PySem.Expr.Name (Str.ofString "hsv_to_rgb") _) _) _ _ _) | (with_reducible show wpAny _ _ (eval (PySem.Expr.Name (Str.ofString "_law_paint") _) _) _ _ _) | (with_reducible show wpAny _ _ (eval (PySem.Expr.Name (Str.ofString "_law_owner") _) _) _ _ _) | (with_reducible show wpAny _ _ (eval (PySem.Expr.Name (Str.ofString "_law_owners") _) _) _ _ _) | (with_reducible show wpAny _ _ (eval (PySem.Expr.Name (Str.ofString "_law_worths") _) _) _ _ _) | (with_reducible show wpAny _ _ (eval (PySem.Expr.Name (Str.ofString "_law_wins") _) _) _ _ _)); k_dflt (refine' nameX_K ?zF ?zX ?zT ?ze ?_ ?za ?zb; (case za => rfl); (case zb => rfl); (case zF => k_asm); (case zX => k_asm); (case zT => k_asm); (case ze => k_is); k_whole))
  k_with "execs cons" => (k_here; (with_reducible show wpAny _ _ _ _ _ (Shared.mk _ _ _ (HAdd.hAdd _ _) _)); refine gen_toks ?_; intro ztk9 zp9; (try dsimp only at zp9))
  k_with "execs nil" => (k_here; (with_reducible show wpAny _ _ _ _ _ (Shared.mk _ _ _ (HAdd.hAdd _ _) _)); refine gen_toks ?_; intro ztk9 zp9; (try dsimp only at zp9))
  k_with "compareOp Is float float" => (k_here; (with_reducible show wpAny _ _ (compareOp CmpOp.Is (Value.float _ _) (Value.float _ _)) _ _ _); (with_reducible rename Fr _ _ _ _ => zF8); k_dflt (refine' is_floats ?zka zF8 ?zk1 ?zk2 ?_; (case zka => first | k_asm | assumption); (case zk1 => assumption); (case zk2 => assumption); intro zb9 zhb9; (replace zhb9 := Mine.IsHint.mk zhb9); (try dsimp only); (try k_fold)))
  k_with "call type:enumerate" => (k_here; (with_reducible show wpAny _ _ (call (Value.type "enumerate") [Value.ref _]) _ _ _); (with_reducible rename Fr _ _ _ _ => zF8); (with_reducible rename _ = some (tup6 _ _ _ _ _ _) => zhp8); refine call_enumT ⟨_, zF8.keep _ _ zhp8, rfl, 0, rfl⟩ ?_; intro zh9 ze9 zi9 zk9; (try dsimp only at ze9 zi9 zk9); have zB7 := enumFacts zF8; replace zF8 := zF8.keeps zk9; (with_reducible rename News _ _ _ _ => zN8); replace zN8 := zN8.grown zk9; clear zk9; (try dsimp only))
  trivial
set_option maxRecDepth 100000 in
set_option maxHeartbeats 8000000 in
theorem c_index {w : World} {mean : ExcName → Option Value} {mg mb : Str → Option Value} (p : Addr) (x y z b : UInt64) (t1 t2 t3 tb : Nat) (pt1 : 0 < t1) (pt2 : 0 < t2) (pt3 : 0 < t3) (ptb : 0 < tb)
    (h1 : t1 = tb → x = b) (h2 : t2 = tb → y = b) (h3 : t3 = tb → z = b) (hb : (Float64.cmp b b == some Ordering.eq) = true) (hk : ∃ k, k < 6 ∧ (Float64.cmp (at6 x y z k) b == some Ordering.eq) = true) :
    Ct w mean mg mb 181 [.ref p, .float b tb] 2 16 (fun h => h.get? p = some (tup6 x y z t1 t2 t3)) (fun _ _ v => ∃ (i : Nat) (t : Tok), v = .int i t ∧ FirstAt x y z b i) := by
  unfold Ct; k_fill; intro dp un gd cn cs ad ccd cl outer A₀ base h₀ L m s Q E hB hF hX hT hkind hdp hun hpre hret
  replace hpre : s.heap.get? p = some (tup6 x y z t1 t2 t3) := hpre
  walk_at "M enter"
  repeat (first | (k_unfold; (try dsimp only)) | (with_reducible first | refine Cont.next ?_ | refine Cont.ret ?_ | refine Cont.brk ?_ | refine Cont.cont ?_) | (k_end; wrow_close) | walk1 | (dsimp only; walk1) | (leave1; try dsimp only) | fail "no step")
  refine wpAny_For ?_
  repeat ((fail_if_success (with_reducible show wpAny _ _ (pyIter _) _ _ _)); (first | (k_unfold; (try dsimp only)) | (with_reducible first | refine Cont.next ?_ | refine Cont.ret ?_ | refine Cont.brk ?_ | refine Cont.cont ?_) | (k_end; wrow_close) | walk1 | (dsimp only; walk1) | (leave1; try dsimp only) | fail "no step"))
  (with_reducible rename Fr _ _ _ _ => F8); (with_reducible rename News _ _ _ _ => N8)
  (with_reducible rename IsEnum _ _ _ _ _ => e9); (with_reducible rename Heap.IsTupleIter _ _ _ _ => i9); (with_reducible rename _ < _ ∧ ∀ b, _ → _ => B7)
  (with_reducible rename _ = some (tup6 _ _ _ _ _ _) => hpre)
  refine wpAny_pyIter_enum e9 ?_
  have hp6 : p < s.heap.objs.size := Heap.lt_size hpre
  have hpL : s.heap.objs.size ≤ _ := F8.above
  have hpn := B7.1
  (try dsimp only at hpn hpL B7)
  have hpi := Nat.lt_of_lt_of_le hp6 (Nat.le_of_lt (Nat.lt_of_le_of_lt hpL hpn))
  refine forPair (n := 6) (wr := [_, _]) (xi := Str.ofString "i") (xc := Str.ofString "j") rfl (WalksT.enumerateD (drawsTup rfl _ p ?hne #[.float x t1, .float y t2, .float z t3, .float x t1, .float y t2, .float z t3]) _ (Nat.succ_ne_self _) ?hef List.mem_cons_self) (P2 := fun i v0 v1 => ∃ t, v0 = .int i t ∧ (#[Value.float x t1, .float y t2, .float z t3, .float x t1, .float y t2, .float z t3])[i]? = some v1)
    ?h2 rfl rfl rfl ?hLf ?hwr (fun _ q => by cases q) ⟨⟨_, e9⟩, i9, ⟨_, F8.keep _ _ hpre, rfl, 0, rfl⟩⟩ F8 N8
    (fun i m' => i < 6 ∧ (∀ j, j < i → (Float64.cmp (at6 x y z j) b == some Ordering.eq) = false) ∧ m' (Str.ofString "b") = some (.float b tb)) ⟨by decide, fun j q => absurd q (Nat.not_lt_zero _), by with_unfolding_all rfl⟩ (fun _ _ q => q.1) ?step
  case hne => exact Nat.ne_of_lt hpi
  case hef => intro q; rcases List.mem_cons.mp q with q | q; exact Nat.succ_ne_self _ q; exact absurd (List.mem_singleton.mp q) (Nat.ne_of_gt (Nat.lt_succ_of_lt hpi))
  case h2 => rintro i vals ⟨t, v, q, rfl⟩; exact ⟨_, _, rfl, t, rfl, q⟩
  case hLf => intro q; rcases List.mem_cons.mp q with q | q; exact Nat.ne_of_lt (Nat.lt_succ_of_lt hpn) q; rcases List.mem_cons.mp q with q | q; exact Nat.ne_of_lt hpn q; exact Nat.ne_of_gt (Nat.lt_of_lt_of_le hp6 hpL) (List.mem_singleton.mp q)
  case hwr => intro q hq; refine B7.2 q ?_; rcases List.mem_cons.mp hq with r | r; exact r ▸ Nat.le_succ _; exact (List.mem_singleton.mp r) ▸ Nat.le_refl _
  rintro i v0 v1 m₁ h tk own ⟨t, rfl, hv⟩ ⟨hi, hno, hmb⟩ F2 N2
  obtain ⟨t9, rfl, ht9⟩ := get6 hv
  have pt9 : 0 < t9 := by rcases ht9 with q | q | q <;> (rw [q.1]; assumption)
  have hs9 : t9 = tb → at6 x y z i = b := by rcases ht9 with q | q | q <;> (rw [q.1, q.2]; assumption)
  generalize hxi : at6 x y z i = xv at *
  rw [show m₁ = (fun y => if y = Str.ofString "b" then some (.float b tb) else m₁ y) from by funext y; by_cases q : y = Str.ofString "b" <;> simp [q, hmb]] at F2
  dsimp only [envOf] at F2 N2
  walk_at "M steps"
  all_goals (with_reducible rename Fr _ _ _ _ => F9)
  · refine hret _ _ _ F9.keep ⟨i, _, rfl, ?_, hno⟩
    rw [hxi]
    have q : xv = b := by
      (with_reducible rename IsHint _ _ => z9)
      rcases z9.out (by assumption) with q | q
      · exact q
      · exact hs9 q
    rw [q]; exact hb
  · exact hret _ _ _ F9.keep ⟨i, _, rfl, by rw [hxi]; assumption, hno⟩
  · have hno' : ∀ j, j < i + 1 → (Float64.cmp (at6 x y z j) b == some Ordering.eq) = false := fun j q => by
      rcases Nat.lt_or_eq_of_le (Nat.le_of_lt_succ q) with q | q
      · exact hno j q
      · rw [q, hxi]; assumption
    refine ⟨_, _, _, rfl, F9, by assumption, ?_, hno', by with_unfolding_all rfl⟩
    obtain ⟨k, k6, hk⟩ := hk
    rcases Nat.lt_or_ge (i + 1) 6 with q | q
    · exact q
    · rw [hno' k (by omega)] at hk; exact absurd hk (by decide)
end
theorem resetOw : True := by w_top off; trivial
section
open PySem.Flt
section
variable {prog : Program} {w : World} {A : Around} {E : Value → Shared → Prop} {s : Shared} {h₀ : Heap} {L p : Addr} {m : Str → Option Value} {value slice : PySem.Expr} {x y z : UInt64} {t1 t2 t3 u : Tok} {Q : Value → Shared → Prop}
theorem item3_0 (F : Fr h₀ L s.heap m) (hp : h₀.get? p = some (tup3 x y z t1 t2 t3)) (h : Q (.float x t1) s)
    (hs : subscripted slice false (.ref p) (.int 0 u) = operate [.ref p, .int 0 u] (getItem (.ref p) (.int 0 u)) := by with_unfolding_all rfl) : wpAny (model prog w) A (subscriptTail value slice (.ref p) (.int 0 u)) Q E s :=
  item_baseT F hp (j := 0) rfl rfl (by decide) (by decide) h hs
theorem item3_1 (F : Fr h₀ L s.heap m) (hp : h₀.get? p = some (tup3 x y z t1 t2 t3)) (h : Q (.float y t2) s)
    (hs : subscripted slice false (.ref p) (.int 1 u) = operate [.ref p, .int 1 u] (getItem (.ref p) (.int 1 u)) := by with_unfolding_all rfl) : wpAny (model prog w) A (subscriptTail value slice (.ref p) (.int 1 u)) Q E s :=
  item_baseT F hp (j := 1) rfl rfl (by decide) (by decide) h hs
theorem item3_2 (F : Fr h₀ L s.heap m) (hp : h₀.get? p = some (tup3 x y z t1 t2 t3)) (h : Q (.float z t3) s)
    (hs : subscripted slice false (.ref p) (.int 2 u) = operate [.ref p, .int 2 u] (getItem (.ref p) (.int 2 u)) := by with_unfolding_all rfl) : wpAny (model prog w) A (subscriptTail value slice (.ref p) (.int 2 u)) Q E s :=
  item_baseT F hp (j := 2) rfl rfl (by decide) (by decide) h hs
end
section
variable {prog : Program} {w : World} {A : Around} {E : Value → Shared → Prop} {s : Shared} {Q : Value → Shared → Prop}
theorem max_tup {x y z : UInt64} {t u r : Nat} {p : Addr} {h₀ : Heap} {L : Addr} {m : Str → Option Value} {news : List (Addr × Obj)} (hh : A.handled = none) (F : Fr h₀ L s.heap m) (N : News h₀ L s.heap news) (hp : h₀.get? p = some (tup3 x y z t u r))
    (h : ∀ h' (tk v : Nat), (v = t ∧ max3 x y z = x) ∨ (v = u ∧ max3 x y z = y) ∨ (v = r ∧ max3 x y z = z) → Fr h₀ L h' m → News h₀ L h' news → Q (.float (max3 x y z) v) { s with heap := h', toks := tk }) : wpAny (model prog w) A (call (.builtin "max") [.ref p]) Q E s := by
  have hT : s.heap.IsTuple p #[.float x t, .float y u, .float z r] := ⟨_, F.keep _ _ hp, rfl, 0, rfl⟩
  have hps : p < s.heap.objs.size := Heap.lt_size (F.keep _ _ hp)
  refine call_max_walk (wpAny_pyIter_tuple hT ?_)
  refine ⟨_, [s.heap.objs.size, p], [s.heap.objs.size], _, _, _, _, rfl, Walks.tuple (A := A.in1) hh _ p (Nat.ne_of_lt hps) #[.float x t, .float y u, .float z r],
    ⟨⟨_, Heap.get?_push_size _ rfl, rfl, rfl⟩, hT.push _⟩, fun c hc => ?_, by simp, cmpOf_gt _ (by simp [NumV.float]), fun v h' tk hP hk => ?_⟩
  · show c < (s.heap.push _).objs.size
    rw [Heap.size_push]
    rcases List.mem_cons.mp hc with rfl | hc
    · exact Nat.lt_succ_self _
    · rw [List.mem_singleton.mp hc]; exact Nat.lt_succ_of_lt hps
  · have hold : ∀ c o, s.heap.get? c = some o → h'.get? c = some o := fun c o e =>
      hk c o (fun hm => Nat.lt_irrefl _ ((List.mem_singleton.mp hm) ▸ Heap.lt_size e)) (Heap.get?_push_of_some _ e)
    obtain ⟨tv, rfl, pv⟩ := best_max x y z t u r hP
    exact h h' tk tv pv (F.keeps hold) (N.grown hold)
theorem add_tup {x y z : UInt64} {t u r : Nat} {p : Addr} {h₀ : Heap} {L : Addr} {m : Str → Option Value} {news : List (Addr × Obj)} (F : Fr h₀ L s.heap m) (N : News h₀ L s.heap news) (hp : h₀.get? p = some (tup3 x y z t u r))
    (h : ∀ a h', Fr h₀ L h' m → News h₀ L h' ((a, tup6 x y z t u r) :: news) → Q (.ref a) { s with heap := h' }) : wpAny (model prog w) A (binaryOp .Add (.ref p) (.ref p)) Q E s :=
  add_tuples (vs := [.float x t, .float y u, .float z r]) (ws := [.float x t, .float y u, .float z r]) F N ⟨_, F.keep _ _ hp, rfl, 0, rfl⟩ ⟨_, F.keep _ _ hp, rfl, 0, rfl⟩ (fun e => nomatch e) (fun _ e => nomatch e) fun _ _ h' F' N' => h _ h' F' N'
end
structure Pos3 (t1 t2 t3 : Nat) : Prop where
  a : 0 < t1
  b : 0 < t2
  c : 0 < t3
structure Dist3 (x y z : UInt64) (t1 t2 t3 : Nat) : Prop where
  a : t1 = t2 → x = y
  b : t1 = t3 → x = z
  c : t2 = t3 → y = z
structure C3 (r0 r1 r2 : UInt64) (hue share value : Nat) : Prop where
  a : (Float64.cmp r0 (fr hue 24) == some Ordering.eq) = true
  b : (Float64.cmp r1 (fr share 4) == some Ordering.eq) = true
  c : (Float64.cmp r2 (fr value 4) == some Ordering.eq) = true
structure MaxTok (x y z : UInt64) (t1 t2 t3 v : Nat) : Prop where
  pos : 0 < v
  a : t1 = v → x = max3 x y z
  b : t2 = v → y = max3 x y z
  c : t3 = v → z = max3 x y z
theorem max_link {x y z : UInt64} {t1 t2 t3 v : Nat} (P : Pos3 t1 t2 t3) (D : Dist3 x y z t1 t2 t3) (h : (v = t1 ∧ max3 x y z = x) ∨ (v = t2 ∧ max3 x y z = y) ∨ (v = t3 ∧ max3 x y z = z)) : MaxTok x y z t1 t2 t3 v := by
  rcases h with ⟨rfl, e⟩ | ⟨rfl, e⟩ | ⟨rfl, e⟩
  · exact ⟨P.a, fun _ => e.symm, fun q => (D.a q.symm).symm.trans e.symm, fun q => (D.b q.symm).symm.trans e.symm⟩
  · exact ⟨P.b, fun q => (D.a q).trans e.symm, fun _ => e.symm, fun q => (D.c q.symm).symm.trans e.symm⟩
  · exact ⟨P.c, fun q => (D.b q).trans e.symm, fun q => (D.c q).trans e.symm, fun _ => e.symm⟩
structure TailOk (x y z : UInt64) (o : Nat) : Prop where
  first : FirstAt x y z (max3 x y z) o
  self : (Float64.cmp (max3 x y z) (max3 x y z) == some Ordering.eq) = true
  lt6 : o < 6
theorem first_one {x y z b : UInt64} {i o : Nat} (h : FirstAt x y z b i) (g : FirstAt x y z b o) : i = o := by
  rcases Nat.lt_trichotomy i o with q | q | q
  · have := g.2 i q; rw [h.1] at this; cases this
  · exact q
  · have := h.2 o q; rw [g.1] at this; cases this
theorem Ct.post {w : World} {mean : ExcName → Option Value} {mg mb : Str → Option Value} {f : Addr} {vs : List Value} {D U : Nat} {Pre : Heap → Prop} {Post Post' : Heap → Heap → Value → Prop} (h : Ct w mean mg mb f vs D U Pre Post) (k : ∀ h h' v, Post h h' v → Post' h h' v) :
    Ct w mean mg mb f vs D U Pre Post' := fun dp un gd cn cs a ccd cl outer A₀ base h₀ L m s Q E hB hF hX hT hk hd hu hp hr =>
  h dp un gd cn cs a ccd cl outer A₀ base h₀ L m s Q E hB hF hX hT hk hd hu hp fun v h' tk' kp po => hr v h' tk' kp (k _ _ _ po)
theorem c_indexM {w : World} {mean : ExcName → Option Value} {mg mb : Str → Option Value} (p : Addr) (x y z : UInt64) (t1 t2 t3 tb o : Nat) (P : Pos3 t1 t2 t3) (M : MaxTok x y z t1 t2 t3 tb) (T : TailOk x y z o) :
    Ct w mean mg mb 181 [.ref p, .float (max3 x y z) tb] 2 16 (fun h => h.get? p = some (tup6 x y z t1 t2 t3)) (fun _ _ v => ∃ t : Tok, v = .int o t) :=
  (c_index p x y z _ t1 t2 t3 tb P.a P.b P.c M.pos M.a M.b M.c T.self ⟨o, T.lt6, T.first.1⟩).post fun _ _ v ⟨i, t, e, f⟩ => ⟨t, by rw [e, first_one f T.first]⟩
structure OwnOk (x y z : UInt64) (hue share value o : Nat) : Prop where
  hM : (Float64.cmp (min3 x y z) (max3 x y z) == some Ordering.eq) = false
  hZ1 : ¬Float64.isZero (max3 x y z) = true
  hZ2 : ¬Float64.isZero (Float64.sub (max3 x y z) (min3 x y z)) = true
  c3 : C3 (hsvF x y z).1 (hsvF x y z).2.1 (hsvF x y z).2.2 hue share value
  n1 : Float64.isNaN (Float64.mul (hsvF x y z).1 (Float64.ofInt 24)) = false
  n2 : Float64.isInf (Float64.mul (hsvF x y z).1 (Float64.ofInt 24)) = false
  ti : Flt.toInt Float64.truncOf (Float64.mul (hsvF x y z).1 (Float64.ofInt 24)) = hue
  own : Int.fmod (Int.fdiv ((hue : Int) + 4) 8) 3 = o
  tail : TailOk x y z o
theorem ne_tup3 {prog : Program} {w w' : World} {A : Around} {E : Value → Shared → Prop} {s : Shared} {Q : Value → Shared → Prop} {h₀ : Heap} {L a b : Addr} {m : Str → Option Value} {x1 x2 x3 y1 y2 y3 : UInt64} {t1 t2 t3 u1 u2 u3 : Tok}
    (X : (Mine.hd.heap_39 w'.params).In h₀) (F : Fr h₀ L s.heap m) (ha : s.heap.get? a = some (tup3 x1 x2 x3 t1 t2 t3)) (hb : s.heap.get? b = some (tup3 y1 y2 y3 u1 u2 u3)) (hu : A.units < cLine)
    (p1 : 0 < t1) (p2 : 0 < t2) (p3 : 0 < t3) (q1 : 0 < u1) (q2 : 0 < u2) (q3 : 0 < u3)
    (c1 : (Float64.cmp x1 y1 == some Ordering.eq) = true) (c2 : (Float64.cmp x2 y2 == some Ordering.eq) = true) (c3 : (Float64.cmp x3 y3 == some Ordering.eq) = true)
    (h : Q (.bool false) s) : wpAny (model prog w) A (compareOp .NotEq (.ref a) (.ref b)) Q E s := by
  have nb : NB s.heap := (nb_of X).keeps F.keep
  show wpAny _ _ (richCompare .NotEq (.ref a) (.ref b)) _ _ _
  refine SeqAt.RcNeAt.tuples (items := #[.float x1 t1, .float x2 t2, .float x3 t3]) (items2 := #[.float y1 u1, .float y2 u2, .float y3 u3]) (e := fun _ => true) ⟨_, ha, rfl, 0, rfl⟩ ⟨_, hb, rfl, 0, rfl⟩ hu ?_ _ _ _ _ h
  intro j h1 h2
  have h3 : j < 3 := h1
  rcases j with _ | _ | _ | j
  · exact eq_floats nb p1 q1 c1
  · exact eq_floats nb p2 q2 c2
  · exact eq_floats nb p3 q3 c3
  · omega
theorem lay7 : True := by
  k_with_none
  k_with "M enter" => (refine wpAny_call ?_; k_dflt (refine' code_full ?zk1 ?zk2 ?zk3 ?zk5 ?zkA ?zkF ?zkK ?zk6 ?zk7 ?zk8 ?zk9 ?zkB ?zkP ?_ ?zc2 ?zc3 ?zc4 ?zc5; (case zkA => exact rfl); (case zkF => exact rfl); (case zkK => assumption); (case zk1 => k_asm); (case zk2 => k_asm); (case zk3 => k_asm); (case zk5 => k_asm); (case zk6 => k_is); (case zk7 => k_is); (case zk8 => ktr_room); (case zk9 => exact BindsTo.of_eq rfl); (case zc5 => decide); (case zkP => exact List.cons_ne_nil _ _); (case zkB => exact locs rfl); (case zc2 => exact rfl); (case zc3 => exact rfl); (case zc4 => exact rfl); k_whole); intro zL' zh' tk9 zp9 zF' zN' zB' zX' zT'; (try dsimp only); (try k_fold))
  k_with "M ne" => (refine neN ?_; (try dsimp only); intro ze9; have ze8 := Eq.symm ze9; (repeat ((with_reducible rename _ ≠ _ ∧ _ => zx9); obtain ⟨zy9, zz9⟩ := zx9)); with_reducible contradiction)
  k_with "call ref" => (k_here; k_dflt (first | ((with_reducible show wpAny _ _ (call (Value.ref 69) [Value.int _ _, Value.int _ _]) _ _ _); refine' Cc.use (c_lt _ _ _ _) ?zk1 ?zk2 ?zk3 ?zk4 ?zk5 ?zk6 ?zk7 ?zk8 ?_) | ((with_reducible show wpAny _ _ (call (Value.ref 76) [Value.int _ _, Value.int _ _]) _ _ _); refine' Cc.use (c_eq _ _ _ _) ?zk1 ?zk2 ?zk3 ?zk4 ?zk5 ?zk6 ?zk7 ?zk8 ?_) | ((with_reducible show wpAny _ _ (call (Value.ref 83) [Value.int _ _, Value.int _ _]) _ _ _); refine' Cc.use (c_ne _ _ _ _) ?zk1 ?zk2 ?zk3 ?zk4 ?zk5 ?zk6 ?zk7 ?zk8 ?_) | ((with_reducible show wpAny _ _ (call (Value.ref 90) [Value.int _ _, Value.int _ _]) _ _ _); refine' Cc.use (c_gt _ _ _ _) ?zk1 ?zk2 ?zk3 ?zk4 ?zk5 ?zk6 ?zk7 ?zk8 ?_) | ((with_reducible show wpAny _ _ (call (Value.ref 97) [Value.int _ _]) _ _ _); refine' Cc.use (c_not_ _ _) ?zk1 ?zk2 ?zk3 ?zk4 ?zk5 ?zk6 ?zk7 ?zk8 ?_) | ((with_reducible show wpAny _ _ (call (Value.ref 104) [Value.int _ _, Value.int _ _]) _ _ _); refine' Cc.use (c_add _ _ _ _) ?zk1 ?zk2 ?zk3 ?zk4 ?zk5 ?zk6 ?zk7 ?zk8 ?_) | ((with_reducible show wpAny _ _ (call (Value.ref 111) [Value.bool _, Value.bool _]) _ _ _); refine' Cc.use (c_and_ _ _) ?zk1 ?zk2 ?zk3 ?zk4 ?zk5 ?zk6 ?zk7 ?zk8 ?_) | ((with_reducible show wpAny _ _ (call (Value.ref 146) [Value.bool _, Value.bool _]) _ _ _); refine' Cc.use (c_or_ _ _) ?zk1 ?zk2 ?zk3 ?zk4 ?zk5 ?zk6 ?zk7 ?zk8 ?_) | ((with_reducible show wpAny _ _ (call (Value.ref 160) [Value.int _ _, Value.int _ _]) _ _ _); refine' Cc.use (c_sub _ _ _ _) ?zk1 ?zk2 ?zk3 ?zk4 ?zk5 ?zk6 ?zk7 ?zk8 ?_) | ((with_reducible show wpAny _ _ (call (Value.ref 132) [Value.int _ _, Value.int _ _]) _ _ _); refine' Cc.use (c_mod _ _ _ _ ?zkb) ?zk1 ?zk2 ?zk3 ?zk4 ?zk5 ?zk6 ?zk7 ?zk8 ?_; (case zkb => first | decide | omega)) | ((with_reducible show wpAny _ _ (call (Value.ref 118) [Value.int _ _, Value.int 8 _]) _ _ _); refine' Cc.use (c_floordiv8 _ _ _) ?zk1 ?zk2 ?zk3 ?zk4 ?zk5 ?zk6 ?zk7 ?zk8 ?_) | ((with_reducible show wpAny _ _ (call (Value.ref 125) [Value.int 1 _, Value.int 3 _]) _ _ _); refine' Cc.use (c_lshift13 _ _) ?zk1 ?zk2 ?zk3 ?zk4 ?zk5 ?zk6 ?zk7 ?zk8 ?_) | ((with_reducible show wpAny _ _ (call (Value.ref 153) [Value.int _ _, Value.int 1 _]) _ _ _); refine' Cc.use (c_rshift1 _ _ _ ?zkb) ?zk1 ?zk2 ?zk3 ?zk4 ?zk5 ?zk6 ?zk7 ?zk8 ?_; (case zkb => first | decide | omega)) | ((with_reducible show wpAny _ _ (call (Value.ref 174) [Value.int _ _, Value.int _ _]) _ _ _); refine' Cc.use (c_xor _ _ _ _) ?zk1 ?zk2 ?zk3 ?zk4 ?zk5 ?zk6 ?zk7 ?zk8 ?_) | ((with_reducible show wpAny _ _ (call (Value.ref 167) [Value.int _ _, Value.int _ _]) _ _ _); refine' Cc.use (c_truediv _ _ _ _ ?zkb) ?zk1 ?zk2 ?zk3 ?zk4 ?zk5 ?zk6 ?zk7 ?zk8 ?_; (case zkb => first | decide | omega)) | ((with_reducible show wpAny _ _ (call (Value.ref 139) [Value.float _ _, Value.int 24 _]) _ _ _); refine' Cc.use (c_mulf24 _ _ _) ?zk1 ?zk2 ?zk3 ?zk4 ?zk5 ?zk6 ?zk7 ?zk8 ?_) | ((with_reducible show wpAny _ _ (call (Value.ref 139) [Value.int _ _, Value.int _ _]) _ _ _); refine' Cc.use (c_mul _ _ _ _ ?zkb) ?zk1 ?zk2 ?zk3 ?zk4 ?zk5 ?zk6 ?zk7 ?zk8 ?_; (case zkb => first | decide | omega))); (case zk1 => k_asm); (case zk2 => k_asm); (case zk3 => k_asm); (case zk4 => k_asm); (case zk5 => k_asm); (case zk6 => first | exact rfl | assumption); (case zk7 => ktr_room); (case zk8 => ktr_units); (dsimp only [retV]); intro zt9 zh9 ztk9 zF9 zN9; (try k_fold))
  k_with "M steps" => repeat' (first | (k_unfold; (try dsimp only)) | (with_reducible first | refine Cont.next ?_ | refine Cont.ret ?_ | refine Cont.brk ?_ | refine Cont.cont ?_) | (k_end; wrow_close) | ((fail_if_success (with_reducible show wpAny _ _ (pyIter _) _ _ _)); walk1) | (dsimp only; (fail_if_success (with_reducible show wpAny _ _ (pyIter _) _ _ _)); walk1) | (leave1; try dsimp only) | fail "no step")
  k_with "subscriptTail" => (k_here; (with_reducible show wpAny _ _ (subscriptTail _ _ (Value.ref _) (Value.int _ _)) _ _ _); k_dflt (refine' item_base ?zk1 ?zk2 ?zk3 ?zk4 ?zk5 ?_ ?zk7; (case zk1 => k_asm); (case zk2 => with_reducible assumption); (case zk3 => with_reducible assumption); (case zk4 => omega); (case zk5 => omega); (case zk7 => with_unfolding_all rfl); k_whole))
  k_with "eval Name" => (k_here; k_dflt (refine' nameX_L ?zF ?zv ?_ ?za ?zb; (case za => rfl); (case zb => rfl); (case zF => k_asm); (case zv => rfl); k_whole))
  k_with "eval Name" => (k_here; (first | (with_reducible show wpAny _ _ (eval (PySem.Expr.Name (Str.ofString "range") _) _) _ _ _) | (with_reducible show wpAny _ _ (eval (PySem.Expr.Name (Str.ofString "len") _) _) _ _ _) | (with_reducible show wpAny _ _ (eval (PySem.Expr.Name (Str.ofString "max") _) _) _ _ _) | (with_reducible show wpAny _ _ (eval (PySem.Expr.Name (Str.ofString "min") _) _) _ _ _) | (with_reducible show wpAny _ _ (eval (PySem.Expr.Name (Str.ofString "int") _) _) _ _ _) | (with_reducible show wpAny _ _ (eval (PySem.Expr.Name (Str.ofString "enumerate") _) _) _ _ _) | (with_reducible show wpAny _ _ (eval (PySem.Expr.Name (Str.ofString "sum") _) _) _ _ _)); k_dflt (refine' nameX_B ?zF ?zX ?zT ?ze ?zv ?zn ?_ ?za ?zb; (case za => rfl); (case zb => rfl); (case zF => k_asm); (case zX => k_asm); (case zT => k_asm); (case ze => k_is); (case zv => boot_fast); (case zn => decide); k_whole))
  k_with "eval Name" => (k_here; (first | (with_reducible show wpAny _ _ (eval (PySem.Expr.Name (Str.ofString "lt") _) _) _ _ _) | (with_reducible show wpAny _ _ (eval (PySem.Expr.Name (Str.ofString "eq") _) _) _ _ _) | (with_reducible show wpAny _ _ (eval (PySem.Expr.Name (Str.ofString "ne") _) _) _ _ _) | (with_reducible show wpAny _ _ (eval (PySem.Expr.Name (Str.ofString "gt") _) _) _ _ _) | (with_reducible show wpAny _ _ (eval (PySem.Expr.Name (Str.ofString "not_") _) _) _ _ _) | (with_reducible show wpAny _ _ (eval (PySem.Expr.Name (Str.ofString "add") _) _) _ _ _) | (with_reducible show wpAny _ _ (eval (PySem.Expr.Name (Str.ofString "and_") _) _) _ _ _) | (with_reducible show wpAny _ _ (eval (PySem.Expr.Name (Str.ofString "floordiv") _) _) _ _ _) | (with_reducible show wpAny _ _ (eval (PySem.Expr.Name (Str.ofString "lshift") _) _) _ _ _) | (with_reducible show wpAny _ _ (eval (PySem.Expr.Name (Str.ofString "mod") _) _) _ _ _) | (with_reducible show wpAny _ _ (eval (PySem.Expr.Name (Str.ofString "mul") _) _) _ _ _) | (with_reducible show wpAny _ _ (eval (PySem.Expr.Name (Str.ofString "or_") _) _) _ _ _) | (with_reducible show wpAny _ _ (eval (PySem.Expr.Name (Str.ofString "rshift") _) _) _ _ _) | (with_reducible show wpAny _ _ (eval (PySem.Expr.Name (Str.ofString "sub") _) _) _ _ _) | (with_reducible show wpAny _ _ (eval (PySem.Expr.Name (Str.ofString "truediv") _) _) _ _ _) | (with_reducible show wpAny _ _ (eval (PySem.Expr.Name (Str.ofString "xor") _) _) _ _ _) | (with_reducible show wpAny _ _ (eval (PySem.Expr.Name (Str.ofString "indexOf") _) _) _ _ _) | (with_reducible show wpAny _ _ (eval (PySem.Expr.Name (Str.ofString "quotedata") _) _) _ _ _) | (with_reducible show wpAny _ _ (eval (PySem.Expr.Name (Str.ofString "rgb_to_hsv") _) _) _ _ _) | (with_reducible show wpAny _ _ (eval (PySem.Expr.Name (Str.ofString "hsv_to_rgb") _) _) _ _ _) | (with_reducible show wpAny _ _ (eval (PySem.Expr.Name (Str.ofString "_law_paint") _) _) _ _ _) | (with_reducible show wpAny _ _ (eval (PySem.Expr.Name (Str.ofString "_law_owner") _) _) _ _ _) | (with_reducible show wpAny _ _ (eval (PySem.Expr.Name (Str.ofString "_law_owners") _) _) _ _ _) | (with_reducible show wpAny _ _ (eval (PySem.Expr.Name (Str.ofString "_law_worths") _) _) _ _ _) | (with_reducible show wpAny _ _ (eval (PySem.Expr.Name (Str.ofString "_law_wins") _) _) _ _ _)); k_dflt (refine' nameX_K ?zF ?zX ?zT ?ze ?_ ?za ?zb; (case za => rfl); (case zb => rfl); (case zF => k_asm); (case zX => k_asm); (case zT => k_asm); (case ze => k_is); k_whole))
  k_with "execs cons" => (k_here; (with_reducible show wpAny _ _ _ _ _ (Shared.mk _ _ _ (HAdd.hAdd _ _) _)); refine gen_toks ?_; intro ztk9 zp9; (try dsimp only at zp9))
  k_with "execs nil" => (k_here; (with_reducible show wpAny _ _ _ _ _ (Shared.mk _ _ _ (HAdd.hAdd _ _) _)); refine gen_toks ?_; intro ztk9 zp9; (try dsimp only at zp9))
  k_with "subscriptTail" => (k_here; k_dflt (first | ((with_reducible show wpAny _ _ (subscriptTail _ _ (Value.ref _) (Value.int 0 _)) _ _ _); refine' item3_0 ?zk1 ?zk2 ?_ ?zk7) | ((with_reducible show wpAny _ _ (subscriptTail _ _ (Value.ref _) (Value.int 1 _)) _ _ _); refine' item3_1 ?zk1 ?zk2 ?_ ?zk7) | ((with_reducible show wpAny _ _ (subscriptTail _ _ (Value.ref _) (Value.int 2 _)) _ _ _); refine' item3_2 ?zk1 ?zk2 ?_ ?zk7)); (case zk1 => k_asm); (case zk2 => with_reducible assumption); (case zk7 => with_unfolding_all rfl); k_whole)
  k_with "call ref" => (k_here; (with_reducible show wpAny _ _ (call (Value.ref 55) [Value.float _ _, Value.float _ _, Value.float _ _]) _ _ _); k_dflt (refine' Ct.use (c_rgb _ _ _ _ _ _ ?zkp ?zkq ?zkr ?zka ?zkb ?zkc) ?zk1 ?zk2 ?zk3 ?zk4 ?zk5 ?zk6 ?zk7 ?zk8 trivial ?_); (case zkp => assumption); (case zkq => assumption); (case zkr => assumption); (case zka => assumption); (case zkb => assumption); (case zkc => assumption); (case zk1 => k_asm); (case zk2 => k_asm); (case zk3 => k_asm); (case zk4 => k_asm); (case zk5 => k_asm); (case zk6 => first | exact rfl | assumption); (case zk7 => ktr_room); (case zk8 => ktr_units); (intro zv9 zh9 ztk9 zkp9 zF9 zN9 zT9; (with_reducible rename hsvF _ _ _ = _ => zhr9); rw [zhr9] at zT9; obtain ⟨za9, u1, u2, u3, ze9, zM9, q1, q2, q3⟩ := zT9; subst ze9; replace zN9 := news_made (by assumption) zN9 zM9; clear zM9 zkp9; (try simp only [List.cons_append, List.nil_append] at zN9)); (try dsimp only); (try k_fold))
  k_with "compareOp NotEq ref ref" => (k_here; (with_reducible show wpAny _ _ (compareOp CmpOp.NotEq (Value.ref _) (Value.ref _)) _ _ _); (with_reducible rename Fr _ _ _ _ => zF9); (with_reducible rename News _ _ _ _ => zN9); (with_reducible rename C3 _ _ _ _ _ _ => c39); k_dflt (refine' ne_tup3 ?zka zF9 (zN9 (_, _) ?zkb).1 (zN9 (_, _) ?zkc).1 ?zkd ?zk1 ?zk2 ?zk3 ?zk4 ?zk5 ?zk6 c39.a c39.b c39.c ?_); (case zkb => first | exact List.mem_cons_self | exact List.mem_cons_of_mem _ List.mem_cons_self); (case zkc => first | exact List.mem_cons_self | exact List.mem_cons_of_mem _ List.mem_cons_self); (case zka => first | k_asm | assumption); (case zkd => ktr_units); (case zk1 => assumption); (case zk2 => assumption); (case zk3 => assumption); (case zk4 => exact Nat.succ_pos _); (case zk5 => exact Nat.succ_pos _); (case zk6 => exact Nat.succ_pos _); (try dsimp only); (try k_fold))
  k_with "binaryOp Add ref ref" => (k_here; (with_reducible show wpAny _ _ (binaryOp Operator.Add (Value.ref _) (Value.ref _)) _ _ _); (with_reducible rename Fr _ _ _ _ => zF8); (with_reducible rename News _ _ _ _ => zN8); (with_reducible rename _ = some (tup3 _ _ _ _ _ _) => zhp8); refine add_tup zF8 zN8 zhp8 ?_; intro za9 zh9 zF9 zN9; (try k_fold))
  trivial
set_option maxRecDepth 100000 in
set_option maxHeartbeats 8000000 in
theorem c_addT {w : World} {mean : ExcName → Option Value} {mg mb : Str → Option Value} (p : Addr) (x y z : UInt64) (t1 t2 t3 : Nat) :
    Ct w mean mg mb 104 [.ref p, .ref p] 1 8 (fun h => h.get? p = some (tup3 x y z t1 t2 t3)) (fun h h' v => ∃ a, v = .ref a ∧ Made h h' [(a, tup6 x y z t1 t2 t3)]) := by
  unfold Ct; k_fill; intro dp un gd cn cs ad ccd cl outer A₀ base h₀ L m s Q E hB hF hX hT hkind hdp hun hpre hret
  replace hpre : s.heap.get? p = some (tup3 x y z t1 t2 t3) := hpre
  walk_at "M enter"
  walk_at "M steps"
  (with_reducible rename Fr _ _ _ _ => F9); (with_reducible rename News _ _ _ _ => N9)
  exact hret _ _ _ F9.keep ⟨_, rfl, made_of N9⟩
theorem lay8 : True := by
  k_with "call ref" => (k_here; (with_reducible show wpAny _ _ (call (Value.ref 104) [Value.ref _, Value.ref _]) _ _ _); (with_reducible rename Fr _ _ _ _ => zF8); (with_reducible rename _ = some (tup3 _ _ _ _ _ _) => zhp8); k_dflt (refine' Ct.use (c_addT _ _ _ _ _ _ _) ?zk1 ?zk2 ?zk3 ?zk4 ?zk5 ?zk6 ?zk7 ?zk8 (zF8.keep _ _ zhp8) ?_); (case zk1 => k_asm); (case zk2 => k_asm); (case zk3 => k_asm); (case zk4 => k_asm); (case zk5 => k_asm); (case zk6 => first | exact rfl | assumption); (case zk7 => ktr_room); (case zk8 => ktr_units); (intro zv9 zh9 ztk9 zkp9 zF9 zN9 zT9; obtain ⟨za9, ze9, zM9⟩ := zT9; subst ze9; replace zN9 := news_made zF8 zN9 zM9; clear zM9 zkp9; (try simp only [List.cons_append, List.nil_append] at zN9)); (try dsimp only); (try k_fold))
  k_with "call ref" => (k_here; (with_reducible show wpAny _ _ (call (Value.ref 181) [Value.ref _, Value.float _ _]) _ _ _); (with_reducible rename Fr _ _ _ _ => zF8); (with_reducible rename News _ _ _ _ => zN8); (with_reducible rename Pos3 _ _ _ => zP8); (with_reducible rename MaxTok _ _ _ _ _ _ _ => zM8); (with_reducible rename TailOk _ _ _ _ => zT8); k_dflt (refine' Ct.use (c_indexM _ _ _ _ _ _ _ _ _ zP8 zM8 zT8) ?zk1 ?zk2 ?zk3 ?zk4 ?zk5 ?zk6 ?zk7 ?zk8 ((zN8 (_, _) ?zjj).1) ?_); (case zjj => first | exact List.mem_cons_self | exact List.mem_cons_of_mem _ List.mem_cons_self); (case zk1 => k_asm); (case zk2 => k_asm); (case zk3 => k_asm); (case zk4 => k_asm); (case zk5 => k_asm); (case zk6 => first | exact rfl | assumption); (case zk7 => ktr_room); (case zk8 => ktr_units); (intro zv9 zh9 ztk9 zkp9 zF9 zN9 zT9; obtain ⟨zt9, ze9⟩ := zT9; subst ze9; clear zkp9); (try dsimp only); (try k_fold))
  k_with "call builtin:max" => (k_here; (with_reducible show wpAny _ _ (call (Value.builtin "max") [Value.ref _]) _ _ _); (with_reducible rename Fr _ _ _ _ => zF8); (with_reducible rename News _ _ _ _ => zN8); (with_reducible rename Pos3 _ _ _ => zP8); (with_reducible rename Dist3 _ _ _ _ _ _ => zD8); (with_reducible rename _ = some (tup3 _ _ _ _ _ _) => zhp8); refine max_tup rfl zF8 zN8 zhp8 ?_; intro zh9 ztk9 zv9 zpv9 zF9 zN9; replace zpv9 := max_link zP8 zD8 zpv9; (try dsimp only); (try k_fold))
  trivial
set_option maxRecDepth 100000 in
set_option maxHeartbeats 8000000 in
theorem c_owner {w : World} {mean : ExcName → Option Value} {mg mb : Str → Option Value} (p : Addr) (x y z : UInt64) (t1 t2 t3 : Nat) (hue share value o : Nat) (th ts tv : Tok) (P3 : Pos3 t1 t2 t3) (D3 : Dist3 x y z t1 t2 t3)
    (hh : hue < 24) (hh2 : share < 5) (hh3 : value < 5) (H : OwnOk x y z hue share value o) :
    Ct w mean mg mb 195 [.ref p, .int hue th, .int share ts, .int value tv] 3 32 (fun h => h.get? p = some (tup3 x y z t1 t2 t3)) (fun _ _ v => ∃ t, v = .int o t) := by
  have hx1 : ((hue : Int)).natAbs < 1000 := by omega
  have hx2 : ((share : Int)).natAbs < 1000 := by omega
  have hx3 : ((value : Int)).natAbs < 1000 := by omega
  obtain ⟨hM, hZ1, hZ2, c3, n1, n2, ti, ho, htail⟩ := H
  have pt1 := P3.a
  have pt2 := P3.b
  have pt3 := P3.c
  rcases hr : hsvF x y z with ⟨r0, r1, r2⟩
  rw [hr] at c3 n1 n2 ti
  dsimp only at c3 n1 n2 ti
  unfold Ct; k_fill; intro dp un gd cn cs ad ccd cl outer A₀ base h₀ L m s Q E hB hF hX hT hkind hdp hun hpre hret
  replace hpre : s.heap.get? p = some (tup3 x y z t1 t2 t3) := hpre
  walk_at "M enter"
  repeat ((fail_if_success (with_reducible show wpAny _ _ (compareOp CmpOp.NotEq (Value.ref _) (Value.ref _)) _ _ _)); (first | k_unfold | (with_reducible first | refine Cont.next ?_ | refine Cont.ret ?_ | refine Cont.brk ?_ | refine Cont.cont ?_) | walk1))
  first | walk_at "compareOp NotEq ref ref"
  repeat ((fail_if_success (with_reducible show wpAny _ _ (call (Value.ref 104) [Value.ref _, Value.ref _]) _ _ _)); (first | k_unfold | (with_reducible first | refine Cont.next ?_ | refine Cont.ret ?_ | refine Cont.brk ?_ | refine Cont.cont ?_) | walk1))
  first | walk_at "call ref"
  walk_at "M steps"
  all_goals (with_reducible rename Fr _ _ _ _ => F9)
  · exfalso
    rename (o : Int) ≠ _ => ne9
    rw [ti, ho] at ne9
    exact ne9 rfl
  · exact hret _ _ _ F9.keep ⟨_, congrArg (fun q => Value.int q _) (by rw [ti]; exact ho)⟩
end
theorem resetFc : True := by w_top off; trivial
section
open PySem.Flt
noncomputable def eqF (x y : UInt64) : Bool := Float64.cmp x y == some Ordering.eq
noncomputable def ownB (x y z : UInt64) (hue share value o : Nat) : Bool :=
  !eqF (min3 x y z) (max3 x y z) && !Float64.isZero (max3 x y z) && !Float64.isZero (Float64.sub (max3 x y z) (min3 x y z)) &&
  eqF (hsvF x y z).1 (fr hue 24) && eqF (hsvF x y z).2.1 (fr share 4) && eqF (hsvF x y z).2.2 (fr value 4) &&
  !Float64.isNaN (Float64.mul (hsvF x y z).1 (Float64.ofInt 24)) && !Float64.isInf (Float64.mul (hsvF x y z).1 (Float64.ofInt 24)) &&
  Flt.toInt Float64.truncOf (Float64.mul (hsvF x y z).1 (Float64.ofInt 24)) == (hue : Int) && Int.fmod (Int.fdiv ((hue : Int) + 4) 8) 3 == (o : Int) &&
  eqF (at6 x y z o) (max3 x y z) && (List.range o).all (fun j => !eqF (at6 x y z j) (max3 x y z)) && eqF (max3 x y z) (max3 x y z) && decide (o < 6)
theorem ownOk_of {x y z : UInt64} {hue share value o : Nat} (h : ownB x y z hue share value o = true) : OwnOk x y z hue share value o := by
  simp only [ownB, eqF, Bool.and_eq_true, Bool.not_eq_true', List.all_eq_true, List.mem_range] at h
  obtain ⟨⟨⟨⟨⟨⟨⟨⟨⟨⟨⟨⟨⟨a1, a2⟩, a3⟩, a4⟩, a5⟩, a6⟩, a7⟩, a8⟩, a9⟩, b1⟩, b2⟩, b3⟩, b4⟩, b5⟩ := h
  exact ⟨a1, by rw [a2]; decide, by rw [a3]; decide, ⟨a4, a5, a6⟩, a7, a8, by simpa using a9, by simpa using b1, ⟨⟨b2, b3⟩, b4, of_decide_eq_true b5⟩⟩
noncomputable def hueOf (c d : Nat) : Nat := (8 * c + d + 21) % 24
noncomputable def paintB (c d s v : Nat) : Bool :=
  let p := paintF (hueOf c d) (s + 1) (v + 1)
  let q := paintF (hueOf (2 - c) (6 - d)) (s + 1) (v + 1)
  ownB p.1 p.2.1 p.2.2 (hueOf c d) (s + 1) (v + 1) c && (eqF q.1 p.2.2 && eqF q.2.1 p.2.1 && eqF q.2.2 p.1)
/-- the value first, then the rest: the kernel reckons x once -/
noncomputable def forceU (x : UInt64) (f : UInt64 → Bool) : Bool := Nat.rec (f (UInt64.ofNat 0)) (fun k _ => f (UInt64.ofNat (k + 1))) x.toNat
theorem forceU_eq (x : UInt64) (f : UInt64 → Bool) : forceU x f = f x := by
  have e : UInt64.ofNat x.toNat = x := UInt64.ofNat_toNat
  unfold forceU
  conv => rhs; rw [← e]
  generalize x.toNat = n
  cases n <;> rfl
noncomputable def hsvK (x y z M R : UInt64) (k : UInt64 → Bool) : Bool :=
  if eqF x M = true then forceU (Float64.sub M z) fun a => forceU (Float64.div a R) fun a => forceU (Float64.sub M y) fun b => forceU (Float64.div b R) fun b => forceU (Float64.sub a b) k
  else if eqF y M = true then forceU (Float64.sub M x) fun a => forceU (Float64.div a R) fun a => forceU (Float64.add c2 a) fun a => forceU (Float64.sub M z) fun b => forceU (Float64.div b R) fun b => forceU (Float64.sub a b) k
  else forceU (Float64.sub M y) fun a => forceU (Float64.div a R) fun a => forceU (Float64.add c4 a) fun a => forceU (Float64.sub M x) fun b => forceU (Float64.div b R) fun b => forceU (Float64.sub a b) k
theorem hsvK_eq (x y z : UInt64) (k : UInt64 → Bool) : hsvK x y z (max3 x y z) (Float64.sub (max3 x y z) (min3 x y z)) k = k (hsvH x y z) := by
  unfold hsvK hsvH
  simp only [forceU_eq]
  unfold eqF
  split
  · rfl
  split
  · rfl
  · rfl
noncomputable def ownB2 (x y z : UInt64) (hue share value o : Nat) : Bool :=
  forceU (max3 x y z) fun M => forceU (min3 x y z) fun m => forceU (Float64.sub M m) fun R => hsvK x y z M R fun H => forceU (Float64.div H c6) fun H =>
  forceU (Float64.divmod H c1).2 fun h => forceU (Float64.div R M) fun s => forceU (Float64.mul h (Float64.ofInt 24)) fun t =>
  !eqF m M && !Float64.isZero M && !Float64.isZero R &&
  eqF h (fr hue 24) && eqF s (fr share 4) && eqF M (fr value 4) &&
  !Float64.isNaN t && !Float64.isInf t &&
  Flt.toInt Float64.truncOf t == (hue : Int) && Int.fmod (Int.fdiv ((hue : Int) + 4) 8) 3 == (o : Int) &&
  eqF (at6 x y z o) M && (List.range o).all (fun j => !eqF (at6 x y z j) M) && eqF M M && decide (o < 6)
theorem ownB2_eq (x y z : UInt64) (hue share value o : Nat) : ownB2 x y z hue share value o = ownB x y z hue share value o := by
  unfold ownB2
  simp only [forceU_eq, hsvK_eq]
  rfl
noncomputable def rgbK (h s v : UInt64) (k : UInt64 → UInt64 → UInt64 → Bool) : Bool :=
  forceU (Float64.mul h c6) fun hh => forceU (Float64.sub hh (Float64.ofInt (Flt.toInt Float64.truncOf hh))) fun f =>
  forceU (Float64.sub c1 s) fun p => forceU (Float64.mul v p) fun p =>
  forceU (Float64.mul s f) fun q => forceU (Float64.sub c1 q) fun q => forceU (Float64.mul v q) fun q =>
  forceU (Float64.sub c1 f) fun t => forceU (Float64.mul s t) fun t => forceU (Float64.sub c1 t) fun t => forceU (Float64.mul v t) fun t =>
  if (Flt.toInt Float64.truncOf hh).fmod 6 = 0 then k v t p else if (Flt.toInt Float64.truncOf hh).fmod 6 = 1 then k q v p else if (Flt.toInt Float64.truncOf hh).fmod 6 = 2 then k p v t
  else if (Flt.toInt Float64.truncOf hh).fmod 6 = 3 then k p q v else if (Flt.toInt Float64.truncOf hh).fmod 6 = 4 then k t p v else k v p q
theorem rgbK_eq (h s v : UInt64) (k : UInt64 → UInt64 → UInt64 → Bool) : rgbK h s v k = k (rgbF h s v).1 (rgbF h s v).2.1 (rgbF h s v).2.2 := by
  unfold rgbK rgbF
  simp only [forceU_eq]
  show (if (hJ h).fmod 6 = 0 then _ else if (hJ h).fmod 6 = 1 then _ else if (hJ h).fmod 6 = 2 then _ else if (hJ h).fmod 6 = 3 then _ else if (hJ h).fmod 6 = 4 then _ else _) = _
  split
  · rfl
  split
  · rfl
  split
  · rfl
  split
  · rfl
  split <;> rfl
noncomputable def paintB2 (c d s v : Nat) : Bool :=
  forceU (fr (hueOf c d : Nat) 24) fun h => forceU (fr (hueOf (2 - c) (6 - d) : Nat) 24) fun h' => forceU (fr (s + 1 : Nat) 4) fun s1 => forceU (fr (v + 1 : Nat) 4) fun v1 =>
  rgbK h s1 v1 fun x y z => rgbK h' s1 v1 fun x' y' z' => ownB2 x y z (hueOf c d) (s + 1) (v + 1) c && (eqF x' z && eqF y' y && eqF z' x)
theorem paintB2_eq (c d s v : Nat) : paintB2 c d s v = paintB c d s v := by
  unfold paintB2
  simp only [forceU_eq, rgbK_eq, ownB2_eq]
  rfl
theorem paints2 : ∀ c : Nat, c < 3 → ∀ d : Nat, d < 7 → ∀ s : Nat, s < 4 → ∀ v : Nat, v < 4 → paintB2 c d s v = true := by decide +kernel
theorem paints (c : Nat) (hc : c < 3) (d : Nat) (hd : d < 7) (s : Nat) (hs : s < 4) (v : Nat) (hv : v < 4) : paintB c d s v = true := by
  rw [← paintB2_eq]; exact paints2 c hc d hd s hs v hv
end
theorem resetOs : True := by w_top off; trivial
section
open PySem.Flt
theorem fdivmod (n : Int) (k m : Nat) (hk : 0 < k) (hm : 0 < m) : ∃ c : Nat, c < m ∧ (n.fdiv k).fmod m = (c : Int) := by
  refine ⟨((n.fdiv k).fmod m).toNat, ?_, ?_⟩
  · have h1 : 0 ≤ (n.fdiv k).fmod m := Int.fmod_nonneg_of_pos _ (by omega)
    have h2 : (n.fdiv k).fmod m < m := Int.fmod_lt_of_pos _ (by omega)
    omega
  · exact (Int.toNat_of_nonneg (Int.fmod_nonneg_of_pos _ (by omega))).symm
structure Nums (n : Int) (c d sh va : Nat) : Prop where
  c3 : c < 3
  d7 : d < 7
  s4 : sh < 4
  v4 : va < 4
  ec : (n.fdiv 96).fmod 3 = (c : Int)
  eh : (8 * (n.fdiv 96).fmod 3 + (n.fdiv 288).fmod 7 - 3).fmod 24 = ((hueOf c d : Nat) : Int)
  em : (16 - (8 * (n.fdiv 96).fmod 3 + (n.fdiv 288).fmod 7 - 3)).fmod 24 = ((hueOf (2 - c) (6 - d) : Nat) : Int)
  es : 1 + (n.fdiv 2016).fmod 4 = ((sh + 1 : Nat) : Int)
  ev : 1 + (n.fdiv 8064).fmod 4 = ((va + 1 : Nat) : Int)
theorem hue_dot : ∀ c < 3, ∀ d < 7, (8 * ((c : Nat) : Int) + ((d : Nat) : Int) - 3) % 24 = ((hueOf c d : Nat) : Int) := by decide +kernel
theorem hue_letter : ∀ c < 3, ∀ d < 7, (16 - (8 * ((c : Nat) : Int) + ((d : Nat) : Int) - 3)) % 24 = ((hueOf (2 - c) (6 - d) : Nat) : Int) := by decide +kernel
theorem nums (n : Int) : ∃ c d sh va, Nums n c d sh va := by
  obtain ⟨c, hc, ec⟩ := fdivmod n 96 3 (by decide) (by decide)
  obtain ⟨d, hd, ed⟩ := fdivmod n 288 7 (by decide) (by decide)
  obtain ⟨sh, hs, es⟩ := fdivmod n 2016 4 (by decide) (by decide)
  obtain ⟨va, hv, ev⟩ := fdivmod n 8064 4 (by decide) (by decide)
  refine ⟨c, d, sh, va, hc, hd, hs, hv, ec, ?_, ?_, ?_, ?_⟩
  · rw [show ((96 : Nat) : Int) = 96 from rfl, show ((3 : Nat) : Int) = 3 from rfl] at ec
    rw [show ((288 : Nat) : Int) = 288 from rfl, show ((7 : Nat) : Int) = 7 from rfl] at ed
    rw [ec, ed, Int.fmod_eq_emod_of_nonneg _ (by decide)]; exact hue_dot c hc d hd
  · rw [show ((96 : Nat) : Int) = 96 from rfl, show ((3 : Nat) : Int) = 3 from rfl] at ec
    rw [show ((288 : Nat) : Int) = 288 from rfl, show ((7 : Nat) : Int) = 7 from rfl] at ed
    rw [ec, ed, Int.fmod_eq_emod_of_nonneg _ (by decide)]; exact hue_letter c hc d hd
  · have : (n.fdiv 2016).fmod 4 = (sh : Int) := es
    omega
  · have : (n.fdiv 8064).fmod 4 = (va : Int) := ev
    omega
theorem c_paintE {w : World} {mean : ExcName → Option Value} {mg mb : Str → Option Value} (h s v : Int) (hue share value : Nat) (th ts tv : Tok) (r : UInt64 × UInt64 × UInt64) (eh : h = hue) (es : s = share) (ev : v = value) (er : paintF hue share value = r) (h1 : hue < 24 ∧ share < 5 ∧ 0 < share ∧ value < 5) :
    Ct w mean mg mb 188 [.int h th, .int s ts, .int v tv] 3 32 (fun _ => True) (TupF r) := by
  subst eh es ev er; exact c_paint hue share value th ts tv h1.1 h1.2.1 h1.2.2.1 h1.2.2.2
theorem c_ownerE {w : World} {mean : ExcName → Option Value} {mg mb : Str → Option Value} (p : Addr) (x y z : UInt64) (t1 t2 t3 : Nat) (h s v : Int) (hue share value o : Nat) (th ts tv : Tok) (P3 : Pos3 t1 t2 t3) (D3 : Dist3 x y z t1 t2 t3)
    (eh : h = hue) (es : s = share) (ev : v = value) (hh : hue < 24 ∧ share < 5 ∧ 0 < share ∧ value < 5) (H : OwnOk x y z hue share value o) :
    Ct w mean mg mb 195 [.ref p, .int h th, .int s ts, .int v tv] 3 32 (fun h => h.get? p = some (tup3 x y z t1 t2 t3)) (fun _ _ v => ∃ t, v = .int o t) := by
  subst eh es ev; exact c_owner p x y z t1 t2 t3 hue share value o th ts tv P3 D3 hh.1 hh.2.1 hh.2.2.2 H
theorem made_apart {h₀ h h' : Heap} {L a : Addr} {news : List (Addr × Obj)} {o : Obj} (N : News h₀ L h news) (M : Made h h' [(a, o)]) : ∀ p ∈ news, @Ne Nat p.1 a := by
  intro p hp e
  subst e
  have h1 := (N p hp).1
  rw [(M _ List.mem_cons_self).2] at h1; cases h1
structure E3 (x1 x2 x3 y1 y2 y3 : UInt64) : Prop where
  a : (Float64.cmp x1 y1 == some Ordering.eq) = true
  b : (Float64.cmp x2 y2 == some Ordering.eq) = true
  c : (Float64.cmp x3 y3 == some Ordering.eq) = true
theorem paint_facts {n : Int} {c d sh va : Nat} (H : Nums n c d sh va) {p1 p2 p3 q1 q2 q3 : UInt64} (hp : paintF (hueOf c d) (sh + 1) (va + 1) = (p1, p2, p3)) (hq : paintF (hueOf (2 - c) (6 - d)) (sh + 1) (va + 1) = (q1, q2, q3)) :
    OwnOk p1 p2 p3 (hueOf c d) (sh + 1) (va + 1) c ∧ OwnOk q1 q2 q3 (hueOf (2 - c) (6 - d)) (sh + 1) (va + 1) (2 - c) ∧ E3 q1 q2 q3 p3 p2 p1 := by
  have a := paints c H.c3 d H.d7 sh H.s4 va H.v4
  have b := paints (2 - c) (by have := H.c3; omega) (6 - d) (by have := H.d7; omega) sh H.s4 va H.v4
  simp only [paintB, hp, hq, Bool.and_eq_true] at a b
  exact ⟨ownOk_of a.1, ownOk_of b.1, a.2.1.1, a.2.1.2, a.2.2⟩
theorem lay9 : True := by
  k_with_none
  k_with "M enter" => (refine wpAny_call ?_; k_dflt (refine' code_full ?zk1 ?zk2 ?zk3 ?zk5 ?zkA ?zkF ?zkK ?zk6 ?zk7 ?zk8 ?zk9 ?zkB ?zkP ?_ ?zc2 ?zc3 ?zc4 ?zc5; (case zkA => exact rfl); (case zkF => exact rfl); (case zkK => assumption); (case zk1 => k_asm); (case zk2 => k_asm); (case zk3 => k_asm); (case zk5 => k_asm); (case zk6 => k_is); (case zk7 => k_is); (case zk8 => ktr_room); (case zk9 => exact BindsTo.of_eq rfl); (case zc5 => decide); (case zkP => exact List.cons_ne_nil _ _); (case zkB => exact locs rfl); (case zc2 => exact rfl); (case zc3 => exact rfl); (case zc4 => exact rfl); k_whole); intro zL' zh' tk9 zp9 zF' zN' zB' zX' zT'; (try dsimp only); (try k_fold))
  k_with "M ne" => (refine neN ?_; (try dsimp only); intro ze9; have ze8 := Eq.symm ze9; (repeat ((with_reducible rename _ ≠ _ ∧ _ => zx9); obtain ⟨zy9, zz9⟩ := zx9)); with_reducible contradiction)
  k_with "call ref" => (k_here; k_dflt (first | ((with_reducible show wpAny _ _ (call (Value.ref 69) [Value.int _ _, Value.int _ _]) _ _ _); refine' Cc.use (c_lt _ _ _ _) ?zk1 ?zk2 ?zk3 ?zk4 ?zk5 ?zk6 ?zk7 ?zk8 ?_) | ((with_reducible show wpAny _ _ (call (Value.ref 76) [Value.int _ _, Value.int _ _]) _ _ _); refine' Cc.use (c_eq _ _ _ _) ?zk1 ?zk2 ?zk3 ?zk4 ?zk5 ?zk6 ?zk7 ?zk8 ?_) | ((with_reducible show wpAny _ _ (call (Value.ref 83) [Value.int _ _, Value.int _ _]) _ _ _); refine' Cc.use (c_ne _ _ _ _) ?zk1 ?zk2 ?zk3 ?zk4 ?zk5 ?zk6 ?zk7 ?zk8 ?_) | ((with_reducible show wpAny _ _ (call (Value.ref 90) [Value.int _ _, Value.int _ _]) _ _ _); refine' Cc.use (c_gt _ _ _ _) ?zk1 ?zk2 ?zk3 ?zk4 ?zk5 ?zk6 ?zk7 ?zk8 ?_) | ((with_reducible show wpAny _ _ (call (Value.ref 97) [Value.int _ _]) _ _ _); refine' Cc.use (c_not_ _ _) ?zk1 ?zk2 ?zk3 ?zk4 ?zk5 ?zk6 ?zk7 ?zk8 ?_) | ((with_reducible show wpAny _ _ (call (Value.ref 104) [Value.int _ _, Value.int _ _]) _ _ _); refine' Cc.use (c_add _ _ _ _) ?zk1 ?zk2 ?zk3 ?zk4 ?zk5 ?zk6 ?zk7 ?zk8 ?_) | ((with_reducible show wpAny _ _ (call (Value.ref 111) [Value.bool _, Value.bool _]) _ _ _); refine' Cc.use (c_and_ _ _) ?zk1 ?zk2 ?zk3 ?zk4 ?zk5 ?zk6 ?zk7 ?zk8 ?_) | ((with_reducible show wpAny _ _ (call (Value.ref 146) [Value.bool _, Value.bool _]) _ _ _); refine' Cc.use (c_or_ _ _) ?zk1 ?zk2 ?zk3 ?zk4 ?zk5 ?zk6 ?zk7 ?zk8 ?_) | ((with_reducible show wpAny _ _ (call (Value.ref 160) [Value.int _ _, Value.int _ _]) _ _ _); refine' Cc.use (c_sub _ _ _ _) ?zk1 ?zk2 ?zk3 ?zk4 ?zk5 ?zk6 ?zk7 ?zk8 ?_) | ((with_reducible show wpAny _ _ (call (Value.ref 132) [Value.int _ _, Value.int _ _]) _ _ _); refine' Cc.use (c_mod _ _ _ _ ?zkb) ?zk1 ?zk2 ?zk3 ?zk4 ?zk5 ?zk6 ?zk7 ?zk8 ?_; (case zkb => first | decide | omega)) | ((with_reducible show wpAny _ _ (call (Value.ref 118) [Value.int _ _, Value.int 8 _]) _ _ _); refine' Cc.use (c_floordiv8 _ _ _) ?zk1 ?zk2 ?zk3 ?zk4 ?zk5 ?zk6 ?zk7 ?zk8 ?_) | ((with_reducible show wpAny _ _ (call (Value.ref 125) [Value.int 1 _, Value.int 3 _]) _ _ _); refine' Cc.use (c_lshift13 _ _) ?zk1 ?zk2 ?zk3 ?zk4 ?zk5 ?zk6 ?zk7 ?zk8 ?_) | ((with_reducible show wpAny _ _ (call (Value.ref 153) [Value.int _ _, Value.int 1 _]) _ _ _); refine' Cc.use (c_rshift1 _ _ _ ?zkb) ?zk1 ?zk2 ?zk3 ?zk4 ?zk5 ?zk6 ?zk7 ?zk8 ?_; (case zkb => first | decide | omega)) | ((with_reducible show wpAny _ _ (call (Value.ref 174) [Value.int _ _, Value.int _ _]) _ _ _); refine' Cc.use (c_xor _ _ _ _) ?zk1 ?zk2 ?zk3 ?zk4 ?zk5 ?zk6 ?zk7 ?zk8 ?_) | ((with_reducible show wpAny _ _ (call (Value.ref 167) [Value.int _ _, Value.int _ _]) _ _ _); refine' Cc.use (c_truediv _ _ _ _ ?zkb) ?zk1 ?zk2 ?zk3 ?zk4 ?zk5 ?zk6 ?zk7 ?zk8 ?_; (case zkb => first | decide | omega)) | ((with_reducible show wpAny _ _ (call (Value.ref 139) [Value.float _ _, Value.int 24 _]) _ _ _); refine' Cc.use (c_mulf24 _ _ _) ?zk1 ?zk2 ?zk3 ?zk4 ?zk5 ?zk6 ?zk7 ?zk8 ?_) | ((with_reducible show wpAny _ _ (call (Value.ref 139) [Value.int _ _, Value.int _ _]) _ _ _); refine' Cc.use (c_mul _ _ _ _ ?zkb) ?zk1 ?zk2 ?zk3 ?zk4 ?zk5 ?zk6 ?zk7 ?zk8 ?_; (case zkb => first | decide | omega))); (case zk1 => k_asm); (case zk2 => k_asm); (case zk3 => k_asm); (case zk4 => k_asm); (case zk5 => k_asm); (case zk6 => first | exact rfl | assumption); (case zk7 => ktr_room); (case zk8 => ktr_units); (dsimp only [retV]); intro zt9 zh9 ztk9 zF9 zN9; (try k_fold))
  k_with "M steps" => repeat' (first | (k_unfold; (try dsimp only)) | (with_reducible first | refine Cont.next ?_ | refine Cont.ret ?_ | refine Cont.brk ?_ | refine Cont.cont ?_) | (k_end; wrow_close) | ((fail_if_success (with_reducible show wpAny _ _ (pyIter _) _ _ _)); walk1) | (dsimp only; (fail_if_success (with_reducible show wpAny _ _ (pyIter _) _ _ _)); walk1) | (leave1; try dsimp only) | fail "no step")
  k_with "subscriptTail" => (k_here; (with_reducible show wpAny _ _ (subscriptTail _ _ (Value.ref _) (Value.int _ _)) _ _ _); k_dflt (refine' item_base ?zk1 ?zk2 ?zk3 ?zk4 ?zk5 ?_ ?zk7; (case zk1 => k_asm); (case zk2 => with_reducible assumption); (case zk3 => with_reducible assumption); (case zk4 => omega); (case zk5 => omega); (case zk7 => with_unfolding_all rfl); k_whole))
  k_with "eval Name" => (k_here; k_dflt (refine' nameX_L ?zF ?zv ?_ ?za ?zb; (case za => rfl); (case zb => rfl); (case zF => k_asm); (case zv => rfl); k_whole))
  k_with "eval Name" => (k_here; (first | (with_reducible show wpAny _ _ (eval (PySem.Expr.Name (Str.ofString "range") _) _) _ _ _) | (with_reducible show wpAny _ _ (eval (PySem.Expr.Name (Str.ofString "len") _) _) _ _ _) | (with_reducible show wpAny _ _ (eval (PySem.Expr.Name (Str.ofString "max") _) _) _ _ _) | (with_reducible show wpAny _ _ (eval (PySem.Expr.Name (Str.ofString "min") _) _) _ _ _) | (with_reducible show wpAny _ _ (eval (PySem.Expr.Name (Str.ofString "int") _) _) _ _ _) | (with_reducible show wpAny _ _ (eval (PySem.Expr.Name (Str.ofString "enumerate") _) _) _ _ _) | (with_reducible show wpAny _ _ (eval (PySem.Expr.Name (Str.ofString "sum") _) _) _ _ _)); k_dflt (refine' nameX_B ?zF ?zX ?zT ?ze ?zv ?zn ?_ ?za ?zb; (case za => rfl); (case zb => rfl); (case zF => k_asm); (case zX => k_asm); (case zT => k_asm); (case ze => k_is); (case zv => boot_fast); (case zn => decide); k_whole))
  k_with "eval Name" => (k_here; (first | (with_reducible show wpAny _ _ (eval (PySem.Expr.Name (Str.ofString "lt") _) _) _ _ _) | (with_reducible show wpAny _ _ (eval (PySem.Expr.Name (Str.ofString "eq") _) _) _ _ _) | (with_reducible show wpAny _ _ (eval (PySem.Expr.Name (Str.ofString "ne") _) _) _ _ _) | (with_reducible show wpAny _ _ (eval (PySem.Expr.Name (Str.ofString "gt") _) _) _ _ _) | (with_reducible show wpAny _ _ (eval (PySem.Expr.Name (Str.ofString "not_") _) _) _ _ _) | (with_reducible show wpAny _ _ (eval (PySem.Expr.Name (Str.ofString "add") _) _) _ _ _) | (with_reducible show wpAny _ _ (eval (PySem.Expr.Name (Str.ofString "and_") _) _) _ _ _) | (with_reducible show wpAny _ _ (eval (PySem.Expr.Name (Str.ofString "floordiv") _) _) _ _ _) | (with_reducible show wpAny _ _ (eval (PySem.Expr.Name (Str.ofString "lshift") _) _) _ _ _) | (with_reducible show wpAny _ _ (eval (PySem.Expr.Name (Str.ofString "mod") _) _) _ _ _) | (with_reducible show wpAny _ _ (eval (PySem.Expr.Name (Str.ofString "mul") _) _) _ _ _) | (with_reducible show wpAny _ _ (eval (PySem.Expr.Name (Str.ofString "or_") _) _) _ _ _) | (with_reducible show wpAny _ _ (eval (PySem.Expr.Name (Str.ofString "rshift") _) _) _ _ _) | (with_reducible show wpAny _ _ (eval (PySem.Expr.Name (Str.ofString "sub") _) _) _ _ _) | (with_reducible show wpAny _ _ (eval (PySem.Expr.Name (Str.ofString "truediv") _) _) _ _ _) | (with_reducible show wpAny _ _ (eval (PySem.Expr.Name (Str.ofString "xor") _) _) _ _ _) | (with_reducible show wpAny _ _ (eval (PySem.Expr.Name (Str.ofString "indexOf") _) _) _ _ _) | (with_reducible show wpAny _ _ (eval (PySem.Expr.Name (Str.ofString "quotedata") _) _) _ _ _) | (with_reducible show wpAny _ _ (eval (PySem.Expr.Name (Str.ofString "rgb_to_hsv") _) _) _ _ _) | (with_reducible show wpAny _ _ (eval (PySem.Expr.Name (Str.ofString "hsv_to_rgb") _) _) _ _ _) | (with_reducible show wpAny _ _ (eval (PySem.Expr.Name (Str.ofString "_law_paint") _) _) _ _ _) | (with_reducible show wpAny _ _ (eval (PySem.Expr.Name (Str.ofString "_law_owner") _) _) _ _ _) | (with_reducible show wpAny _ _ (eval (PySem.Expr.Name (Str.ofString "_law_owners") _) _) _ _ _) | (with_reducible show wpAny _ _ (eval (PySem.Expr.Name (Str.ofString "_law_worths") _) _) _ _ _) | (with_reducible show wpAny _ _ (eval (PySem.Expr.Name (Str.ofString "_law_wins") _) _) _ _ _)); k_dflt (refine' nameX_K ?zF ?zX ?zT ?ze ?_ ?za ?zb; (case za => rfl); (case zb => rfl); (case zF => k_asm); (case zX => k_asm); (case zT => k_asm); (case ze => k_is); k_whole))
  k_with "execs cons" => (k_here; (with_reducible show wpAny _ _ _ _ _ (Shared.mk _ _ _ (HAdd.hAdd _ _) _)); refine gen_toks ?_; intro ztk9 zp9; (try dsimp only at zp9))
  k_with "execs nil" => (k_here; (with_reducible show wpAny _ _ _ _ _ (Shared.mk _ _ _ (HAdd.hAdd _ _) _)); refine gen_toks ?_; intro ztk9 zp9; (try dsimp only at zp9))
  k_with "eval ListComp" => (k_here; (with_reducible rename Fr _ _ _ _ => zF9); k_dflt (refine' ListComp_G zF9 ?zc1 ?zc2 ?zc3 ?zc4 ?zc5 ?zc6 ?_; (case zc1 => with_unfolding_all rfl); (case zc2 => decide); (case zc3 => with_unfolding_all rfl); (case zc4 => decide); (case zc5 => with_unfolding_all rfl); (case zc6 => intro _; with_unfolding_all rfl); k_whole); (try k_fold))
  k_with "execs cons" => (k_here; (with_reducible show wpAny _ _ _ _ _ (Shared.mk _ _ _ (HAdd.hAdd _ _) _)); refine gen_toks ?_; intro ztk9 zp9; (try dsimp only at zp9); (try ((with_reducible rename Fr _ _ _ _ => zF9); dsimp only at zF9)))
  k_with "M enterC" => (refine wpAny_call ?_; k_dflt (refine' code_fullC ?zk1 ?zk2 ?zk3 ?zk5 ?zkA ?zkF ?zkK ?zk6 ?zk7 ?zk8 ?zk9 ?zkB ?zkD ?_ ?zc2 ?zc3 ?zc4; (case zkA => exact rfl); (case zkF => exact rfl); (case zkK => assumption); (case zk1 => k_asm); (case zk2 => k_asm); (case zk3 => k_asm); (case zk5 => k_asm); (case zk6 => k_is); (case zk7 => k_is); (case zk8 => ktr_room); (case zk9 => exact BindsTo.of_eq rfl); (case zkB => exact rfl); (case zkD => decide); (case zc2 => exact rfl); (case zc3 => exact rfl); (case zc4 => exact rfl); k_whole); intro zL' zh' tk9 zcells9 zF' zN' zC' zB' zX' zT'; (have zhY := CellsAre.two zC'; obtain ⟨zo', zo2', zhE', zd1', zd2'⟩ := zhY; subst zhE'; clear zC'; (replace zd1' : _ = Data.cell none := zd1'); (replace zd2' : _ = Data.cell none := zd2')); (try dsimp only); (try k_fold))
  k_with "call ref" => (k_here; (with_reducible show wpAny _ _ (call (Value.ref 188) [Value.int _ _, Value.int _ _, Value.int _ _]) _ _ _); (with_reducible rename News _ _ _ _ => zN7); k_dflt (refine' Ct.use (c_paintE _ _ _ _ _ _ _ _ _ _ ?zea ?zeb ?zec ?zed ?zee) ?zk1 ?zk2 ?zk3 ?zk4 ?zk5 ?zk6 ?zk7 ?zk8 trivial ?_); (case zea => with_reducible assumption); (case zeb => with_reducible assumption); (case zec => with_reducible assumption); (case zed => with_reducible assumption); (case zee => with_reducible assumption); (case zk1 => k_asm); (case zk2 => k_asm); (case zk3 => k_asm); (case zk4 => k_asm); (case zk5 => k_asm); (case zk6 => first | exact rfl | assumption); (case zk7 => ktr_room); (case zk8 => ktr_units); (intro zv9 zh9 ztk9 zkp9 zF9 zN9 zT9; obtain ⟨za9, u1, u2, u3, ze9, zM9, ⟨q1, q2, q3⟩, ⟨d1, d2, d3⟩⟩ := zT9; (have zP9 := Pos3.mk q1 q2 q3); (have zD9 := Dist3.mk d1 d2 d3); (have zl9 := made_apart zN7 zM9); (simp only [List.mem_cons, forall_eq_or_imp, List.not_mem_nil, false_implies, implies_true, and_true] at zl9); subst ze9; (with_reducible rename Fr _ _ _ _ => zF9); replace zN9 := news_made (by assumption) zN9 zM9; clear zM9 zkp9; (try simp only [List.cons_append, List.nil_append] at zN9)); (try dsimp only); (try k_fold))
  k_with "compareOp NotEq ref ref" => (k_here; (with_reducible show wpAny _ _ (compareOp CmpOp.NotEq (Value.ref _) (Value.ref _)) _ _ _); (with_reducible rename Fr _ _ _ _ => zF9); (with_reducible rename News _ _ _ _ => zN9); (with_reducible rename E3 _ _ _ _ _ _ => c39); k_dflt (refine' ne_tup3 ?zka zF9 (zN9 (_, _) ?zkb).1 (zN9 (_, _) ?zkc).1 ?zkd ?zk1 ?zk2 ?zk3 ?zk4 ?zk5 ?zk6 c39.a c39.b c39.c ?_); (case zkb => first | exact List.mem_cons_self | exact List.mem_cons_of_mem _ List.mem_cons_self); (case zkc => first | exact List.mem_cons_self | exact List.mem_cons_of_mem _ List.mem_cons_self); (case zka => first | k_asm | assumption); (case zkd => ktr_units); (case zk1 => assumption); (case zk2 => assumption); (case zk3 => assumption); (case zk4 => assumption); (case zk5 => assumption); (case zk6 => assumption); (try dsimp only); (try k_fold))
  k_with "call ref" => (k_here; (with_reducible show wpAny _ _ (call (Value.ref 195) [Value.ref _, Value.int _ _, Value.int _ _, Value.int _ _]) _ _ _); (with_reducible rename News _ _ _ _ => zN8); k_dflt (refine' Ct.use (c_ownerE _ _ _ _ _ _ _ _ _ _ _ _ _ _ _ _ _ ?zeg ?zef ?zea ?zeb ?zec ?zed ?zee) ?zk1 ?zk2 ?zk3 ?zk4 ?zk5 ?zk6 ?zk7 ?zk8 ((zN8 (_, _) (by first | exact List.mem_cons_self | exact List.mem_cons_of_mem _ List.mem_cons_self | exact List.mem_cons_of_mem _ (List.mem_cons_of_mem _ List.mem_cons_self))).1) ?_); (case zea => with_reducible assumption); (case zeb => with_reducible assumption); (case zec => with_reducible assumption); (case zed => with_reducible assumption); (case zee => with_reducible assumption); (case zef => with_reducible assumption); (case zeg => with_reducible assumption); (case zk1 => k_asm); (case zk2 => k_asm); (case zk3 => k_asm); (case zk4 => k_asm); (case zk5 => k_asm); (case zk6 => first | exact rfl | assumption); (case zk7 => ktr_room); (case zk8 => ktr_units); (intro zv9 zh9 ztk9 zkp9 zF9 zN9 zT9; obtain ⟨zt9, ze9⟩ := zT9; subst ze9; clear zkp9); (try dsimp only); (try k_fold))
  trivial
set_option maxRecDepth 100000 in
set_option maxHeartbeats 8000000 in
theorem c_owners {w : World} {mean : ExcName → Option Value} {mg mb : Str → Option Value} (n : Int) (tn : Tok) (y : Str) (ty : Tok) (c : Nat) (hc3 : c < 3) (hcn : (n.fdiv 96).fmod 3 = (c : Int)) (hy : y.cps.size ≤ sizeLine) :
    Ct w mean mg mb 200 [.int n tn, .str y ty] 5 64 (fun _ => True) (fun h h' v => ∃ D ys, v = .ref D ∧ Made h h' [(D, LCg.lst ys)] ∧ IntsAre ys (rowOf c y.cps.toList)) := by
  obtain ⟨c', d, sh, va, hn⟩ := nums n
  have hcc : c' = c := Int.ofNat.inj (hn.ec.symm.trans hcn)
  rw [hcc] at hn; clear hcc
  have hb1 : hueOf c d < 24 ∧ sh + 1 < 5 ∧ 0 < sh + 1 ∧ va + 1 < 5 := ⟨Nat.mod_lt _ (by decide), by have := hn.s4; omega, Nat.succ_pos _, by have := hn.v4; omega⟩
  have hb2 : hueOf (2 - c) (6 - d) < 24 ∧ sh + 1 < 5 ∧ 0 < sh + 1 ∧ va + 1 < 5 := ⟨Nat.mod_lt _ (by decide), hb1.2⟩
  have e1 := hn.eh
  have e2 := hn.em
  have e3 := hn.es
  have e4 := hn.ev
  rcases hp : paintF (hueOf c d) (sh + 1) (va + 1) with ⟨p1, p2, p3⟩
  rcases hq : paintF (hueOf (2 - c) (6 - d)) (sh + 1) (va + 1) with ⟨q1, q2, q3⟩
  obtain ⟨O1, O2, EE⟩ := paint_facts hn hp hq
  unfold Ct; k_fill; intro dp un gd cn cs ad ccd cl outer A₀ base h₀ L m s Q E hB hF hX hT hkind hdp hun hpre hret
  walk_at "M enterC"
  repeat ((fail_if_success (with_reducible show wpAny _ _ (compareOp CmpOp.NotEq (Value.ref _) (Value.ref _)) _ _ _)); (first | k_unfold | (with_reducible first | refine Cont.next ?_ | refine Cont.ret ?_ | refine Cont.brk ?_ | refine Cont.cont ?_) | walk1))
  first | walk_at "compareOp NotEq ref ref"
  walk_at "M steps"
  (with_reducible rename Fr _ _ _ _ => F9); (with_reducible rename News _ _ _ _ => N9)
  refine after_str (R := fun i v => ∃ t, v = .int (if y.cps[i]? = some 46 then (c : Int) else ((2 - c : Nat) : Int)) t) rfl F9 N9 hy ?_ ?_
  · intro i v I oI C oC D ys m₂ h tk Q2 E2 hi hP hn2 hx F N ret
    obtain ⟨ch, u, hc, rfl⟩ := hP
    clear N9 F9
    walk_at "M steps"
    · rename (_ == _) = true => ha
      rw [one_dot, beq_iff_eq] at ha
      exact ret _ _ _ ⟨_, by rw [hc, ha, if_pos rfl]⟩ F N
    · rename (_ == _) = false => ha
      rw [one_dot, beq_eq_false_iff_ne] at ha
      exact ret _ _ _ ⟨_, by rw [hc, if_neg (fun q => ha (Option.some.inj q))]⟩ F N
  · intro g ys hl hR D h tk F N o1
    walk_at "M steps"
    exact hret _ _ _ F.keep ⟨D, ys, rfl, made_of (fun p hp => N p (List.mem_cons.mpr (.inl (List.mem_singleton.mp hp)))), rowOf_ints hl hR⟩
end
theorem resetRw : True := by w_top off; trivial
section
open PySem.SeqAt
section
variable {prog : Program} {w : World} {A : Around} {E : Value → Shared → Prop} {s : Shared} {h₀ : Heap} {L l : Addr} {m : Str → Option Value} {news : List (Addr × Obj)} {value slice : PySem.Expr} {items : Array Value} {k : Int} {u : Tok} {x : Value} {o : Obj} {Q : Value → Shared → Prop}
theorem item_mem (N : News h₀ L s.heap news) (hm : (l, o) ∈ news) (ho : o.cls = .type "list" ∧ ∃ n, o.data = .seq items n) (hx : items[k.toNat]? = some x) (h0 : 0 ≤ k) (hfit : k < 2 ^ 63) (h : Q x s)
    (hs : subscripted slice false (.ref l) (.int k u) = operate [.ref l, .int k u] (getItem (.ref l) (.int k u)) := by with_unfolding_all rfl) :
    wpAny (model prog w) A (subscriptTail value slice (.ref l) (.int k u)) Q E s :=
  have hl : s.heap.IsList l items := ⟨o, (N _ hm).1, ho⟩
  tail_any hl.typeIs slot_list_getitem.lookup (wpAny_getItem_list hl h0 hfit hx h) hs
theorem item_last (N : News h₀ L s.heap news) (hm : (l, o) ∈ news) (ho : o.cls = .type "list" ∧ ∃ n, o.data = .seq items n) (hx : items[items.size - 1]? = some x) (h : Q x s)
    (hs : subscripted slice false (.ref l) (.int (-1) u) = operate [.ref l, .int (-1) u] (getItem (.ref l) (.int (-1) u)) := by with_unfolding_all rfl) :
    wpAny (model prog w) A (subscriptTail value slice (.ref l) (.int (-1) u)) Q E s :=
  have hl : s.heap.IsList l items := ⟨o, (N _ hm).1, ho⟩
  have hp : 0 < items.size := by
    rcases Nat.eq_zero_or_pos items.size with e | e
    · rw [Array.getElem?_eq_none (by omega)] at hx; cases hx
    · exact e
  tail_any hl.typeIs slot_list_getitem.lookup (wpAny_getItem_list_neg hl (by decide) (by omega) (by decide) (by rw [show ((-1 : Int) + (items.size : Int)).toNat = items.size - 1 by omega]; exact hx) h) hs
theorem item_tup0 {a b : Int} {ta tb : Tok} (N : News h₀ L s.heap news) (hm : (l, ({ cls := .type "tuple", data := .seq #[.int a ta, .int b tb] } : Obj)) ∈ news) (h : Q (.int a ta) s)
    (hs : subscripted slice false (.ref l) (.int 0 u) = operate [.ref l, .int 0 u] (getItem (.ref l) (.int 0 u)) := by with_unfolding_all rfl) :
    wpAny (model prog w) A (subscriptTail value slice (.ref l) (.int 0 u)) Q E s :=
  have ht : IsTup s.heap l #[.int a ta, .int b tb] := ⟨_, (N _ hm).1, rfl, _, rfl⟩
  tail_any ht.typeIs slot_tuple_getitem.lookup (getItem_tuple ht (by decide) (by decide) (j := 0) rfl rfl h) hs
theorem item_tup1 {a b : Int} {ta tb : Tok} (N : News h₀ L s.heap news) (hm : (l, ({ cls := .type "tuple", data := .seq #[.int a ta, .int b tb] } : Obj)) ∈ news) (h : Q (.int b tb) s)
    (hs : subscripted slice false (.ref l) (.int 1 u) = operate [.ref l, .int 1 u] (getItem (.ref l) (.int 1 u)) := by with_unfolding_all rfl) :
    wpAny (model prog w) A (subscriptTail value slice (.ref l) (.int 1 u)) Q E s :=
  have ht : IsTup s.heap l #[.int a ta, .int b tb] := ⟨_, (N _ hm).1, rfl, _, rfl⟩
  tail_any ht.typeIs slot_tuple_getitem.lookup (getItem_tuple ht (by decide) (by decide) (j := 1) rfl rfl h) hs
end
theorem ints_get : ∀ {vs : List Value} {ns : List Int}, IntsAre vs ns → ∀ j (h : j < vs.length), ∃ t, vs[j] = Value.int (ns.getD j 0) t
  | _, _, .nil, j, h => nomatch h
  | _, _, .cons n t r, 0, _ => ⟨t, rfl⟩
  | _, _, .cons n t r, j + 1, h => ints_get r j (Nat.lt_of_succ_lt_succ h)
theorem ints_len : ∀ {vs : List Value} {ns : List Int}, IntsAre vs ns → vs.length = ns.length
  | _, _, .nil => rfl
  | _, _, .cons n t r => congrArg (· + 1) (ints_len r)
section
variable {prog : Program} {w : World} {A : Around} {E : Value → Shared → Prop} {s : Shared} {h₀ : Heap} {L a b : Addr} {m : Str → Option Value} {news : List (Addr × Obj)} {Q : Value → Shared → Prop}
theorem ne_ints {vs us : List Value} {ns : List Int} {k k' : Nat} (N : News h₀ L s.heap news) (ha : (a, ({ cls := .type "list", data := .seq vs.toArray k } : Obj)) ∈ news) (hb : (b, ({ cls := .type "list", data := .seq us.toArray k' } : Obj)) ∈ news) (hu : A.units < cLine)
    (h1 : IntsAre vs ns) (h2 : IntsAre us ns) (h : Q (.bool false) s) : wpAny (model prog w) A (compareOp .NotEq (.ref a) (.ref b)) Q E s := by
  show wpAny _ _ (richCompare .NotEq (.ref a) (.ref b)) _ _ _
  have e := RcNeAt.lists (A := A) (s := s) (items := vs.toArray) (items2 := us.toArray) (e := fun _ => true) ⟨_, (N _ ha).1, rfl, _, rfl⟩ ⟨_, (N _ hb).1, rfl, _, rfl⟩ (by rw [List.size_toArray, List.size_toArray, ints_len h1, ints_len h2]) hu (fun j q1 q2 => by
    obtain ⟨t1, e1⟩ := ints_get h1 j (by simpa using q1)
    obtain ⟨t2, e2⟩ := ints_get h2 j (by simpa using q2)
    rw [List.getElem_toArray, List.getElem_toArray, e1, e2]
    have := EqAt.int_int (A := A.in1) (s := s) (ns.getD j 0) t1 (ns.getD j 0) t2
    rw [beq_self_eq_true] at this; exact this)
  rw [show (!(List.range vs.toArray.size).all fun _ => true) = false by simp] at e
  exact e _ _ _ _ h
theorem ne_tup2 {x y : Int} {t1 t2 u1 u2 : Tok} (N : News h₀ L s.heap news) (ha : (a, ({ cls := .type "tuple", data := .seq #[.int x t1, .int y t2] } : Obj)) ∈ news) (hb : (b, ({ cls := .type "tuple", data := .seq #[.int x u1, .int y u2] } : Obj)) ∈ news) (hu : A.units < cLine)
    (h : Q (.bool false) s) : wpAny (model prog w) A (compareOp .NotEq (.ref a) (.ref b)) Q E s := by
  show wpAny _ _ (richCompare .NotEq (.ref a) (.ref b)) _ _ _
  have e := RcNeAt.tuples (A := A) (s := s) (items := #[.int x t1, .int y t2]) (items2 := #[.int x u1, .int y u2]) (e := fun _ => true) ⟨_, (N _ ha).1, rfl, 0, rfl⟩ ⟨_, (N _ hb).1, rfl, 0, rfl⟩ hu (fun j q1 q2 => by
    have h3 : j < 2 := q1
    rcases j with _ | _ | j
    · have := EqAt.int_int (A := A.in1) (s := s) x t1 x u1
      rw [beq_self_eq_true] at this; exact this
    · have := EqAt.int_int (A := A.in1) (s := s) y t2 y u2
      rw [beq_self_eq_true] at this; exact this
    · omega)
  exact e _ _ _ _ h
end
theorem made_apartL {h₀ h h' : Heap} {L : Addr} {news nw : List (Addr × Obj)} (N : News h₀ L h news) (M : Made h h' nw) : ∀ p ∈ news, ∀ q ∈ nw, @Ne Nat p.1 q.1 := by
  intro p hp q hq e
  have h1 := (N p hp).1
  have e' : p.1 = q.1 := e
  rw [e', (M q hq).2] at h1; cases h1
theorem tail_add {nw tl : List (Addr × Obj)} {S : Addr} (h : ∀ q ∈ nw, @Ne Nat S q.1) (k : ∀ p ∈ tl, p.1 ≠ S) : ∀ p ∈ nw ++ tl, p.1 ≠ S := fun p hp =>
  (List.mem_append.mp hp).elim (fun q => Ne.symm (h p q)) (k p)
/-- the corner as a number -/
noncomputable def cor (n : Int) : Nat := ((n.fdiv 96).fmod 3).toNat
theorem cor_eq (n : Int) : (n.fdiv 96).fmod 3 = (cor n : Int) ∧ cor n < 3 := by
  have a1 : 0 ≤ (n.fdiv 96).fmod 3 := Int.fmod_nonneg_of_pos _ (by omega)
  have a2 : (n.fdiv 96).fmod 3 < 3 := Int.fmod_lt_of_pos _ (by omega)
  unfold cor; omega
theorem c_ownersC {w : World} {mean : ExcName → Option Value} {mg mb : Str → Option Value} (n : Int) (tn : Tok) (y : Str) (ty : Tok) (hy : y.cps.size ≤ sizeLine) :
    Ct w mean mg mb 200 [.int n tn, .str y ty] 5 64 (fun _ => True) (fun h h' v => ∃ D ys, v = .ref D ∧ Made h h' [(D, LCg.lst ys)] ∧ IntsAre ys (rowOf (cor n) y.cps.toList)) :=
  c_owners n tn y ty (cor n) (cor_eq n).2 (cor_eq n).1 hy
/-- a sent row's owners -/
noncomputable def rowN (T : Nat) (n : Int) : List Int := rowOf (cor n) (dq T (wl T n))
theorem rowN_len {T : Nat} (n : Int) (h3 : wordLen T n + T < 5) : (rowN T n).length ≤ 4 := by
  rw [rowN, rowOf, List.length_map]
  have := dq_len T (wl T n)
  rw [wl_len] at this; omega
noncomputable def RowD (T : Nat) (n : Int) (tl : List (Addr × Obj)) (s w : Addr) : Prop :=
  (∃ vs, IntsAre vs (rowN T n) ∧ (s, LCg.lst vs) ∈ tl) ∧ ∃ as : List Addr, (w, W.listOf (as.map Value.ref).toArray (rowN T n).length) ∈ tl ∧ as.length = (rowN T n).length + 1 ∧
    ∀ (j : Nat) (a : Addr) (ww : Int × Int), as[j]? = some a → (wSt (rowN T n) (rowN T n).length).ws[j]? = some ww → ∃ o, (a, o) ∈ tl ∧ IsTup2 o ww
theorem RowD.mono {T : Nat} {n : Int} {tl tl' : List (Addr × Obj)} {s w : Addr} (x : RowD T n tl s w) (h : ∀ p ∈ tl, p ∈ tl') : RowD T n tl' s w := by
  obtain ⟨⟨vs, i, hm⟩, as, h1, h2, h3⟩ := x
  exact ⟨⟨vs, i, h _ hm⟩, as, h _ h1, h2, fun j a ww e f => let ⟨o, ho, q⟩ := h3 j a ww e f; ⟨o, h _ ho, q⟩⟩
/-- what holds between the turns over the three rows -/
noncomputable def RJ (T : Nat) (ns3 : List Int) (S Wt Cc : Addr) (base : List (Addr × Obj)) (ml : List (Str × Value)) (i : Nat) (m : Str → Option Value) (nx : List (Addr × Obj)) : Prop :=
  ∃ (ss ws : List Addr) (oc : Obj) (tl : List (Addr × Obj)) (v : Option Value), nx = (S, W.listOf (ss.map Value.ref).toArray i) :: (Wt, W.listOf (ws.map Value.ref).toArray i) :: (Cc, oc) :: tl ∧ ss.length = i ∧ ws.length = i ∧ oc.data = Data.cell v ∧
    (∀ p ∈ tl, p.1 ≠ S) ∧ (∀ p ∈ tl, p.1 ≠ Wt) ∧ (∀ p ∈ tl, p.1 ≠ Cc) ∧ (∀ p ∈ base, p ∈ tl) ∧ (∀ (j : Nat) s w, ss[j]? = some s → ws[j]? = some w → RowD T (ns3.getD j 0) tl s w) ∧ Has m ml
theorem reorder {h₀ h : Heap} {L : Addr} {xW xS xR xDd xE xDw xD xl xC xT xs xc : Addr × Obj} (N : News h₀ L h [xW, xS, xR, xDd, xE, xDw, xD, xl, xC, xT, xs, xc]) : News h₀ L h (xS :: xW :: xC :: [xR, xDd, xDw, xD, xT]) := fun p hp => N p (by
  simp only [List.mem_cons, List.not_mem_nil, or_false] at hp ⊢
  rcases hp with h | h | h | h | h | h | h | h <;> simp [h])
theorem rj0 {T : Nat} {ns3 : List Int} {S Wt Cc : Addr} {oc : Obj} {v : Option Value} {xR xDd xDw xD xT : Addr × Obj} {ml : List (Str × Value)} {m : Str → Option Value} (hoc : oc.data = Data.cell v) (hS : ∀ p ∈ [xR, xDd, xDw, xD, xT], p.1 ≠ S) (hW : ∀ p ∈ [xR, xDd, xDw, xD, xT], p.1 ≠ Wt) (hC : ∀ p ∈ [xR, xDd, xDw, xD, xT], p.1 ≠ Cc) (hm : Has m ml) :
    RJ T ns3 S Wt Cc [xR, xDd, xDw, xD] ml 0 m ((S, W.listOf #[] 0) :: (Wt, W.listOf #[] 0) :: (Cc, oc) :: [xR, xDd, xDw, xD, xT]) :=
  ⟨[], [], oc, _, v, rfl, rfl, rfl, hoc, hS, hW, hC, (fun _ hp => List.mem_append_left [xT] hp), (fun _ _ _ e _ => nomatch e), hm⟩
theorem three_int {a b c nn : Int} {ta tb tc : Tok} {i : Nat} (hi : i < 3) (e : [a, b, c].getD i 0 = nn) : (#[Value.int a ta, .int b tb, .int c tc] : Array Value)[((i : Nat) : Int).toNat]? = some (.int nn ([ta, tb, tc].getD i 0)) := by
  subst e
  rcases i with _ | _ | _ | i
  · rfl
  · rfl
  · rfl
  · omega
theorem three_str {f : Int → Str} {a b c nn : Int} {ta tb tc : Tok} {i : Nat} (hi : i < 3) (e : [a, b, c].getD i 0 = nn) : (#[Value.str (f a) ta, .str (f b) tb, .str (f c) tc] : Array Value)[((i : Nat) : Int).toNat]? = some (.str (f nn) ([ta, tb, tc].getD i 0)) := by
  subst e
  rcases i with _ | _ | _ | i
  · rfl
  · rfl
  · rfl
  · omega
theorem push_at {l : List Addr} {i : Nat} {x : Value} (h : l.length = i) : ((l.map Value.ref).toArray.push x)[((i : Nat) : Int).toNat]? = some x := by
  rw [Int.toNat_natCast, Array.getElem?_push, List.size_toArray, List.length_map, h, if_pos rfl]
theorem last_at {l : List Addr} {n : Nat} {a : Addr} (h : l.length = n + 1) (e : l[n]? = some a) : ((l.map Value.ref).toArray)[((l.map Value.ref).toArray).size - 1]? = some (.ref a) := by
  rw [List.size_toArray, List.length_map, h, Nat.add_sub_cancel, List.getElem?_toArray, List.getElem?_map, e]; rfl
theorem last_of {l : List Addr} {n : Nat} (h : l.length = n + 1) : ∃ a, l[n]? = some a := ⟨_, List.getElem?_eq_getElem (by omega)⟩
theorem nw5 {h₀ h : Heap} {L : Addr} {a b c d e : Addr × Obj} {nw tl : List (Addr × Obj)} (N : News h₀ L h (nw ++ (a :: b :: c :: d :: e :: tl))) : News h₀ L h (a :: b :: c :: d :: e :: (nw ++ tl)) := fun p hp => N p (by
  simp only [List.mem_cons, List.mem_append] at hp ⊢
  rcases hp with h | h | h | h | h | h | h <;> simp [h])
theorem off1_mem {D : Addr} : ∀ {l : List (Addr × Obj)}, LCg.Off1 D l → ∀ p ∈ l, @Ne Nat p.1 D
  | [], _, _, h => nomatch h
  | _ :: _, x, p, h => by
    rcases List.mem_cons.mp h with rfl | h
    · exact x.1
    · exact off1_mem x.2 p h
theorem news_two {h₀ h : Heap} {L : Addr} {x y : Addr × Obj} {nw rest : List (Addr × Obj)} (N : News h₀ L h (nw ++ rest)) (h1 : x ∈ nw) (h2 : y ∈ nw) : News h₀ L h (x :: y :: rest) := fun p hp => N p (by
  rcases List.mem_cons.mp hp with rfl | hp
  · exact List.mem_append_left _ h1
  rcases List.mem_cons.mp hp with rfl | hp
  · exact List.mem_append_left _ h2
  · exact List.mem_append_right _ hp)
theorem ne_tup2E {prog : Program} {w : World} {A : Around} {E : Value → Shared → Prop} {s : Shared} {h₀ : Heap} {L a b : Addr} {news : List (Addr × Obj)} {Q : Value → Shared → Prop} {x y x' y' : Int} {t1 t2 u1 u2 : Tok} (N : News h₀ L s.heap news) (ha : (a, ({ cls := .type "tuple", data := .seq #[.int x t1, .int y t2] } : Obj)) ∈ news) (hb : (b, ({ cls := .type "tuple", data := .seq #[.int x' u1, .int y' u2] } : Obj)) ∈ news) (hu : A.units < cLine)
    (e1 : x = x') (e2 : y = y') (h : Q (.bool false) s) : wpAny (model prog w) A (compareOp .NotEq (.ref a) (.ref b)) Q E s := by
  subst e1 e2; exact ne_tup2 N ha hb hu h
end
theorem resetPw : True := by w_top off; trivial
section
/-- the worth of the first k signs of a stalk: the number, in eighths, and the heap -/
noncomputable def numW (s : List Int) (k : Nat) : Int := ((wSt s s.length).ws.getD k (0, 0)).1
noncomputable def heapW (s : List Int) (k : Nat) : Int := ((wSt s s.length).ws.getD k (0, 0)).2
/-- every stalk of up to four signs -/
noncomputable def listsUpTo : Nat → List (List Int)
  | 0 => [[]]
  | n + 1 => [] :: ((listsUpTo n).map (0 :: ·) ++ (listsUpTo n).map (2 :: ·))
noncomputable def greens : List (List Int) := (List.range 5).map fun k => List.replicate k 1
noncomputable def stalks : List (List Int) := listsUpTo 4 ++ greens
theorem listsUpTo_mem : ∀ (n : Nat) (s : List Int), s.length ≤ n → (∀ c ∈ s, c = 0 ∨ c = 2) → s ∈ listsUpTo n
  | 0, [], _, _ => List.mem_singleton.mpr rfl
  | 0, _ :: _, h, _ => absurd h (by simp)
  | n + 1, [], _, _ => List.mem_cons_self
  | n + 1, c :: r, h, hc => by
    have ih := listsUpTo_mem n r (by simpa using h) fun d hd => hc d (List.mem_cons_of_mem _ hd)
    refine List.mem_cons_of_mem _ (List.mem_append.mpr ?_)
    rcases hc c List.mem_cons_self with rfl | rfl
    · exact .inl (List.mem_map.mpr ⟨r, ih, rfl⟩)
    · exact .inr (List.mem_map.mpr ⟨r, ih, rfl⟩)
theorem stalks_mem {c : Nat} (hc : c < 3) (x : List Nat) (hx : x.length ≤ 4) : rowOf c x ∈ stalks := by
  have hl : (rowOf c x).length ≤ 4 := by rw [rowOf, List.length_map]; exact hx
  rcases (show c = 0 ∨ c = 1 ∨ c = 2 by omega) with rfl | rfl | rfl
  · refine List.mem_append_left _ (listsUpTo_mem 4 _ hl fun d hd => ?_)
    obtain ⟨y, _, rfl⟩ := List.mem_map.mp hd
    split <;> simp
  · refine List.mem_append_right _ (List.mem_map.mpr ⟨x.length, List.mem_range.mpr (by omega), ?_⟩)
    refine Eq.symm (List.eq_replicate_iff.mpr ⟨by rw [rowOf, List.length_map], fun d hd => ?_⟩)
    obtain ⟨y, _, rfl⟩ := List.mem_map.mp hd
    split <;> rfl
  · refine List.mem_append_left _ (listsUpTo_mem 4 _ hl fun d hd => ?_)
    obtain ⟨y, _, rfl⟩ := List.mem_map.mp hd
    split <;> simp
/-- a number's finest part, as a divisor of eight -/
noncomputable def unitOf (x : Int) : Int := if x % 8 = 0 then 8 else if x % 4 = 0 then 4 else if x % 2 = 0 then 2 else 1
noncomputable def cutB (s : List Int) (k j : Nat) : Bool :=
  let v := s.getD j 0
  let xj := numW s j; let xk := numW s k; let hj := heapW s j; let hk := heapW s k
  ((!decide (0 < v)) || (decide (xj < xk) && decide (hj = hk)) || (decide (xj = xk) && decide (hj ≠ hk) && decide (v < 2))) &&
  ((!decide (v < 2)) || (decide (xk < xj) && decide (hj = hk)) || (decide (xj = xk) && decide (hj ≠ hk) && decide (0 < v)))
noncomputable def atB (s : List Int) (k : Nat) : Bool :=
  let xk := numW s k; let hk := heapW s k; let u := unitOf xk
  decide (0 ≤ hk) && decide (hk ≤ 4) && (List.range k).all (cutB s k) &&
  (List.range hk.toNat).all (fun t => (List.range k).any fun j => decide (s.getD j 0 = 1) && decide (numW s j = xk) && decide (heapW s j = (t : Int))) &&
  ((!(decide (u < 8) || decide (0 < xk))) || (List.range k).any fun j => decide (0 < s.getD j 0) && decide (numW s j = xk - u) && decide (heapW s j = hk)) &&
  ((!(decide (u < 8) || decide (xk < 0))) || (List.range k).any fun j => decide (s.getD j 0 < 2) && decide (numW s j = xk + u) && decide (heapW s j = hk))
noncomputable def stalkB (s : List Int) : Bool := (List.range (s.length + 1)).all (atB s)
theorem stalks_ok : stalks.all stalkB = true := by decide +kernel
structure At (s : List Int) (k : Nat) : Prop where
  h0 : 0 ≤ heapW s k ∧ heapW s k ≤ 4
  left : ∀ j, j < k → 0 < s.getD j 0 → (numW s j < numW s k ∧ heapW s j = heapW s k) ∨ (numW s j = numW s k ∧ heapW s j ≠ heapW s k)
  right : ∀ j, j < k → s.getD j 0 < 2 → (numW s k < numW s j ∧ heapW s j = heapW s k) ∨ (numW s j = numW s k ∧ heapW s j ≠ heapW s k)
  nim : ∀ t : Int, 0 ≤ t → t < heapW s k → ∃ j, j < k ∧ s.getD j 0 = 1 ∧ numW s j = numW s k ∧ heapW s j = t
  goL : unitOf (numW s k) < 8 ∨ 0 < numW s k → ∃ j, j < k ∧ 0 < s.getD j 0 ∧ numW s j = numW s k - unitOf (numW s k) ∧ heapW s j = heapW s k
  goR : unitOf (numW s k) < 8 ∨ numW s k < 0 → ∃ j, j < k ∧ s.getD j 0 < 2 ∧ numW s j = numW s k + unitOf (numW s k) ∧ heapW s j = heapW s k
theorem at_of_mem {s : List Int} (hs : s ∈ stalks) {k : Nat} (hk : k ≤ s.length) : At s k := by
  have h1 := List.all_eq_true.mp stalks_ok s hs
  have h2 := List.all_eq_true.mp h1 k (List.mem_range.mpr (by omega))
  simp only [atB, Bool.and_eq_true] at h2
  obtain ⟨⟨⟨⟨⟨a1, a2⟩, a3⟩, a4⟩, a5⟩, a6⟩ := h2
  have a1 := of_decide_eq_true a1
  have a2 := of_decide_eq_true a2
  have cut : ∀ j, j < k → cutB s k j = true := fun j hj => List.all_eq_true.mp a3 j (List.mem_range.mpr hj)
  refine ⟨⟨a1, a2⟩, fun j hj hv => ?_, fun j hj hv => ?_, fun t t0 ht => ?_, fun h => ?_, fun h => ?_⟩
  · have c := cut j hj
    simp only [cutB, Bool.and_eq_true, Bool.or_eq_true, Bool.not_eq_true', decide_eq_true_eq, decide_eq_false_iff_not] at c
    rcases c.1 with (c | c) | c
    · exact absurd hv c
    · exact .inl c
    · exact .inr c.1
  · have c := cut j hj
    simp only [cutB, Bool.and_eq_true, Bool.or_eq_true, Bool.not_eq_true', decide_eq_true_eq, decide_eq_false_iff_not] at c
    rcases c.2 with (c | c) | c
    · exact absurd hv c
    · exact .inl c
    · exact .inr c.1
  · have c := List.all_eq_true.mp a4 t.toNat (List.mem_range.mpr (by omega))
    obtain ⟨j, hj, e⟩ := List.any_eq_true.mp c
    simp only [Bool.and_eq_true, decide_eq_true_eq] at e
    exact ⟨j, List.mem_range.mp hj, e.1.1, e.1.2, by rw [e.2]; omega⟩
  · rw [Bool.or_eq_true] at a5
    rcases a5 with a5 | a5
    · exfalso
      simp only [Bool.not_eq_true', Bool.or_eq_false_iff, decide_eq_false_iff_not] at a5
      exact h.elim a5.1 a5.2
    · obtain ⟨j, hj, e⟩ := List.any_eq_true.mp a5
      simp only [Bool.and_eq_true, decide_eq_true_eq] at e
      exact ⟨j, List.mem_range.mp hj, e.1.1, e.1.2, e.2⟩
  · rw [Bool.or_eq_true] at a6
    rcases a6 with a6 | a6
    · exfalso
      simp only [Bool.not_eq_true', Bool.or_eq_false_iff, decide_eq_false_iff_not] at a6
      exact h.elim a6.1 a6.2
    · obtain ⟨j, hj, e⟩ := List.any_eq_true.mp a6
      simp only [Bool.and_eq_true, decide_eq_true_eq] at e
      exact ⟨j, List.mem_range.mp hj, e.1.1, e.1.2, e.2⟩
noncomputable def sumW (s0 s1 s2 : List Int) (a b c : Nat) : Int := numW s0 a + numW s1 b + numW s2 c
noncomputable def xorW (s0 s1 s2 : List Int) (a b c : Nat) : Int := Builtin.bitXor (Builtin.bitXor (heapW s0 a) (heapW s1 b)) (heapW s2 c)
noncomputable def P0 (s0 s1 s2 : List Int) (a b c : Nat) : Bool := decide (0 < sumW s0 s1 s2 a b c) || (decide (sumW s0 s1 s2 a b c = 0) && decide (xorW s0 s1 s2 a b c ≠ 0))
noncomputable def P1 (s0 s1 s2 : List Int) (a b c : Nat) : Bool := decide (sumW s0 s1 s2 a b c < 0) || (decide (sumW s0 s1 s2 a b c = 0) && decide (xorW s0 s1 s2 a b c ≠ 0))
noncomputable def x3 (a b c : Nat) : Int := Builtin.bitXor (Builtin.bitXor (a : Int) (b : Int)) (c : Int)
noncomputable def nimB (a b c : Nat) : Bool :=
  (decide (x3 a b c = 0) || (List.range a).any (fun t => decide (x3 t b c = 0)) || (List.range b).any (fun t => decide (x3 a t c = 0)) || (List.range c).any (fun t => decide (x3 a b t = 0))) &&
  (!decide (x3 a b c = 0) || (List.range 5).all fun t => (decide (t = a) || decide (x3 t b c ≠ 0)) && (decide (t = b) || decide (x3 a t c ≠ 0)) && (decide (t = c) || decide (x3 a b t ≠ 0)))
theorem nim_all : ∀ a : Nat, a < 5 → ∀ b : Nat, b < 5 → ∀ c : Nat, c < 5 → nimB a b c = true := by decide +kernel
theorem nim_fin (a : Nat) (ha : a < 5) (b : Nat) (hb : b < 5) (c : Nat) (hc : c < 5) :
    (x3 a b c ≠ 0 → (∃ t, t < a ∧ x3 t b c = 0) ∨ (∃ t, t < b ∧ x3 a t c = 0) ∨ (∃ t, t < c ∧ x3 a b t = 0)) ∧
    (x3 a b c = 0 → ∀ t : Nat, t < 5 → (t ≠ a → x3 t b c ≠ 0) ∧ (t ≠ b → x3 a t c ≠ 0) ∧ (t ≠ c → x3 a b t ≠ 0)) := by
  have h := nim_all a ha b hb c hc
  simp only [nimB, Bool.and_eq_true, Bool.or_eq_true, List.any_eq_true, List.all_eq_true, List.mem_range, decide_eq_true_eq, Bool.not_eq_true', decide_eq_false_iff_not] at h
  refine ⟨fun q => ?_, fun q t ht => ?_⟩
  · rcases h.1 with ((h | h) | h) | h
    · exact absurd h q
    · exact .inl h
    · exact .inr (.inl h)
    · exact .inr (.inr h)
  · rcases h.2 with h | h
    · exact absurd q h
    · obtain ⟨⟨h1, h2⟩, h3⟩ := h t ht
      exact ⟨fun n => h1.elim (fun e => absurd e n) id, fun n => h2.elim (fun e => absurd e n) id, fun n => h3.elim (fun e => absurd e n) id⟩
theorem nim_go {a b c : Int} (ha : 0 ≤ a ∧ a ≤ 4) (hb : 0 ≤ b ∧ b ≤ 4) (hc : 0 ≤ c ∧ c ≤ 4) (h : Builtin.bitXor (Builtin.bitXor a b) c ≠ 0) :
    (∃ t, 0 ≤ t ∧ t < a ∧ Builtin.bitXor (Builtin.bitXor t b) c = 0) ∨ (∃ t, 0 ≤ t ∧ t < b ∧ Builtin.bitXor (Builtin.bitXor a t) c = 0) ∨ (∃ t, 0 ≤ t ∧ t < c ∧ Builtin.bitXor (Builtin.bitXor a b) t = 0) := by
  obtain ⟨a, rfl⟩ := Int.eq_ofNat_of_zero_le ha.1
  obtain ⟨b, rfl⟩ := Int.eq_ofNat_of_zero_le hb.1
  obtain ⟨c, rfl⟩ := Int.eq_ofNat_of_zero_le hc.1
  rcases (nim_fin a (by omega) b (by omega) c (by omega)).1 h with ⟨t, h1, h2⟩ | ⟨t, h1, h2⟩ | ⟨t, h1, h2⟩
  · exact .inl ⟨t, by omega, by omega, h2⟩
  · exact .inr (.inl ⟨t, by omega, by omega, h2⟩)
  · exact .inr (.inr ⟨t, by omega, by omega, h2⟩)
theorem nim_no {a b c t : Int} (ha : 0 ≤ a ∧ a ≤ 4) (hb : 0 ≤ b ∧ b ≤ 4) (hc : 0 ≤ c ∧ c ≤ 4) (ht : 0 ≤ t ∧ t ≤ 4) (h : Builtin.bitXor (Builtin.bitXor a b) c = 0) :
    (t ≠ a → Builtin.bitXor (Builtin.bitXor t b) c ≠ 0) ∧ (t ≠ b → Builtin.bitXor (Builtin.bitXor a t) c ≠ 0) ∧ (t ≠ c → Builtin.bitXor (Builtin.bitXor a b) t ≠ 0) := by
  obtain ⟨a, rfl⟩ := Int.eq_ofNat_of_zero_le ha.1
  obtain ⟨b, rfl⟩ := Int.eq_ofNat_of_zero_le hb.1
  obtain ⟨c, rfl⟩ := Int.eq_ofNat_of_zero_le hc.1
  obtain ⟨t, rfl⟩ := Int.eq_ofNat_of_zero_le ht.1
  obtain ⟨h1, h2, h3⟩ := (nim_fin a (by omega) b (by omega) c (by omega)).2 h t (by omega)
  exact ⟨fun q => h1 (by omega), fun q => h2 (by omega), fun q => h3 (by omega)⟩
theorem unit_cases (x : Int) : (unitOf x = 8 ∧ x % 8 = 0) ∨ (unitOf x = 4 ∧ x % 4 = 0) ∨ (unitOf x = 2 ∧ x % 2 = 0) ∨ unitOf x = 1 := by
  unfold unitOf
  split
  · exact .inl ⟨rfl, by assumption⟩
  split
  · exact .inr (.inl ⟨rfl, by assumption⟩)
  split
  · exact .inr (.inr (.inl ⟨rfl, by assumption⟩))
  · exact .inr (.inr (.inr rfl))
theorem unit_mem (x : Int) : unitOf x = 1 ∨ unitOf x = 2 ∨ unitOf x = 4 ∨ unitOf x = 8 := by
  rcases unit_cases x with ⟨e, _⟩ | ⟨e, _⟩ | ⟨e, _⟩ | e <;> rw [e] <;> decide
theorem unit_dvd {x u : Int} (hu : u = 1 ∨ u = 2 ∨ u = 4 ∨ u = 8) (h : u ≤ unitOf x) : x % u = 0 := by
  rcases unit_cases x with ⟨e, d⟩ | ⟨e, d⟩ | ⟨e, d⟩ | e <;> rw [e] at h <;> rcases hu with rfl | rfl | rfl | rfl <;> omega
theorem least_go {u x y z : Int} (hu : u = 1 ∨ u = 2 ∨ u = 4 ∨ u = 8) (h1 : x % u = 0) (h2 : y % u = 0) (h3 : z % u = 0) (h : 0 < x + y + z) : u ≤ x + y + z := by
  rcases hu with rfl | rfl | rfl | rfl <;> omega
theorem num_le (x y z : Int) (h : 0 < x + y + z) (hy : unitOf x ≤ unitOf y) (hz : unitOf x ≤ unitOf z) : unitOf x ≤ x + y + z :=
  least_go (unit_mem x) (unit_dvd (unit_mem x) (Int.le_refl _)) (unit_dvd (unit_mem x) hy) (unit_dvd (unit_mem x) hz) h
theorem num_min (x y z : Int) (h : 0 < x + y + z) (hy : unitOf x ≤ unitOf y) (hz : unitOf x ≤ unitOf z) :
    ((unitOf x < 8 ∨ 0 < x) ∧ unitOf x ≤ x + y + z) ∨ ((unitOf y < 8 ∨ 0 < y) ∧ unitOf y ≤ x + y + z) ∨ ((unitOf z < 8 ∨ 0 < z) ∧ unitOf z ≤ x + y + z) := by
  have b := num_le x y z h hy hz
  have le8 : ∀ v, unitOf v ≤ 8 := fun v => by rcases unit_mem v with e | e | e | e <;> rw [e] <;> decide
  rcases Int.lt_or_le (unitOf x) 8 with c | c
  · exact .inl ⟨.inl c, b⟩
  · have ex : unitOf x = 8 := Int.le_antisymm (le8 x) c
    have ey : unitOf y = 8 := Int.le_antisymm (le8 y) (Int.le_trans c hy)
    have ez : unitOf z = 8 := Int.le_antisymm (le8 z) (Int.le_trans c hz)
    rw [ex] at b
    rw [ex, ey, ez]
    clear ex ey ez c hy hz le8
    rcases Int.lt_or_le 0 x with p | p
    · exact .inl ⟨.inr p, b⟩
    rcases Int.lt_or_le 0 y with q | q
    · exact .inr (.inl ⟨.inr q, b⟩)
    exact .inr (.inr ⟨.inr (by omega), b⟩)
theorem num_lt (x y z : Int) (h : 0 < x + y + z) :
    ((unitOf x < 8 ∨ 0 < x) ∧ unitOf x ≤ x + y + z) ∨ ((unitOf y < 8 ∨ 0 < y) ∧ unitOf y ≤ x + y + z) ∨ ((unitOf z < 8 ∨ 0 < z) ∧ unitOf z ≤ x + y + z) := by
  have ey : y + x + z = x + y + z := by rw [Int.add_comm y x]
  have ez : z + x + y = x + y + z := by rw [Int.add_assoc z, Int.add_comm z]
  have gy := num_min y x z (by rw [ey]; exact h)
  have gz := num_min z x y (by rw [ez]; exact h)
  rw [ey] at gy
  rw [ez] at gz
  have fy : unitOf y ≤ unitOf x → unitOf y ≤ unitOf z → _ := fun a b => or_left_comm.mp (gy a b)
  have fz : unitOf z ≤ unitOf x → unitOf z ≤ unitOf y → _ := fun a b => or_rotate.mp (gz a b)
  rcases Int.le_total (unitOf x) (unitOf y) with c | c
  · rcases Int.le_total (unitOf x) (unitOf z) with d | d
    · exact num_min x y z h c d
    · exact fz d (Int.le_trans d c)
  · rcases Int.le_total (unitOf y) (unitOf z) with d | d
    · exact fy c d
    · exact fz (Int.le_trans d c) d
theorem unit_neg (x : Int) : unitOf (-x) = unitOf x := by
  unfold unitOf
  by_cases h8 : x % 8 = 0
  · rw [if_pos h8, if_pos (by omega)]
  rw [if_neg h8, if_neg (by omega)]
  by_cases h4 : x % 4 = 0
  · rw [if_pos h4, if_pos (by omega)]
  rw [if_neg h4, if_neg (by omega)]
  by_cases h2 : x % 2 = 0
  · rw [if_pos h2, if_pos (by omega)]
  · rw [if_neg h2, if_neg (by omega)]
/-- with a sum above nought one of the three has a step down that the sum bears -/
theorem num_go (x y z : Int) (h : 0 < x + y + z) :
    ((unitOf x < 8 ∨ 0 < x) ∧ 0 ≤ x - unitOf x + y + z) ∨ ((unitOf y < 8 ∨ 0 < y) ∧ 0 ≤ x + (y - unitOf y) + z) ∨ ((unitOf z < 8 ∨ 0 < z) ∧ 0 ≤ x + y + (z - unitOf z)) := by
  rcases num_lt x y z h with ⟨a, b⟩ | ⟨a, b⟩ | ⟨a, b⟩
  · exact .inl ⟨a, by omega⟩
  · exact .inr (.inl ⟨a, by omega⟩)
  · exact .inr (.inr ⟨a, by omega⟩)
theorem num_goR (x y z : Int) (h : x + y + z < 0) :
    ((unitOf x < 8 ∨ x < 0) ∧ x + unitOf x + y + z ≤ 0) ∨ ((unitOf y < 8 ∨ y < 0) ∧ x + (y + unitOf y) + z ≤ 0) ∨ ((unitOf z < 8 ∨ z < 0) ∧ x + y + (z + unitOf z) ≤ 0) := by
  have g := num_lt (-x) (-y) (-z) (by omega)
  rw [unit_neg, unit_neg, unit_neg] at g
  rcases g with ⟨a, b⟩ | ⟨a, b⟩ | ⟨a, b⟩
  · exact .inl ⟨a.imp id (by omega), by omega⟩
  · exact .inr (.inl ⟨a.imp id (by omega), by omega⟩)
  · exact .inr (.inr ⟨a.imp id (by omega), by omega⟩)
theorem p0_true {s0 s1 s2 : List Int} {a b c : Nat} : P0 s0 s1 s2 a b c = true ↔ 0 < sumW s0 s1 s2 a b c ∨ (sumW s0 s1 s2 a b c = 0 ∧ xorW s0 s1 s2 a b c ≠ 0) := by
  unfold P0; simp
theorem p1_true {s0 s1 s2 : List Int} {a b c : Nat} : P1 s0 s1 s2 a b c = true ↔ sumW s0 s1 s2 a b c < 0 ∨ (sumW s0 s1 s2 a b c = 0 ∧ xorW s0 s1 s2 a b c ≠ 0) := by
  unfold P1; simp
theorem p0_false {s0 s1 s2 : List Int} {a b c : Nat} : P0 s0 s1 s2 a b c = false ↔ sumW s0 s1 s2 a b c < 0 ∨ (sumW s0 s1 s2 a b c = 0 ∧ xorW s0 s1 s2 a b c = 0) := by
  rw [← Bool.not_eq_true, p0_true]
  constructor
  · intro h
    by_cases q : xorW s0 s1 s2 a b c = 0
    · by_cases q2 : sumW s0 s1 s2 a b c < 0
      · exact .inl q2
      · exact .inr ⟨by omega, q⟩
    · have h1 : ¬ 0 < sumW s0 s1 s2 a b c := fun w => h (.inl w)
      have h2 : ¬ sumW s0 s1 s2 a b c = 0 := fun w => h (.inr ⟨w, q⟩)
      exact .inl (by omega)
  · rintro (h | ⟨h, h'⟩) (k | ⟨k, k'⟩)
    · omega
    · omega
    · omega
    · exact k' h'
theorem p1_false {s0 s1 s2 : List Int} {a b c : Nat} : P1 s0 s1 s2 a b c = false ↔ 0 < sumW s0 s1 s2 a b c ∨ (sumW s0 s1 s2 a b c = 0 ∧ xorW s0 s1 s2 a b c = 0) := by
  rw [← Bool.not_eq_true, p1_true]
  constructor
  · intro h
    by_cases q : xorW s0 s1 s2 a b c = 0
    · by_cases q2 : 0 < sumW s0 s1 s2 a b c
      · exact .inl q2
      · exact .inr ⟨by have : ¬ sumW s0 s1 s2 a b c < 0 := fun w => h (.inl w); omega, q⟩
    · have h1 : ¬ sumW s0 s1 s2 a b c < 0 := fun w => h (.inl w)
      have h2 : ¬ sumW s0 s1 s2 a b c = 0 := fun w => h (.inr ⟨w, q⟩)
      exact .inl (by omega)
  · rintro (h | ⟨h, h'⟩) (k | ⟨k, k'⟩)
    · omega
    · omega
    · omega
    · exact k' h'
section
variable {s0 s1 s2 : List Int} {a b c : Nat} (A : At s0 a) (B : At s1 b) (C : At s2 c)
include A B C
theorem xor_zero (ha : heapW s0 a = 0) (hb : heapW s1 b = 0) (hc : heapW s2 c = 0) : xorW s0 s1 s2 a b c = 0 := by
  unfold xorW; rw [ha, hb, hc]; decide
theorem win_left (h : P0 s0 s1 s2 a b c = true) :
    (∃ j, j < a ∧ 0 < s0.getD j 0 ∧ P1 s0 s1 s2 j b c = false) ∨ (∃ j, j < b ∧ 0 < s1.getD j 0 ∧ P1 s0 s1 s2 a j c = false) ∨ (∃ j, j < c ∧ 0 < s2.getD j 0 ∧ P1 s0 s1 s2 a b j = false) := by
  by_cases hx : xorW s0 s1 s2 a b c = 0
  · have hs : 0 < sumW s0 s1 s2 a b c := (p0_true.mp h).elim id fun q => absurd hx q.2
    rcases num_go _ _ _ hs with ⟨g, k⟩ | ⟨g, k⟩ | ⟨g, k⟩
    · obtain ⟨j, h1, h2, h3, h4⟩ := A.goL g
      refine .inl ⟨j, h1, h2, p1_false.mpr ?_⟩
      have e1 : sumW s0 s1 s2 j b c = numW s0 a - unitOf (numW s0 a) + numW s1 b + numW s2 c := by unfold sumW; rw [h3]
      have e2 : xorW s0 s1 s2 j b c = 0 := by unfold xorW at hx ⊢; rw [h4]; exact hx
      rw [e1, e2]; omega
    · obtain ⟨j, h1, h2, h3, h4⟩ := B.goL g
      refine .inr (.inl ⟨j, h1, h2, p1_false.mpr ?_⟩)
      have e1 : sumW s0 s1 s2 a j c = numW s0 a + (numW s1 b - unitOf (numW s1 b)) + numW s2 c := by unfold sumW; rw [h3]
      have e2 : xorW s0 s1 s2 a j c = 0 := by unfold xorW at hx ⊢; rw [h4]; exact hx
      rw [e1, e2]; omega
    · obtain ⟨j, h1, h2, h3, h4⟩ := C.goL g
      refine .inr (.inr ⟨j, h1, h2, p1_false.mpr ?_⟩)
      have e1 : sumW s0 s1 s2 a b j = numW s0 a + numW s1 b + (numW s2 c - unitOf (numW s2 c)) := by unfold sumW; rw [h3]
      have e2 : xorW s0 s1 s2 a b j = 0 := by unfold xorW at hx ⊢; rw [h4]; exact hx
      rw [e1, e2]; omega
  · have hs : 0 ≤ sumW s0 s1 s2 a b c := (p0_true.mp h).elim (fun q => by omega) fun q => by omega
    rcases nim_go A.h0 B.h0 C.h0 hx with ⟨t, t0, ht, e⟩ | ⟨t, t0, ht, e⟩ | ⟨t, t0, ht, e⟩
    · obtain ⟨j, h1, h2, h3, h4⟩ := A.nim t t0 ht
      refine .inl ⟨j, h1, by omega, p1_false.mpr ?_⟩
      have e1 : sumW s0 s1 s2 j b c = sumW s0 s1 s2 a b c := by unfold sumW; rw [h3]
      have e2 : xorW s0 s1 s2 j b c = 0 := by unfold xorW; rw [h4]; exact e
      rw [e1, e2]; omega
    · obtain ⟨j, h1, h2, h3, h4⟩ := B.nim t t0 ht
      refine .inr (.inl ⟨j, h1, by omega, p1_false.mpr ?_⟩)
      have e1 : sumW s0 s1 s2 a j c = sumW s0 s1 s2 a b c := by unfold sumW; rw [h3]
      have e2 : xorW s0 s1 s2 a j c = 0 := by unfold xorW; rw [h4]; exact e
      rw [e1, e2]; omega
    · obtain ⟨j, h1, h2, h3, h4⟩ := C.nim t t0 ht
      refine .inr (.inr ⟨j, h1, by omega, p1_false.mpr ?_⟩)
      have e1 : sumW s0 s1 s2 a b j = sumW s0 s1 s2 a b c := by unfold sumW; rw [h3]
      have e2 : xorW s0 s1 s2 a b j = 0 := by unfold xorW; rw [h4]; exact e
      rw [e1, e2]; omega
theorem win_right (h : P1 s0 s1 s2 a b c = true) :
    (∃ j, j < a ∧ s0.getD j 0 < 2 ∧ P0 s0 s1 s2 j b c = false) ∨ (∃ j, j < b ∧ s1.getD j 0 < 2 ∧ P0 s0 s1 s2 a j c = false) ∨ (∃ j, j < c ∧ s2.getD j 0 < 2 ∧ P0 s0 s1 s2 a b j = false) := by
  by_cases hx : xorW s0 s1 s2 a b c = 0
  · have hs : sumW s0 s1 s2 a b c < 0 := (p1_true.mp h).elim id fun q => absurd hx q.2
    rcases num_goR _ _ _ hs with ⟨g, k⟩ | ⟨g, k⟩ | ⟨g, k⟩
    · obtain ⟨j, h1, h2, h3, h4⟩ := A.goR g
      refine .inl ⟨j, h1, h2, p0_false.mpr ?_⟩
      have e1 : sumW s0 s1 s2 j b c = numW s0 a + unitOf (numW s0 a) + numW s1 b + numW s2 c := by unfold sumW; rw [h3]
      have e2 : xorW s0 s1 s2 j b c = 0 := by unfold xorW at hx ⊢; rw [h4]; exact hx
      rw [e1, e2]; omega
    · obtain ⟨j, h1, h2, h3, h4⟩ := B.goR g
      refine .inr (.inl ⟨j, h1, h2, p0_false.mpr ?_⟩)
      have e1 : sumW s0 s1 s2 a j c = numW s0 a + (numW s1 b + unitOf (numW s1 b)) + numW s2 c := by unfold sumW; rw [h3]
      have e2 : xorW s0 s1 s2 a j c = 0 := by unfold xorW at hx ⊢; rw [h4]; exact hx
      rw [e1, e2]; omega
    · obtain ⟨j, h1, h2, h3, h4⟩ := C.goR g
      refine .inr (.inr ⟨j, h1, h2, p0_false.mpr ?_⟩)
      have e1 : sumW s0 s1 s2 a b j = numW s0 a + numW s1 b + (numW s2 c + unitOf (numW s2 c)) := by unfold sumW; rw [h3]
      have e2 : xorW s0 s1 s2 a b j = 0 := by unfold xorW at hx ⊢; rw [h4]; exact hx
      rw [e1, e2]; omega
  · have hs : sumW s0 s1 s2 a b c ≤ 0 := (p1_true.mp h).elim (fun q => by omega) fun q => by omega
    rcases nim_go A.h0 B.h0 C.h0 hx with ⟨t, t0, ht, e⟩ | ⟨t, t0, ht, e⟩ | ⟨t, t0, ht, e⟩
    · obtain ⟨j, h1, h2, h3, h4⟩ := A.nim t t0 ht
      refine .inl ⟨j, h1, by omega, p0_false.mpr ?_⟩
      have e1 : sumW s0 s1 s2 j b c = sumW s0 s1 s2 a b c := by unfold sumW; rw [h3]
      have e2 : xorW s0 s1 s2 j b c = 0 := by unfold xorW; rw [h4]; exact e
      rw [e1, e2]; omega
    · obtain ⟨j, h1, h2, h3, h4⟩ := B.nim t t0 ht
      refine .inr (.inl ⟨j, h1, by omega, p0_false.mpr ?_⟩)
      have e1 : sumW s0 s1 s2 a j c = sumW s0 s1 s2 a b c := by unfold sumW; rw [h3]
      have e2 : xorW s0 s1 s2 a j c = 0 := by unfold xorW; rw [h4]; exact e
      rw [e1, e2]; omega
    · obtain ⟨j, h1, h2, h3, h4⟩ := C.nim t t0 ht
      refine .inr (.inr ⟨j, h1, by omega, p0_false.mpr ?_⟩)
      have e1 : sumW s0 s1 s2 a b j = sumW s0 s1 s2 a b c := by unfold sumW; rw [h3]
      have e2 : xorW s0 s1 s2 a b j = 0 := by unfold xorW; rw [h4]; exact e
      rw [e1, e2]; omega
theorem lose_left (hA : ∀ j, j < a → At s0 j) (hB : ∀ j, j < b → At s1 j) (hC : ∀ j, j < c → At s2 j) (h : P0 s0 s1 s2 a b c = false) :
    (∀ j, j < a → 0 < s0.getD j 0 → P1 s0 s1 s2 j b c = true) ∧ (∀ j, j < b → 0 < s1.getD j 0 → P1 s0 s1 s2 a j c = true) ∧ (∀ j, j < c → 0 < s2.getD j 0 → P1 s0 s1 s2 a b j = true) := by
  have h := p0_false.mp h
  refine ⟨fun j hj hv => p1_true.mpr ?_, fun j hj hv => p1_true.mpr ?_, fun j hj hv => p1_true.mpr ?_⟩
  · rcases A.left j hj hv with ⟨h1, h2⟩ | ⟨h1, h2⟩
    · left; unfold sumW at h ⊢; omega
    · rcases h with h | ⟨h, h'⟩
      · left; unfold sumW at h ⊢; omega
      · right; exact ⟨by unfold sumW at h ⊢; omega, (nim_no A.h0 B.h0 C.h0 (hA j hj).h0 h').1 h2⟩
  · rcases B.left j hj hv with ⟨h1, h2⟩ | ⟨h1, h2⟩
    · left; unfold sumW at h ⊢; omega
    · rcases h with h | ⟨h, h'⟩
      · left; unfold sumW at h ⊢; omega
      · right; exact ⟨by unfold sumW at h ⊢; omega, (nim_no A.h0 B.h0 C.h0 (hB j hj).h0 h').2.1 h2⟩
  · rcases C.left j hj hv with ⟨h1, h2⟩ | ⟨h1, h2⟩
    · left; unfold sumW at h ⊢; omega
    · rcases h with h | ⟨h, h'⟩
      · left; unfold sumW at h ⊢; omega
      · right; exact ⟨by unfold sumW at h ⊢; omega, (nim_no A.h0 B.h0 C.h0 (hC j hj).h0 h').2.2 h2⟩
theorem lose_right (hA : ∀ j, j < a → At s0 j) (hB : ∀ j, j < b → At s1 j) (hC : ∀ j, j < c → At s2 j) (h : P1 s0 s1 s2 a b c = false) :
    (∀ j, j < a → s0.getD j 0 < 2 → P0 s0 s1 s2 j b c = true) ∧ (∀ j, j < b → s1.getD j 0 < 2 → P0 s0 s1 s2 a j c = true) ∧ (∀ j, j < c → s2.getD j 0 < 2 → P0 s0 s1 s2 a b j = true) := by
  have h := p1_false.mp h
  refine ⟨fun j hj hv => p0_true.mpr ?_, fun j hj hv => p0_true.mpr ?_, fun j hj hv => p0_true.mpr ?_⟩
  · rcases A.right j hj hv with ⟨h1, h2⟩ | ⟨h1, h2⟩
    · left; unfold sumW at h ⊢; omega
    · rcases h with h | ⟨h, h'⟩
      · left; unfold sumW at h ⊢; omega
      · right; exact ⟨by unfold sumW at h ⊢; omega, (nim_no A.h0 B.h0 C.h0 (hA j hj).h0 h').1 h2⟩
  · rcases B.right j hj hv with ⟨h1, h2⟩ | ⟨h1, h2⟩
    · left; unfold sumW at h ⊢; omega
    · rcases h with h | ⟨h, h'⟩
      · left; unfold sumW at h ⊢; omega
      · right; exact ⟨by unfold sumW at h ⊢; omega, (nim_no A.h0 B.h0 C.h0 (hB j hj).h0 h').2.1 h2⟩
  · rcases C.right j hj hv with ⟨h1, h2⟩ | ⟨h1, h2⟩
    · left; unfold sumW at h ⊢; omega
    · rcases h with h | ⟨h, h'⟩
      · left; unfold sumW at h ⊢; omega
      · right; exact ⟨by unfold sumW at h ⊢; omega, (nim_no A.h0 B.h0 C.h0 (hC j hj).h0 h').2.2 h2⟩
end
/-- B' is B with the values w0, w1 at one spot -/
noncomputable def Upd (B : WB) (spot : Nat) (w0 w1 : Bool) (B' : WB) : Prop :=
  B'.1.length = 125 ∧ B'.2.length = 125 ∧ ∀ i, B'.1.getD i false = (if i = spot then w0 else B.1.getD i false) ∧ B'.2.getD i false = (if i = spot then w1 else B.2.getD i false)
theorem getD_set {l : List Bool} {n i : Nat} {x : Bool} (h : n < l.length) : (l.set n x).getD i false = if i = n then x else l.getD i false := by
  rw [List.getD_eq_getElem?_getD, List.getD_eq_getElem?_getD, List.getElem?_set]
  by_cases q : n = i
  · subst q; rw [if_pos rfl, if_pos rfl, if_pos h]; rfl
  · rw [if_neg q, if_neg (fun e => q e.symm)]
theorem upd_set {L l : List Bool} {n : Nat} {w : Bool} {p : Prop} [Decidable p] (hn : n < 125) (hl : l.length = 125) (h : ∀ i, l.getD i false = if i = n then w else L.getD i false) :
    (if p then l.set n true else l).length = 125 ∧ ∀ i, (if p then l.set n true else l).getD i false = if i = n then (w || decide p) else L.getD i false := by
  by_cases q : p
  · rw [if_pos q]
    refine ⟨by rw [List.length_set, hl], fun i => ?_⟩
    rw [getD_set (by omega)]
    by_cases e : i = n
    · rw [if_pos e, if_pos e, decide_eq_true q, Bool.or_true]
    · rw [if_neg e, if_neg e, h i, if_neg e]
  · rw [if_neg q]
    refine ⟨hl, fun i => ?_⟩
    rw [h i]
    by_cases e : i = n
    · rw [if_pos e, if_pos e, decide_eq_false q, Bool.or_false]
    · rw [if_neg e, if_neg e]
theorem cut_upd {B B' : WB} {spot : Nat} {w0 w1 : Bool} (U : Upd B spot w0 w1 B') (hs : spot < 125) {nsr : List Int} {ra sp p : Int} {cut rest : Nat} (esp : sp = (spot : Int)) (hr : (sp - (ra - (cut : Int)) * p).toNat = rest) (hlt : rest < spot) {q0 q1 : Bool}
    (e0 : B.1.getD rest false = q0) (e1 : B.2.getD rest false = q1) :
    Upd B spot (w0 || (decide (0 < nsr.getD cut 0) && !q1)) (w1 || (decide (nsr.getD cut 0 < 2) && !q0)) (cutStep nsr ra sp p B' cut) := by
  obtain ⟨l0, l1, h⟩ := U
  subst esp
  obtain ⟨a1, a2⟩ := upd_set (p := 0 < nsr.getD cut 0 ∧ B'.2.getD rest false = false) hs l0 fun i => (h i).1
  have hq1 : B'.2.getD rest false = q1 := by rw [(h rest).2, if_neg (by omega), e1]
  unfold cutStep
  dsimp only
  rw [hr, Int.toNat_natCast, Int.toNat_natCast]
  generalize (if 0 < nsr.getD cut 0 ∧ B'.2.getD rest false = false then B'.1.set spot true else B'.1) = C at a1 a2 ⊢
  have hq0 : C.getD rest false = q0 := by rw [a2 rest, if_neg (by omega), e0]
  obtain ⟨b1, b2⟩ := upd_set (p := nsr.getD cut 0 < 2 ∧ C.getD rest false = false) hs l1 fun i => (h i).2
  refine ⟨a1, b1, fun i => ⟨?_, ?_⟩⟩
  · rw [a2 i, hq1]
    congr 2
    cases q1 <;> simp
  · rw [b2 i, hq0]
    congr 2
    cases q0 <;> simp
theorem any_succ (n : Nat) (f : Nat → Bool) : (List.range (n + 1)).any f = ((List.range n).any f || f n) := by
  rw [List.range_succ, List.any_append]; simp
theorem cuts_upd {B B' : WB} {spot : Nat} {w0 w1 : Bool} (U : Upd B spot w0 w1 B') (hs : spot < 125) {nsr : List Int} {ra sp p : Int} (esp : sp = (spot : Int)) (rest : Nat → Nat) (q0 q1 : Nat → Bool) : ∀ (n : Nat),
    (∀ j, j < n → (sp - (ra - (j : Int)) * p).toNat = rest j ∧ rest j < spot ∧ B.1.getD (rest j) false = q0 j ∧ B.2.getD (rest j) false = q1 j) →
    Upd B spot (w0 || (List.range n).any fun j => decide (0 < nsr.getD j 0) && !q1 j) (w1 || (List.range n).any fun j => decide (nsr.getD j 0 < 2) && !q0 j) ((List.range n).foldl (cutStep nsr ra sp p) B')
  | 0, _ => by
    show Upd B spot (w0 || false) (w1 || false) B'
    rw [Bool.or_false, Bool.or_false]; exact U
  | n + 1, h => by
    rw [foldl_succ, any_succ, any_succ, ← Bool.or_assoc, ← Bool.or_assoc]
    obtain ⟨h1, h2, h3, h4⟩ := h n (Nat.lt_succ_self n)
    exact cut_upd (cuts_upd U hs esp rest q0 q1 n fun j hj => h j (by omega)) hs esp h1 h2 h3 h4
noncomputable def spotN (a b c : Nat) : Nat := 25 * a + 5 * b + c
/-- every position below n holds what the worths tell; the others nothing -/
noncomputable def Good (s0 s1 s2 : List Int) (n : Nat) (B : WB) : Prop :=
  B.1.length = 125 ∧ B.2.length = 125 ∧ ∀ a b c, a ≤ s0.length → b ≤ s1.length → c ≤ s2.length →
    B.1.getD (spotN a b c) false = (decide (spotN a b c < n) && P0 s0 s1 s2 a b c) ∧ B.2.getD (spotN a b c) false = (decide (spotN a b c < n) && P1 s0 s1 s2 a b c)
theorem spotN_inj {a b c a' b' c' : Nat} (h : b ≤ 4) (h2 : c ≤ 4) (h3 : b' ≤ 4) (h4 : c' ≤ 4) (e : spotN a b c = spotN a' b' c') : a = a' ∧ b = b' ∧ c = c' := by
  unfold spotN at e; omega
section
variable {s0 s1 s2 : List Int} (m0 : s0 ∈ stalks) (m1 : s1 ∈ stalks) (m2 : s2 ∈ stalks) (l0 : s0.length ≤ 4) (l1 : s1.length ≤ 4) (l2 : s2.length ≤ 4)
include m0 m1 m2 l0 l1 l2
theorem spot_good {a b c : Nat} (ha : a ≤ s0.length) (hb : b ≤ s1.length) (hc : c ≤ s2.length) {B : WB} (G : Good s0 s1 s2 (spotN a b c) B) : Good s0 s1 s2 (spotN a b c + 1) (spotStep [s0, s1, s2] a b B c) := by
  obtain ⟨g1, g2, g3⟩ := G
  have hs : spotN a b c < 125 := by unfold spotN; omega
  have U0 : Upd B (spotN a b c) false false B := ⟨g1, g2, fun i => by
    obtain ⟨e0, e1⟩ := g3 a b c ha hb hc
    rw [decide_eq_false (Nat.lt_irrefl _), Bool.false_and] at e0
    rw [decide_eq_false (Nat.lt_irrefl _), Bool.false_and] at e1
    by_cases q : i = spotN a b c
    · rw [q, if_pos rfl, if_pos rfl]; exact ⟨e0, e1⟩
    · rw [if_neg q, if_neg q]; exact ⟨rfl, rfl⟩⟩
  have look : ∀ a' b' c', a' ≤ s0.length → b' ≤ s1.length → c' ≤ s2.length → spotN a' b' c' < spotN a b c → B.1.getD (spotN a' b' c') false = P0 s0 s1 s2 a' b' c' ∧ B.2.getD (spotN a' b' c') false = P1 s0 s1 s2 a' b' c' := by
    intro a' b' c' h1 h2 h3 h4
    have := g3 a' b' c' h1 h2 h3
    rw [decide_eq_true h4, Bool.true_and, Bool.true_and] at this
    exact this
  have esp : (25 * (a : Int) + 5 * b + c) = ((spotN a b c : Nat) : Int) := by unfold spotN; omega
  have U1 := cuts_upd (nsr := s0) (ra := (a : Int)) (p := 25) U0 hs esp (fun j => spotN j b c) (fun j => P0 s0 s1 s2 j b c) (fun j => P1 s0 s1 s2 j b c) a fun j hj => ⟨by unfold spotN; omega, by unfold spotN; omega, look j b c (by omega) hb hc (by unfold spotN; omega)⟩
  have U2 := cuts_upd (nsr := s1) (ra := (b : Int)) (p := 5) U1 hs esp (fun j => spotN a j c) (fun j => P0 s0 s1 s2 a j c) (fun j => P1 s0 s1 s2 a j c) b fun j hj => ⟨by unfold spotN; omega, by unfold spotN; omega, look a j c ha (by omega) hc (by unfold spotN; omega)⟩
  have U3 := cuts_upd (nsr := s2) (ra := (c : Int)) (p := 1) U2 hs esp (fun j => spotN a b j) (fun j => P0 s0 s1 s2 a b j) (fun j => P1 s0 s1 s2 a b j) c fun j hj => ⟨by unfold spotN; omega, by unfold spotN; omega, look a b j ha hb (by omega) (by unfold spotN; omega)⟩
  have e : spotStep [s0, s1, s2] a b B c = (List.range c).foldl (cutStep s2 c (25 * (a : Int) + 5 * b + c) 1) ((List.range b).foldl (cutStep s1 b (25 * (a : Int) + 5 * b + c) 5) ((List.range a).foldl (cutStep s0 a (25 * (a : Int) + 5 * b + c) 25) B)) := rfl
  rw [e]
  generalize (List.range c).foldl (cutStep s2 c (25 * (a : Int) + 5 * b + c) 1) _ = B3 at U3 ⊢
  clear e U1 U2
  have A := at_of_mem m0 ha
  have B' := at_of_mem m1 hb
  have C := at_of_mem m2 hc
  have hA : ∀ j, j < a → At s0 j := fun j hj => at_of_mem m0 (by omega)
  have hB : ∀ j, j < b → At s1 j := fun j hj => at_of_mem m1 (by omega)
  have hC : ∀ j, j < c → At s2 j := fun j hj => at_of_mem m2 (by omega)
  have v0 : (((false || (List.range a).any fun j => decide (0 < s0.getD j 0) && !P1 s0 s1 s2 j b c) || (List.range b).any fun j => decide (0 < s1.getD j 0) && !P1 s0 s1 s2 a j c) || (List.range c).any fun j => decide (0 < s2.getD j 0) && !P1 s0 s1 s2 a b j) = P0 s0 s1 s2 a b c := by
    rw [Bool.eq_iff_iff]
    simp only [Bool.or_eq_true, List.any_eq_true, List.mem_range, Bool.and_eq_true, decide_eq_true_eq, Bool.not_eq_true', Bool.false_eq_true, false_or]
    constructor
    · intro h
      cases hp : P0 s0 s1 s2 a b c with
      | true => rfl
      | false =>
        exfalso
        obtain ⟨k1, k2, k3⟩ := lose_left A B' C hA hB hC hp
        rcases h with (⟨j, h1, h2, h3⟩ | ⟨j, h1, h2, h3⟩) | ⟨j, h1, h2, h3⟩
        · rw [k1 j h1 h2] at h3; cases h3
        · rw [k2 j h1 h2] at h3; cases h3
        · rw [k3 j h1 h2] at h3; cases h3
    · intro h
      rcases win_left A B' C h with q | q | q
      · exact .inl (.inl q)
      · exact .inl (.inr q)
      · exact .inr q
  have v1 : (((false || (List.range a).any fun j => decide (s0.getD j 0 < 2) && !P0 s0 s1 s2 j b c) || (List.range b).any fun j => decide (s1.getD j 0 < 2) && !P0 s0 s1 s2 a j c) || (List.range c).any fun j => decide (s2.getD j 0 < 2) && !P0 s0 s1 s2 a b j) = P1 s0 s1 s2 a b c := by
    rw [Bool.eq_iff_iff]
    simp only [Bool.or_eq_true, List.any_eq_true, List.mem_range, Bool.and_eq_true, decide_eq_true_eq, Bool.not_eq_true', Bool.false_eq_true, false_or]
    constructor
    · intro h
      cases hp : P1 s0 s1 s2 a b c with
      | true => rfl
      | false =>
        exfalso
        obtain ⟨k1, k2, k3⟩ := lose_right A B' C hA hB hC hp
        rcases h with (⟨j, h1, h2, h3⟩ | ⟨j, h1, h2, h3⟩) | ⟨j, h1, h2, h3⟩
        · rw [k1 j h1 h2] at h3; cases h3
        · rw [k2 j h1 h2] at h3; cases h3
        · rw [k3 j h1 h2] at h3; cases h3
    · intro h
      rcases win_right A B' C h with q | q | q
      · exact .inl (.inl q)
      · exact .inl (.inr q)
      · exact .inr q
  rw [v0, v1] at U3
  obtain ⟨u1, u2, u3⟩ := U3
  refine ⟨u1, u2, fun a' b' c' h1 h2 h3 => ?_⟩
  obtain ⟨x1, x2⟩ := u3 (spotN a' b' c')
  obtain ⟨y1, y2⟩ := g3 a' b' c' h1 h2 h3
  rw [x1, x2]
  by_cases q : spotN a' b' c' = spotN a b c
  · obtain ⟨rfl, rfl, rfl⟩ := spotN_inj (by omega) (by omega) (by omega) (by omega) q
    rw [if_pos rfl, if_pos rfl, decide_eq_true (Nat.lt_succ_self _), Bool.true_and, Bool.true_and]
    exact ⟨rfl, rfl⟩
  · rw [if_neg q, if_neg q, y1, y2]
    by_cases r : spotN a' b' c' < spotN a b c
    · rw [decide_eq_true r, decide_eq_true (Nat.lt_succ_of_lt r)]; exact ⟨rfl, rfl⟩
    · rw [decide_eq_false r, decide_eq_false (by omega)]; exact ⟨rfl, rfl⟩
theorem good_upto {n n' : Nat} {B : WB} (G : Good s0 s1 s2 n B) (h : ∀ a b c, a ≤ s0.length → b ≤ s1.length → c ≤ s2.length → (spotN a b c < n ↔ spotN a b c < n')) : Good s0 s1 s2 n' B := by
  refine ⟨G.1, G.2.1, fun a b c h1 h2 h3 => ?_⟩
  have := G.2.2 a b c h1 h2 h3
  rw [show decide (spotN a b c < n) = decide (spotN a b c < n') from decide_eq_decide.mpr (h a b c h1 h2 h3)] at this
  exact this
theorem cs_good {a b : Nat} (ha : a ≤ s0.length) (hb : b ≤ s1.length) {B : WB} (G : Good s0 s1 s2 (spotN a b 0) B) : ∀ n, n ≤ s2.length + 1 → Good s0 s1 s2 (spotN a b 0 + n) ((List.range n).foldl (spotStep [s0, s1, s2] a b) B)
  | 0, _ => G
  | n + 1, h => by
    rw [foldl_succ]
    have ih := cs_good ha hb G n (by omega)
    have e : spotN a b 0 + n = spotN a b n := by unfold spotN; omega
    rw [e] at ih
    have := spot_good m0 m1 m2 l0 l1 l2 ha hb (show n ≤ s2.length by omega) ih
    rw [show spotN a b 0 + (n + 1) = spotN a b n + 1 by unfold spotN; omega]
    exact this
theorem bs_good {a : Nat} (ha : a ≤ s0.length) {B : WB} (G : Good s0 s1 s2 (spotN a 0 0) B) : ∀ n, n ≤ s1.length + 1 → Good s0 s1 s2 (spotN a n 0) ((List.range n).foldl (bStep [s0, s1, s2] a) B)
  | 0, _ => G
  | n + 1, h => by
    rw [foldl_succ]
    have ih := bs_good ha G n (by omega)
    have := cs_good m0 m1 m2 l0 l1 l2 ha (show n ≤ s1.length by omega) ih (s2.length + 1) (Nat.le_refl _)
    exact good_upto m0 m1 m2 l0 l1 l2 this fun a' b' c' h1 h2 h3 => by unfold spotN; omega
theorem as_good {B : WB} (G : Good s0 s1 s2 (spotN 0 0 0) B) : ∀ n, n ≤ s0.length + 1 → Good s0 s1 s2 (spotN n 0 0) ((List.range n).foldl (aStep [s0, s1, s2]) B)
  | 0, _ => G
  | n + 1, h => by
    rw [foldl_succ]
    have ih := as_good G n (by omega)
    have := bs_good m0 m1 m2 l0 l1 l2 (show n ≤ s0.length by omega) ih (s1.length + 1) (Nat.le_refl _)
    exact good_upto m0 m1 m2 l0 l1 l2 this fun a' b' c' h1 h2 h3 => by unfold spotN; omega
theorem wins_law {a b c : Nat} (ha : a ≤ s0.length) (hb : b ≤ s1.length) (hc : c ≤ s2.length) :
    (winsP [s0, s1, s2]).1.getD (spotN a b c) false = P0 s0 s1 s2 a b c ∧ (winsP [s0, s1, s2]).2.getD (spotN a b c) false = P1 s0 s1 s2 a b c := by
  have G0 : Good s0 s1 s2 (spotN 0 0 0) wins0 := by
    refine ⟨rfl, rfl, fun a b c _ _ _ => ?_⟩
    have e : (List.replicate 125 false).getD (spotN a b c) false = false := by
      rw [List.getD_eq_getElem?_getD, List.getElem?_replicate]; split <;> rfl
    rw [show decide (spotN a b c < spotN 0 0 0) = false from decide_eq_false (by unfold spotN; omega), Bool.false_and, Bool.false_and]
    exact ⟨e, e⟩
  have G := as_good m0 m1 m2 l0 l1 l2 G0 (s0.length + 1) (Nat.le_refl _)
  have := G.2.2 a b c ha hb hc
  rw [show decide (spotN a b c < spotN (s0.length + 1) 0 0) = true from decide_eq_true (by unfold spotN; omega), Bool.true_and, Bool.true_and] at this
  exact this
end
/-- each sending is a whole move -/
noncomputable def aheadB (c : Nat) (T : Nat) (w : List Nat) : Bool :=
  let d := (if w.head? = some 46 then List.replicate T 46 ++ w else w)
  decide (numW (rowOf c d) d.length = numW (rowOf c w) w.length + 8 * ((d.length : Int) - w.length) * ((c : Int) - 1)) &&
  decide (heapW (rowOf c d) d.length = heapW (rowOf c w) w.length + ((d.length : Int) - w.length) * Int.fmod (c : Int) 2)
noncomputable def wordsUpTo : Nat → List (List Nat)
  | 0 => [[]]
  | n + 1 => [] :: ((wordsUpTo n).map (46 :: ·) ++ (wordsUpTo n).map (111 :: ·))
theorem wordsUpTo_mem : ∀ (n : Nat) (s : List Nat), s.length ≤ n → (∀ c ∈ s, c = 46 ∨ c = 111) → s ∈ wordsUpTo n
  | 0, [], _, _ => List.mem_singleton.mpr rfl
  | 0, _ :: _, h, _ => absurd h (by simp)
  | n + 1, [], _, _ => List.mem_cons_self
  | n + 1, c :: r, h, hc => by
    have ih := wordsUpTo_mem n r (by simpa using h) fun d hd => hc d (List.mem_cons_of_mem _ hd)
    refine List.mem_cons_of_mem _ (List.mem_append.mpr ?_)
    rcases hc c List.mem_cons_self with rfl | rfl
    · exact .inl (List.mem_map.mpr ⟨r, ih, rfl⟩)
    · exact .inr (List.mem_map.mpr ⟨r, ih, rfl⟩)
theorem ahead_all : ((List.range 3).all fun c => (List.range 4).all fun T => (wordsUpTo 3).all (aheadB c T)) = true := by decide +kernel
theorem ahead_law {c T : Nat} {w : List Nat} (hc : c < 3) (hT : T ≤ 3) (hw : w.length ≤ 3) (ho : ∀ x ∈ w, x = 46 ∨ x = 111) : aheadB c T w = true :=
  List.all_eq_true.mp (List.all_eq_true.mp (List.all_eq_true.mp ahead_all c (List.mem_range.mpr hc)) T (List.mem_range.mpr (by omega))) w (wordsUpTo_mem 3 w hw ho)
end
theorem resetRx : True := by w_top off; trivial
section
open PySem.SeqAt
theorem push_at2 {l : List Addr} {i : Nat} {x : Value} (h : l.length = i) : ((l.map Value.ref ++ [x]).toArray)[((i : Nat) : Int).toNat]? = some x := by
  rw [Int.toNat_natCast, List.getElem?_toArray, List.getElem?_append_right (by rw [List.length_map, h]; exact Nat.le_refl _), List.length_map, h, Nat.sub_self]; rfl
/-- the relation between a row as sent and as written, as the law's line reads it -/
theorem ahead_eq {T : Nat} {n : Int} (hT : T ≤ 3) (hlen : wordLen T n + T < 5) (h1 : 1 ≤ T) {wL w5 : Int × Int}
    (hwL : (wSt (rowOf (cor n) (dueS T n).cps.toList) (rowOf (cor n) (dueS T n).cps.toList).length).ws[(rowOf (cor n) (dueS T n).cps.toList).length]? = some wL)
    (hw5 : (wSt (rowOf (cor n) (wordS T n).cps.toList) (rowOf (cor n) (wordS T n).cps.toList).length).ws[(rowOf (cor n) (wordS T n).cps.toList).length]? = some w5) :
    wL.1 = w5.1 + 8 * (((dueS T n).length : Int) - (wordS T n).length) * ((cor n : Int) - 1) ∧ wL.2 = w5.2 + (((dueS T n).length : Int) - (wordS T n).length) * Int.fmod (cor n : Int) 2 := by
  have hc := (cor_eq n).2
  have e1 : (dueS T n).cps.toList = dq T (wl T n) := rfl
  have e2 : (wordS T n).cps.toList = wl T n := wordS_cps T n
  have e3 : (dueS T n).length = (dq T (wl T n)).length := rfl
  have e4 : (wordS T n).length = (wl T n).length := by rw [← e2, Array.length_toList]; rfl
  have A := ahead_law (c := cor n) (T := T) (w := wl T n) hc hT (by rw [wl_len]; omega) (wl_or T n)
  simp only [aheadB, Bool.and_eq_true, decide_eq_true_eq] at A
  rw [e1] at hwL
  rw [e2] at hw5
  rw [e3, e4]
  have hx : (if (wl T n).head? = some 46 then List.replicate T 46 ++ wl T n else wl T n) = dq T (wl T n) := rfl
  rw [hx] at A
  have l1 : ∀ (c : Nat) (x : List Nat), (rowOf c x).length = x.length := fun c x => List.length_map ..
  have r1 : ∀ (c : Nat) (x : List Nat) (w : Int × Int), (wSt (rowOf c x) (rowOf c x).length).ws[(rowOf c x).length]? = some w → numW (rowOf c x) x.length = w.1 ∧ heapW (rowOf c x) x.length = w.2 := by
    intro c x w h
    unfold numW heapW
    rw [List.getD_eq_getElem?_getD, ← l1 c x, h]; exact ⟨rfl, rfl⟩
  obtain ⟨a1, a2⟩ := r1 _ _ _ hwL
  obtain ⟨b1, b2⟩ := r1 _ _ _ hw5
  rw [a1, a2, b1, b2] at A
  exact A
/-- the end of a turn over the three rows -/
theorem row_fin {h₀ : Heap} {L S Wt Cc Ds D2 : Addr} {T : Nat} {ns3 : List Int} {base : List (Addr × Obj)} {ml : List (Str × Value)} {i : Nat} {ss ws as : List Addr} {tl own nw news' : List (Addr × Obj)} {vs : List Value} {oc o' oS oW : Obj} {v' : Option Value} {s₁ : Shared} {h' : Heap} {tk : Nat} {m' : Str → Option Value} {nn : Int}
    (F' : Fr h₀ L h' m') (N' : News h₀ L h' news') (hnn : ns3.getD i 0 = nn) (hs1 : ss.length = i) (hw1 : ws.length = i)
    (hoff : OwnOff own (((S, oS) :: (Wt, oW) :: (Cc, oc) :: tl).map (·.1)))
    (hS : ∀ p ∈ tl, p.1 ≠ S) (hW : ∀ p ∈ tl, p.1 ≠ Wt) (hC : ∀ p ∈ tl, p.1 ≠ Cc) (hbase : ∀ p ∈ base, p ∈ tl)
    (hrow : ∀ (j : Nat) s w, ss[j]? = some s → ws[j]? = some w → RowD T (ns3.getD j 0) tl s w)
    (hDS : @Ne Nat S Ds) (hDW : @Ne Nat Wt Ds) (hDC : @Ne Nat Cc Ds) (hDo : ∀ p ∈ tl ++ own, @Ne Nat p.1 Ds)
    (qS : ∀ q ∈ nw, @Ne Nat S q.1) (qW : ∀ q ∈ nw, @Ne Nat Wt q.1) (qC : ∀ q ∈ nw, @Ne Nat Cc q.1) (qtl : ∀ a ∈ tl ++ own, ∀ q ∈ nw, @Ne Nat a.1 q.1)
    (hvi : IntsAre vs (rowOf (cor nn) (dueS T nn).cps.toList)) (hD2 : (D2, W.listOf (as.map Value.ref).toArray (rowOf (cor nn) (dueS T nn).cps.toList).length) ∈ nw) (hal : as.length = (rowOf (cor nn) (dueS T nn).cps.toList).length + 1)
    (hget : ∀ (j : Nat) (a : Addr) (w : Int × Int), as[j]? = some a → (wSt (rowOf (cor nn) (dueS T nn).cps.toList) (rowOf (cor nn) (dueS T nn).cps.toList).length).ws[j]? = some w → ∃ o, (a, o) ∈ nw ∧ IsTup2 o w)
    (ho' : o'.data = Data.cell v')
    (hsub : ∀ p ∈ (S, W.listOf (ss.map Value.ref ++ [Value.ref Ds]).toArray (i + 1)) :: (Wt, W.listOf (ws.map Value.ref ++ [Value.ref D2]).toArray (i + 1)) :: (Cc, o') :: (Ds, LCg.lst vs) :: (nw ++ (tl ++ own)), p ∈ news')
    (hm : Has m' ml) : InvEndG h₀ L (RJ T ns3 S Wt Cc base ml (i + 1)) own s₁ { s₁ with heap := h', toks := tk } := by
  have eS : ss.map Value.ref ++ [Value.ref Ds] = (ss ++ [Ds]).map Value.ref := by rw [List.map_append]; rfl
  have eW : ws.map Value.ref ++ [Value.ref D2] = (ws ++ [D2]).map Value.ref := by rw [List.map_append]; rfl
  rw [eS, eW] at hsub
  have up : ∀ p ∈ tl, p ∈ (Ds, LCg.lst vs) :: (nw ++ tl) := fun p hp => List.mem_cons_of_mem _ (List.mem_append_right _ hp)
  have upn : ∀ p ∈ nw, p ∈ (Ds, LCg.lst vs) :: (nw ++ tl) := fun p hp => List.mem_cons_of_mem _ (List.mem_append_left _ hp)
  refine InvEndG.intro (nx := (S, W.listOf ((ss ++ [Ds]).map Value.ref).toArray (i + 1)) :: (Wt, W.listOf ((ws ++ [D2]).map Value.ref).toArray (i + 1)) :: (Cc, o') :: (Ds, LCg.lst vs) :: (nw ++ tl)) F' N'
    ⟨ss ++ [Ds], ws ++ [D2], o', _, v', rfl, by rw [List.length_append, hs1]; rfl, by rw [List.length_append, hw1]; rfl, ho', ?_, ?_, ?_, fun p hp => up p (hbase p hp), ?_, hm⟩ ?_ ?_ ?_
  · intro p hp
    rcases List.mem_cons.mp hp with rfl | hp
    · exact Ne.symm hDS
    · exact (List.mem_append.mp hp).elim (fun q => Ne.symm (qS p q)) (hS p)
  · intro p hp
    rcases List.mem_cons.mp hp with rfl | hp
    · exact Ne.symm hDW
    · exact (List.mem_append.mp hp).elim (fun q => Ne.symm (qW p q)) (hW p)
  · intro p hp
    rcases List.mem_cons.mp hp with rfl | hp
    · exact Ne.symm hDC
    · exact (List.mem_append.mp hp).elim (fun q => Ne.symm (qC p q)) (hC p)
  · intro j s w h1 h2
    rcases Nat.lt_or_ge j i with q | q
    · rw [List.getElem?_append_left (by omega)] at h1 h2
      exact (hrow j s w h1 h2).mono up
    · rw [List.getElem?_append_right (by omega)] at h1 h2
      have e : j = i := by
        rcases Nat.lt_or_ge (j - ss.length) 1 with z | z
        · omega
        · rw [List.getElem?_eq_none (by simpa using z)] at h1; cases h1
      subst e
      rw [show j - ss.length = 0 by omega] at h1
      rw [show j - ws.length = 0 by omega] at h2
      obtain rfl := Option.some.inj h1
      obtain rfl := Option.some.inj h2
      rw [hnn]
      exact ⟨⟨vs, hvi, List.mem_cons_self⟩, as, upn _ hD2, hal, fun j a w e f => let ⟨o, ho, q⟩ := hget j a w e f; ⟨o, upn _ ho, q⟩⟩
  · intro p hp b hb
    have hpo : p ∈ tl ++ own := List.mem_append_right _ hp
    simp only [List.map_cons, List.mem_cons] at hb
    rcases hb with rfl | rfl | rfl | rfl | hb
    · exact hoff p hp _ (by simp)
    · exact hoff p hp _ (by simp)
    · exact hoff p hp _ (by simp)
    · exact hDo p hpo
    · rw [List.map_append, List.mem_append] at hb
      rcases hb with hb | hb
      · obtain ⟨q, hq, rfl⟩ := List.mem_map.mp hb
        exact qtl p hpo q hq
      · exact hoff p hp _ (by simp only [List.map_cons]; exact List.mem_cons_of_mem _ (List.mem_cons_of_mem _ (List.mem_cons_of_mem _ hb)))
  · intro p hp
    refine hsub p ?_
    simp only [List.mem_cons, List.mem_append] at hp ⊢
    rcases hp with h | h | h | h | h | h
    · exact .inl h
    · exact .inr (.inl h)
    · exact .inr (.inr (.inl h))
    · exact .inr (.inr (.inr (.inl h)))
    · exact .inr (.inr (.inr (.inr (.inl h))))
    · exact .inr (.inr (.inr (.inr (.inr (.inl h)))))
  · intro p hp
    refine hsub p ?_
    simp only [List.mem_cons, List.mem_append]
    exact .inr (.inr (.inr (.inr (.inr (.inr hp)))))
end
theorem resetRy : True := by w_top off; trivial
section
open PySem.SeqAt
section
variable {prog : Program} {w : World} {A : Around} {E : Value → Shared → Prop} {s : Shared} {h₀ : Heap} {L l : Addr} {news : List (Addr × Obj)} {items : Array Value} {n : Nat} {o : Obj} {Q : Value → Shared → Prop}
theorem len_mem (N : News h₀ L s.heap news) (hm : (l, o) ∈ news) (ho : o.cls = .type "list" ∧ ∃ n, o.data = .seq items n) (hn : items.size = n) (hf : n ≤ 16384) (h : Q (.int n (s.toks + 1)) { s with toks := s.toks + 1 + 1 }) :
    wpAny (model prog w) A (call (.builtin "len") [.ref l]) Q E s := by
  have hl : s.heap.IsList l items := ⟨o, (N _ hm).1, ho⟩
  subst hn
  exact len_list hl (by omega) h
end
theorem ne_boolS {prog : Program} {w : World} {A : Around} {E : Value → Shared → Prop} {s : Shared} {Q : Value → Shared → Prop} {x : Bool} (h : Q (.bool false) s) : wpAny (model prog w) A (compareOp .NotEq (.bool x) (.bool x)) Q E s := by
  refine ne_bool ?_
  rw [show (x != x) = false by cases x <;> rfl]; exact h
theorem map_size {l : List Addr} {n : Nat} (h : l.length = n) : ((l.map Value.ref).toArray).size = n := by rw [List.size_toArray, List.length_map, h]
/-- a row's list of worths, as the last loops read it -/
structure RowY (T : Nat) (n : Int) (w : Addr) (as : List Addr) (nl : List (Addr × Obj)) : Prop where
  mem : (w, W.listOf (as.map Value.ref).toArray (rowN T n).length) ∈ nl
  len : as.length = (rowN T n).length + 1
  get : ∀ j : Nat, j < (rowN T n).length + 1 → ∃ (a : Addr) (ta tb : Tok), ((as.map Value.ref).toArray)[((j : Nat) : Int).toNat]? = some (.ref a) ∧
    (a, ({ cls := .type "tuple", data := .seq #[.int (numW (rowN T n) j) ta, .int (heapW (rowN T n) j) tb] } : Obj)) ∈ nl
theorem RowY.mono {T : Nat} {n : Int} {w : Addr} {as : List Addr} {nl nl' : List (Addr × Obj)} (x : RowY T n w as nl) (h : ∀ p ∈ nl, p ∈ nl') : RowY T n w as nl' :=
  ⟨h _ x.mem, x.len, fun j hj => let ⟨a, ta, tb, h1, h2⟩ := x.get j hj; ⟨a, ta, tb, h1, h _ h2⟩⟩
theorem RowD.y {T : Nat} {n : Int} {tl : List (Addr × Obj)} {s w : Addr} (x : RowD T n tl s w) (hl : (wSt (rowN T n) (rowN T n).length).ws.length = (rowN T n).length + 1) :
    ∃ vs as, IntsAre vs (rowN T n) ∧ (s, LCg.lst vs) ∈ tl ∧ RowY T n w as tl := by
  obtain ⟨⟨vs, hv, hm⟩, as, h1, h2, h3⟩ := x
  refine ⟨vs, as, hv, hm, h1, h2, fun j hj => ?_⟩
  obtain ⟨a, ha⟩ : ∃ a, as[j]? = some a := ⟨_, List.getElem?_eq_getElem (by omega)⟩
  obtain ⟨ww, hw⟩ : ∃ ww, (wSt (rowN T n) (rowN T n).length).ws[j]? = some ww := ⟨_, List.getElem?_eq_getElem (by omega)⟩
  obtain ⟨o, ho, ta, tb, rfl⟩ := h3 j a ww ha hw
  refine ⟨a, ta, tb, ?_, ?_⟩
  · rw [Int.toNat_natCast, List.getElem?_toArray, List.getElem?_map, ha]; rfl
  · have e : (wSt (rowN T n) (rowN T n).length).ws.getD j (0, 0) = ww := by rw [List.getD_eq_getElem?_getD, hw]; rfl
    unfold numW heapW
    rw [e]; exact ho
theorem wStep_len (ns : List Int) (st : WSt) (k : Nat) : (wStep ns st k).ws.length = st.ws.length + 1 := by
  unfold wStep
  dsimp only
  split <;> simp
theorem wSt_len (ns : List Int) : ∀ i, (wSt ns i).ws.length = i + 1
  | 0 => rfl
  | i + 1 => by rw [wSt_succ, wStep_len, wSt_len ns i]
theorem rows3 {T : Nat} {n0 n1 n2 : Int} {tl : List (Addr × Obj)} {ss ws : List Addr} (hs1 : ss.length = 3) (hw1 : ws.length = 3)
    (hrow : ∀ (j : Nat) s w, ss[j]? = some s → ws[j]? = some w → RowD T ([n0, n1, n2].getD j 0) tl s w) :
    ∃ s0 s1 s2 w0 w1 w2 v0 v1 v2 as0 as1 as2, ss = [s0, s1, s2] ∧ ws = [w0, w1, w2] ∧ (IntsAre v0 (rowN T n0) ∧ (s0, LCg.lst v0) ∈ tl ∧ RowY T n0 w0 as0 tl) ∧ (IntsAre v1 (rowN T n1) ∧ (s1, LCg.lst v1) ∈ tl ∧ RowY T n1 w1 as1 tl) ∧ (IntsAre v2 (rowN T n2) ∧ (s2, LCg.lst v2) ∈ tl ∧ RowY T n2 w2 as2 tl) := by
  obtain ⟨s0, s1, s2, rfl⟩ : ∃ a b c, ss = [a, b, c] := by
    rcases ss with _ | ⟨a, _ | ⟨b, _ | ⟨c, _ | ⟨d, ss⟩⟩⟩⟩ <;> simp at hs1
    exact ⟨a, b, c, rfl⟩
  obtain ⟨w0, w1, w2, rfl⟩ : ∃ a b c, ws = [a, b, c] := by
    rcases ws with _ | ⟨a, _ | ⟨b, _ | ⟨c, _ | ⟨d, ws⟩⟩⟩⟩ <;> simp at hw1
    exact ⟨a, b, c, rfl⟩
  obtain ⟨v0, as0, r0⟩ := (hrow 0 s0 w0 rfl rfl).y (wSt_len _ _)
  obtain ⟨v1, as1, r1⟩ := (hrow 1 s1 w1 rfl rfl).y (wSt_len _ _)
  obtain ⟨v2, as2, r2⟩ := (hrow 2 s2 w2 rfl rfl).y (wSt_len _ _)
  exact ⟨_, _, _, _, _, _, _, _, _, _, _, _, rfl, rfl, r0, r1, r2⟩
theorem rowN_mem {T : Nat} (n : Int) (h3 : wordLen T n + T < 5) : rowN T n ∈ stalks :=
  stalks_mem (cor_eq n).2 _ (by have := dq_len T (wl T n); rw [wl_len] at this; omega)
theorem bools_at : ∀ {vs : List Value} {bs : List Bool}, LSm.BoolsAre vs bs → ∀ i, i < bs.length → vs[i]? = some (.bool (bs.getD i false))
  | _, _, .nil, i, h => nomatch h
  | _, _, .cons b r, 0, _ => rfl
  | _, _, .cons b r, i + 1, h => bools_at r i (Nat.lt_of_succ_lt_succ h)
/-- what the table of wins holds, as the last loops read it -/
structure WinY (s0 s1 s2 : List Int) (Wn A0 A1 : Addr) (b0 b1 : List Value) (nl : List (Addr × Obj)) : Prop where
  mem : (Wn, W.listOf #[.ref A0, .ref A1] 0) ∈ nl
  mem0 : (A0, W.listOf b0.toArray 0) ∈ nl
  mem1 : (A1, W.listOf b1.toArray 0) ∈ nl
  get0 : ∀ a b c : Nat, a < s0.length + 1 → b < s1.length + 1 → c < s2.length + 1 → b0.toArray[(25 * (a : Int) + 5 * (b : Int) + (c : Int)).toNat]? = some (.bool (decide (0 < numW s0 a + numW s1 b + numW s2 c) || (decide (numW s0 a + numW s1 b + numW s2 c = 0) && decide (Builtin.bitXor (Builtin.bitXor (heapW s0 a) (heapW s1 b)) (heapW s2 c) ≠ 0))))
  get1 : ∀ a b c : Nat, a < s0.length + 1 → b < s1.length + 1 → c < s2.length + 1 → b1.toArray[(25 * (a : Int) + 5 * (b : Int) + (c : Int)).toNat]? = some (.bool (decide (numW s0 a + numW s1 b + numW s2 c < 0) || (decide (numW s0 a + numW s1 b + numW s2 c = 0) && decide (Builtin.bitXor (Builtin.bitXor (heapW s0 a) (heapW s1 b)) (heapW s2 c) ≠ 0))))
theorem WinY.mono {s0 s1 s2 : List Int} {Wn A0 A1 : Addr} {b0 b1 : List Value} {nl nl' : List (Addr × Obj)} (x : WinY s0 s1 s2 Wn A0 A1 b0 b1 nl) (h : ∀ p ∈ nl, p ∈ nl') : WinY s0 s1 s2 Wn A0 A1 b0 b1 nl' :=
  ⟨h _ x.mem, h _ x.mem0, h _ x.mem1, x.get0, x.get1⟩
theorem win_y {s0 s1 s2 : List Int} (m0 : s0 ∈ stalks) (m1 : s1 ∈ stalks) (m2 : s2 ∈ stalks) (l0 : s0.length ≤ 4) (l1 : s1.length ≤ 4) (l2 : s2.length ≤ 4) {h h' : Heap} {v : Value} (p : WinsPost [s0, s1, s2] h h' v) :
    ∃ Wn A0 A1 b0 b1 nw, v = .ref Wn ∧ Made h h' nw ∧ WinY s0 s1 s2 Wn A0 A1 b0 b1 nw := by
  obtain ⟨Wn, A0, A1, b0, b1, nw, e, M, rfl, hb0, hb1, q0, q1⟩ := p
  refine ⟨Wn, A0, A1, b0, b1, _, e, M, List.mem_cons_self, List.mem_cons_of_mem _ List.mem_cons_self, List.mem_cons_of_mem _ (List.mem_cons_of_mem _ List.mem_cons_self), fun a b c ha hb hc => ?_, fun a b c ha hb hc => ?_⟩
  all_goals
    have e := wins_law m0 m1 m2 l0 l1 l2 (a := a) (b := b) (c := c) (by omega) (by omega) (by omega)
    have es : (25 * (a : Int) + 5 * (b : Int) + (c : Int)).toNat = spotN a b c := by unfold spotN; omega
    have hlt : spotN a b c < 125 := by unfold spotN; omega
    rw [es, List.getElem?_toArray]
  · rw [bools_at hb0 _ (by omega), e.1]; rfl
  · rw [bools_at hb1 _ (by omega), e.2]; rfl
/-- the end of a turn of the last loops: nothing is stored -/
theorem flat_fin {h₀ : Heap} {L : Addr} {J : (Str → Option Value) → List (Addr × Obj) → Prop} {m' : Str → Option Value} {own nx nl : List (Addr × Obj)} {s₁ : Shared} {h' : Heap} {tk : Nat}
    (F' : Fr h₀ L h' m') (N' : News h₀ L h' nl) (hoff : OwnOff own (nx.map (·.1))) (e : nl = nx ++ own) (hj : J m' nx) : InvEndG h₀ L J own s₁ { s₁ with heap := h', toks := tk } :=
  InvEndG.intro F' N' hj hoff (fun p hp => e ▸ List.mem_append_left _ hp) fun p hp => e ▸ List.mem_append_right _ hp
end
theorem resetL1 : True := by w_top off; trivial
section
open PySem.Flt
theorem ints_exist : ∀ {ys : List Value}, (∀ (i : Nat) y, ys[i]? = some y → ∃ n t, y = Value.int n t) → ∃ ns, IntsAre ys ns
  | [], _ => ⟨[], .nil⟩
  | y :: ys, h => by
    obtain ⟨n, t, rfl⟩ := h 0 y rfl
    obtain ⟨ns, hns⟩ := ints_exist fun i z hz => h (i + 1) z hz
    exact ⟨_, .cons _ _ hns⟩
theorem ints_at {vs : List Value} {ns : List Int} (h : IntsAre vs ns) {i : Nat} {v : Value} (e : vs[i]? = some v) : ∃ n t, v = Value.int n t := by
  induction h generalizing i with
  | nil => cases e
  | cons n t _ ih =>
    cases i with
    | zero => exact ⟨n, t, (Option.some.inj e).symm⟩
    | succ i => exact ih e
theorem slice_small {vs : List Value} {ns : List Int} (hi : IntsAre vs ns) (hl : ¬ ((63 : Nat) : Int) < ns.length) (a b c : Option Int) : (slicePick vs.toArray a b c).size ≤ sizeLine := by
  refine Nat.le_trans (slicePick_size_le _ _ _ _) ?_
  have := IntsAre.sizeZ hi
  have h2 : (63 : Nat) ≤ sizeLine := by decide
  omega
theorem slice_at {vs : List Value} {ns : List Int} (hi : IntsAre vs ns) {a b c : Option Int} {i : Nat} {v : Value} (e : (slicePick vs.toArray a b c)[i]? = some v) : ∃ n t, v = Value.int n t :=
  ints_at (hi.pick a b c) (by rw [Array.getElem?_toList]; exact e)
local macro_rules | `(tactic| k_qdec) => `(tactic| decide +kernel)
theorem lay10 : True := by
  k_with_none
  k_with "M enter" => (refine wpAny_call ?_; k_dflt (refine' code_full ?zk1 ?zk2 ?zk3 ?zk5 ?zkA ?zkF ?zkK ?zk6 ?zk7 ?zk8 ?zk9 ?zkB ?zkP ?_ ?zc2 ?zc3 ?zc4 ?zc5; (case zkA => exact rfl); (case zkF => exact rfl); (case zkK => assumption); (case zk1 => k_asm); (case zk2 => k_asm); (case zk3 => k_asm); (case zk5 => k_asm); (case zk6 => k_is); (case zk7 => k_is); (case zk8 => ktr_room); (case zk9 => exact BindsTo.of_eq rfl); (case zc5 => decide); (case zkP => exact List.cons_ne_nil _ _); (case zkB => exact locs rfl); (case zc2 => exact rfl); (case zc3 => exact rfl); (case zc4 => exact rfl); k_whole); intro zL' zh' tk9 zp9 zF' zN' zB' zX' zT'; (try dsimp only); (try k_fold))
  k_with "M ne" => (refine neN ?_; (try dsimp only); intro ze9; have ze8 := Eq.symm ze9; (repeat ((with_reducible rename _ ≠ _ ∧ _ => zx9); obtain ⟨zy9, zz9⟩ := zx9)); with_reducible contradiction)
  k_with "call ref" => (k_here; k_dflt (first | ((with_reducible show wpAny _ _ (call (Value.ref 69) [Value.int _ _, Value.int _ _]) _ _ _); refine' Cc.use (c_lt _ _ _ _) ?zk1 ?zk2 ?zk3 ?zk4 ?zk5 ?zk6 ?zk7 ?zk8 ?_) | ((with_reducible show wpAny _ _ (call (Value.ref 76) [Value.int _ _, Value.int _ _]) _ _ _); refine' Cc.use (c_eq _ _ _ _) ?zk1 ?zk2 ?zk3 ?zk4 ?zk5 ?zk6 ?zk7 ?zk8 ?_) | ((with_reducible show wpAny _ _ (call (Value.ref 83) [Value.int _ _, Value.int _ _]) _ _ _); refine' Cc.use (c_ne _ _ _ _) ?zk1 ?zk2 ?zk3 ?zk4 ?zk5 ?zk6 ?zk7 ?zk8 ?_) | ((with_reducible show wpAny _ _ (call (Value.ref 90) [Value.int _ _, Value.int _ _]) _ _ _); refine' Cc.use (c_gt _ _ _ _) ?zk1 ?zk2 ?zk3 ?zk4 ?zk5 ?zk6 ?zk7 ?zk8 ?_) | ((with_reducible show wpAny _ _ (call (Value.ref 97) [Value.int _ _]) _ _ _); refine' Cc.use (c_not_ _ _) ?zk1 ?zk2 ?zk3 ?zk4 ?zk5 ?zk6 ?zk7 ?zk8 ?_) | ((with_reducible show wpAny _ _ (call (Value.ref 104) [Value.int _ _, Value.int _ _]) _ _ _); refine' Cc.use (c_add _ _ _ _) ?zk1 ?zk2 ?zk3 ?zk4 ?zk5 ?zk6 ?zk7 ?zk8 ?_) | ((with_reducible show wpAny _ _ (call (Value.ref 111) [Value.bool _, Value.bool _]) _ _ _); refine' Cc.use (c_and_ _ _) ?zk1 ?zk2 ?zk3 ?zk4 ?zk5 ?zk6 ?zk7 ?zk8 ?_) | ((with_reducible show wpAny _ _ (call (Value.ref 146) [Value.bool _, Value.bool _]) _ _ _); refine' Cc.use (c_or_ _ _) ?zk1 ?zk2 ?zk3 ?zk4 ?zk5 ?zk6 ?zk7 ?zk8 ?_) | ((with_reducible show wpAny _ _ (call (Value.ref 160) [Value.int _ _, Value.int _ _]) _ _ _); refine' Cc.use (c_sub _ _ _ _) ?zk1 ?zk2 ?zk3 ?zk4 ?zk5 ?zk6 ?zk7 ?zk8 ?_) | ((with_reducible show wpAny _ _ (call (Value.ref 132) [Value.int _ _, Value.int _ _]) _ _ _); refine' Cc.use (c_mod _ _ _ _ ?zkb) ?zk1 ?zk2 ?zk3 ?zk4 ?zk5 ?zk6 ?zk7 ?zk8 ?_; (case zkb => first | decide | omega)) | ((with_reducible show wpAny _ _ (call (Value.ref 118) [Value.int _ _, Value.int 8 _]) _ _ _); refine' Cc.use (c_floordiv8 _ _ _) ?zk1 ?zk2 ?zk3 ?zk4 ?zk5 ?zk6 ?zk7 ?zk8 ?_) | ((with_reducible show wpAny _ _ (call (Value.ref 125) [Value.int 1 _, Value.int 3 _]) _ _ _); refine' Cc.use (c_lshift13 _ _) ?zk1 ?zk2 ?zk3 ?zk4 ?zk5 ?zk6 ?zk7 ?zk8 ?_) | ((with_reducible show wpAny _ _ (call (Value.ref 153) [Value.int _ _, Value.int 1 _]) _ _ _); refine' Cc.use (c_rshift1 _ _ _ ?zkb) ?zk1 ?zk2 ?zk3 ?zk4 ?zk5 ?zk6 ?zk7 ?zk8 ?_; (case zkb => first | decide | omega)) | ((with_reducible show wpAny _ _ (call (Value.ref 174) [Value.int _ _, Value.int _ _]) _ _ _); refine' Cc.use (c_xor _ _ _ _) ?zk1 ?zk2 ?zk3 ?zk4 ?zk5 ?zk6 ?zk7 ?zk8 ?_) | ((with_reducible show wpAny _ _ (call (Value.ref 167) [Value.int _ _, Value.int _ _]) _ _ _); refine' Cc.use (c_truediv _ _ _ _ ?zkb) ?zk1 ?zk2 ?zk3 ?zk4 ?zk5 ?zk6 ?zk7 ?zk8 ?_; (case zkb => first | decide | omega)) | ((with_reducible show wpAny _ _ (call (Value.ref 139) [Value.float _ _, Value.int 24 _]) _ _ _); refine' Cc.use (c_mulf24 _ _ _) ?zk1 ?zk2 ?zk3 ?zk4 ?zk5 ?zk6 ?zk7 ?zk8 ?_) | ((with_reducible show wpAny _ _ (call (Value.ref 139) [Value.int _ _, Value.int _ _]) _ _ _); refine' Cc.use (c_mul _ _ _ _ ?zkb) ?zk1 ?zk2 ?zk3 ?zk4 ?zk5 ?zk6 ?zk7 ?zk8 ?_; (case zkb => first | decide | omega))); (case zk1 => k_asm); (case zk2 => k_asm); (case zk3 => k_asm); (case zk4 => k_asm); (case zk5 => k_asm); (case zk6 => first | exact rfl | assumption); (case zk7 => ktr_room); (case zk8 => ktr_units); (dsimp only [retV]); intro zt9 zh9 ztk9 zF9 zN9; (try k_fold))
  k_with "M steps" => repeat' (first | (k_unfold; (try dsimp only)) | (with_reducible first | refine Cont.next ?_ | refine Cont.ret ?_ | refine Cont.brk ?_ | refine Cont.cont ?_) | (k_end; wrow_close) | ((fail_if_success (with_reducible show wpAny _ _ (pyIter _) _ _ _)); walk1) | (dsimp only; (fail_if_success (with_reducible show wpAny _ _ (pyIter _) _ _ _)); walk1) | (leave1; try dsimp only) | fail "no step")
  k_with "subscriptTail" => (k_here; (with_reducible show wpAny _ _ (subscriptTail _ _ (Value.ref _) (Value.int _ _)) _ _ _); k_dflt (refine' item_base ?zk1 ?zk2 ?zk3 ?zk4 ?zk5 ?_ ?zk7; (case zk1 => k_asm); (case zk2 => with_reducible assumption); (case zk3 => with_reducible assumption); (case zk4 => omega); (case zk5 => omega); (case zk7 => with_unfolding_all rfl); k_whole))
  k_with "eval Name" => (k_here; k_dflt (refine' nameX_L ?zF ?zv ?_ ?za ?zb; (case za => rfl); (case zb => rfl); (case zF => k_asm); (case zv => rfl); k_whole))
  k_with "eval Name" => (k_here; (first | (with_reducible show wpAny _ _ (eval (PySem.Expr.Name (Str.ofString "range") _) _) _ _ _) | (with_reducible show wpAny _ _ (eval (PySem.Expr.Name (Str.ofString "len") _) _) _ _ _) | (with_reducible show wpAny _ _ (eval (PySem.Expr.Name (Str.ofString "max") _) _) _ _ _) | (with_reducible show wpAny _ _ (eval (PySem.Expr.Name (Str.ofString "min") _) _) _ _ _) | (with_reducible show wpAny _ _ (eval (PySem.Expr.Name (Str.ofString "int") _) _) _ _ _) | (with_reducible show wpAny _ _ (eval (PySem.Expr.Name (Str.ofString "enumerate") _) _) _ _ _) | (with_reducible show wpAny _ _ (eval (PySem.Expr.Name (Str.ofString "sum") _) _) _ _ _)); k_dflt (refine' nameX_B ?zF ?zX ?zT ?ze ?zv ?zn ?_ ?za ?zb; (case za => rfl); (case zb => rfl); (case zF => k_asm); (case zX => k_asm); (case zT => k_asm); (case ze => k_is); (case zv => boot_fast); (case zn => decide); k_whole))
  k_with "eval Name" => (k_here; (first | (with_reducible show wpAny _ _ (eval (PySem.Expr.Name (Str.ofString "lt") _) _) _ _ _) | (with_reducible show wpAny _ _ (eval (PySem.Expr.Name (Str.ofString "eq") _) _) _ _ _) | (with_reducible show wpAny _ _ (eval (PySem.Expr.Name (Str.ofString "ne") _) _) _ _ _) | (with_reducible show wpAny _ _ (eval (PySem.Expr.Name (Str.ofString "gt") _) _) _ _ _) | (with_reducible show wpAny _ _ (eval (PySem.Expr.Name (Str.ofString "not_") _) _) _ _ _) | (with_reducible show wpAny _ _ (eval (PySem.Expr.Name (Str.ofString "add") _) _) _ _ _) | (with_reducible show wpAny _ _ (eval (PySem.Expr.Name (Str.ofString "and_") _) _) _ _ _) | (with_reducible show wpAny _ _ (eval (PySem.Expr.Name (Str.ofString "floordiv") _) _) _ _ _) | (with_reducible show wpAny _ _ (eval (PySem.Expr.Name (Str.ofString "lshift") _) _) _ _ _) | (with_reducible show wpAny _ _ (eval (PySem.Expr.Name (Str.ofString "mod") _) _) _ _ _) | (with_reducible show wpAny _ _ (eval (PySem.Expr.Name (Str.ofString "mul") _) _) _ _ _) | (with_reducible show wpAny _ _ (eval (PySem.Expr.Name (Str.ofString "or_") _) _) _ _ _) | (with_reducible show wpAny _ _ (eval (PySem.Expr.Name (Str.ofString "rshift") _) _) _ _ _) | (with_reducible show wpAny _ _ (eval (PySem.Expr.Name (Str.ofString "sub") _) _) _ _ _) | (with_reducible show wpAny _ _ (eval (PySem.Expr.Name (Str.ofString "truediv") _) _) _ _ _) | (with_reducible show wpAny _ _ (eval (PySem.Expr.Name (Str.ofString "xor") _) _) _ _ _) | (with_reducible show wpAny _ _ (eval (PySem.Expr.Name (Str.ofString "indexOf") _) _) _ _ _) | (with_reducible show wpAny _ _ (eval (PySem.Expr.Name (Str.ofString "quotedata") _) _) _ _ _) | (with_reducible show wpAny _ _ (eval (PySem.Expr.Name (Str.ofString "rgb_to_hsv") _) _) _ _ _) | (with_reducible show wpAny _ _ (eval (PySem.Expr.Name (Str.ofString "hsv_to_rgb") _) _) _ _ _) | (with_reducible show wpAny _ _ (eval (PySem.Expr.Name (Str.ofString "_law_paint") _) _) _ _ _) | (with_reducible show wpAny _ _ (eval (PySem.Expr.Name (Str.ofString "_law_owner") _) _) _ _ _) | (with_reducible show wpAny _ _ (eval (PySem.Expr.Name (Str.ofString "_law_owners") _) _) _ _ _) | (with_reducible show wpAny _ _ (eval (PySem.Expr.Name (Str.ofString "_law_worths") _) _) _ _ _) | (with_reducible show wpAny _ _ (eval (PySem.Expr.Name (Str.ofString "_law_wins") _) _) _ _ _)); k_dflt (refine' nameX_K ?zF ?zX ?zT ?ze ?_ ?za ?zb; (case za => rfl); (case zb => rfl); (case zF => k_asm); (case zX => k_asm); (case zT => k_asm); (case ze => k_is); k_whole))
  k_with "execs cons" => (k_here; (with_reducible show wpAny _ _ _ _ _ (Shared.mk _ _ _ (HAdd.hAdd _ _) _)); refine gen_toks ?_; intro ztk9 zp9; (try dsimp only at zp9))
  k_with "execs nil" => (k_here; (with_reducible show wpAny _ _ _ _ _ (Shared.mk _ _ _ (HAdd.hAdd _ _) _)); refine gen_toks ?_; intro ztk9 zp9; (try dsimp only at zp9))
  k_with "eval ListComp" => (k_here; (with_reducible rename Fr _ _ _ _ => zF9); k_dflt (refine' ListComp_G zF9 ?zc1 ?zc2 ?zc3 ?zc4 ?zc5 ?zc6 ?_; (case zc1 => with_unfolding_all rfl); (case zc2 => decide); (case zc3 => with_unfolding_all rfl); (case zc4 => decide); (case zc5 => with_unfolding_all rfl); (case zc6 => intro _; with_unfolding_all rfl); k_whole); (try k_fold))
  k_with "exec Assign cons ListComp" => (k_here; (with_reducible rename Fr _ _ _ _ => zF9); k_dflt (refine' Assign_ListComp_G zF9 ?zcl ?zcw ?zc1 ?zc2 ?zc3 ?zc4 ?zc5 ?zcy ?zcp ?zc6 ?_; (case zcl => rfl); (case zcw => with_unfolding_all rfl); (case zc1 => with_unfolding_all rfl); (case zc2 => decide); (case zc3 => with_unfolding_all rfl); (case zc4 => decide); (case zc5 => with_unfolding_all rfl); (case zcy => with_unfolding_all rfl); (case zcp => with_unfolding_all rfl); (case zc6 => intro _; with_unfolding_all rfl); k_whole); (try k_fold))
  trivial
set_option maxRecDepth 100000 in
set_option maxHeartbeats 8000000 in
noncomputable def T1 : PSigma fun G : Prop => PySem.Flt.Hid G → PySem.Challenge.rw_sw0015_01.Holds := ⟨_, by
  intro hG
  refine hd ?_
  k_go0
  all_goals (try k_fold)
  (with_reducible rename Fr _ _ _ _ => F9)
  replace F9 : Fr _ _ _ (fun _ => none) := F9
  walk_at "M steps"
  (with_reducible rename Fr _ _ _ _ => F9); (with_reducible rename News _ _ _ _ => N9); (with_reducible rename IsRange _ _ _ _ _ _ _ _ => R9)
  refine after_range (n := 3) (R := fun i v => ∃ n t, v = Value.int n t) rfl F9 N9 R9 (by decide) (by with_unfolding_all rfl) (by decide) ?_ ?_
  · intro i v I oI C oC D ys m₂ h tk Q2 E2 hi hP hn2 hx F N ret
    obtain ⟨t, rfl⟩ := hP
    clear N9 F9
    dsimp only
    rcases i with _ | _ | _ | i
    case succ.succ.succ => omega
    all_goals (try dsimp only at hx)
    all_goals (
      walk_at "M steps"
      (with_reducible rename Fr _ _ _ _ => F9); (with_reducible rename News _ _ _ _ => N9); (with_reducible rename IntsAre _ _ => I9); (with_reducible rename ¬ _ < _ => l9)
      refine after_list (R := fun i v => ∃ n t, v = Value.int n t) rfl F9 N9 (.inr ⟨_, List.mem_cons_self, rfl, _, rfl⟩) (slice_small I9 l9 _ _ _) ?_ ?_
      · intro i v I oI C oC D ys m₂ h tk Q2 E2 hi hP hn2 hx F N ret
        obtain ⟨n, t, rfl⟩ := slice_at I9 hP
        clear N9 F9
        dsimp only
        walk_at "M steps"
        exact ret _ _ _ ⟨_, _, rfl⟩ F N
      · intro g ys hl hR D h tk F N o1
        obtain ⟨ns, hns⟩ := ints_exist hR
        clear N9 F9 I9
        dsimp only
        walk_at "M steps"
        (with_reducible rename Fr _ _ _ _ => F9); (with_reducible rename News _ _ _ _ => N9)
        exact ret _ _ _ ⟨_, _, rfl⟩ F9 (by first | exact N9 | exact fun p hp => N9 p (List.mem_cons_of_mem _ hp) | exact fun p hp => N9 p (List.mem_cons_of_mem _ (List.mem_cons_of_mem _ hp)) | exact fun p hp => N9 p (List.mem_cons_of_mem _ (List.mem_cons_of_mem _ (List.mem_cons_of_mem _ hp)))))
  · intro g ys hl hR
    have H3 : ∃ n0 n1 n2 t0 t1 t2, ys = [Value.int n0 t0, Value.int n1 t1, Value.int n2 t2] := by
      obtain ⟨a, b, c, rfl⟩ : ∃ a b c, ys = [a, b, c] := by
        rcases ys with _ | ⟨a, _ | ⟨b, _ | ⟨c, _ | ⟨d, ys⟩⟩⟩⟩ <;> simp at hl
        exact ⟨a, b, c, rfl⟩
      obtain ⟨n0, t0, rfl⟩ := hR 0 a rfl
      obtain ⟨n1, t1, rfl⟩ := hR 1 b rfl
      obtain ⟨n2, t2, rfl⟩ := hR 2 c rfl
      exact ⟨_, _, _, _, _, _, rfl⟩
    obtain ⟨n0, n1, n2, t0, t1, t2, rfl⟩ := H3
    intro D h tk F N o1
    clear hl hR N9 F9
    dsimp only
    (try dsimp only [LCg.lst] at N)
    repeat (rename _ => x9; revert x9)
    exact fun h => h.out⟩
end
theorem resetL2 : True := by w_top off; trivial
section
open PySem.Flt
theorem wordLen_eq {T : Nat} (n : Int) (h1 : 1 ≤ T) (h3 : T ≤ 3) : (n.fdiv 8).fmod (5 - (T : Int)) = (wordLen T n : Int) ∧ wordLen T n + T < 5 := by
  have e : (5 - (T : Int)) = ((5 - T : Nat) : Int) := by omega
  have a1 : 0 ≤ (n.fdiv 8).fmod (5 - (T : Int)) := Int.fmod_nonneg_of_pos _ (by omega)
  have a2 : (n.fdiv 8).fmod (5 - (T : Int)) < 5 - (T : Int) := Int.fmod_lt_of_pos _ (by omega)
  unfold wordLen
  omega
theorem sgn_weight (n : Int) (l : List Nat) : ((l.map (sgn n)).map (·.length)).sum = l.length := by
  induction l with
  | nil => rfl
  | cons a r ih => rw [List.map_cons, List.map_cons, List.sum_cons, ih, List.length_cons, show (sgn n a).length = 1 from rfl]; omega
theorem times_of (S : Int) : ∃ T : Nat, 1 ≤ T ∧ T ≤ 3 ∧ 1 + S.fmod 3 = (T : Int) := by
  have a1 : 0 ≤ S.fmod 3 := Int.fmod_nonneg_of_pos _ (by omega)
  have a2 : S.fmod 3 < 3 := Int.fmod_lt_of_pos _ (by omega)
  exact ⟨(1 + S.fmod 3).toNat, by omega, by omega, by omega⟩
theorem strs_of : ∀ {vs : List Value} {ss : List Str}, vs.length = ss.length → (∀ (i : Nat) v, vs[i]? = some v → ∃ x t, ss[i]? = some x ∧ v = Value.str x t) → StrsAre vs ss
  | [], [], _, _ => .nil
  | v :: vs, x :: ss, hl, h => by
    obtain ⟨y, t, e, rfl⟩ := h 0 v rfl
    obtain rfl : x = y := Option.some.inj e
    exact .cons _ _ (strs_of (by simpa using hl) fun i z hz => h (i + 1) z hz)
theorem lay11 : True := by
  k_with "exec Assign cons ListComp" => (k_here; (with_reducible show wpAny _ _ (exec (Stmt.Assign [PySem.Expr.Name (Str.ofString "words") _] _ _) _) _ _ _); (with_reducible rename Fr _ _ _ _ => zF9); k_dflt (refine' Assign_ListComp_C zF9 ?zcl ?zcw ?zc1 ?zc2 ?zc2' ?zc3 ?zc4 ?zc5 ?zcy ?zcp ?zc6 ?_; (case zcl => rfl); (case zcw => with_unfolding_all rfl); (case zc1 => with_unfolding_all rfl); (case zc2 => intro _; with_unfolding_all rfl); (case zc2' => intro _; with_unfolding_all rfl); (case zc3 => with_unfolding_all rfl); (case zc4 => decide); (case zc5 => with_unfolding_all rfl); (case zcy => with_unfolding_all rfl); (case zcp => with_unfolding_all rfl); (case zc6 => intro _; with_unfolding_all rfl); k_whole); (try k_fold))
  trivial
set_option maxRecDepth 100000 in
set_option maxHeartbeats 8000000 in
noncomputable def T2 : PSigma fun G : Prop => PySem.Flt.Hid G → T1.1 := ⟨_, by
  intro hG _; k_fill; intro _ _ _ _ _ _ _ _ _ _ _ _ _ _ _ _ _ _ _ _ _ _ _ _ _ _ _ _ _ _ _ _ _ _ _ _ _ _ _ _ _ _ _ _ _ _ _ _ _ _ _ _ _ _ _ _ _ _ qk ek _ _ _ _ _ _ _ _ _ _ qk ek _ _ _ _ _ R9 _ g n0 n1 n2 t0 t1 t2 D h tk F N o1
  (with_reducible rename LCg.Off1 _ _ => o9); simp only [LCg.Off1, and_true] at o9
  walk_at "M steps"
  (with_reducible rename Fr _ _ _ _ => F9); (with_reducible rename News _ _ _ _ => N9)
  (with_reducible rename _ = Data.cell (some (Value.int (1 + _) _)) => d9)
  generalize hS : n0 + (n1 + (n2 + 0)) = S at *
  obtain ⟨T, hT1, hT3, eT⟩ := times_of S
  rw [eT] at d9
  have hD9 := @hT1
  refine ⟨_, _, _, fun i v => ∃ t, v = Value.str (wordS T ([n0, n1, n2].getD i 0)) t, rfl, rfl, F9, N9, .inr ⟨_, List.mem_cons_self, rfl, _, rfl⟩, (show (3 : Nat) ≤ sizeLine by decide), ?_, ?_⟩
  · intro g i v I oI C oC c oc D2 ys h tk Q2 E2 hi hP hoc F N ret
    obtain ⟨nn, tt, rfl, hnn⟩ : ∃ nn tt, v = Value.int nn tt ∧ nn = [n0, n1, n2].getD i 0 := by
      rcases i with _ | _ | _ | i
      · exact ⟨_, _, (Option.some.inj hP).symm, rfl⟩
      · exact ⟨_, _, (Option.some.inj hP).symm, rfl⟩
      · exact ⟨_, _, (Option.some.inj hP).symm, rfl⟩
      · cases hP
    clear N9 F9 hP
    obtain ⟨ew, lw⟩ := wordLen_eq nn hT1 hT3
    dsimp only at ret
    rw [← hnn] at ret
    (try dsimp only)
    have h5 : (5 - (T : Int)) ≠ 0 := by omega
    walk_at "M steps"
    (with_reducible rename Fr _ _ _ _ => F9); (with_reducible rename News _ _ _ _ => N9); (with_reducible rename IsRange _ _ _ _ _ _ _ _ => R9)
    rw [ew] at R9
    refine after_range (n := wordLen T nn) (R := fun i v => ∃ t, v = Value.str (sgn nn i) t) rfl F9 N9 R9 (small_one (by decide) (by decide) (by omega) (by omega)) (by rw [rangeSize_nat]; simp) (Nat.le_trans (Nat.le_of_lt (show wordLen T nn < 5 by omega)) (by decide)) ?_ ?_
    · intro i v I oI C oC D ys m₂ h tk Q2 E2 hi hP hn2 hx F N ret
      obtain ⟨t, rfl⟩ := hP
      clear N9 F9
      dsimp only
      have hi4 : i < 4 := by omega
      rcases i with _ | _ | _ | _ | i
      case succ.succ.succ.succ => omega
      all_goals (try dsimp only at hx)
      all_goals (
        walk_at "M steps"
        exact ret _ _ _ ⟨_, rfl⟩ (by with_reducible assumption) (by with_reducible assumption))
    · intro g ys hl hR D h tk F N o1
      clear N9 F9
      dsimp only
      have hS9 : StrsAre ys ((List.range (wordLen T nn)).map (sgn nn)) := by
        refine strs_of (by rw [hl, List.length_map, List.length_range]) fun i v hv => ?_
        obtain ⟨t, rfl⟩ := hR i v hv
        have hlt := (List.getElem?_eq_some_iff.mp hv).1
        exact ⟨_, t, by rw [List.getElem?_map, List.getElem?_range (by omega)]; rfl, rfl⟩
      walk_at "M steps"
      (with_reducible rename Fr _ _ _ _ => F9); (with_reducible rename News _ _ _ _ => N9)
      refine join_listW (News.isList N9 (items := ys.toArray) List.mem_cons_self) hS9 (by decide) (by rw [sgn_weight, List.length_range, List.length_map, List.length_range]; omega) fun t' k => ?_
      exact ret _ _ _ ⟨_, rfl⟩ F9 (fun p hp => N9 p (List.mem_cons_of_mem _ (by
        first | exact hp | exact List.mem_cons_of_mem _ hp)))
  · intro g ys hl hR
    have H3 : ∃ u0 u1 u2, ys = [Value.str (wordS T n0) u0, Value.str (wordS T n1) u1, Value.str (wordS T n2) u2] := by
      obtain ⟨a, b, c, rfl⟩ : ∃ a b c, ys = [a, b, c] := by
        have hl' : ys.length = 3 := hl
        rcases ys with _ | ⟨a, _ | ⟨b, _ | ⟨c, _ | ⟨d, ys⟩⟩⟩⟩ <;> simp at hl'
        exact ⟨a, b, c, rfl⟩
      obtain ⟨t0, rfl⟩ := hR 0 a rfl
      obtain ⟨t1, rfl⟩ := hR 1 b rfl
      obtain ⟨t2, rfl⟩ := hR 2 c rfl
      exact ⟨_, _, _, rfl⟩
    obtain ⟨u0, u1, u2, rfl⟩ := H3
    intro Dw h tk F N o1
    clear hl hR N9 F9
    dsimp only
    (try dsimp only [LCg.lst] at N)
    simp only [LCg.Off1, and_true] at o1
    repeat (rename _ => x9; revert x9)
    exact fun h => h.out⟩
end
theorem resetL3 : True := by w_top off; trivial
section
open PySem.Flt
theorem lay12 : True := by
  k_with_none
  k_with "M enter" => (refine wpAny_call ?_; k_dflt (refine' code_full ?zk1 ?zk2 ?zk3 ?zk5 ?zkA ?zkF ?zkK ?zk6 ?zk7 ?zk8 ?zk9 ?zkB ?zkP ?_ ?zc2 ?zc3 ?zc4 ?zc5; (case zkA => exact rfl); (case zkF => exact rfl); (case zkK => assumption); (case zk1 => k_asm); (case zk2 => k_asm); (case zk3 => k_asm); (case zk5 => k_asm); (case zk6 => k_is); (case zk7 => k_is); (case zk8 => ktr_room); (case zk9 => exact BindsTo.of_eq rfl); (case zc5 => decide); (case zkP => exact List.cons_ne_nil _ _); (case zkB => exact locs rfl); (case zc2 => exact rfl); (case zc3 => exact rfl); (case zc4 => exact rfl); k_whole); intro zL' zh' tk9 zp9 zF' zN' zB' zX' zT'; (try dsimp only); (try k_fold))
  k_with "M ne" => (refine neN ?_; (try dsimp only); intro ze9; have ze8 := Eq.symm ze9; (repeat ((with_reducible rename _ ≠ _ ∧ _ => zx9); obtain ⟨zy9, zz9⟩ := zx9)); with_reducible contradiction)
  k_with "call ref" => (k_here; k_dflt (first | ((with_reducible show wpAny _ _ (call (Value.ref 69) [Value.int _ _, Value.int _ _]) _ _ _); refine' Cc.use (c_lt _ _ _ _) ?zk1 ?zk2 ?zk3 ?zk4 ?zk5 ?zk6 ?zk7 ?zk8 ?_) | ((with_reducible show wpAny _ _ (call (Value.ref 76) [Value.int _ _, Value.int _ _]) _ _ _); refine' Cc.use (c_eq _ _ _ _) ?zk1 ?zk2 ?zk3 ?zk4 ?zk5 ?zk6 ?zk7 ?zk8 ?_) | ((with_reducible show wpAny _ _ (call (Value.ref 83) [Value.int _ _, Value.int _ _]) _ _ _); refine' Cc.use (c_ne _ _ _ _) ?zk1 ?zk2 ?zk3 ?zk4 ?zk5 ?zk6 ?zk7 ?zk8 ?_) | ((with_reducible show wpAny _ _ (call (Value.ref 90) [Value.int _ _, Value.int _ _]) _ _ _); refine' Cc.use (c_gt _ _ _ _) ?zk1 ?zk2 ?zk3 ?zk4 ?zk5 ?zk6 ?zk7 ?zk8 ?_) | ((with_reducible show wpAny _ _ (call (Value.ref 97) [Value.int _ _]) _ _ _); refine' Cc.use (c_not_ _ _) ?zk1 ?zk2 ?zk3 ?zk4 ?zk5 ?zk6 ?zk7 ?zk8 ?_) | ((with_reducible show wpAny _ _ (call (Value.ref 104) [Value.int _ _, Value.int _ _]) _ _ _); refine' Cc.use (c_add _ _ _ _) ?zk1 ?zk2 ?zk3 ?zk4 ?zk5 ?zk6 ?zk7 ?zk8 ?_) | ((with_reducible show wpAny _ _ (call (Value.ref 111) [Value.bool _, Value.bool _]) _ _ _); refine' Cc.use (c_and_ _ _) ?zk1 ?zk2 ?zk3 ?zk4 ?zk5 ?zk6 ?zk7 ?zk8 ?_) | ((with_reducible show wpAny _ _ (call (Value.ref 146) [Value.bool _, Value.bool _]) _ _ _); refine' Cc.use (c_or_ _ _) ?zk1 ?zk2 ?zk3 ?zk4 ?zk5 ?zk6 ?zk7 ?zk8 ?_) | ((with_reducible show wpAny _ _ (call (Value.ref 160) [Value.int _ _, Value.int _ _]) _ _ _); refine' Cc.use (c_sub _ _ _ _) ?zk1 ?zk2 ?zk3 ?zk4 ?zk5 ?zk6 ?zk7 ?zk8 ?_) | ((with_reducible show wpAny _ _ (call (Value.ref 132) [Value.int _ _, Value.int _ _]) _ _ _); refine' Cc.use (c_mod _ _ _ _ ?zkb) ?zk1 ?zk2 ?zk3 ?zk4 ?zk5 ?zk6 ?zk7 ?zk8 ?_; (case zkb => first | decide | omega)) | ((with_reducible show wpAny _ _ (call (Value.ref 118) [Value.int _ _, Value.int 8 _]) _ _ _); refine' Cc.use (c_floordiv8 _ _ _) ?zk1 ?zk2 ?zk3 ?zk4 ?zk5 ?zk6 ?zk7 ?zk8 ?_) | ((with_reducible show wpAny _ _ (call (Value.ref 125) [Value.int 1 _, Value.int 3 _]) _ _ _); refine' Cc.use (c_lshift13 _ _) ?zk1 ?zk2 ?zk3 ?zk4 ?zk5 ?zk6 ?zk7 ?zk8 ?_) | ((with_reducible show wpAny _ _ (call (Value.ref 153) [Value.int _ _, Value.int 1 _]) _ _ _); refine' Cc.use (c_rshift1 _ _ _ ?zkb) ?zk1 ?zk2 ?zk3 ?zk4 ?zk5 ?zk6 ?zk7 ?zk8 ?_; (case zkb => first | decide | omega)) | ((with_reducible show wpAny _ _ (call (Value.ref 174) [Value.int _ _, Value.int _ _]) _ _ _); refine' Cc.use (c_xor _ _ _ _) ?zk1 ?zk2 ?zk3 ?zk4 ?zk5 ?zk6 ?zk7 ?zk8 ?_) | ((with_reducible show wpAny _ _ (call (Value.ref 167) [Value.int _ _, Value.int _ _]) _ _ _); refine' Cc.use (c_truediv _ _ _ _ ?zkb) ?zk1 ?zk2 ?zk3 ?zk4 ?zk5 ?zk6 ?zk7 ?zk8 ?_; (case zkb => first | decide | omega)) | ((with_reducible show wpAny _ _ (call (Value.ref 139) [Value.float _ _, Value.int 24 _]) _ _ _); refine' Cc.use (c_mulf24 _ _ _) ?zk1 ?zk2 ?zk3 ?zk4 ?zk5 ?zk6 ?zk7 ?zk8 ?_) | ((with_reducible show wpAny _ _ (call (Value.ref 139) [Value.int _ _, Value.int _ _]) _ _ _); refine' Cc.use (c_mul _ _ _ _ ?zkb) ?zk1 ?zk2 ?zk3 ?zk4 ?zk5 ?zk6 ?zk7 ?zk8 ?_; (case zkb => first | decide | omega))); (case zk1 => k_asm); (case zk2 => k_asm); (case zk3 => k_asm); (case zk4 => k_asm); (case zk5 => k_asm); (case zk6 => first | exact rfl | assumption); (case zk7 => ktr_room); (case zk8 => ktr_units); (dsimp only [retV]); intro zt9 zh9 ztk9 zF9 zN9; (try k_fold))
  k_with "M steps" => repeat' (first | (k_unfold; (try dsimp only)) | (with_reducible first | refine Cont.next ?_ | refine Cont.ret ?_ | refine Cont.brk ?_ | refine Cont.cont ?_) | (k_end; wrow_close) | ((fail_if_success (with_reducible show wpAny _ _ (pyIter _) _ _ _)); walk1) | (dsimp only; (fail_if_success (with_reducible show wpAny _ _ (pyIter _) _ _ _)); walk1) | (leave1; try dsimp only) | fail "no step")
  k_with "subscriptTail" => (k_here; (with_reducible show wpAny _ _ (subscriptTail _ _ (Value.ref _) (Value.int _ _)) _ _ _); k_dflt (refine' item_base ?zk1 ?zk2 ?zk3 ?zk4 ?zk5 ?_ ?zk7; (case zk1 => k_asm); (case zk2 => with_reducible assumption); (case zk3 => with_reducible assumption); (case zk4 => omega); (case zk5 => omega); (case zk7 => with_unfolding_all rfl); k_whole))
  k_with "eval Name" => (k_here; k_dflt (refine' nameX_L ?zF ?zv ?_ ?za ?zb; (case za => rfl); (case zb => rfl); (case zF => k_asm); (case zv => rfl); k_whole))
  k_with "eval Name" => (k_here; (first | (with_reducible show wpAny _ _ (eval (PySem.Expr.Name (Str.ofString "range") _) _) _ _ _) | (with_reducible show wpAny _ _ (eval (PySem.Expr.Name (Str.ofString "len") _) _) _ _ _) | (with_reducible show wpAny _ _ (eval (PySem.Expr.Name (Str.ofString "max") _) _) _ _ _) | (with_reducible show wpAny _ _ (eval (PySem.Expr.Name (Str.ofString "min") _) _) _ _ _) | (with_reducible show wpAny _ _ (eval (PySem.Expr.Name (Str.ofString "int") _) _) _ _ _) | (with_reducible show wpAny _ _ (eval (PySem.Expr.Name (Str.ofString "enumerate") _) _) _ _ _) | (with_reducible show wpAny _ _ (eval (PySem.Expr.Name (Str.ofString "sum") _) _) _ _ _)); k_dflt (refine' nameX_B ?zF ?zX ?zT ?ze ?zv ?zn ?_ ?za ?zb; (case za => rfl); (case zb => rfl); (case zF => k_asm); (case zX => k_asm); (case zT => k_asm); (case ze => k_is); (case zv => boot_fast); (case zn => decide); k_whole))
  k_with "eval Name" => (k_here; (first | (with_reducible show wpAny _ _ (eval (PySem.Expr.Name (Str.ofString "lt") _) _) _ _ _) | (with_reducible show wpAny _ _ (eval (PySem.Expr.Name (Str.ofString "eq") _) _) _ _ _) | (with_reducible show wpAny _ _ (eval (PySem.Expr.Name (Str.ofString "ne") _) _) _ _ _) | (with_reducible show wpAny _ _ (eval (PySem.Expr.Name (Str.ofString "gt") _) _) _ _ _) | (with_reducible show wpAny _ _ (eval (PySem.Expr.Name (Str.ofString "not_") _) _) _ _ _) | (with_reducible show wpAny _ _ (eval (PySem.Expr.Name (Str.ofString "add") _) _) _ _ _) | (with_reducible show wpAny _ _ (eval (PySem.Expr.Name (Str.ofString "and_") _) _) _ _ _) | (with_reducible show wpAny _ _ (eval (PySem.Expr.Name (Str.ofString "floordiv") _) _) _ _ _) | (with_reducible show wpAny _ _ (eval (PySem.Expr.Name (Str.ofString "lshift") _) _) _ _ _) | (with_reducible show wpAny _ _ (eval (PySem.Expr.Name (Str.ofString "mod") _) _) _ _ _) | (with_reducible show wpAny _ _ (eval (PySem.Expr.Name (Str.ofString "mul") _) _) _ _ _) | (with_reducible show wpAny _ _ (eval (PySem.Expr.Name (Str.ofString "or_") _) _) _ _ _) | (with_reducible show wpAny _ _ (eval (PySem.Expr.Name (Str.ofString "rshift") _) _) _ _ _) | (with_reducible show wpAny _ _ (eval (PySem.Expr.Name (Str.ofString "sub") _) _) _ _ _) | (with_reducible show wpAny _ _ (eval (PySem.Expr.Name (Str.ofString "truediv") _) _) _ _ _) | (with_reducible show wpAny _ _ (eval (PySem.Expr.Name (Str.ofString "xor") _) _) _ _ _) | (with_reducible show wpAny _ _ (eval (PySem.Expr.Name (Str.ofString "indexOf") _) _) _ _ _) | (with_reducible show wpAny _ _ (eval (PySem.Expr.Name (Str.ofString "quotedata") _) _) _ _ _) | (with_reducible show wpAny _ _ (eval (PySem.Expr.Name (Str.ofString "rgb_to_hsv") _) _) _ _ _) | (with_reducible show wpAny _ _ (eval (PySem.Expr.Name (Str.ofString "hsv_to_rgb") _) _) _ _ _) | (with_reducible show wpAny _ _ (eval (PySem.Expr.Name (Str.ofString "_law_paint") _) _) _ _ _) | (with_reducible show wpAny _ _ (eval (PySem.Expr.Name (Str.ofString "_law_owner") _) _) _ _ _) | (with_reducible show wpAny _ _ (eval (PySem.Expr.Name (Str.ofString "_law_owners") _) _) _ _ _) | (with_reducible show wpAny _ _ (eval (PySem.Expr.Name (Str.ofString "_law_worths") _) _) _ _ _) | (with_reducible show wpAny _ _ (eval (PySem.Expr.Name (Str.ofString "_law_wins") _) _) _ _ _)); k_dflt (refine' nameX_K ?zF ?zX ?zT ?ze ?_ ?za ?zb; (case za => rfl); (case zb => rfl); (case zF => k_asm); (case zX => k_asm); (case zT => k_asm); (case ze => k_is); k_whole))
  k_with "execs cons" => (k_here; (with_reducible show wpAny _ _ _ _ _ (Shared.mk _ _ _ (HAdd.hAdd _ _) _)); refine gen_toks ?_; intro ztk9 zp9; (try dsimp only at zp9))
  k_with "execs nil" => (k_here; (with_reducible show wpAny _ _ _ _ _ (Shared.mk _ _ _ (HAdd.hAdd _ _) _)); refine gen_toks ?_; intro ztk9 zp9; (try dsimp only at zp9))
  k_with "eval ListComp" => (k_here; (with_reducible rename Fr _ _ _ _ => zF9); k_dflt (refine' ListComp_G zF9 ?zc1 ?zc2 ?zc3 ?zc4 ?zc5 ?zc6 ?_; (case zc1 => with_unfolding_all rfl); (case zc2 => decide); (case zc3 => with_unfolding_all rfl); (case zc4 => decide); (case zc5 => with_unfolding_all rfl); (case zc6 => intro _; with_unfolding_all rfl); k_whole); (try k_fold))
  k_with "exec Assign cons ListComp" => (k_here; (with_reducible rename Fr _ _ _ _ => zF9); k_dflt (refine' Assign_ListComp_G zF9 ?zcl ?zcw ?zc1 ?zc2 ?zc3 ?zc4 ?zc5 ?zcy ?zcp ?zc6 ?_; (case zcl => rfl); (case zcw => with_unfolding_all rfl); (case zc1 => with_unfolding_all rfl); (case zc2 => decide); (case zc3 => with_unfolding_all rfl); (case zc4 => decide); (case zc5 => with_unfolding_all rfl); (case zcy => with_unfolding_all rfl); (case zcp => with_unfolding_all rfl); (case zc6 => intro _; with_unfolding_all rfl); k_whole); (try k_fold))
  k_with "subscriptTail" => (k_here; (with_reducible show wpAny _ _ (subscriptTail (PySem.Expr.List _ _) _ (Value.ref _) (Value.int _ _)) _ _ _); (with_reducible rename Fr _ _ _ _ => zF9); (with_reducible rename News _ _ _ _ => zN9); (k_dflt (refine ends_item zF9 zN9 (Int.fmod_nonneg_of_pos _ (by decide)) (Int.fmod_lt_of_pos _ (by decide)) ?_)); intro ze9 zx9 zy9 zt9 zu9 zn9 zhe9 zhx9 zhy9 zN8; clear zN9; (try k_fold))
  k_with "binaryOp Add str str" => (k_here; (with_reducible show wpAny _ _ (binaryOp Operator.Add (Value.str _ _) (Value.str _ _)) _ _ _); refine SB.add ?_ ?zhz; (case zhz => ((simp only [Str.length_append]); refine Nat.le_trans (m := 24) ?_ (by decide); omega)); intro zt9 zk9; (try k_fold))
  k_with "call ref" => (k_here; (with_reducible show wpAny _ _ (call (Value.ref 48) [Value.str _ _]) _ _ _); k_dflt (refine' Ct.use (c_quotedata _ _ ?zka) ?zk1 ?zk2 ?zk3 ?zk4 ?zk5 ?zk6 ?zk7 ?zk8 trivial ?_); (case zka => with_reducible assumption); (case zk1 => k_asm); (case zk2 => k_asm); (case zk3 => k_asm); (case zk4 => k_asm); (case zk5 => k_asm); (case zk6 => first | exact rfl | assumption); (case zk7 => ktr_room); (case zk8 => ktr_units); (intro zv9 zh9 ztk9 zkp9 zF9 zN9 zT9; obtain ⟨zy9, zt9, ze9, zhq9⟩ := zT9; subst ze9; clear zkp9); (try dsimp only); (try k_fold))
  trivial
set_option maxRecDepth 100000 in
set_option maxHeartbeats 8000000 in
noncomputable def T3 : PSigma fun G : Prop => PySem.Flt.Hid G → T2.1 := ⟨_, by
  intro hG _; k_fill; intro _ _ _ _ _ _ _ _ _ _ _ _ _ _ _ _ _ _ _ _ _ _ _ _ _ _ _ _ _ _ _ _ _ _ _ _ _ _ _ _ _ _ _ _ _ _ _ _ _ _ _ _ _ _ _ _ _ _ qk ek _ _ c63 _ _ c66 _ c68 qk ek _ _ _ _ _ c76 c77 g n0 n1 n2 t0 t1 t2 D h tk o9 _ _ _ _ _ c94 _ _ _ c98 qk ek S hS T d9 hT1 hT3 eT hD9 g u0 u1 u2 Dw h tk F N o1
  clear c63 c66 c68 c76 c77 c94 c98
  have hw0 := wordS_len n0 hT1 (wordLen_eq n0 hT1 hT3).2
  have hw1 := wordS_len n1 hT1 (wordLen_eq n1 hT1 hT3).2
  have hw2 := wordS_len n2 hT1 (wordLen_eq n2 hT1 hT3).2
  walk_at "M steps"
  (with_reducible rename Fr _ _ _ _ => F9); (with_reducible rename News _ _ _ _ => N9); (with_reducible rename IsRange _ _ _ _ _ _ _ _ => R9)
  (with_reducible rename MailEnds _ _ => he9)
  have hk0 := (wordLen_eq n0 hT1 hT3).2
  have hk1 := (wordLen_eq n1 hT1 hT3).2
  have hk2 := (wordLen_eq n2 hT1 hT3).2
  have hm0 := wl_or T n0
  have hm1 := wl_or T n1
  have hm2 := wl_or T n2
  obtain ⟨x0, tx0, e0, e1, he, hmail, hs⟩ := start_mail F9 rfl he9
  refine iter_rangeJ T (fun k m nx => nx = _ ∧ ∃ y ty, y.cps.toList = mail k (wl T n0) (wl T n1) (wl T n2) e0 e1 ∧ Has m [(Str.ofString "numbers", .ref D), (Str.ofString "words", .ref Dw), (Str.ofString "sent", .str y ty)]) rfl R9 (small_one (by decide) (by decide) (by omega) (by omega)) (by rw [rangeSize_nat]; simp) F9 N9 ⟨rfl, x0, tx0, hmail, rfl, rfl, hs, trivial⟩ ?_ ?_
  · clear N9 F9 hmail hs
    rintro k tq m₁ nx h tk own hin hoff ⟨rfl, y, ty, hy, hm⟩ F2 N2
    rw [has_map hm, Int.zero_add] at F2
    simp only [mapOr] at F2
    simp only [List.cons_append, List.nil_append] at N2
    dsimp only [envOf, envOfC] at F2 N2
    dsimp only
    have hsz : y.cps.size ≤ 10000 := by
      rw [← Array.length_toList, hy]
      exact Nat.le_trans (mail_len (by omega) (by rw [wl_len]; omega) (by rw [wl_len]; omega) (by rw [wl_len]; omega) he) (by decide)
    walk_at "M steps"
    (with_reducible rename Fr _ _ _ _ => F9); (with_reducible rename News _ _ _ _ => N9); (with_reducible rename _ = quoted _ => hq9)
    exact ⟨_, _, _, _, _, rfl, F9, N9, fun p hp => List.mem_append_left own hp, (fun p hp => by repeat (first | exact hp | apply List.mem_cons_of_mem)), hoff, rfl, _, _, by rw [hq9, hy, mail_next hm0 hm1 hm2 he], rfl, rfl, rfl, trivial⟩
  · rintro m₁ nx h tk ⟨rfl, y, ty, hy, hm⟩ F N
    clear N9 F9 hmail hs
    rw [has_map hm] at F
    simp only [mapOr] at F
    dsimp only [envOfC, newEnv] at F N
    dsimp only
    repeat (rename _ => x9; revert x9)
    exact fun h => h.out⟩
end
theorem resetL4 : True := by w_top off; trivial
section
open PySem.Flt
theorem lay13 : True := by
  k_with_none
  k_with "M enter" => (refine wpAny_call ?_; k_dflt (refine' code_full ?zk1 ?zk2 ?zk3 ?zk5 ?zkA ?zkF ?zkK ?zk6 ?zk7 ?zk8 ?zk9 ?zkB ?zkP ?_ ?zc2 ?zc3 ?zc4 ?zc5; (case zkA => exact rfl); (case zkF => exact rfl); (case zkK => assumption); (case zk1 => k_asm); (case zk2 => k_asm); (case zk3 => k_asm); (case zk5 => k_asm); (case zk6 => k_is); (case zk7 => k_is); (case zk8 => ktr_room); (case zk9 => exact BindsTo.of_eq rfl); (case zc5 => decide); (case zkP => exact List.cons_ne_nil _ _); (case zkB => exact locs rfl); (case zc2 => exact rfl); (case zc3 => exact rfl); (case zc4 => exact rfl); k_whole); intro zL' zh' tk9 zp9 zF' zN' zB' zX' zT'; (try dsimp only); (try k_fold))
  k_with "M ne" => (refine neN ?_; (try dsimp only); intro ze9; have ze8 := Eq.symm ze9; (repeat ((with_reducible rename _ ≠ _ ∧ _ => zx9); obtain ⟨zy9, zz9⟩ := zx9)); with_reducible contradiction)
  k_with "call ref" => (k_here; k_dflt (first | ((with_reducible show wpAny _ _ (call (Value.ref 69) [Value.int _ _, Value.int _ _]) _ _ _); refine' Cc.use (c_lt _ _ _ _) ?zk1 ?zk2 ?zk3 ?zk4 ?zk5 ?zk6 ?zk7 ?zk8 ?_) | ((with_reducible show wpAny _ _ (call (Value.ref 76) [Value.int _ _, Value.int _ _]) _ _ _); refine' Cc.use (c_eq _ _ _ _) ?zk1 ?zk2 ?zk3 ?zk4 ?zk5 ?zk6 ?zk7 ?zk8 ?_) | ((with_reducible show wpAny _ _ (call (Value.ref 83) [Value.int _ _, Value.int _ _]) _ _ _); refine' Cc.use (c_ne _ _ _ _) ?zk1 ?zk2 ?zk3 ?zk4 ?zk5 ?zk6 ?zk7 ?zk8 ?_) | ((with_reducible show wpAny _ _ (call (Value.ref 90) [Value.int _ _, Value.int _ _]) _ _ _); refine' Cc.use (c_gt _ _ _ _) ?zk1 ?zk2 ?zk3 ?zk4 ?zk5 ?zk6 ?zk7 ?zk8 ?_) | ((with_reducible show wpAny _ _ (call (Value.ref 97) [Value.int _ _]) _ _ _); refine' Cc.use (c_not_ _ _) ?zk1 ?zk2 ?zk3 ?zk4 ?zk5 ?zk6 ?zk7 ?zk8 ?_) | ((with_reducible show wpAny _ _ (call (Value.ref 104) [Value.int _ _, Value.int _ _]) _ _ _); refine' Cc.use (c_add _ _ _ _) ?zk1 ?zk2 ?zk3 ?zk4 ?zk5 ?zk6 ?zk7 ?zk8 ?_) | ((with_reducible show wpAny _ _ (call (Value.ref 111) [Value.bool _, Value.bool _]) _ _ _); refine' Cc.use (c_and_ _ _) ?zk1 ?zk2 ?zk3 ?zk4 ?zk5 ?zk6 ?zk7 ?zk8 ?_) | ((with_reducible show wpAny _ _ (call (Value.ref 146) [Value.bool _, Value.bool _]) _ _ _); refine' Cc.use (c_or_ _ _) ?zk1 ?zk2 ?zk3 ?zk4 ?zk5 ?zk6 ?zk7 ?zk8 ?_) | ((with_reducible show wpAny _ _ (call (Value.ref 160) [Value.int _ _, Value.int _ _]) _ _ _); refine' Cc.use (c_sub _ _ _ _) ?zk1 ?zk2 ?zk3 ?zk4 ?zk5 ?zk6 ?zk7 ?zk8 ?_) | ((with_reducible show wpAny _ _ (call (Value.ref 132) [Value.int _ _, Value.int _ _]) _ _ _); refine' Cc.use (c_mod _ _ _ _ ?zkb) ?zk1 ?zk2 ?zk3 ?zk4 ?zk5 ?zk6 ?zk7 ?zk8 ?_; (case zkb => first | decide | omega)) | ((with_reducible show wpAny _ _ (call (Value.ref 118) [Value.int _ _, Value.int 8 _]) _ _ _); refine' Cc.use (c_floordiv8 _ _ _) ?zk1 ?zk2 ?zk3 ?zk4 ?zk5 ?zk6 ?zk7 ?zk8 ?_) | ((with_reducible show wpAny _ _ (call (Value.ref 125) [Value.int 1 _, Value.int 3 _]) _ _ _); refine' Cc.use (c_lshift13 _ _) ?zk1 ?zk2 ?zk3 ?zk4 ?zk5 ?zk6 ?zk7 ?zk8 ?_) | ((with_reducible show wpAny _ _ (call (Value.ref 153) [Value.int _ _, Value.int 1 _]) _ _ _); refine' Cc.use (c_rshift1 _ _ _ ?zkb) ?zk1 ?zk2 ?zk3 ?zk4 ?zk5 ?zk6 ?zk7 ?zk8 ?_; (case zkb => first | decide | omega)) | ((with_reducible show wpAny _ _ (call (Value.ref 174) [Value.int _ _, Value.int _ _]) _ _ _); refine' Cc.use (c_xor _ _ _ _) ?zk1 ?zk2 ?zk3 ?zk4 ?zk5 ?zk6 ?zk7 ?zk8 ?_) | ((with_reducible show wpAny _ _ (call (Value.ref 167) [Value.int _ _, Value.int _ _]) _ _ _); refine' Cc.use (c_truediv _ _ _ _ ?zkb) ?zk1 ?zk2 ?zk3 ?zk4 ?zk5 ?zk6 ?zk7 ?zk8 ?_; (case zkb => first | decide | omega)) | ((with_reducible show wpAny _ _ (call (Value.ref 139) [Value.float _ _, Value.int 24 _]) _ _ _); refine' Cc.use (c_mulf24 _ _ _) ?zk1 ?zk2 ?zk3 ?zk4 ?zk5 ?zk6 ?zk7 ?zk8 ?_) | ((with_reducible show wpAny _ _ (call (Value.ref 139) [Value.int _ _, Value.int _ _]) _ _ _); refine' Cc.use (c_mul _ _ _ _ ?zkb) ?zk1 ?zk2 ?zk3 ?zk4 ?zk5 ?zk6 ?zk7 ?zk8 ?_; (case zkb => first | decide | omega))); (case zk1 => k_asm); (case zk2 => k_asm); (case zk3 => k_asm); (case zk4 => k_asm); (case zk5 => k_asm); (case zk6 => first | exact rfl | assumption); (case zk7 => ktr_room); (case zk8 => ktr_units); (dsimp only [retV]); intro zt9 zh9 ztk9 zF9 zN9; (try k_fold))
  k_with "M steps" => repeat' (first | (k_unfold; (try dsimp only)) | (with_reducible first | refine Cont.next ?_ | refine Cont.ret ?_ | refine Cont.brk ?_ | refine Cont.cont ?_) | (k_end; wrow_close) | ((fail_if_success (with_reducible show wpAny _ _ (pyIter _) _ _ _)); walk1) | (dsimp only; (fail_if_success (with_reducible show wpAny _ _ (pyIter _) _ _ _)); walk1) | (leave1; try dsimp only) | fail "no step")
  k_with "subscriptTail" => (k_here; (with_reducible show wpAny _ _ (subscriptTail _ _ (Value.ref _) (Value.int _ _)) _ _ _); k_dflt (refine' item_base ?zk1 ?zk2 ?zk3 ?zk4 ?zk5 ?_ ?zk7; (case zk1 => k_asm); (case zk2 => with_reducible assumption); (case zk3 => with_reducible assumption); (case zk4 => omega); (case zk5 => omega); (case zk7 => with_unfolding_all rfl); k_whole))
  k_with "eval Name" => (k_here; k_dflt (refine' nameX_L ?zF ?zv ?_ ?za ?zb; (case za => rfl); (case zb => rfl); (case zF => k_asm); (case zv => rfl); k_whole))
  k_with "eval Name" => (k_here; (first | (with_reducible show wpAny _ _ (eval (PySem.Expr.Name (Str.ofString "range") _) _) _ _ _) | (with_reducible show wpAny _ _ (eval (PySem.Expr.Name (Str.ofString "len") _) _) _ _ _) | (with_reducible show wpAny _ _ (eval (PySem.Expr.Name (Str.ofString "max") _) _) _ _ _) | (with_reducible show wpAny _ _ (eval (PySem.Expr.Name (Str.ofString "min") _) _) _ _ _) | (with_reducible show wpAny _ _ (eval (PySem.Expr.Name (Str.ofString "int") _) _) _ _ _) | (with_reducible show wpAny _ _ (eval (PySem.Expr.Name (Str.ofString "enumerate") _) _) _ _ _) | (with_reducible show wpAny _ _ (eval (PySem.Expr.Name (Str.ofString "sum") _) _) _ _ _)); k_dflt (refine' nameX_B ?zF ?zX ?zT ?ze ?zv ?zn ?_ ?za ?zb; (case za => rfl); (case zb => rfl); (case zF => k_asm); (case zX => k_asm); (case zT => k_asm); (case ze => k_is); (case zv => boot_fast); (case zn => decide); k_whole))
  k_with "eval Name" => (k_here; (first | (with_reducible show wpAny _ _ (eval (PySem.Expr.Name (Str.ofString "lt") _) _) _ _ _) | (with_reducible show wpAny _ _ (eval (PySem.Expr.Name (Str.ofString "eq") _) _) _ _ _) | (with_reducible show wpAny _ _ (eval (PySem.Expr.Name (Str.ofString "ne") _) _) _ _ _) | (with_reducible show wpAny _ _ (eval (PySem.Expr.Name (Str.ofString "gt") _) _) _ _ _) | (with_reducible show wpAny _ _ (eval (PySem.Expr.Name (Str.ofString "not_") _) _) _ _ _) | (with_reducible show wpAny _ _ (eval (PySem.Expr.Name (Str.ofString "add") _) _) _ _ _) | (with_reducible show wpAny _ _ (eval (PySem.Expr.Name (Str.ofString "and_") _) _) _ _ _) | (with_reducible show wpAny _ _ (eval (PySem.Expr.Name (Str.ofString "floordiv") _) _) _ _ _) | (with_reducible show wpAny _ _ (eval (PySem.Expr.Name (Str.ofString "lshift") _) _) _ _ _) | (with_reducible show wpAny _ _ (eval (PySem.Expr.Name (Str.ofString "mod") _) _) _ _ _) | (with_reducible show wpAny _ _ (eval (PySem.Expr.Name (Str.ofString "mul") _) _) _ _ _) | (with_reducible show wpAny _ _ (eval (PySem.Expr.Name (Str.ofString "or_") _) _) _ _ _) | (with_reducible show wpAny _ _ (eval (PySem.Expr.Name (Str.ofString "rshift") _) _) _ _ _) | (with_reducible show wpAny _ _ (eval (PySem.Expr.Name (Str.ofString "sub") _) _) _ _ _) | (with_reducible show wpAny _ _ (eval (PySem.Expr.Name (Str.ofString "truediv") _) _) _ _ _) | (with_reducible show wpAny _ _ (eval (PySem.Expr.Name (Str.ofString "xor") _) _) _ _ _) | (with_reducible show wpAny _ _ (eval (PySem.Expr.Name (Str.ofString "indexOf") _) _) _ _ _) | (with_reducible show wpAny _ _ (eval (PySem.Expr.Name (Str.ofString "quotedata") _) _) _ _ _) | (with_reducible show wpAny _ _ (eval (PySem.Expr.Name (Str.ofString "rgb_to_hsv") _) _) _ _ _) | (with_reducible show wpAny _ _ (eval (PySem.Expr.Name (Str.ofString "hsv_to_rgb") _) _) _ _ _) | (with_reducible show wpAny _ _ (eval (PySem.Expr.Name (Str.ofString "_law_paint") _) _) _ _ _) | (with_reducible show wpAny _ _ (eval (PySem.Expr.Name (Str.ofString "_law_owner") _) _) _ _ _) | (with_reducible show wpAny _ _ (eval (PySem.Expr.Name (Str.ofString "_law_owners") _) _) _ _ _) | (with_reducible show wpAny _ _ (eval (PySem.Expr.Name (Str.ofString "_law_worths") _) _) _ _ _) | (with_reducible show wpAny _ _ (eval (PySem.Expr.Name (Str.ofString "_law_wins") _) _) _ _ _)); k_dflt (refine' nameX_K ?zF ?zX ?zT ?ze ?_ ?za ?zb; (case za => rfl); (case zb => rfl); (case zF => k_asm); (case zX => k_asm); (case zT => k_asm); (case ze => k_is); k_whole))
  k_with "execs cons" => (k_here; (with_reducible show wpAny _ _ _ _ _ (Shared.mk _ _ _ (HAdd.hAdd _ _) _)); refine gen_toks ?_; intro ztk9 zp9; (try dsimp only at zp9))
  k_with "execs nil" => (k_here; (with_reducible show wpAny _ _ _ _ _ (Shared.mk _ _ _ (HAdd.hAdd _ _) _)); refine gen_toks ?_; intro ztk9 zp9; (try dsimp only at zp9))
  k_with "eval ListComp" => (k_here; (with_reducible rename Fr _ _ _ _ => zF9); k_dflt (refine' ListComp_G zF9 ?zc1 ?zc2 ?zc3 ?zc4 ?zc5 ?zc6 ?_; (case zc1 => with_unfolding_all rfl); (case zc2 => decide); (case zc3 => with_unfolding_all rfl); (case zc4 => decide); (case zc5 => with_unfolding_all rfl); (case zc6 => intro _; with_unfolding_all rfl); k_whole); (try k_fold))
  k_with "exec Assign cons ListComp" => (k_here; (with_reducible rename Fr _ _ _ _ => zF9); k_dflt (refine' Assign_ListComp_G zF9 ?zcl ?zcw ?zc1 ?zc2 ?zc3 ?zc4 ?zc5 ?zcy ?zcp ?zc6 ?_; (case zcl => rfl); (case zcw => with_unfolding_all rfl); (case zc1 => with_unfolding_all rfl); (case zc2 => decide); (case zc3 => with_unfolding_all rfl); (case zc4 => decide); (case zc5 => with_unfolding_all rfl); (case zcy => with_unfolding_all rfl); (case zcp => with_unfolding_all rfl); (case zc6 => intro _; with_unfolding_all rfl); k_whole); (try k_fold))
  trivial
set_option maxRecDepth 100000 in
set_option maxHeartbeats 8000000 in
noncomputable def T4 : PSigma fun G : Prop => PySem.Flt.Hid G → T3.1 := ⟨_, by
  intro hG _; k_fill; intro _ _ _ _ _ _ _ _ _ _ _ _ _ _ _ _ _ _ _ _ _ _ _ _ _ _ _ c28 _ _ _ _ _ _ _ _ _ _ _ _ _ _ _ _ _ _ _ _ _ _ _ _ _ _ _ _ _ _ qk ek _ _ _ _ _ qk ek _ _ _ _ _ g n0 n1 n2 t0 t1 t2 D h tk o9 _ _ _ _ _ _ _ _ qk ek S hS T d9 hT1 hT3 eT hD9 g u0 u1 u2 Dw h tk o1 c110 c111 c112 _ _ c115 _ _ c118 _ _ c121 _ _ c124 _ _ _ _ _ _ c131 c132 c133 qk ek _ _ c138 _ _ c141 _ _ qk ek _ _ qk ek _ _ qk ek _ _ _ _ c158 _ _ _ _ _ c164 c165 hk0 hk1 hk2 c169 c170 c171 x0 tx0 e0 e1 he m₁ h tk y ty hy hm F N
  clear c28 c110 c111 c112 c115 c118 c121 c124 c131 c132 c133 c138 c141 c158 c164 c165 c169 c170 c171
  walk_at "M steps"
  (with_reducible rename Fr _ _ _ _ => F9); (with_reducible rename News _ _ _ _ => N9)
  refine after_list (R := fun i v => ∃ t, v = Value.str (dueS T ([n0, n1, n2].getD i 0)) t) rfl F9 N9 (.inr ⟨(_ : Obj), List.mem_cons_of_mem _ List.mem_cons_self, rfl, _, rfl⟩) (show (3 : Nat) ≤ sizeLine by decide) ?_ ?_
  · intro i v I oI C oC D2 ys m₂ h tk Q2 E2 hi hP hn2 hx F N ret
    obtain ⟨nn, tt, rfl, hnn⟩ : ∃ nn tt, v = Value.str (wordS T nn) tt ∧ nn = [n0, n1, n2].getD i 0 := by
      rcases i with _ | _ | _ | i
      · exact ⟨_, _, (Option.some.inj hP).symm, rfl⟩
      · exact ⟨_, _, (Option.some.inj hP).symm, rfl⟩
      · exact ⟨_, _, (Option.some.inj hP).symm, rfl⟩
      · cases hP
    dsimp only at ret
    rw [← hnn] at ret
    clear N9 F9 hP hnn
    have hw := wordS_len nn hT1 (wordLen_eq nn hT1 hT3).2
    dsimp only
    walk_at "M steps"
    (with_reducible rename Fr _ _ _ _ => F9); (with_reducible rename News _ _ _ _ => N9)
    · rename (_ == _) = true => ha
      rw [due_dot ha]
      exact ret _ _ _ ⟨_, rfl⟩ F9 N9
    · rename (_ == _) = false => ha
      exact ret _ _ _ ⟨_, congrArg (fun z => Value.str z _) (due_not ha)⟩ (by with_reducible assumption) (by with_reducible assumption)
  · intro g ys hl hR
    have H3 : ∃ u0 u1 u2, ys = [Value.str (dueS T n0) u0, Value.str (dueS T n1) u1, Value.str (dueS T n2) u2] := by
      obtain ⟨a, b, c, rfl⟩ : ∃ a b c, ys = [a, b, c] := by
        have hl' : ys.length = 3 := hl
        rcases ys with _ | ⟨a, _ | ⟨b, _ | ⟨c, _ | ⟨d, ys⟩⟩⟩⟩ <;> simp at hl'
        exact ⟨a, b, c, rfl⟩
      obtain ⟨t0, rfl⟩ := hR 0 a rfl
      obtain ⟨t1, rfl⟩ := hR 1 b rfl
      obtain ⟨t2, rfl⟩ := hR 2 c rfl
      exact ⟨_, _, _, rfl⟩
    obtain ⟨v0, v1, v2, rfl⟩ := H3
    intro Dd h tk F N o1
    clear hl hR N9 F9
    dsimp only
    (try dsimp only [LCg.lst] at N)
    simp only [LCg.Off1, and_true] at o1
    repeat (rename _ => x9; revert x9)
    exact fun h => h.out⟩
end
theorem resetL5 : True := by w_top off; trivial
section
open PySem.Flt
theorem lay14 : True := by
  k_with "call builtin:str.join" => (k_here; (with_reducible show wpAny _ _ (call (Value.builtin "str.join") [Value.str (Str.ofString "\r\n") _, Value.ref _]) _ _ _); (with_reducible rename News _ _ _ _ => zN9); refine join_listW (News.isList zN9 (by k_mem)) (.cons _ _ (.cons _ _ (.cons _ _ .nil))) (by decide) ?zhz ?_; (case zhz => ((simp only [List.map_cons, List.map_nil, List.sum_cons, List.sum_nil, List.length_cons, List.length_nil]); omega)); intro zt9 zk9; (try k_fold))
  k_with "call builtin:str.split" => (k_here; (with_reducible show wpAny _ _ (call (Value.builtin "str.split") [Value.str _ _, Value.str _ _]) _ _ _); (with_reducible rename Fr _ _ _ _ => zF9); (with_reducible rename News _ _ _ _ => zN9); refine KSpl.split1 zF9 zN9 (by decide) ?_ (by assumption); intro zD9 zl9 zh9 zk9 ze9 za9 zF' zN' l1; (try k_lt l1); (rw [split_mail] at ze9); (kspl_open ze9); (simp only [strValues, List.map_cons, List.map_nil] at zN' za9); (try k_fold))
  trivial
set_option maxRecDepth 100000 in
set_option maxHeartbeats 8000000 in
noncomputable def T5 : PSigma fun G : Prop => PSigma fun G2 : Prop => PySem.Flt.Hid G → PySem.Flt.Hid G2 → T4.1 := ⟨_, _, by
  intro hG hG2 _; k_fill; intro _ _ _ _ _ _ _ _ _ _ _ _ _ _ _ _ _ _ _ _ _ _ _ _ _ _ _ _ _ _ _ _ _ _ _ _ _ _ _ _ _ _ _ _ _ _ _ _ _ _ _ _ _ _ _ _ _ qk ek _ _ _ _ _ qk ek _ _ _ _ _ g n0 n1 n2 t0 t1 t2 D h tk o9 _ _ _ _ _ _ _ _ qk ek S hS T c96 hT1 hT3 eT hD9 g u0 u1 u2 Dw h tk o1 _ _ _ _ _ _ _ _ _ _ _ _ _ _ qk ek _ _ _ _ _ _ qk ek _ _ qk ek _ _ qk ek _ _ _ _ _ _ _ _ _ hk0 hk1 hk2 x0 tx0 e0 e1 c157 m₁ h tk y ty hy hm qk ek g v0 v1 v2 Dd h tk F N o1
  clear c96 c157
  have ey := mail_join hT1 hy
  subst ey; clear hy
  have hd0 := dueS_len n0 (wordLen_eq n0 hT1 hT3).2
  have hd1 := dueS_len n1 (wordLen_eq n1 hT1 hT3).2
  have hd2 := dueS_len n2 (wordLen_eq n2 hT1 hT3).2
  have hz : (Txt.join (Str.ofString "\r\n") [dueS T n0, dueS T n1, dueS T n2]).length + 2 ≤ sizeLine := by
    have := joinT_len hd0 hd1 hd2
    have h2 : (100 : Nat) ≤ sizeLine := by decide
    omega
  walk_at "M steps"
  (with_reducible rename Fr _ _ _ _ => F9); (with_reducible rename News _ _ _ _ => N9); (with_reducible rename IsRange _ _ _ _ _ _ _ _ => R9)
  have N8 := reorder N9
  clear N9
  refine iter_rangeJ 3 (RJ T [n0, n1, n2] _ _ _ [_, _, _, _] [(Str.ofString "numbers", _), (Str.ofString "rows", _), (Str.ofString "words", _), (Str.ofString "due", _), (Str.ofString "stalks", _), (Str.ofString "worths", _)]) rfl R9 (by decide) (by decide) F9 N8 (rj0 (v := none) ?_ ?_ ?_ ?_ ⟨rfl, rfl, rfl, rfl, rfl, rfl, trivial⟩) ?_ ?_
  · assumption
  · k_all
  · k_all
  · k_all
  · clear N8 F9
    rintro i ti m₁ nx h tk own hin hoff ⟨ss, ws, oc, tl, vc, rfl, hs1, hw1, hoc, hS, hW, hC, hbase, hrow, hm⟩ F2 N2
    clear hG2
    repeat (rename _ => x9; revert x9)
    exact fun h => h.out
  · clear N8 F9
    rintro m₁ nx h tk ⟨ss, ws, oc, tl, vc, rfl, hs1, hw1, hoc, hS, hW, hC, hbase, hrow, hm⟩ F N
    clear hG
    repeat (rename _ => x9; revert x9)
    exact fun h => h.out⟩
end
theorem resetL6 : True := by w_top off; trivial
section
open PySem.Flt
local macro_rules | `(tactic| k_all) => `(tactic| assumption)
theorem lay15 : True := by
  k_with_none
  k_with "M enter" => (refine wpAny_call ?_; k_dflt (refine' code_full ?zk1 ?zk2 ?zk3 ?zk5 ?zkA ?zkF ?zkK ?zk6 ?zk7 ?zk8 ?zk9 ?zkB ?zkP ?_ ?zc2 ?zc3 ?zc4 ?zc5; (case zkA => exact rfl); (case zkF => exact rfl); (case zkK => assumption); (case zk1 => k_asm); (case zk2 => k_asm); (case zk3 => k_asm); (case zk5 => k_asm); (case zk6 => k_is); (case zk7 => k_is); (case zk8 => ktr_room); (case zk9 => exact BindsTo.of_eq rfl); (case zc5 => decide); (case zkP => exact List.cons_ne_nil _ _); (case zkB => exact locs rfl); (case zc2 => exact rfl); (case zc3 => exact rfl); (case zc4 => exact rfl); k_whole); intro zL' zh' tk9 zp9 zF' zN' zB' zX' zT'; (try dsimp only); (try k_fold))
  k_with "M ne" => (refine neN ?_; (try dsimp only); intro ze9; have ze8 := Eq.symm ze9; (repeat ((with_reducible rename _ ≠ _ ∧ _ => zx9); obtain ⟨zy9, zz9⟩ := zx9)); with_reducible contradiction)
  k_with "call ref" => (k_here; k_dflt (first | ((with_reducible show wpAny _ _ (call (Value.ref 69) [Value.int _ _, Value.int _ _]) _ _ _); refine' Cc.use (c_lt _ _ _ _) ?zk1 ?zk2 ?zk3 ?zk4 ?zk5 ?zk6 ?zk7 ?zk8 ?_) | ((with_reducible show wpAny _ _ (call (Value.ref 76) [Value.int _ _, Value.int _ _]) _ _ _); refine' Cc.use (c_eq _ _ _ _) ?zk1 ?zk2 ?zk3 ?zk4 ?zk5 ?zk6 ?zk7 ?zk8 ?_) | ((with_reducible show wpAny _ _ (call (Value.ref 83) [Value.int _ _, Value.int _ _]) _ _ _); refine' Cc.use (c_ne _ _ _ _) ?zk1 ?zk2 ?zk3 ?zk4 ?zk5 ?zk6 ?zk7 ?zk8 ?_) | ((with_reducible show wpAny _ _ (call (Value.ref 90) [Value.int _ _, Value.int _ _]) _ _ _); refine' Cc.use (c_gt _ _ _ _) ?zk1 ?zk2 ?zk3 ?zk4 ?zk5 ?zk6 ?zk7 ?zk8 ?_) | ((with_reducible show wpAny _ _ (call (Value.ref 97) [Value.int _ _]) _ _ _); refine' Cc.use (c_not_ _ _) ?zk1 ?zk2 ?zk3 ?zk4 ?zk5 ?zk6 ?zk7 ?zk8 ?_) | ((with_reducible show wpAny _ _ (call (Value.ref 104) [Value.int _ _, Value.int _ _]) _ _ _); refine' Cc.use (c_add _ _ _ _) ?zk1 ?zk2 ?zk3 ?zk4 ?zk5 ?zk6 ?zk7 ?zk8 ?_) | ((with_reducible show wpAny _ _ (call (Value.ref 111) [Value.bool _, Value.bool _]) _ _ _); refine' Cc.use (c_and_ _ _) ?zk1 ?zk2 ?zk3 ?zk4 ?zk5 ?zk6 ?zk7 ?zk8 ?_) | ((with_reducible show wpAny _ _ (call (Value.ref 146) [Value.bool _, Value.bool _]) _ _ _); refine' Cc.use (c_or_ _ _) ?zk1 ?zk2 ?zk3 ?zk4 ?zk5 ?zk6 ?zk7 ?zk8 ?_) | ((with_reducible show wpAny _ _ (call (Value.ref 160) [Value.int _ _, Value.int _ _]) _ _ _); refine' Cc.use (c_sub _ _ _ _) ?zk1 ?zk2 ?zk3 ?zk4 ?zk5 ?zk6 ?zk7 ?zk8 ?_) | ((with_reducible show wpAny _ _ (call (Value.ref 132) [Value.int _ _, Value.int _ _]) _ _ _); refine' Cc.use (c_mod _ _ _ _ ?zkb) ?zk1 ?zk2 ?zk3 ?zk4 ?zk5 ?zk6 ?zk7 ?zk8 ?_; (case zkb => first | decide | omega)) | ((with_reducible show wpAny _ _ (call (Value.ref 118) [Value.int _ _, Value.int 8 _]) _ _ _); refine' Cc.use (c_floordiv8 _ _ _) ?zk1 ?zk2 ?zk3 ?zk4 ?zk5 ?zk6 ?zk7 ?zk8 ?_) | ((with_reducible show wpAny _ _ (call (Value.ref 125) [Value.int 1 _, Value.int 3 _]) _ _ _); refine' Cc.use (c_lshift13 _ _) ?zk1 ?zk2 ?zk3 ?zk4 ?zk5 ?zk6 ?zk7 ?zk8 ?_) | ((with_reducible show wpAny _ _ (call (Value.ref 153) [Value.int _ _, Value.int 1 _]) _ _ _); refine' Cc.use (c_rshift1 _ _ _ ?zkb) ?zk1 ?zk2 ?zk3 ?zk4 ?zk5 ?zk6 ?zk7 ?zk8 ?_; (case zkb => first | decide | omega)) | ((with_reducible show wpAny _ _ (call (Value.ref 174) [Value.int _ _, Value.int _ _]) _ _ _); refine' Cc.use (c_xor _ _ _ _) ?zk1 ?zk2 ?zk3 ?zk4 ?zk5 ?zk6 ?zk7 ?zk8 ?_) | ((with_reducible show wpAny _ _ (call (Value.ref 167) [Value.int _ _, Value.int _ _]) _ _ _); refine' Cc.use (c_truediv _ _ _ _ ?zkb) ?zk1 ?zk2 ?zk3 ?zk4 ?zk5 ?zk6 ?zk7 ?zk8 ?_; (case zkb => first | decide | omega)) | ((with_reducible show wpAny _ _ (call (Value.ref 139) [Value.float _ _, Value.int 24 _]) _ _ _); refine' Cc.use (c_mulf24 _ _ _) ?zk1 ?zk2 ?zk3 ?zk4 ?zk5 ?zk6 ?zk7 ?zk8 ?_) | ((with_reducible show wpAny _ _ (call (Value.ref 139) [Value.int _ _, Value.int _ _]) _ _ _); refine' Cc.use (c_mul _ _ _ _ ?zkb) ?zk1 ?zk2 ?zk3 ?zk4 ?zk5 ?zk6 ?zk7 ?zk8 ?_; (case zkb => first | decide | omega))); (case zk1 => k_asm); (case zk2 => k_asm); (case zk3 => k_asm); (case zk4 => k_asm); (case zk5 => k_asm); (case zk6 => first | exact rfl | assumption); (case zk7 => ktr_room); (case zk8 => ktr_units); (dsimp only [retV]); intro zt9 zh9 ztk9 zF9 zN9; (try k_fold))
  k_with "M steps" => repeat' (first | (k_unfold; (try dsimp only)) | (with_reducible first | refine Cont.next ?_ | refine Cont.ret ?_ | refine Cont.brk ?_ | refine Cont.cont ?_) | (k_end; wrow_close) | ((fail_if_success (with_reducible show wpAny _ _ (pyIter _) _ _ _)); walk1) | (dsimp only; (fail_if_success (with_reducible show wpAny _ _ (pyIter _) _ _ _)); walk1) | (leave1; try dsimp only) | fail "no step")
  k_with "subscriptTail" => (k_here; (with_reducible show wpAny _ _ (subscriptTail _ _ (Value.ref _) (Value.int _ _)) _ _ _); k_dflt (refine' item_base ?zk1 ?zk2 ?zk3 ?zk4 ?zk5 ?_ ?zk7; (case zk1 => k_asm); (case zk2 => with_reducible assumption); (case zk3 => with_reducible assumption); (case zk4 => omega); (case zk5 => omega); (case zk7 => with_unfolding_all rfl); k_whole))
  k_with "eval Name" => (k_here; k_dflt (refine' nameX_L ?zF ?zv ?_ ?za ?zb; (case za => rfl); (case zb => rfl); (case zF => k_asm); (case zv => rfl); k_whole))
  k_with "eval Name" => (k_here; (first | (with_reducible show wpAny _ _ (eval (PySem.Expr.Name (Str.ofString "range") _) _) _ _ _) | (with_reducible show wpAny _ _ (eval (PySem.Expr.Name (Str.ofString "len") _) _) _ _ _) | (with_reducible show wpAny _ _ (eval (PySem.Expr.Name (Str.ofString "max") _) _) _ _ _) | (with_reducible show wpAny _ _ (eval (PySem.Expr.Name (Str.ofString "min") _) _) _ _ _) | (with_reducible show wpAny _ _ (eval (PySem.Expr.Name (Str.ofString "int") _) _) _ _ _) | (with_reducible show wpAny _ _ (eval (PySem.Expr.Name (Str.ofString "enumerate") _) _) _ _ _) | (with_reducible show wpAny _ _ (eval (PySem.Expr.Name (Str.ofString "sum") _) _) _ _ _)); k_dflt (refine' nameX_B ?zF ?zX ?zT ?ze ?zv ?zn ?_ ?za ?zb; (case za => rfl); (case zb => rfl); (case zF => k_asm); (case zX => k_asm); (case zT => k_asm); (case ze => k_is); (case zv => boot_fast); (case zn => decide); k_whole))
  k_with "eval Name" => (k_here; (first | (with_reducible show wpAny _ _ (eval (PySem.Expr.Name (Str.ofString "lt") _) _) _ _ _) | (with_reducible show wpAny _ _ (eval (PySem.Expr.Name (Str.ofString "eq") _) _) _ _ _) | (with_reducible show wpAny _ _ (eval (PySem.Expr.Name (Str.ofString "ne") _) _) _ _ _) | (with_reducible show wpAny _ _ (eval (PySem.Expr.Name (Str.ofString "gt") _) _) _ _ _) | (with_reducible show wpAny _ _ (eval (PySem.Expr.Name (Str.ofString "not_") _) _) _ _ _) | (with_reducible show wpAny _ _ (eval (PySem.Expr.Name (Str.ofString "add") _) _) _ _ _) | (with_reducible show wpAny _ _ (eval (PySem.Expr.Name (Str.ofString "and_") _) _) _ _ _) | (with_reducible show wpAny _ _ (eval (PySem.Expr.Name (Str.ofString "floordiv") _) _) _ _ _) | (with_reducible show wpAny _ _ (eval (PySem.Expr.Name (Str.ofString "lshift") _) _) _ _ _) | (with_reducible show wpAny _ _ (eval (PySem.Expr.Name (Str.ofString "mod") _) _) _ _ _) | (with_reducible show wpAny _ _ (eval (PySem.Expr.Name (Str.ofString "mul") _) _) _ _ _) | (with_reducible show wpAny _ _ (eval (PySem.Expr.Name (Str.ofString "or_") _) _) _ _ _) | (with_reducible show wpAny _ _ (eval (PySem.Expr.Name (Str.ofString "rshift") _) _) _ _ _) | (with_reducible show wpAny _ _ (eval (PySem.Expr.Name (Str.ofString "sub") _) _) _ _ _) | (with_reducible show wpAny _ _ (eval (PySem.Expr.Name (Str.ofString "truediv") _) _) _ _ _) | (with_reducible show wpAny _ _ (eval (PySem.Expr.Name (Str.ofString "xor") _) _) _ _ _) | (with_reducible show wpAny _ _ (eval (PySem.Expr.Name (Str.ofString "indexOf") _) _) _ _ _) | (with_reducible show wpAny _ _ (eval (PySem.Expr.Name (Str.ofString "quotedata") _) _) _ _ _) | (with_reducible show wpAny _ _ (eval (PySem.Expr.Name (Str.ofString "rgb_to_hsv") _) _) _ _ _) | (with_reducible show wpAny _ _ (eval (PySem.Expr.Name (Str.ofString "hsv_to_rgb") _) _) _ _ _) | (with_reducible show wpAny _ _ (eval (PySem.Expr.Name (Str.ofString "_law_paint") _) _) _ _ _) | (with_reducible show wpAny _ _ (eval (PySem.Expr.Name (Str.ofString "_law_owner") _) _) _ _ _) | (with_reducible show wpAny _ _ (eval (PySem.Expr.Name (Str.ofString "_law_owners") _) _) _ _ _) | (with_reducible show wpAny _ _ (eval (PySem.Expr.Name (Str.ofString "_law_worths") _) _) _ _ _) | (with_reducible show wpAny _ _ (eval (PySem.Expr.Name (Str.ofString "_law_wins") _) _) _ _ _)); k_dflt (refine' nameX_K ?zF ?zX ?zT ?ze ?_ ?za ?zb; (case za => rfl); (case zb => rfl); (case zF => k_asm); (case zX => k_asm); (case zT => k_asm); (case ze => k_is); k_whole))
  k_with "execs cons" => (k_here; (with_reducible show wpAny _ _ _ _ _ (Shared.mk _ _ _ (HAdd.hAdd _ _) _)); refine gen_toks ?_; intro ztk9 zp9; (try dsimp only at zp9))
  k_with "execs nil" => (k_here; (with_reducible show wpAny _ _ _ _ _ (Shared.mk _ _ _ (HAdd.hAdd _ _) _)); refine gen_toks ?_; intro ztk9 zp9; (try dsimp only at zp9))
  k_with "eval ListComp" => (k_here; (with_reducible rename Fr _ _ _ _ => zF9); k_dflt (refine' ListComp_G zF9 ?zc1 ?zc2 ?zc3 ?zc4 ?zc5 ?zc6 ?_; (case zc1 => with_unfolding_all rfl); (case zc2 => decide); (case zc3 => with_unfolding_all rfl); (case zc4 => decide); (case zc5 => with_unfolding_all rfl); (case zc6 => intro _; with_unfolding_all rfl); k_whole); (try k_fold))
  k_with "exec Assign cons ListComp" => (k_here; (with_reducible rename Fr _ _ _ _ => zF9); k_dflt (refine' Assign_ListComp_G zF9 ?zcl ?zcw ?zc1 ?zc2 ?zc3 ?zc4 ?zc5 ?zcy ?zcp ?zc6 ?_; (case zcl => rfl); (case zcw => with_unfolding_all rfl); (case zc1 => with_unfolding_all rfl); (case zc2 => decide); (case zc3 => with_unfolding_all rfl); (case zc4 => decide); (case zc5 => with_unfolding_all rfl); (case zcy => with_unfolding_all rfl); (case zcp => with_unfolding_all rfl); (case zc6 => intro _; with_unfolding_all rfl); k_whole); (try k_fold))
  k_with "subscriptTail" => (k_here; (with_reducible show wpAny _ _ (subscriptTail _ _ (Value.ref _) (Value.int (Nat.cast _) _)) _ _ _); (with_reducible rename News _ _ _ _ => zN9); k_dflt (refine' item_mem zN9 ?zhm ?zho ?zhx ?zh0 ?zhf ?_ ?zhs; (case zhm => (repeat (first | with_reducible exact List.mem_cons_self | with_reducible assumption | apply List.mem_cons_of_mem))); (case zho => exact ⟨rfl, _, rfl⟩); (case zhx => first | exact three_int (by assumption) (by assumption) | exact three_str (by assumption) (by assumption) | exact push_at (by assumption) | exact push_at2 (by assumption)); (case zh0 => omega); (case zhf => omega); (case zhs => with_unfolding_all rfl)); (try k_fold))
  k_with "call ref" => (k_here; (with_reducible show wpAny _ _ (call (Value.ref 200) [Value.int _ _, Value.str _ _]) _ _ _); (with_reducible rename News _ _ _ _ => zN7); k_dflt (refine' Ct.use (c_ownersC _ _ _ _ ?zkc) ?zk1 ?zk2 ?zk3 ?zk4 ?zk5 ?zk6 ?zk7 ?zk8 trivial ?_); (case zkc => with_reducible assumption); (case zk1 => k_asm); (case zk2 => k_asm); (case zk3 => k_asm); (case zk4 => k_asm); (case zk5 => k_asm); (case zk6 => first | exact rfl | assumption); (case zk7 => ktr_room); (case zk8 => ktr_units); (intro zv9 zh9 ztk9 zkp9 zF9 zN9 zT9; obtain ⟨zD9, zys9, ze9, zM9, zI9⟩ := zT9; (have zA9 := made_apart zN7 zM9); (simp only [List.mem_cons, forall_eq_or_imp] at zA9); subst ze9; (with_reducible rename Fr _ _ _ _ => zF8); replace zN9 := news_made (by assumption) zN9 zM9; clear zM9 zkp9; (try simp only [List.cons_append, List.nil_append] at zN9)); (try dsimp only); (try k_fold))
  k_with "subscriptTail" => (k_here; (with_reducible show wpAny _ _ (subscriptTail _ (PySem.Expr.UnaryOp _ _ _) (Value.ref _) (Value.int _ _)) _ _ _); (with_reducible rename News _ _ _ _ => zN9); k_dflt (refine' item_last zN9 ?zhm ?zho ?zhx ?_ ?zhs; (case zhm => (repeat (first | with_reducible exact List.mem_cons_self | with_reducible assumption | apply List.mem_cons_of_mem))); (case zho => exact ⟨rfl, _, rfl⟩); (case zhx => exact last_at (by assumption) (by assumption)); (case zhs => with_unfolding_all rfl)); (try k_fold))
  k_with "subscriptTail" => (k_here; (with_reducible rename News _ _ _ _ => zN9); k_dflt (first | ((with_reducible show wpAny _ _ (subscriptTail _ _ (Value.ref _) (Value.int 0 _)) _ _ _); refine' item_tup0 zN9 ?zhm ?_ ?zhs) | ((with_reducible show wpAny _ _ (subscriptTail _ _ (Value.ref _) (Value.int 1 _)) _ _ _); refine' item_tup1 zN9 ?zhm ?_ ?zhs)); (case zhm => (repeat (first | with_reducible exact List.mem_cons_self | with_reducible assumption | apply List.mem_cons_of_mem))); (case zhs => with_unfolding_all rfl); (try k_fold))
  k_with "M steps6" => repeat' (first | (k_unfold; (try dsimp only)) | (with_reducible first | refine Cont.next ?_ | refine Cont.ret ?_ | refine Cont.brk ?_ | refine Cont.cont ?_) | (k_end; wrow_close) | ((fail_if_success (with_reducible show wpAny _ _ (pyIter _) _ _ _)); (fail_if_success (with_reducible show wpAny _ _ (call (Value.ref 207) _) _ _ _)); (fail_if_success (with_reducible show wpAny _ _ (compareOp CmpOp.NotEq (Value.ref _) (Value.ref _)) _ _ _)); walk1) | (dsimp only; (fail_if_success (with_reducible show wpAny _ _ (pyIter _) _ _ _)); (fail_if_success (with_reducible show wpAny _ _ (call (Value.ref 207) _) _ _ _)); (fail_if_success (with_reducible show wpAny _ _ (compareOp CmpOp.NotEq (Value.ref _) (Value.ref _)) _ _ _)); walk1) | (leave1; try dsimp only) | fail "no step")
  trivial
set_option maxRecDepth 100000 in
set_option maxHeartbeats 8000000 in
noncomputable def T6 : PSigma fun G : Prop => PySem.Flt.Hid G → T5.1 := ⟨_, by
  intro hG _; k_fill; intro _ _ _ _ _ _ _ _ _ _ _ _ _ _ _ _ _ _ _ _ _ _ _ _ _ _ _ _ _ _ _ _ _ _ _ _ _ _ _ _ _ _ _ _ _ _ _ _ _ _ _ _ c53 c54 c55 c56 c57 qk ek _ _ _ _ _ qk ek _ _ _ _ _ g n0 n1 n2 t0 t1 t2 D h tk c82 _ _ _ _ _ _ _ _ qk ek S hS T hT1 hT3 eT hD9 g u0 u1 u2 Dw h tk c107 _ _ _ _ _ _ _ _ _ _ _ _ _ _ qk ek _ _ _ _ _ _ qk ek _ _ qk ek _ _ qk ek _ _ _ _ _ _ _ hk0 hk1 hk2 x0 tx0 e0 e1 m₁ h tk ty ek g v0 v1 v2 Dd h tk c166 hm qk c169 c170 c171 c172 _ _ qk ek c177 _ _ _ _ _ _ _ c185 c186 c187 c188 c189 _ _ c192 _ _ _ _ _ _ _ _ c201 c202 _ c204 _ _ _ _ _ c210 c211 i ti m₁ h tk own hin ss ws oc tl vc hoff hs1 hw1 hoc hS hW hC hbase hrow hm F2 N2
  clear c53 c54 c55 c56 c57 c82 c107 c166 c169 c170 c171 c172 c177 c185 c186 c187 c188 c189 c192 c201 c202 c204 c210 c211
  rw [has_map hm, Int.zero_add] at F2
  simp only [mapOr] at F2
  dsimp only [envOfC, newEnv] at F2 N2 hoff
  dsimp only
  obtain ⟨nn, hnn⟩ : ∃ nn, [n0, n1, n2].getD i 0 = nn := ⟨_, rfl⟩
  obtain ⟨ecor, hcor⟩ := cor_eq nn
  have hlen := (wordLen_eq nn hT1 hT3).2
  have hzd : (dueS T nn).cps.size ≤ sizeLine := Nat.le_trans (dueS_len nn hlen) (by decide)
  have hzw : (wordS T nn).cps.size ≤ sizeLine := Nat.le_trans (wordS_len nn hT1 hlen) (by decide)
  have hss : (List.map Value.ref ss).toArray.size ≤ sizeLine := by rw [List.size_toArray, List.length_map, hs1]; exact Nat.le_trans (Nat.le_of_lt hin) (by decide)
  have hws : (List.map Value.ref ws).toArray.size ≤ sizeLine := by rw [List.size_toArray, List.length_map, hw1]; exact Nat.le_trans (Nat.le_of_lt hin) (by decide)
  obtain ⟨tl2, htl2⟩ : ∃ l, l = tl ++ own := ⟨_, rfl⟩
  rw [List.cons_append, List.cons_append, List.cons_append, ← htl2] at N2
  have hS2 : ∀ p ∈ tl2, p.1 ≠ _ := fun p hp => (List.mem_append.mp (htl2 ▸ hp)).elim (hS p) fun q => hoff p q _ List.mem_cons_self
  have hW2 : ∀ p ∈ tl2, p.1 ≠ _ := fun p hp => (List.mem_append.mp (htl2 ▸ hp)).elim (hW p) fun q => hoff p q _ (List.mem_cons_of_mem _ List.mem_cons_self)
  have hC2 : ∀ p ∈ tl2, p.1 ≠ _ := fun p hp => (List.mem_append.mp (htl2 ▸ hp)).elim (hC p) fun q => hoff p q _ (List.mem_cons_of_mem _ (List.mem_cons_of_mem _ List.mem_cons_self))
  have hb2 := fun p hp => htl2 ▸ List.mem_append_left own (hbase p hp)
  simp only [List.mem_cons, forall_eq_or_imp, List.not_mem_nil, false_implies, implies_true, and_true] at hb2
  obtain ⟨hbR, hbd, hbw, hbn⟩ := hb2
  walk_at "M steps6"
  (with_reducible rename Fr _ _ _ _ => F9); (with_reducible rename News _ _ _ _ => N9)
  refine after_str (R := fun i v => ∃ t, v = Value.int (if (dueS T nn).cps[i]? = some 46 then (cor nn : Int) else ((2 - cor nn : Nat) : Int)) t) rfl F9 N9 hzd ?_ ?_
  · intro i v I oI C oC D2 ys m₂ h tk Q2 E2 hi hP hn2 hx F N ret
    obtain ⟨ch, u, hc, rfl⟩ := hP
    clear N9 F9
    dsimp only
    walk_at "M steps"
    · rename (_ == _) = true => ha
      rw [one_dot, beq_iff_eq] at ha
      exact ret _ _ _ ⟨_, by rw [hc, ha, if_pos rfl, ← ecor]⟩ F N
    · rename (_ == _) = false => ha
      rw [one_dot, beq_eq_false_iff_ne] at ha
      exact ret _ _ _ ⟨_, by rw [hc, if_neg (fun q => ha (Option.some.inj q)), ecor, show ((2 - cor nn : Nat) : Int) = 2 - (cor nn : Int) by omega]⟩ F N
  · intro g vs hvl hvR Ds h tk F N o1
    have hDs := off1_mem o1
    simp only [LCg.Off1] at o1
    have hvi := rowOf_ints hvl hvR
    clear N9 F9 hvR
    dsimp only
    walk_at "M steps6"
    (with_reducible rename News _ _ _ _ => N9)
    k_dflt (refine' ne_ints N9 ?ha ?hb ?hu ?h1 hvi ?_; (case ha => k_mem); (case hb => k_mem); (case hu => ktr_units); (case h1 => assumption))
    walk_at "M steps6"
    (with_reducible rename News _ _ _ _ => N7)
    have hrl : (rowOf (cor nn) (dueS T nn).cps.toList).length ≤ 4 := rowN_len nn hlen
    k_dflt (refine' Ct.use (c_worths _ _ _ ?ki ?kl) ?k1 ?k2 ?k3 ?k4 ?k5 ?k6 ?k7 ?k8 ⟨_, (N7 (_, LCg.lst _) ?km).1, rfl, _, rfl⟩ ?_; (case km => k_mem); (case ki => with_reducible assumption); (case kl => exact hrl); (case k1 => k_asm); (case k2 => k_asm); (case k3 => k_asm); (case k4 => k_asm); (case k5 => k_asm); (case k6 => first | exact rfl | assumption); (case k7 => ktr_room); (case k8 => ktr_units))
    intro v9 h9 tk9 kp9 F9 N9 T9
    obtain ⟨D2, as, nw, e9, M9, hD2, hal, hwl, hget⟩ := T9
    have A9 := made_apartL N7 M9
    simp only [List.mem_cons, forall_eq_or_imp] at A9
    subst e9
    have N10 := nw5 (news_made (by assumption) N9 M9)
    clear N9 M9 N7 kp9
    obtain ⟨tl3, htl3⟩ : ∃ l, l = nw ++ tl2 := ⟨_, rfl⟩
    rw [← htl3] at N10
    obtain ⟨qD, qds, qS, qW, qC, qtl⟩ := A9
    have hS3 : ∀ p ∈ tl3, p.1 ≠ _ := htl3 ▸ tail_add qS hS2
    have hW3 : ∀ p ∈ tl3, p.1 ≠ _ := htl3 ▸ tail_add qW hW2
    have hC3 : ∀ p ∈ tl3, p.1 ≠ _ := htl3 ▸ tail_add qC hC2
    have up3 : ∀ p ∈ tl2, p ∈ tl3 := fun p hp => htl3 ▸ List.mem_append_right _ hp
    have upn : ∀ p ∈ nw, p ∈ tl3 := fun p hp => htl3 ▸ List.mem_append_left _ hp
    have hbR3 := up3 _ hbR
    have hbd3 := up3 _ hbd
    have hbw3 := up3 _ hbw
    have hbn3 := up3 _ hbn
    have hD3 := upn _ hD2
    obtain ⟨aL, haL⟩ := last_of hal
    obtain ⟨wL, hwL⟩ : ∃ ww, (wSt (rowOf (cor nn) (dueS T nn).cps.toList) (rowOf (cor nn) (dueS T nn).cps.toList).length).ws[(rowOf (cor nn) (dueS T nn).cps.toList).length]? = some ww := ⟨_, List.getElem?_eq_getElem (by omega)⟩
    obtain ⟨oL, hoL, taL, tbL, rfl⟩ := hget _ _ _ haL hwL
    have hoL3 := upn _ hoL
    clear hS2 hW2 hC2 hbR hbd hbw hbn
    dsimp only
    walk_at "M steps6"
    (with_reducible rename News _ _ _ _ => N7)
    have hrl2 : (rowOf (cor nn) (wordS T nn).cps.toList).length ≤ 4 := by rw [rowOf, List.length_map]; exact wordS_len nn hT1 hlen
    k_dflt (refine' Ct.use (c_worths _ _ _ ?ki ?kl) ?k1 ?k2 ?k3 ?k4 ?k5 ?k6 ?k7 ?k8 ⟨_, (N7 (_, LCg.lst _) ?km).1, rfl, _, rfl⟩ ?_; (case km => k_mem); (case ki => with_reducible assumption); (case kl => exact hrl2); (case k1 => k_asm); (case k2 => k_asm); (case k3 => k_asm); (case k4 => k_asm); (case k5 => k_asm); (case k6 => first | exact rfl | assumption); (case k7 => ktr_room); (case k8 => ktr_units))
    intro v9 h9 tk9 kp9 F9 N9 T9
    obtain ⟨D5, as5, nw5', e9, M9, hD5, hal5, hwl5, hget5⟩ := T9
    subst e9
    obtain ⟨a5, ha5⟩ := last_of hal5
    obtain ⟨w5, hw5⟩ : ∃ ww, (wSt (rowOf (cor nn) (wordS T nn).cps.toList) (rowOf (cor nn) (wordS T nn).cps.toList).length).ws[(rowOf (cor nn) (wordS T nn).cps.toList).length]? = some ww := ⟨_, List.getElem?_eq_getElem (by omega)⟩
    obtain ⟨o5, ho5, ta5, tb5, rfl⟩ := hget5 _ _ _ ha5 hw5
    have N10 := news_two (news_made (by assumption) N9 M9) hD5 ho5
    clear N9 M9 N7 kp9
    dsimp only
    walk_at "M steps6"
    repeat (rename _ => x9; revert x9)
    exact fun h => h.out⟩
theorem resetL7 : True := by w_top off; trivial
section
theorem lay16 : True := by
  k_with "call builtin:len" => (k_here; (with_reducible show wpAny _ _ (call (Value.builtin "len") [Value.str _ _]) _ _ _); refine len_str ?zhf ?_; (case zhf => omega); (try k_fold))
  trivial
set_option maxRecDepth 100000 in
set_option maxHeartbeats 8000000 in
theorem T7 : T6.1 := by
  intro _; k_fill; intro _ _ _ _ _ _ _ _ _ _ _ _ _ _ _ _ _ _ _ _ _ _ _ _ _ _ _ _ _ _ _ _ _ _ _ _ _ _ _ _ _ _ _ _ _ _ _ _ _ _ _ _ qk ek _ _ _ _ _ qk ek _ _ _ _ _ g n0 n1 n2 t0 t1 t2 D h tk _ _ _ _ _ _ _ _ qk ek S hS T hT1 hT3 eT hD9 g u0 u1 u2 Dw h tk _ _ _ _ _ _ _ _ _ _ _ _ _ _ qk ek _ _ _ _ _ _ qk ek _ _ qk ek _ _ qk ek _ _ _ _ _ _ _ hk0 hk1 hk2 x0 tx0 e0 e1 m₁ h tk ty ek g v0 v1 v2 Dd h tk hm qk _ _ qk ek _ _ _ _ _ _ _ _ _ _ _ _ _ _ _ _ _ _ _ _ _ _ _ i ti m₁ h tk own hin ss ws oc tl vc hoff hs1 hw1 hoc hS hW hC hbase hrow hm nn hnn ecor hcor hlen c215 c216 c217 c218 tl2 htl2 qk ek _ _ _ _ c227 qk ek g vs c232 Ds h tk F _ o1 hDs hvi qk ek qk ek _ _ _ _ c249 c250 _ _ c253 _ tk hrl h9 tk9 D2 as nw hD2 hal c264 hget tl3 htl3 qD qds qS qW qC qtl hS3 hW3 hC3 up3 upn hbR3 hbd3 hbw3 hbn3 hD3 aL haL wL hwL taL tbL c290 hoL3 _ tk qk ek qk ek _ _ _ _ c302 c303 hrl2 h9 tk9 D5 as5 nw5' c310 c311 c312 c313 a5 c315 w5 hw5 ta5 tb5 c320 qk ek _ _ _ c326 qk ek _
  clear c215 c216 c217 c218 c227 c232 c249 c250 c253 c264 c290 c302 c303 c310 c311 c312 c313 c315 c320 c326
  have hdl := dueS_len nn hlen
  have hwl9 := wordS_len nn hT1 hlen
  walk_at "M steps6"
  (with_reducible rename News _ _ _ _ => N9)
  obtain ⟨ea1, ea2⟩ := ahead_eq hT3 hlen hT1 hwL hw5
  rw [← ecor] at ea1 ea2
  k_dflt (refine' ne_tup2E N9 ?ha ?hb ?hu ea1 ea2 ?_; (case ha => (repeat (first | with_reducible exact List.mem_cons_self | with_reducible assumption | apply List.mem_cons_of_mem))); (case hb => exact List.mem_cons_self); (case hu => ktr_units))
  walk_at "M steps6"
  (with_reducible rename Fr _ _ _ _ => F9); (with_reducible rename News _ _ _ _ => N9)
  subst htl2
  exact row_fin F9 N9 hnn hs1 hw1 hoff hS hW hC hbase hrow o1.1 o1.2.1 o1.2.2.1 (fun p hp => hDs p (List.mem_cons_of_mem _ (List.mem_cons_of_mem _ (List.mem_cons_of_mem _ hp)))) qS qW qC qtl hvi hD2 hal hget (by assumption) (by
    intro p hp
    simp only [List.mem_cons, htl3, List.mem_append] at hp ⊢
    rcases hp with h | h | h | h | h <;> simp [h]) ⟨rfl, rfl, rfl, rfl, rfl, rfl, trivial⟩
end
end
theorem resetL8 : True := by w_top off; trivial
section
open PySem.Flt
local macro_rules | `(tactic| k_all) => `(tactic| assumption)
theorem lay17 : True := by
  k_with_none
  k_with "M enter" => (refine wpAny_call ?_; k_dflt (refine' code_full ?zk1 ?zk2 ?zk3 ?zk5 ?zkA ?zkF ?zkK ?zk6 ?zk7 ?zk8 ?zk9 ?zkB ?zkP ?_ ?zc2 ?zc3 ?zc4 ?zc5; (case zkA => exact rfl); (case zkF => exact rfl); (case zkK => assumption); (case zk1 => k_asm); (case zk2 => k_asm); (case zk3 => k_asm); (case zk5 => k_asm); (case zk6 => k_is); (case zk7 => k_is); (case zk8 => ktr_room); (case zk9 => exact BindsTo.of_eq rfl); (case zc5 => decide); (case zkP => exact List.cons_ne_nil _ _); (case zkB => exact locs rfl); (case zc2 => exact rfl); (case zc3 => exact rfl); (case zc4 => exact rfl); k_whole); intro zL' zh' tk9 zp9 zF' zN' zB' zX' zT'; (try dsimp only); (try k_fold))
  k_with "M ne" => (refine neN ?_; (try dsimp only); intro ze9; have ze8 := Eq.symm ze9; (repeat ((with_reducible rename _ ≠ _ ∧ _ => zx9); obtain ⟨zy9, zz9⟩ := zx9)); with_reducible contradiction)
  k_with "call ref" => (k_here; k_dflt (first | ((with_reducible show wpAny _ _ (call (Value.ref 69) [Value.int _ _, Value.int _ _]) _ _ _); refine' Cc.use (c_lt _ _ _ _) ?zk1 ?zk2 ?zk3 ?zk4 ?zk5 ?zk6 ?zk7 ?zk8 ?_) | ((with_reducible show wpAny _ _ (call (Value.ref 76) [Value.int _ _, Value.int _ _]) _ _ _); refine' Cc.use (c_eq _ _ _ _) ?zk1 ?zk2 ?zk3 ?zk4 ?zk5 ?zk6 ?zk7 ?zk8 ?_) | ((with_reducible show wpAny _ _ (call (Value.ref 83) [Value.int _ _, Value.int _ _]) _ _ _); refine' Cc.use (c_ne _ _ _ _) ?zk1 ?zk2 ?zk3 ?zk4 ?zk5 ?zk6 ?zk7 ?zk8 ?_) | ((with_reducible show wpAny _ _ (call (Value.ref 90) [Value.int _ _, Value.int _ _]) _ _ _); refine' Cc.use (c_gt _ _ _ _) ?zk1 ?zk2 ?zk3 ?zk4 ?zk5 ?zk6 ?zk7 ?zk8 ?_) | ((with_reducible show wpAny _ _ (call (Value.ref 97) [Value.int _ _]) _ _ _); refine' Cc.use (c_not_ _ _) ?zk1 ?zk2 ?zk3 ?zk4 ?zk5 ?zk6 ?zk7 ?zk8 ?_) | ((with_reducible show wpAny _ _ (call (Value.ref 104) [Value.int _ _, Value.int _ _]) _ _ _); refine' Cc.use (c_add _ _ _ _) ?zk1 ?zk2 ?zk3 ?zk4 ?zk5 ?zk6 ?zk7 ?zk8 ?_) | ((with_reducible show wpAny _ _ (call (Value.ref 111) [Value.bool _, Value.bool _]) _ _ _); refine' Cc.use (c_and_ _ _) ?zk1 ?zk2 ?zk3 ?zk4 ?zk5 ?zk6 ?zk7 ?zk8 ?_) | ((with_reducible show wpAny _ _ (call (Value.ref 146) [Value.bool _, Value.bool _]) _ _ _); refine' Cc.use (c_or_ _ _) ?zk1 ?zk2 ?zk3 ?zk4 ?zk5 ?zk6 ?zk7 ?zk8 ?_) | ((with_reducible show wpAny _ _ (call (Value.ref 160) [Value.int _ _, Value.int _ _]) _ _ _); refine' Cc.use (c_sub _ _ _ _) ?zk1 ?zk2 ?zk3 ?zk4 ?zk5 ?zk6 ?zk7 ?zk8 ?_) | ((with_reducible show wpAny _ _ (call (Value.ref 132) [Value.int _ _, Value.int _ _]) _ _ _); refine' Cc.use (c_mod _ _ _ _ ?zkb) ?zk1 ?zk2 ?zk3 ?zk4 ?zk5 ?zk6 ?zk7 ?zk8 ?_; (case zkb => first | decide | omega)) | ((with_reducible show wpAny _ _ (call (Value.ref 118) [Value.int _ _, Value.int 8 _]) _ _ _); refine' Cc.use (c_floordiv8 _ _ _) ?zk1 ?zk2 ?zk3 ?zk4 ?zk5 ?zk6 ?zk7 ?zk8 ?_) | ((with_reducible show wpAny _ _ (call (Value.ref 125) [Value.int 1 _, Value.int 3 _]) _ _ _); refine' Cc.use (c_lshift13 _ _) ?zk1 ?zk2 ?zk3 ?zk4 ?zk5 ?zk6 ?zk7 ?zk8 ?_) | ((with_reducible show wpAny _ _ (call (Value.ref 153) [Value.int _ _, Value.int 1 _]) _ _ _); refine' Cc.use (c_rshift1 _ _ _ ?zkb) ?zk1 ?zk2 ?zk3 ?zk4 ?zk5 ?zk6 ?zk7 ?zk8 ?_; (case zkb => first | decide | omega)) | ((with_reducible show wpAny _ _ (call (Value.ref 174) [Value.int _ _, Value.int _ _]) _ _ _); refine' Cc.use (c_xor _ _ _ _) ?zk1 ?zk2 ?zk3 ?zk4 ?zk5 ?zk6 ?zk7 ?zk8 ?_) | ((with_reducible show wpAny _ _ (call (Value.ref 167) [Value.int _ _, Value.int _ _]) _ _ _); refine' Cc.use (c_truediv _ _ _ _ ?zkb) ?zk1 ?zk2 ?zk3 ?zk4 ?zk5 ?zk6 ?zk7 ?zk8 ?_; (case zkb => first | decide | omega)) | ((with_reducible show wpAny _ _ (call (Value.ref 139) [Value.float _ _, Value.int 24 _]) _ _ _); refine' Cc.use (c_mulf24 _ _ _) ?zk1 ?zk2 ?zk3 ?zk4 ?zk5 ?zk6 ?zk7 ?zk8 ?_) | ((with_reducible show wpAny _ _ (call (Value.ref 139) [Value.int _ _, Value.int _ _]) _ _ _); refine' Cc.use (c_mul _ _ _ _ ?zkb) ?zk1 ?zk2 ?zk3 ?zk4 ?zk5 ?zk6 ?zk7 ?zk8 ?_; (case zkb => first | decide | omega))); (case zk1 => k_asm); (case zk2 => k_asm); (case zk3 => k_asm); (case zk4 => k_asm); (case zk5 => k_asm); (case zk6 => first | exact rfl | assumption); (case zk7 => ktr_room); (case zk8 => ktr_units); (dsimp only [retV]); intro zt9 zh9 ztk9 zF9 zN9; (try k_fold))
  k_with "M steps" => repeat' (first | (k_unfold; (try dsimp only)) | (with_reducible first | refine Cont.next ?_ | refine Cont.ret ?_ | refine Cont.brk ?_ | refine Cont.cont ?_) | (k_end; wrow_close) | ((fail_if_success (with_reducible show wpAny _ _ (pyIter _) _ _ _)); walk1) | (dsimp only; (fail_if_success (with_reducible show wpAny _ _ (pyIter _) _ _ _)); walk1) | (leave1; try dsimp only) | fail "no step")
  k_with "subscriptTail" => (k_here; (with_reducible show wpAny _ _ (subscriptTail _ _ (Value.ref _) (Value.int _ _)) _ _ _); k_dflt (refine' item_base ?zk1 ?zk2 ?zk3 ?zk4 ?zk5 ?_ ?zk7; (case zk1 => k_asm); (case zk2 => with_reducible assumption); (case zk3 => with_reducible assumption); (case zk4 => omega); (case zk5 => omega); (case zk7 => with_unfolding_all rfl); k_whole))
  k_with "eval Name" => (k_here; k_dflt (refine' nameX_L ?zF ?zv ?_ ?za ?zb; (case za => rfl); (case zb => rfl); (case zF => k_asm); (case zv => rfl); k_whole))
  k_with "eval Name" => (k_here; (first | (with_reducible show wpAny _ _ (eval (PySem.Expr.Name (Str.ofString "range") _) _) _ _ _) | (with_reducible show wpAny _ _ (eval (PySem.Expr.Name (Str.ofString "len") _) _) _ _ _) | (with_reducible show wpAny _ _ (eval (PySem.Expr.Name (Str.ofString "max") _) _) _ _ _) | (with_reducible show wpAny _ _ (eval (PySem.Expr.Name (Str.ofString "min") _) _) _ _ _) | (with_reducible show wpAny _ _ (eval (PySem.Expr.Name (Str.ofString "int") _) _) _ _ _) | (with_reducible show wpAny _ _ (eval (PySem.Expr.Name (Str.ofString "enumerate") _) _) _ _ _) | (with_reducible show wpAny _ _ (eval (PySem.Expr.Name (Str.ofString "sum") _) _) _ _ _)); k_dflt (refine' nameX_B ?zF ?zX ?zT ?ze ?zv ?zn ?_ ?za ?zb; (case za => rfl); (case zb => rfl); (case zF => k_asm); (case zX => k_asm); (case zT => k_asm); (case ze => k_is); (case zv => boot_fast); (case zn => decide); k_whole))
  k_with "eval Name" => (k_here; (first | (with_reducible show wpAny _ _ (eval (PySem.Expr.Name (Str.ofString "lt") _) _) _ _ _) | (with_reducible show wpAny _ _ (eval (PySem.Expr.Name (Str.ofString "eq") _) _) _ _ _) | (with_reducible show wpAny _ _ (eval (PySem.Expr.Name (Str.ofString "ne") _) _) _ _ _) | (with_reducible show wpAny _ _ (eval (PySem.Expr.Name (Str.ofString "gt") _) _) _ _ _) | (with_reducible show wpAny _ _ (eval (PySem.Expr.Name (Str.ofString "not_") _) _) _ _ _) | (with_reducible show wpAny _ _ (eval (PySem.Expr.Name (Str.ofString "add") _) _) _ _ _) | (with_reducible show wpAny _ _ (eval (PySem.Expr.Name (Str.ofString "and_") _) _) _ _ _) | (with_reducible show wpAny _ _ (eval (PySem.Expr.Name (Str.ofString "floordiv") _) _) _ _ _) | (with_reducible show wpAny _ _ (eval (PySem.Expr.Name (Str.ofString "lshift") _) _) _ _ _) | (with_reducible show wpAny _ _ (eval (PySem.Expr.Name (Str.ofString "mod") _) _) _ _ _) | (with_reducible show wpAny _ _ (eval (PySem.Expr.Name (Str.ofString "mul") _) _) _ _ _) | (with_reducible show wpAny _ _ (eval (PySem.Expr.Name (Str.ofString "or_") _) _) _ _ _) | (with_reducible show wpAny _ _ (eval (PySem.Expr.Name (Str.ofString "rshift") _) _) _ _ _) | (with_reducible show wpAny _ _ (eval (PySem.Expr.Name (Str.ofString "sub") _) _) _ _ _) | (with_reducible show wpAny _ _ (eval (PySem.Expr.Name (Str.ofString "truediv") _) _) _ _ _) | (with_reducible show wpAny _ _ (eval (PySem.Expr.Name (Str.ofString "xor") _) _) _ _ _) | (with_reducible show wpAny _ _ (eval (PySem.Expr.Name (Str.ofString "indexOf") _) _) _ _ _) | (with_reducible show wpAny _ _ (eval (PySem.Expr.Name (Str.ofString "quotedata") _) _) _ _ _) | (with_reducible show wpAny _ _ (eval (PySem.Expr.Name (Str.ofString "rgb_to_hsv") _) _) _ _ _) | (with_reducible show wpAny _ _ (eval (PySem.Expr.Name (Str.ofString "hsv_to_rgb") _) _) _ _ _) | (with_reducible show wpAny _ _ (eval (PySem.Expr.Name (Str.ofString "_law_paint") _) _) _ _ _) | (with_reducible show wpAny _ _ (eval (PySem.Expr.Name (Str.ofString "_law_owner") _) _) _ _ _) | (with_reducible show wpAny _ _ (eval (PySem.Expr.Name (Str.ofString "_law_owners") _) _) _ _ _) | (with_reducible show wpAny _ _ (eval (PySem.Expr.Name (Str.ofString "_law_worths") _) _) _ _ _) | (with_reducible show wpAny _ _ (eval (PySem.Expr.Name (Str.ofString "_law_wins") _) _) _ _ _)); k_dflt (refine' nameX_K ?zF ?zX ?zT ?ze ?_ ?za ?zb; (case za => rfl); (case zb => rfl); (case zF => k_asm); (case zX => k_asm); (case zT => k_asm); (case ze => k_is); k_whole))
  k_with "execs cons" => (k_here; (with_reducible show wpAny _ _ _ _ _ (Shared.mk _ _ _ (HAdd.hAdd _ _) _)); refine gen_toks ?_; intro ztk9 zp9; (try dsimp only at zp9))
  k_with "execs nil" => (k_here; (with_reducible show wpAny _ _ _ _ _ (Shared.mk _ _ _ (HAdd.hAdd _ _) _)); refine gen_toks ?_; intro ztk9 zp9; (try dsimp only at zp9))
  k_with "eval ListComp" => (k_here; (with_reducible rename Fr _ _ _ _ => zF9); k_dflt (refine' ListComp_G zF9 ?zc1 ?zc2 ?zc3 ?zc4 ?zc5 ?zc6 ?_; (case zc1 => with_unfolding_all rfl); (case zc2 => decide); (case zc3 => with_unfolding_all rfl); (case zc4 => decide); (case zc5 => with_unfolding_all rfl); (case zc6 => intro _; with_unfolding_all rfl); k_whole); (try k_fold))
  k_with "exec Assign cons ListComp" => (k_here; (with_reducible rename Fr _ _ _ _ => zF9); k_dflt (refine' Assign_ListComp_G zF9 ?zcl ?zcw ?zc1 ?zc2 ?zc3 ?zc4 ?zc5 ?zcy ?zcp ?zc6 ?_; (case zcl => rfl); (case zcw => with_unfolding_all rfl); (case zc1 => with_unfolding_all rfl); (case zc2 => decide); (case zc3 => with_unfolding_all rfl); (case zc4 => decide); (case zc5 => with_unfolding_all rfl); (case zcy => with_unfolding_all rfl); (case zcp => with_unfolding_all rfl); (case zc6 => intro _; with_unfolding_all rfl); k_whole); (try k_fold))
  k_with "subscriptTail" => (k_here; (with_reducible show wpAny _ _ (subscriptTail _ _ (Value.ref _) (Value.int _ _)) _ _ _); (with_reducible rename News _ _ _ _ => zN9); k_dflt (refine' item_mem zN9 ?zhm ?zho ?zhx ?zh0 ?zhf ?_ ?zhs; (case zhm => with_reducible assumption); (case zho => exact ⟨rfl, _, rfl⟩); (case zhx => with_reducible assumption); (case zh0 => omega); (case zhf => omega); (case zhs => with_unfolding_all rfl)); (try k_fold))
  k_with "subscriptTail Name Constant ref int" => (k_here; (with_reducible show wpAny _ _ (subscriptTail _ _ (Value.ref _) (Value.int _ _)) _ _ _); (with_reducible rename News _ _ _ _ => zN9); k_dflt (refine' item_mem zN9 ?zhm ?zho ?zhx ?zh0 ?zhf ?_ ?zhs; (case zhm => with_reducible assumption); (case zho => exact ⟨rfl, _, rfl⟩); (case zhx => with_reducible assumption); (case zh0 => omega); (case zhf => omega); (case zhs => with_unfolding_all rfl)); (try k_fold))
  k_with "subscriptTail Subscript" => (k_here; (with_reducible show wpAny _ _ (subscriptTail _ _ (Value.ref _) (Value.int _ _)) _ _ _); (with_reducible rename News _ _ _ _ => zN9); k_dflt (refine' item_mem zN9 ?zhm ?zho ?zhx ?zh0 ?zhf ?_ ?zhs; (case zhm => with_reducible assumption); (case zho => exact ⟨rfl, _, rfl⟩); (case zhx => with_reducible assumption); (case zh0 => omega); (case zhf => omega); (case zhs => with_unfolding_all rfl)); (try k_fold))
  k_with "subscriptTail" => (k_here; (with_reducible rename News _ _ _ _ => zN9); k_dflt (first | ((with_reducible show wpAny _ _ (subscriptTail _ _ (Value.ref _) (Value.int 0 _)) _ _ _); refine' item_tup0 zN9 ?zhm ?_ ?zhs) | ((with_reducible show wpAny _ _ (subscriptTail _ _ (Value.ref _) (Value.int 1 _)) _ _ _); refine' item_tup1 zN9 ?zhm ?_ ?zhs)); (case zhm => with_reducible assumption); (case zhs => with_unfolding_all rfl); (try k_fold))
  k_with "subscriptTail Subscript" => (k_here; (with_reducible rename News _ _ _ _ => zN9); k_dflt (first | ((with_reducible show wpAny _ _ (subscriptTail _ _ (Value.ref _) (Value.int 0 _)) _ _ _); refine' item_tup0 zN9 ?zhm ?_ ?zhs) | ((with_reducible show wpAny _ _ (subscriptTail _ _ (Value.ref _) (Value.int 1 _)) _ _ _); refine' item_tup1 zN9 ?zhm ?_ ?zhs)); (case zhm => with_reducible assumption); (case zhs => with_unfolding_all rfl); (try k_fold))
  k_with "call builtin:len" => (k_here; (with_reducible show wpAny _ _ (call (Value.builtin "len") [Value.ref _]) _ _ _); (with_reducible rename News _ _ _ _ => zN9); k_dflt (refine' len_mem zN9 ?zhm ?zho ?zhn ?zhf ?_; (case zhm => with_reducible assumption); (case zho => exact ⟨rfl, _, rfl⟩); (case zhn => exact map_size (by assumption)); (case zhf => omega)); (try k_fold))
  k_with "compareOp NotEq bool bool" => (k_here; with_reducible refine ne_boolS ?_)
  k_with "execs cons" => (k_here; first | k_gentoks | k_made | with_reducible refine wp_cons ?_)
  k_with "M steps8" => repeat' (first | (k_unfold; (try dsimp only)) | (with_reducible first | refine Cont.next ?_ | refine Cont.ret ?_ | refine Cont.brk ?_ | refine Cont.cont ?_) | (k_end; wrow_close) | ((fail_if_success (with_reducible show wpAny _ _ (pyIter _) _ _ _)); (fail_if_success (with_reducible show wpAny _ _ (call (Value.ref 214) _) _ _ _)); walk1) | (dsimp only; (fail_if_success (with_reducible show wpAny _ _ (pyIter _) _ _ _)); (fail_if_success (with_reducible show wpAny _ _ (call (Value.ref 214) _) _ _ _)); walk1) | (leave1; try dsimp only) | fail "no step")
  trivial
set_option maxRecDepth 100000 in
set_option maxHeartbeats 8000000 in
theorem T8 : T5.2.1 := by
  intro _; k_fill; intro _ _ _ _ _ _ _ _ _ _ _ _ _ _ _ _ _ _ _ _ _ _ _ _ _ _ _ _ _ _ _ _ _ _ _ _ _ _ _ _ _ _ _ _ _ _ _ _ _ _ _ _ c53 c54 c55 c56 c57 qk ek _ _ _ _ _ qk ek _ _ _ _ _ g n0 n1 n2 t0 t1 t2 D h tk c82 _ _ _ _ _ _ _ _ qk ek S hS T hT1 hT3 eT hD9 g u0 u1 u2 Dw h tk c107 _ _ _ _ _ _ _ _ _ _ _ _ _ _ qk ek _ _ _ _ _ _ qk ek _ _ qk ek _ _ qk ek _ _ _ _ _ _ _ hk0 hk1 hk2 x0 tx0 e0 e1 m₁ h tk ty ek g v0 v1 v2 Dd h tk c166 hm qk c169 c170 c171 c172 _ _ qk ek c177 _ _ _ c181 _ _ _ c185 c186 c187 c188 c189 _ _ c192 _ _ c195 _ _ _ c199 _ c201 c202 _ c204 _ _ _ _ _ c210 c211 m₁ h tk ss ws oc tl vc hs1 hw1 hoc hS hW hC hbase hrow hm F N
  clear c53 c54 c55 c56 c57 c82 c107 c166 c169 c170 c171 c172 c177 c181 c185 c186 c187 c188 c189 c192 c195 c199 c201 c202 c204 c210 c211
  rw [has_map hm] at F
  simp only [mapOr] at F
  dsimp only [envOfC, newEnv] at F N
  dsimp only
  have hT0 := (wordLen_eq n0 hT1 hT3).2
  have hT2' := (wordLen_eq n1 hT1 hT3).2
  have hT2 := (wordLen_eq n2 hT1 hT3).2
  have hl0 := rowN_len n0 hT0
  have hl1 := rowN_len n1 hT2'
  have hl2 := rowN_len n2 hT2
  obtain ⟨s0, s1, s2, w0, w1, w2, v0', v1', v2', as0, as1, as2, rfl, rfl, ⟨hv0, hm0', y0⟩, ⟨hv1, hm1', y1⟩, ⟨hv2, hm2', y2⟩⟩ := rows3 hs1 hw1 hrow
  clear hrow hbase hS hW hC hs1 hw1
  walk_at "M steps8"
  (with_reducible rename News _ _ _ _ => N7); (with_reducible rename Fr _ _ _ _ => F7)
  k_dflt (refine' Ct.use (c_wins _ s0 s1 s2 v0' v1' v2' _ _ _ hv0 hv1 hv2 hl0 hl1 hl2) ?k1 ?k2 ?k3 ?k4 ?k5 ?k6 ?k7 ?k8 ⟨⟨_, (N7 _ List.mem_cons_self).1, rfl, _, rfl⟩, ⟨_, (N7 _ (List.mem_cons_of_mem _ (List.mem_cons_of_mem _ (List.mem_cons_of_mem _ hm0')))).1, rfl, _, rfl⟩, ⟨_, (N7 _ (List.mem_cons_of_mem _ (List.mem_cons_of_mem _ (List.mem_cons_of_mem _ hm1')))).1, rfl, _, rfl⟩, ⟨_, (N7 _ (List.mem_cons_of_mem _ (List.mem_cons_of_mem _ (List.mem_cons_of_mem _ hm2')))).1, rfl, _, rfl⟩⟩ ?_; (case k1 => k_asm); (case k2 => k_asm); (case k3 => k_asm); (case k4 => k_asm); (case k5 => k_asm); (case k6 => first | exact rfl | assumption); (case k7 => ktr_room); (case k8 => ktr_units))
  intro v9 h9 tk9 kp9 F9 N9 T9
  obtain ⟨Wn, A0, A1, b0, b1, nw, e9, M9, yw⟩ := win_y (rowN_mem n0 hT0) (rowN_mem n1 hT2') (rowN_mem n2 hT2) hl0 hl1 hl2 T9
  subst e9
  have N10 := news_made (by assumption) N9 M9
  clear N9 M9 N7 kp9
  generalize hnl : nw ++ _ = nl at N10
  have up : ∀ p ∈ tl, p ∈ nl := fun p hp => hnl ▸ List.mem_append_right _ (List.mem_cons_of_mem _ (List.mem_cons_of_mem _ (List.mem_cons_of_mem _ hp)))
  replace yw := yw.mono (nl' := nl) fun p hp => hnl ▸ List.mem_append_left _ hp
  replace y0 := y0.mono up
  replace y1 := y1.mono up
  replace y2 := y2.mono up
  have hWt : (_, W.listOf #[Value.ref w0, .ref w1, .ref w2] 3) ∈ nl := hnl ▸ List.mem_append_right _ (List.mem_cons_of_mem _ List.mem_cons_self)
  clear hnl up
  have q0 := y0.len
  have q1 := y1.len
  have q2 := y2.len
  have g1 := y0.mem
  have g2 := y1.mem
  have g3 := y2.mem
  have x0 : (#[Value.ref w0, .ref w1, .ref w2] : Array Value)[Int.toNat 0]? = some (.ref w0) := rfl
  have x1 : (#[Value.ref w0, .ref w1, .ref w2] : Array Value)[Int.toNat 1]? = some (.ref w1) := rfl
  have x2 : (#[Value.ref w0, .ref w1, .ref w2] : Array Value)[Int.toNat 2]? = some (.ref w2) := rfl
  have z0 : (#[Value.ref A0, .ref A1] : Array Value)[Int.toNat 0]? = some (.ref A0) := rfl
  have z1 : (#[Value.ref A0, .ref A1] : Array Value)[Int.toNat 1]? = some (.ref A1) := rfl
  dsimp only
  walk_at "M steps8"
  (with_reducible rename Fr _ _ _ _ => F9); (with_reducible rename News _ _ _ _ => N9); (with_reducible rename IsRange _ _ _ _ _ _ _ _ => R9)
  refine iter_rangeJ ((rowN T n0).length + 1) (fun i m nx => nx = nl ∧ Has m [(Str.ofString "worths", _), (Str.ofString "wins", .ref Wn)]) rfl R9 (small_one (by decide) (by decide) (by omega) (by omega)) (by rw [rangeSize_nat]; omega) F9 N9 ⟨rfl, rfl, rfl, trivial⟩ ?_ ?_
  · clear N9 F9
    rintro a ta m₂ nx h tk own hin hoff ⟨rfl, hm⟩ F2 N2
    rw [has_map hm, Int.zero_add] at F2
    simp only [mapOr] at F2
    dsimp only [envOfC, newEnv] at F2 N2
    dsimp only
    have up : ∀ p ∈ nx, p ∈ nx ++ own := fun p hp => List.mem_append_left _ hp
    generalize hnl2 : nx ++ own = nl2 at N2 up
    replace yw := yw.mono up
    replace y0 := y0.mono up
    replace y1 := y1.mono up
    replace y2 := y2.mono up
    replace hWt := up _ hWt
    replace g2 := y1.mem
    replace g3 := y2.mem
    obtain ⟨aa, taa, tba, haa, hta⟩ := y0.get a hin
    clear up g1
    walk_at "M steps8"
    (with_reducible rename Fr _ _ _ _ => F9); (with_reducible rename News _ _ _ _ => N9); (with_reducible rename IsRange _ _ _ _ _ _ _ _ => R9)
    refine iter_rangeJ ((rowN T n1).length + 1) (fun i m nx => nx = nl2 ∧ Has m [(Str.ofString "worths", _), (Str.ofString "wins", .ref Wn), (Str.ofString "a", .int a ta)]) rfl R9 (small_one (by decide) (by decide) (by omega) (by omega)) (by rw [rangeSize_nat]; omega) F9 N9 ⟨rfl, rfl, rfl, rfl, trivial⟩ ?_ ?_
    · clear N9 F9
      rintro b tb m₃ nx2 h tk own2 hin2 hoff2 ⟨rfl, hm2⟩ F2 N2
      rw [has_map hm2, Int.zero_add] at F2
      simp only [mapOr] at F2
      dsimp only [envOfC, newEnv] at F2 N2
      dsimp only
      have up : ∀ p ∈ nx2, p ∈ nx2 ++ own2 := fun p hp => List.mem_append_left _ hp
      generalize hnl3 : nx2 ++ own2 = nl3 at N2 up
      replace yw := yw.mono up
      replace y1 := y1.mono up
      replace y2 := y2.mono up
      replace hWt := up _ hWt
      replace hta := up _ hta
      replace g1 := up _ y0.mem
      replace g2 := y1.mem
      replace g3 := y2.mem
      obtain ⟨ab, tab, tbb, hab, htb⟩ := y1.get b hin2
      clear up
      walk_at "M steps8"
      (with_reducible rename Fr _ _ _ _ => F9); (with_reducible rename News _ _ _ _ => N9); (with_reducible rename IsRange _ _ _ _ _ _ _ _ => R9)
      refine iter_rangeJ ((rowN T n2).length + 1) (fun i m nx => nx = nl3 ∧ Has m [(Str.ofString "worths", _), (Str.ofString "wins", .ref Wn), (Str.ofString "a", .int a ta), (Str.ofString "b", .int b tb), (Str.ofString "both", .int (numW (rowN T n0) a + numW (rowN T n1) b) _), (Str.ofString "heaps", .int (Builtin.bitXor (heapW (rowN T n0) a) (heapW (rowN T n1) b)) _)]) rfl R9 (small_one (by decide) (by decide) (by omega) (by omega)) (by rw [rangeSize_nat]; omega) F9 N9 ⟨rfl, rfl, rfl, rfl, rfl, rfl, rfl, trivial⟩ ?_ ?_
      · clear N9 F9
        rintro c tc m₄ nx3 h tk own3 hin3 hoff3 ⟨rfl, hm3⟩ F2 N2
        rw [has_map hm3, Int.zero_add] at F2
        simp only [mapOr] at F2
        dsimp only [envOfC, newEnv] at F2 N2
        dsimp only
        have up : ∀ p ∈ nx3, p ∈ nx3 ++ own3 := fun p hp => List.mem_append_left _ hp
        generalize hnl4 : nx3 ++ own3 = nl4 at N2 up
        replace hWt := up _ hWt
        replace g3 := up _ y2.mem
        obtain ⟨ac, tac, tbc, hac, htc⟩ := y2.get c hin3
        replace htc := up _ htc
        have hw9 := up _ yw.mem
        have hw0' := up _ yw.mem0
        have hw1' := up _ yw.mem1
        have hg0 := yw.get0 a b c hin hin2 hin3
        have hg1 := yw.get1 a b c hin hin2 hin3
        clear up g1 g2 hta htb
        walk_at "M steps8"
        (with_reducible rename Fr _ _ _ _ => F9); (with_reducible rename News _ _ _ _ => N9)
        exact flat_fin F9 N9 hoff3 hnl4.symm ⟨rfl, rfl, rfl, rfl, rfl, rfl, rfl, trivial⟩
      · clear N9 F9
        rintro m₄ nx3 h tk ⟨rfl, hm3⟩ F2 N2
        rw [has_map hm3] at F2
        simp only [mapOr] at F2
        dsimp only [envOfC, newEnv] at F2 N2
        dsimp only
        walk_at "M steps8"
        exact flat_fin F2 N2 hoff2 hnl3.symm ⟨rfl, rfl, rfl, rfl, trivial⟩
    · clear N9 F9
      rintro m₃ nx2 h tk ⟨rfl, hm2⟩ F2 N2
      rw [has_map hm2] at F2
      simp only [mapOr] at F2
      dsimp only [envOfC, newEnv] at F2 N2
      dsimp only
      walk_at "M steps8"
      exact flat_fin F2 N2 hoff hnl2.symm ⟨rfl, rfl, rfl, trivial⟩
  · clear N9 F9
    rintro m₂ nx h tk ⟨rfl, hm⟩ F2 N2
    rw [has_map hm] at F2
    simp only [mapOr] at F2
    dsimp only [envOfC, newEnv] at F2 N2
    dsimp only
    clear hm R9 yw y0 y1 y2 hWt q0 q1 q2 g1 g2 g3 x0 x1 x2 z0 z1
    repeat (first | (with_reducible first | refine Cont.next ?_ | refine Cont.ret ?_) | (k_here; first | walk1 | (dsimp only; walk1)))
    (try dsimp only)
    k_end
    wrow_close
end
theorem glue {P : Prop} (x : PSigma fun G : Prop => PySem.Flt.Hid G → P) (h : x.1) : P := x.2 ⟨h⟩
theorem glue2 {P : Prop} (x : PSigma fun G : Prop => PSigma fun G2 : Prop => PySem.Flt.Hid G → PySem.Flt.Hid G2 → P) (h : x.1) (h2 : x.2.1) : P := x.2.2 ⟨h⟩ ⟨h2⟩
theorem s1 : T6.1 := T7
theorem s2 : T5.1 := by with_reducible exact @glue T5.1 T6 s1
theorem s3 : T5.2.1 := T8
theorem s4 : T4.1 := by with_reducible exact @glue2 T4.1 T5 s2 s3
theorem s5 : T3.1 := by with_reducible exact @glue T3.1 T4 s4
theorem s6 : T2.1 := by with_reducible exact @glue T2.1 T3 s5
theorem s7 : T1.1 := by with_reducible exact @glue T1.1 T2 s6
theorem whole : PySem.Challenge.rw_sw0015_01.Holds := by with_reducible exact glue T1 s7
end
end Mine
theorem PySem.Challenge.cw_sw0015_01_holds : PySem.Challenge.rw_sw0015_01.Holds :=
  Mine.whole
