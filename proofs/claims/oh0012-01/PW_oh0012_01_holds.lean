import PyProof.Rows.All
import Wide.All
import OpenK.AllK
import Wide.FinOn
import PySem.Challenge.RW_oh0012_01
set_option maxRecDepth 100000
set_option Elab.async false
section
open PySem PySem.W PyProof.Rows
namespace Mine
set_option maxRecDepth 100000 in
set_option maxHeartbeats 8000000 in
open_top hd for PySem.Challenge.rw_oh0012_01
end Mine
end
section
namespace Mine
theorem off_B1 : ∃ x : Nat, x = 0 := by
  w_top off
  first | (walk1; fail) | exact ⟨0, rfl⟩
end Mine
open PySem PySem.W PyProof.Rows PySem.Calls
namespace Mine
/-- all but what `pre` names stands as it stood -/
def Kept (pre : List (Addr × Obj)) (h h' : Heap) : Prop := ∀ b o, (∀ p ∈ pre, p.1 ≠ b) → h.get? b = some o → h'.get? b = some o
/-- the end of a def's body: what comes back, what was made -/
def BodyEnd (g : Heap) (L : Addr) (post : Value → List (Addr × Obj) → Prop) (s₁ : Shared) (fl : Flow) (s' : Shared) : Prop :=
  ∃ made m' h' tk', s' = { s₁ with heap := h', toks := tk' } ∧ Fr g L h' m' ∧ News g L h' made ∧ post (match fl with | .ret v => v | _ => .none) made
section
variable {prog : Program} {w : World} {A₀ A : Around} {s : Shared} {base h₀ : Heap} {outer : List Env} {L : Addr} {m : Str → Option Value} {env : Env} {pre : List (Addr × Obj)}
  {name qual : Str} {params : Arguments} {body : List Stmt} {scope : Scope} {dV kV doc pm cdv ct : Value} {an : Option Addr} {fo : Obj} {f : Addr} {args : Args} {binds : List (Str × Value)}
  {Q E : Value → Shared → Prop} {post : Value → List (Addr × Obj) → Prop}
theorem fresh_of_hide {h : Heap} {l : List Addr} {a : Addr} (e : (hideAll h l).get? a = none) : a ∈ l ∨ h.get? a = none := by
  by_cases hm : a ∈ l
  · exact .inl hm
  · refine .inr ?_
    cases q : h.get? a with
    | none => rfl
    | some o => rw [hideAll_get l q hm] at e; cases e
theorem kept_of_fr {h h' : Heap} {L' : Addr} {m' : Str → Option Value} (F : Fr (hideAll h (pre.map (·.1))) L' h' m') : Kept pre h h' := fun b o hb e =>
  F.keep b o (hideAll_get _ e fun hm => by obtain ⟨p, hp, he⟩ := List.mem_map.mp hm; exact hb p hp he)
theorem call_plain (B : Below A₀ base outer h₀) (F : Fr h₀ L s.heap m) (N : News h₀ L s.heap pre) (hlim : h₀.NoLimit) (hA : A.frames = some (env :: outer)) (hf : env.frame = some L) (hke : env.scope.kind = .function)
    (ho : s.heap.get? f = some fo) (hd : fo.data = .func (fnX name qual params body scope [] dV kV doc pm an cdv ct)) (hcd : s.heap.CodeRec cdv qual) (hroom : A.depth < recursionLimit)
    (hbind : BindsTo s (fnX name qual params body scope [] dV kV doc pm an cdv ct) args binds) (hloc : ∀ y ∈ binds, scope.names.lookup y.1 = some .local)
    (h : ∀ g L' h₁ tk, g = hideAll s.heap (pre.map (·.1)) → L' = s.heap.objs.size → Fr h₀ L g m → Fr g L' h₁ (fun y => binds.reverse.lookup y) → News g L' h₁ pre → Below A base (env :: outer) g → h₀.StaysIn g → (∀ p ∈ pre, p.1 < L') →
      wpAny (model prog w) (A.deeper (envX qual scope L' f cdv [])) (execs body (envX qual scope L' f cdv []))
        (BodyEnd g L' post { s with heap := h₁, toks := tk }) (fun _ _ => False) { s with heap := h₁, toks := tk })
    (ret : ∀ r made h' tk', post r made → Kept pre s.heap h' → News h₀ L h' made → (∀ q ∈ made, q.1 ∈ pre.map (·.1) ∨ s.heap.get? q.1 = none) → Q r { s with heap := h', toks := tk' })
    (hcell : ∀ x ∈ scope.names, x.2 ≠ .cell) (hco : scope.isCoroutine = false := by rfl) (hgen : scope.isGenerator = false := by rfl) (hk : scope.kind = .function := by rfl) :
    codeAny (model prog w) A (.call (.ref f) args) (fun r s' => match r with | .ok (.ret v) => Q v s' | .ok _ => False | .error e => E e s') s := by
  obtain ⟨FG, BG, st, lv⟩ := groundX (R := fun r s' => match r with | .ok (.ret v) => Q v s' | .ok _ => False | .error e => E e s') B F N hA hf hke
  refine codeAny_call_def (fd := fnX name qual params body scope [] dV kV doc pm an cdv ct) (body := body) (binds := binds) hroom ho hd (hlim.keeps F.keep) hcd rfl hbind hcell hloc (fun h₁ hns hk₁ => ?_) hco hgen hk
  refine wpAny_mono (h _ s.heap.objs.size h₁ (s.toks + binds.length) rfl rfl FG ⟨hns, fun b o e => hk₁ b o (of_hideAll _ e), Nat.le_of_eq (hideAll_size _ _)⟩
    (fun p hp => ⟨hk₁ _ _ (N p hp).1, Nat.ne_of_lt (Heap.lt_size (N p hp).1), hideAll_none _ (List.mem_map_of_mem hp)⟩) BG st (fun p hp => Heap.lt_size (N p hp).1)) (fun fl s' hl => lv _ _ ?_) fun _ _ y => y.elim
  obtain ⟨made, m', h', tk', rfl, F', N', hp⟩ := hl
  exact ⟨_, _, _, F', N', fun F₁ N₁ => ret _ made h' tk' hp (kept_of_fr F') N₁ fun q hq => fresh_of_hide (N' q hq).2.2⟩
theorem call_cells (B : Below A₀ base outer h₀) (F : Fr h₀ L s.heap m) (N : News h₀ L s.heap pre) (hlim : h₀.NoLimit) (hA : A.frames = some (env :: outer)) (hf : env.frame = some L) (hke : env.scope.kind = .function)
    (ho : s.heap.get? f = some fo) (hd : fo.data = .func (fnX name qual params body scope [] dV kV doc pm an cdv ct)) (hcd : s.heap.CodeRec cdv qual) (hroom : A.depth < recursionLimit)
    (hbind : BindsTo s (fnX name qual params body scope [] dV kV doc pm an cdv ct) args binds)
    (hkind : ∀ n, ∀ x ∈ binds, scope.names.lookup x.1 = some .local ∨ (scope.names.lookup x.1 = some .cell ∧ ((cellsFrom n scope.names []).lookup x.1).isSome = true))
    (hnd : ((cellsFrom 0 scope.names []).map (·.1)).Nodup)
    (h : ∀ g L' h₁ tk cells, g = hideAll s.heap (pre.map (·.1)) → L' = s.heap.objs.size → Fr h₀ L g m → Fr g L' h₁ (bindL (envOfC qual scope L' f cdv).kindOf binds fun _ => none) → News g L' h₁ (cells ++ pre) →
      CellsAre (bindC (envOfC qual scope L' f cdv).kindOf binds fun _ => none) (cellsFrom (L' + 1) scope.names []) cells → Below A base (env :: outer) g → h₀.StaysIn g → (∀ p ∈ pre, p.1 < L') →
      wpAny (model prog w) (A.deeper (envOfC qual scope L' f cdv)) (execs body (envOfC qual scope L' f cdv))
        (BodyEnd g L' post { s with heap := h₁, toks := tk }) (fun _ _ => False) { s with heap := h₁, toks := tk })
    (ret : ∀ r made h' tk', post r made → Kept pre s.heap h' → News h₀ L h' made → (∀ q ∈ made, q.1 ∈ pre.map (·.1) ∨ s.heap.get? q.1 = none) → Q r { s with heap := h', toks := tk' })
    (hco : scope.isCoroutine = false := by rfl) (hgen : scope.isGenerator = false := by rfl) (hk : scope.kind = .function := by rfl) :
    codeAny (model prog w) A (.call (.ref f) args) (fun r s' => match r with | .ok (.ret v) => Q v s' | .ok _ => False | .error e => E e s') s := by
  obtain ⟨FG, BG, st, lv⟩ := groundX (R := fun r s' => match r with | .ok (.ret v) => Q v s' | .ok _ => False | .error e => E e s') B F N hA hf hke
  refine codeAny_call_function hroom ho hd hco hgen rfl hcd (hbind _ _ _ _ ?_)
  refine wpAny_newFunctionEnv_cells hk (hkind _) fun env' he s' x => ?_
  subst he
  refine ⟨(hlim.keeps F.keep).keeps x.toInCall.keep, codeAny_func ?_⟩
  obtain ⟨h₁, tk, rfl, _⟩ := x.done
  have hk₁ := x.toInCall.keep
  obtain ⟨cells, NC, Y⟩ := Cl.news (h₀ := s.heap) (Nat.le_refl _) fun n c hm => ⟨x.cell n c (lookup_of_mem_nodup (cellsFrom_names scope.names 0 (s.heap.objs.size + 1) [] [] rfl ▸ hnd) hm), x.above n c hm⟩
  refine wpAny_mono (h _ s.heap.objs.size h₁ tk cells rfl rfl FG ⟨x.toInCall.ns, fun b o e => hk₁ b o (of_hideAll _ e), Nat.le_of_eq (hideAll_size _ _)⟩ (fun p hp => ?_) Y BG st (fun p hp => Heap.lt_size (N p hp).1)) (fun fl s' hl => lv _ _ ?_) fun _ _ y => y.elim
  · rcases List.mem_append.mp hp with hp | hp
    · refine ⟨(NC p hp).1, (NC p hp).2.1, ?_⟩
      cases q : (hideAll s.heap (pre.map (·.1))).get? p.1 with
      | none => rfl
      | some o => have := of_hideAll _ q; rw [(NC p hp).2.2] at this; cases this
    · exact ⟨hk₁ _ _ (N p hp).1, Nat.ne_of_lt (Heap.lt_size (N p hp).1), hideAll_none _ (List.mem_map_of_mem hp)⟩
  · obtain ⟨made, m', h', tk', rfl, F', N', hp⟩ := hl
    exact ⟨_, _, _, F', N', fun F₁ N₁ => ret _ made h' tk' hp (kept_of_fr F') N₁ fun q hq => fresh_of_hide (N' q hq).2.2⟩
end
end Mine
end
section
namespace Mine
theorem off_B2 : ∃ x : Nat, x = 0 := by
  w_top off
  first | (walk1; fail) | exact ⟨0, rfl⟩
end Mine
open PySem PySem.W PyProof.Rows PySem.Calls
namespace Mine
/-- what a call of the def at `f` on `vs` does, in any frame: `R` is what it reads, `pre` what it may change, `post` what comes back with what was made -/
def Con (w : World) (k f : Nat) (vs : List Value) (R : Heap → Prop) (pre : List (Addr × Obj)) (post : Value → List (Addr × Obj) → Prop) : Prop :=
  ∀ (p : Program) (loose : List Str) (mean : ExcName → Option Value) (mg mb : Str → Option Value) (dp un : Nat) (gd : Option (List Code)) (cn : Str) (cs : Scope) (a : Addr) (ccd : Value) (cl : List (Str × Addr)) (outer : List Env) (A₀ : Around) (base h₀ : Heap) (L : Addr)
    (m : Str → Option Value) (s : Shared) (Q E : Value → Shared → Prop),
    Below A₀ base outer h₀ → Fr h₀ L s.heap m → (Mine.hd.heap_39 w.params).In h₀ → News h₀ L s.heap pre → Top p loose mean mg mb h₀ → cs.kind = .function → R s.heap → dp + k < recursionLimit → un + 8 * k < cLine →
    (∀ r made h' tk', post r made → Kept pre s.heap h' → News h₀ L h' made → (∀ q ∈ made, q.1 ∈ pre.map (·.1) ∨ s.heap.get? q.1 = none) → Q r { s with heap := h', toks := tk' }) →
    wpAny (model PySem.Challenge.rw_oh0012_01.row.prog w) (ktrTop dp un gd cn cs L a ccd cl outer) (call (.ref f) vs) Q E s
theorem kept_hide {pre : List (Addr × Obj)} {h : Heap} : Kept pre h (hideAll h (pre.map (·.1))) := fun b o hb e =>
  hideAll_get _ e fun hm => by obtain ⟨p, hp, he⟩ := List.mem_map.mp hm; exact hb p hp he
section
variable {w : World} {k f : Nat} {vs : List Value} {R : Heap → Prop} {pre : List (Addr × Obj)} {post : Value → List (Addr × Obj) → Prop} {oc : Value} {od : Option Addr} {osl : Array (Option Value)}
  {name qual : Str} {params : Arguments} {body : List Stmt} {scope : Scope} {dV kV doc pm cdv ct : Value} {an : Option Addr} {binds : List (Str × Value)}
theorem Con.intro (ho : (Mine.hd.heap_39 w.params).lookup f = some ⟨oc, od, .func (fnOf name qual params body scope dV kV doc pm an cdv ct), osl⟩) (hcd : codeIn (Mine.hd.heap_39 w.params) cdv qual = true)
    (hbind : ∀ s, BindsTo s (fnOf name qual params body scope dV kV doc pm an cdv ct) ⟨vs, []⟩ binds) (hloc : ∀ y ∈ binds, scope.names.lookup y.1 = some .local) (hcell : ∀ x ∈ scope.names, x.2 ≠ .cell)
    (hco : scope.isCoroutine = false) (hgen : scope.isGenerator = false) (hk : scope.kind = .function) (hR : ∀ h h', Kept pre h h' → R h → R h')
    (h : ∀ (p : Program) (loose : List Str) (mean : ExcName → Option Value) (mg mb : Str → Option Value) (dp un : Nat) (gd : Option (List Code)) (outer : List Env) (A : Around) (base g : Heap) (L : Addr) (s₁ : Shared),
      Below A base outer g → Fr g L s₁.heap (fun y => binds.reverse.lookup y) → (Mine.hd.heap_39 w.params).In g → News g L s₁.heap pre → Top p loose mean mg mb g → R g → (∀ q ∈ pre, q.1 < L) → dp + k < recursionLimit → un + 8 * k < cLine →
      wpAny (model PySem.Challenge.rw_oh0012_01.row.prog w) (ktrTop (dp + 1) (un + 3) gd qual scope L f cdv [] outer) (execs body (envOf qual scope L f cdv)) (BodyEnd g L post s₁) (fun _ _ => False) s₁) :
    Con w k f vs R pre post := by
  intro p loose mean mg mb dp un gd cn cs a ccd cl outer A₀ base h₀ L m s Q E B F X N T hks hRs hd hu ret
  refine wpAny_call ?_
  refine call_plain (env := envX cn cs L a ccd cl) B F N T.nolimit rfl rfl hks ((X.keeps F.keep) _ _ ho) rfl (codeRec_of (X.keeps F.keep) hcd) (show dp < recursionLimit by omega) (hbind s) hloc ?_ ret hcell hco hgen hk
  rintro g L' h₁ tk rfl - FG F' N' B' st lt
  exact h p loose mean mg mb dp un gd (envX cn cs L a ccd cl :: outer) (ktrTop dp un gd cn cs L a ccd cl outer) base _ L' { s with heap := h₁, toks := tk } B' F' (X.keeps st) N' (T.keeps st) (hR _ _ kept_hide hRs) lt hd hu
theorem Con.introC (ho : (Mine.hd.heap_39 w.params).lookup f = some ⟨oc, od, .func (fnOf name qual params body scope dV kV doc pm an cdv ct), osl⟩) (hcd : codeIn (Mine.hd.heap_39 w.params) cdv qual = true)
    (hbind : ∀ s, BindsTo s (fnOf name qual params body scope dV kV doc pm an cdv ct) ⟨vs, []⟩ binds) (hkind : (binds.all fun y => scope.names.lookup y.1 == some .local || scope.names.lookup y.1 == some .cell) = true)
    (hnd : ((cellsFrom 0 scope.names []).map (·.1)).Nodup)
    (hco : scope.isCoroutine = false) (hgen : scope.isGenerator = false) (hk : scope.kind = .function) (hR : ∀ h h', Kept pre h h' → R h → R h')
    (h : ∀ (p : Program) (loose : List Str) (mean : ExcName → Option Value) (mg mb : Str → Option Value) (dp un : Nat) (gd : Option (List Code)) (outer : List Env) (A : Around) (base g : Heap) (L : Addr) (cells : List (Addr × Obj)) (s₁ : Shared),
      Below A base outer g → Fr g L s₁.heap (bindL (envOfC qual scope L f cdv).kindOf binds fun _ => none) → (Mine.hd.heap_39 w.params).In g → News g L s₁.heap (cells ++ pre) →
      CellsAre (bindC (envOfC qual scope L f cdv).kindOf binds fun _ => none) (cellsFrom (L + 1) scope.names []) cells → Top p loose mean mg mb g → R g → (∀ q ∈ pre, q.1 < L) → dp + k < recursionLimit → un + 8 * k < cLine →
      wpAny (model PySem.Challenge.rw_oh0012_01.row.prog w) (ktrTop (dp + 1) (un + 3) gd qual scope L f cdv (cellsFrom (L + 1) scope.names []) outer) (execs body (envOfC qual scope L f cdv)) (BodyEnd g L post s₁) (fun _ _ => False) s₁) :
    Con w k f vs R pre post := by
  intro p loose mean mg mb dp un gd cn cs a ccd cl outer A₀ base h₀ L m s Q E B F X N T hks hRs hd hu ret
  refine wpAny_call ?_
  refine call_cells (env := envX cn cs L a ccd cl) B F N T.nolimit rfl rfl hks ((X.keeps F.keep) _ _ ho) rfl (codeRec_of (X.keeps F.keep) hcd) (show dp < recursionLimit by omega) (hbind s) (kindsX hkind) hnd ?_ ret hco hgen hk
  rintro g L' h₁ tk cells rfl - FG F' N' Y B' st lt
  exact h p loose mean mg mb dp un gd (envX cn cs L a ccd cl :: outer) (ktrTop dp un gd cn cs L a ccd cl outer) base _ L' cells { s with heap := h₁, toks := tk } B' F' (X.keeps st) N' Y (T.keeps st) (hR _ _ kept_hide hRs) lt hd hu
end
end Mine
end
section
namespace Mine
theorem off_D1 : ∃ x : Nat, x = 0 := by
  w_top off
  first | (walk1; fail) | exact ⟨0, rfl⟩
end Mine
open PySem PySem.W PyProof.Rows PySem.Calls
namespace Mine
open Sem (wp)
open AutoSeq1 (wpAny_loadPart')
theorem meets_enumT_new (l : Addr) (items : Array Value) (n : Nat) (dct : Option Addr) (sl : Array (Option Value)) :
    Meets (Builtin.«enumerate.__new__» ⟨[.type "enumerate", .ref l], []⟩) (fun _ R s => s.heap.get? l = some { cls := .type "tuple", dict := dct, data := .seq items n, slots := sl } ∧
      R (.ok (.ret (.ref (s.heap.push { cls := .type "tuple_iterator", data := .fields #[.ref l, .int 0 0] }).objs.size)))
        { s with heap := (s.heap.push { cls := .type "tuple_iterator", data := .fields #[.ref l, .int 0 0] }).push { cls := .type "enumerate", data := .fields #[.none, .bool false, .ref s.heap.objs.size, rawInt 0, .none, .none] } }) :=
  .of_wp fun prog w A R s h => by
    obtain ⟨hp, g, d, tk, os⟩ := s; obtain ⟨hl, h⟩ := h
    have hsub := sub_enumerate
    have hL : Heap.IsTuple (Shared.heap ⟨hp, g, d, tk, os⟩) l items := ⟨_, hl, rfl, n, rfl⟩
    wp_walk using wpAny_loadPart' hl
    refine wpAny_stack_any fun st => wpAny_pure ?_
    split
    · rename_i c _ _ _ _ _
      cases (c == Value.type "enumerate")
      · wp_walk using wpAny_loadPart' hl, wpAny_pyIter_tuple hL
        exact ⟨_, rfl, h⟩
      · wp_walk using wpAny_loadPart' hl, wpAny_pyIter_tuple hL
        exact ⟨_, rfl, h⟩
    · wp_walk using wpAny_loadPart' hl, wpAny_pyIter_tuple hL
      exact ⟨_, rfl, h⟩
section
variable {prog : Program} {w : World} {A : Around} {E : Value → Shared → Prop} {s : Shared}
theorem nextOf_tup_item {it l : Addr} {i : Nat} {items} {x : Value} {Q : Value → Shared → Prop} (hit : s.heap.IsTupleIter it l i)
    (hl : s.heap.IsTuple l items) (hx : items[i]? = some x)
    (hQ : ∀ h', h'.IsTupleIter it l (i + 1) → Heap.SameBut it s.heap h' → Q x { s with heap := h' }) :
    wpAny (model prog w) A (Builtin.SmallTypes.nextOf (.ref it)) Q E s := by
  obtain ⟨o, ho, hc, hd⟩ := id hit
  obtain ⟨ol, hol, _, nl, hdl⟩ := hl
  unfold Builtin.SmallTypes.nextOf
  refine wpAny_bind (wpAny_callSpecial?_slot (name := Str.ofString "__next__") hit.typeIs F.slot_tuple_iterator_next
    (wpAny_call_entry F.slot_tuple_iterator_next hit.typeIs F.entry_tuple_iterator_next ?_ (F.args_tuple_iterator_next_1 _)))
  show wpAny _ _ (field (.ref it) 0 >>= _) _ _ s
  refine wpAny_bind (wpAny_field ho hd (x := .ref l) rfl ?_)
  show wpAny _ _ (if (Value.ref l == Value.none) = true then _ else _) _ _ s
  rw [if_neg (show ¬ ((Value.ref l == Value.none) = true) from Bool.false_ne_true)]
  show wpAny _ _ (field (.ref it) 1 >>= _) _ _ s
  refine wpAny_bind (wpAny_field ho hd (x := .int i 0) rfl ?_)
  show wpAny _ _ (seqItems? (.ref l) >>= _) _ _ s
  refine wpAny_bind (wpAny_seqItems hol hdl ?_)
  simp only [Int.toNat_natCast, hx]
  refine wpAny_bind (wpAny_setField ho hd (by simp) (wpAny_pure ⟨x, rfl, wpAny_pure (hQ _ ?_ (Heap.SameBut.update ..))⟩))
  exact ⟨_, Heap.get?_update_self _ ho (Obj.isFreed_of_fields (Obj.data_mapFields hd _)), (Obj.cls_mapFields ..).trans hc, by
    rw [Obj.data_mapFields hd]; simp [rawInt]⟩
theorem nextOf_tup_end {it l : Addr} {i : Nat} {items} {Q : Value → Shared → Prop} (hh : A.handled = none)
    (hit : s.heap.IsTupleIter it l i) (hl : s.heap.IsTuple l items) (hx : items[i]? = none)
    (hE : ∀ h' e, Heap.ExtBut it s.heap h' → (∃ o, h'.get? e = some o ∧ o.cls = .type "StopIteration") → E (.ref e) { s with heap := h' }) :
    wpAny (model prog w) A (Builtin.SmallTypes.nextOf (.ref it)) Q E s := by
  obtain ⟨o, ho, hc, hd⟩ := id hit
  obtain ⟨ol, hol, _, nl, hdl⟩ := hl
  unfold Builtin.SmallTypes.nextOf
  refine wpAny_bind (wpAny_callSpecial?_slot (name := Str.ofString "__next__") hit.typeIs F.slot_tuple_iterator_next
    (wpAny_call_entry F.slot_tuple_iterator_next hit.typeIs F.entry_tuple_iterator_next ?_ (F.args_tuple_iterator_next_1 _)))
  show wpAny _ _ (field (.ref it) 0 >>= _) _ _ s
  refine wpAny_bind (wpAny_field ho hd (x := .ref l) rfl ?_)
  show wpAny _ _ (if (Value.ref l == Value.none) = true then _ else _) _ _ s
  rw [if_neg (show ¬ ((Value.ref l == Value.none) = true) from Bool.false_ne_true)]
  show wpAny _ _ (field (.ref it) 1 >>= _) _ _ s
  refine wpAny_bind (wpAny_field ho hd (x := .int i 0) rfl ?_)
  show wpAny _ _ (seqItems? (.ref l) >>= _) _ _ s
  refine wpAny_bind (wpAny_seqItems hol hdl ?_)
  simp only [Int.toNat_natCast, hx]
  refine wpAny_bind (wpAny_rule (wpAny_bind (wpAny_setField ho hd (by simp) ?_)))
  show wpAny _ _ (newExc (.type "StopIteration") [] >>= _) _ _ _
  refine wpAny_bind ?_
  simp only [newExc, newTuple]
  refine wpAny_bind (wpAny_newObj_type ?_ (by size_fits))
  refine wpAny_bind (m := firstArgMember _ _) (wpAny_of_eq (a := Value.none) (by first | rfl | (simp only [firstArgMember]; rfl)) ?_)
  refine wpAny_newObj_type ?_ (by size_fits)
  simp only [raiseNew]
  refine wpAny_bind (wpAny_handled ?_)
  first | rw [show A.in1.handled = none from hh] | rw [hh]
  refine wpAny_bind (wpAny_pure (wpAny_throw ?_))
  exact hE _ _ (((Heap.SameBut.update ..).extBut.push _).push _) ⟨_, Heap.get?_push_size _ rfl, rfl⟩
theorem enumT_next_item {e it l : Addr} {i : Nat} {items : Array Value} {x old : Value} {Q : Value → Shared → Prop}
    (he : IsEnum s.heap e it i old) (hit : s.heap.IsTupleIter it l i) (hl : s.heap.IsTuple l items) (hx : items[i]? = some x) (hne : e ≠ it)
    (hQ : ∀ h', IsEnumOut h' e it ((i : Int) + 1) x s.heap.objs.size → h'.IsTupleIter it l (i + 1) →
      h'.get? s.heap.objs.size = some { cls := .type "tuple", data := .seq #[.int i s.toks, x] } → h'.objs.size = s.heap.objs.size + 1 →
      (∀ b o, b ≠ e → b ≠ it → s.heap.get? b = some o → h'.get? b = some o) → Q (.ref s.heap.objs.size) { s with heap := h', toks := s.toks + 1 }) :
    wpAny (model prog w) A (Builtin.«enumerate.__next__» ⟨[.ref e], []⟩) (fun fin s' => ∃ v, fin = .done (.ret v) ∧ Q v s') E s := by
  obtain ⟨hp, g, d, tk, os⟩ := s
  show wpAny _ _ (field (.ref e) 2 >>= _) _ _ _
  refine wpAny_bind (wpAny_field he rfl (x := .ref it) rfl ?_)
  refine wpAny_bind (nextOf_tup_item hit hl hx fun h₁ hit₁ hs₁ => ?_)
  replace hs₁ : Heap.SameBut it hp h₁ := hs₁
  have he₁ : IsEnum h₁ e it i old := (hs₁.2 e hne).trans he
  show wpAny _ _ (field (.ref e) 3 >>= _) _ _ ⟨h₁, g, d, tk, os⟩
  refine wpAny_bind (wpAny_field he₁ rfl (x := rawInt i) rfl ?_)
  show wpAny _ _ (field (.ref e) 4 >>= _) _ _ ⟨h₁, g, d, tk, os⟩
  refine wpAny_bind (wpAny_field he₁ rfl (x := .none) rfl ?_)
  show wpAny _ _ (mkInt i >>= _) _ _ ⟨h₁, g, d, tk, os⟩
  refine wpAny_bind (wpAny_mkInt ?_)
  show wpAny _ _ (setField (.ref e) 3 (rawInt ((i : Int) + 1)) >>= _) _ _ ⟨h₁, g, d, tk + 1, os⟩
  refine wpAny_bind (wpAny_setField_rec he₁ (by simp) fun h₂ he₂ hs₂ => ?_)
  replace hs₂ : Heap.SameBut e h₁ h₂ := hs₂
  replace he₂ : IsEnum h₂ e it ((i : Int) + 1) old := he₂
  show wpAny _ _ (setField (.ref e) 4 .none >>= _) _ _ ⟨h₂, g, d, tk + 1, os⟩
  refine wpAny_bind (wpAny_setField_rec he₂ (by simp) fun h₃ he₃ hs₃ => ?_)
  replace hs₃ : Heap.SameBut e h₂ h₃ := hs₃
  replace he₃ : IsEnum h₃ e it ((i : Int) + 1) old := he₃
  show wpAny _ _ (newTuple [.int i tk, x] >>= _) _ _ ⟨h₃, g, d, tk + 1, os⟩
  refine wpAny_bind (wpAny_newTuple ?_)
  have he₄ : IsEnum (h₃.push { cls := .type "tuple", data := .seq #[.int i tk, x] }) e it ((i : Int) + 1) old := Heap.get?_push_of_some _ he₃
  generalize hh₄ : h₃.push { cls := .type "tuple", data := .seq #[.int i tk, x] } = h₄ at he₄
  have hsz : h₃.objs.size = hp.objs.size := by rw [hs₃.1, hs₂.1, hs₁.1]
  have hel : e < hp.objs.size := Heap.lt_size he
  have ht₄ : h₄.get? hp.objs.size = some { cls := .type "tuple", data := .seq #[.int i tk, x] } := by rw [← hh₄, ← hsz]; exact Heap.get?_push_size _ rfl
  have hz₄ : h₄.objs.size = hp.objs.size + 1 := by rw [← hh₄, Heap.size_push, hsz]
  have hk₄ : ∀ b o, b ≠ e → b ≠ it → hp.get? b = some o → h₄.get? b = some o := fun b o hbe hbi hb => by
    rw [← hh₄]; exact Heap.get?_push_of_some _ (hs₃.extBut b o hbe (hs₂.extBut b o hbe (hs₁.extBut b o hbi hb)))
  have hit₄ : h₄.IsTupleIter it l (i + 1) := by
    rw [← hh₄]; obtain ⟨o, ho, r⟩ := (hit₁.extBut hs₂.extBut (Ne.symm hne)).extBut hs₃.extBut (Ne.symm hne); exact ⟨o, Heap.get?_push_of_some _ ho, r⟩
  show wpAny _ _ (Builtin.SmallTypes.ownedTupleIsFree (.ref e) >>= _) _ _ ⟨h₄, g, d, tk + 1, os⟩
  rw [hsz]
  clear hh₄ he₃ hs₃ he₂ hs₂ he₁ hs₁ hit₁ hsz h₃ h₂ h₁
  refine wpAny_bind ?_
  · unfold Builtin.SmallTypes.ownedTupleIsFree
    refine wpAny_bind (wpAny_field he₄ rfl (x := .none) rfl (wpAny_pure ?_))
    simp only [if_true]
    refine wpAny_bind (wpAny_rule ?_)
    refine wpAny_bind (wpAny_field he₄ rfl (x := old) rfl ?_)
    refine wpAny_bind (wpAny_setField_rec he₄ (by simp) fun h₅ he₅ hs₅ => ?_)
    replace hs₅ : Heap.SameBut e h₄ h₅ := hs₅
    replace he₅ : IsEnum h₅ e it ((i : Int) + 1) x := he₅
    show wpAny _ _ (Builtin.SmallTypes.ownedTupleHandOut (.ref e) (.ref hp.objs.size) >>= _) _ _ ⟨h₅, g, d, tk + 1, os⟩
    refine wpAny_bind ?_
    · unfold Builtin.SmallTypes.ownedTupleHandOut
      refine wpAny_bind (wpAny_setField_rec he₅ (by simp) fun h₆ he₆ hs₆ => ?_)
      replace hs₆ : Heap.SameBut e h₅ h₆ := hs₆
      replace he₆ : IsEnumOut h₆ e it ((i : Int) + 1) x hp.objs.size := he₆
      refine wpAny_setField_rec he₆ (by simp) fun h₇ he₇ hs₇ => ?_
      replace hs₇ : Heap.SameBut e h₆ h₇ := hs₇
      replace he₇ : IsEnumOut h₇ e it ((i : Int) + 1) x hp.objs.size := he₇
      refine wpAny_bind (wpAny_letGo (wpAny_pure ⟨_, rfl, hQ h₇ he₇ ?_ ?_ ?_ ?_⟩))
      · exact ((hit₄.extBut hs₅.extBut (Ne.symm hne)).extBut hs₆.extBut (Ne.symm hne)).extBut hs₇.extBut (Ne.symm hne)
      · exact hs₇.extBut _ _ (Nat.ne_of_gt hel) (hs₆.extBut _ _ (Nat.ne_of_gt hel) (hs₅.extBut _ _ (Nat.ne_of_gt hel) ht₄))
      · rw [hs₇.1, hs₆.1, hs₅.1, hz₄]
      · exact fun b o hbe hbi hb => hs₇.extBut b o hbe (hs₆.extBut b o hbe (hs₅.extBut b o hbe (hk₄ b o hbe hbi hb)))
theorem pyNext_enumT_item {e it l : Addr} {i : Nat} {items : Array Value} {x old : Value} {Q : Option Value → Shared → Prop}
    (he : IsEnum s.heap e it i old) (hit : s.heap.IsTupleIter it l i) (hl : s.heap.IsTuple l items) (hx : items[i]? = some x) (hne : e ≠ it)
    (hQ : ∀ h', IsEnumOut h' e it ((i : Int) + 1) x s.heap.objs.size → h'.IsTupleIter it l (i + 1) →
      h'.get? s.heap.objs.size = some { cls := .type "tuple", data := .seq #[.int i s.toks, x] } → h'.objs.size = s.heap.objs.size + 1 →
      (∀ b o, b ≠ e → b ≠ it → s.heap.get? b = some o → h'.get? b = some o) → Q (some (.ref s.heap.objs.size)) { s with heap := h', toks := s.toks + 1 }) :
    wpAny (model prog w) A (pyNext (.ref e)) Q E s := by
  have hT : s.TypeIs (.ref e) "enumerate" := ⟨_, he, rfl⟩
  unfold pyNext
  exact wpAny_bind (wpAny_attempt (wpAny_callSpecial?_slot (name := Str.ofString "__next__") hT F.slot_enumerate_next
    (wpAny_call_entry F.slot_enumerate_next hT F.entry_enumerate_next
      (enumT_next_item he hit hl hx hne fun h' a b c d k => wpAny_pure (hQ h' a b c d k)) (F.args_enumerate_next_1 _))))
theorem pyNext_enumT_end {e it l : Addr} {i : Nat} {items : Array Value} {old : Value} {Q : Option Value → Shared → Prop} (hh : A.handled = none)
    (he : IsEnum s.heap e it i old) (hit : s.heap.IsTupleIter it l i) (hl : s.heap.IsTuple l items) (hx : items[i]? = none)
    (hQ : ∀ h', Heap.ExtBut it s.heap h' → Q none { s with heap := h' }) : wpAny (model prog w) A (pyNext (.ref e)) Q E s := by
  have hT : s.TypeIs (.ref e) "enumerate" := ⟨_, he, rfl⟩
  unfold pyNext
  refine wpAny_bind (wpAny_attempt (wpAny_callSpecial?_slot (name := Str.ofString "__next__") hT F.slot_enumerate_next
    (wpAny_call_entry F.slot_enumerate_next hT F.entry_enumerate_next ?_ (F.args_enumerate_next_1 _))))
  show wpAny _ _ (field (.ref e) 2 >>= _) _ _ _
  refine wpAny_bind (wpAny_field he rfl (x := .ref it) rfl ?_)
  refine wpAny_bind (nextOf_tup_end hh hit hl hx fun h' x he' hx' => ?_)
  obtain ⟨o, ho, hc⟩ := hx'
  refine wpAny_bind (wpAny_isInstance (T := "StopIteration") (b := true) ⟨o, ho, hc⟩ isSubtype_stop ?_)
  exact wpAny_pure (hQ _ he')
theorem call_enumT {l : Addr} {items : Array Value} {Q : Value → Shared → Prop} (hL : s.heap.IsTuple l items)
    (h : ∀ h', IsEnum h' (s.heap.objs.size + 1) s.heap.objs.size 0 .none → h'.IsTupleIter s.heap.objs.size l 0 → h'.objs.size = s.heap.objs.size + 2 →
      (∀ b o, s.heap.get? b = some o → h'.get? b = some o) → Q (.ref (s.heap.objs.size + 1)) { s with heap := h' }) :
    wpAny (model prog w) A (call (.type "enumerate") [.ref l]) Q E s := by
  obtain ⟨⟨c, dct, dt, sl⟩, hl, hc, n, hd⟩ := hL
  replace hc : c = .type "tuple" := hc
  replace hd : dt = .seq items n := hd
  subst hc hd
  refine callType_new F.called_enumerate (by decide) (F.typeCall_enumerate_1 _) (F.newCall_enumerate_1 _) (fun obj => F.args_object_init_2 obj _) F.entry_enumerate_new
    (meets_enumT_new l items n dct sl) ⟨hl, ?_⟩
  have hz : (s.heap.push { cls := .type "tuple_iterator", data := .fields #[.ref l, .int 0 0] }).objs.size = s.heap.objs.size + 1 := Heap.size_push ..
  show _ ∧ _
  rw [hz]
  have he : IsEnum ((s.heap.push { cls := .type "tuple_iterator", data := .fields #[.ref l, .int 0 0] }).push
      { cls := .type "enumerate", data := .fields #[.none, .bool false, .ref s.heap.objs.size, rawInt 0, .none, .none] }) (s.heap.objs.size + 1) s.heap.objs.size 0 .none := by
    have := Heap.get?_push_size (s.heap.push { cls := .type "tuple_iterator", data := .fields #[.ref l, .int 0 0] })
      (o := { cls := .type "enumerate", data := .fields #[.none, .bool false, .ref s.heap.objs.size, rawInt 0, .none, .none] }) rfl
    rw [hz] at this; exact this
  refine ⟨⟨_, he, rfl⟩, h _ he ⟨_, Heap.get?_push_of_some _ (Heap.get?_push_size _ rfl), rfl, rfl⟩ (by rw [Heap.size_push, hz]) fun b o x => Heap.get?_push_of_some _ (Heap.get?_push_of_some _ x)⟩
end
theorem walks_enumT {prog : Program} {w : World} {A : Around} (hh : A.handled = none) (e it l : Addr) (hei : e ≠ it) (hle : l ≠ e) (hli : l ≠ it) (items : Array Value) :
    WalksT prog w A e [e, it, l] [e, it] items.size
      (fun i vals => ∃ t x, items[i]? = some x ∧ vals = #[.int i t, x])
      (fun i h => (∃ old, IsEnum h e it i old) ∧ h.IsTupleIter it l i ∧ h.IsTuple l items)
      (fun i T h => (∃ x, IsEnumOut h e it ((i : Int) + 1) x T) ∧ h.IsTupleIter it l (i + 1) ∧ h.IsTuple l items ∧ T ≠ e ∧ T ≠ it) where
  sub := fun b hb => by
    rcases List.mem_cons.mp hb with rfl | hb
    · exact List.mem_cons_self ..
    · exact List.mem_cons_of_mem _ (by rcases List.mem_cons.mp hb with rfl | hb; exact List.mem_cons_self ..; cases hb)
  frame := fun i h h' hst hk => by
    obtain ⟨⟨old, he⟩, hit, hl⟩ := hst
    exact ⟨⟨old, hk e (by simp) _ he⟩, hit.at fun o x => hk it (by simp) o x, hl.at fun o x => hk l (by simp) o x⟩
  item := fun i s Q E hi hst hQ => by
    obtain ⟨⟨old, he⟩, hit, hl⟩ := hst
    have hx : items[i]? = some items[i] := Array.getElem?_eq_getElem hi
    refine pyNext_enumT_item he hit hl hx hei fun h' ho hit' hT hsz hk => ?_
    have helt : e < s.heap.objs.size := Heap.lt_size he
    have hilt : it < s.heap.objs.size := by obtain ⟨_, x, _⟩ := hit; exact Heap.lt_size x
    exact hQ s.heap.objs.size #[.int i s.toks, items[i]] h' (s.toks + 1) ⟨_, _, hx, rfl⟩ (Nat.le_refl _) ⟨_, hT, rfl, _, rfl⟩
      ⟨⟨_, ho⟩, hit', hl.at fun o x => hk l o hle hli x, Nat.ne_of_gt helt, Nat.ne_of_gt hilt⟩
      fun b o hb x => hk b o (fun e' => hb (by simp [e'])) (fun e' => hb (by simp [e'])) x
  go := fun elts k pos i T s Q E hm hQ => by
    obtain ⟨⟨x, ho⟩, hit, hl, hTe, hTi⟩ := hm
    refine wpAny_letOwnedTupleGo_enum ho fun h' he' hs' => hQ h' ⟨⟨x, by simpa using he'⟩, hit.at fun o y => (hs'.2 it hei.symm).trans y, hl.at fun o y => (hs'.2 l hle).trans y⟩ fun b o hb y => ?_
    exact (hs'.2 b fun e' => hb (by simp [e'])).trans y
  apart := fun i T h hm hT => by
    obtain ⟨_, _, _, hTe, hTi⟩ := hm
    rcases List.mem_cons.mp hT with rfl | hT
    · exact hTe rfl
    · rcases List.mem_cons.mp hT with rfl | hT
      · exact hTi rfl
      · cases hT
  done := fun s Q E hst hQ => by
    obtain ⟨⟨old, he⟩, hit, hl⟩ := hst
    exact pyNext_enumT_end hh he hit hl (Array.getElem?_eq_none (Nat.le_refl _)) fun h' hx => hQ h' s.toks fun b o hb y => hx b o (fun e' => hb (by simp [e'])) y
  self := fun i s Q E hst hQ => by
    obtain ⟨⟨old, he⟩, _, _⟩ := hst
    exact wpAny_pyIter_enum he hQ
end Mine
end
section
namespace Mine
theorem off_D2 : ∃ x : Nat, x = 0 := by
  w_top off
  first | (walk1; fail) | exact ⟨0, rfl⟩
end Mine
open PySem PySem.W PyProof.Rows PySem.Calls
namespace Mine
/-- the end of one turn: the iterator's objects `own` as they stood, the word holds again -/
def TurnEnd (h₀ : Heap) (L : Addr) (own : List (Addr × Obj)) (wr : List Addr) (keep : List (Addr × Obj)) (Jn : (Str → Option Value) → List (Addr × Obj) → Prop) (Q : Flow → Shared → Prop) (s₁ : Shared) (f : Flow) (s₃ : Shared) : Prop :=
  match f with
  | .ret v => Q (.ret v) s₃
  | .brk => Q .next s₃
  | _ => ∃ h' tk' m' news', s₃ = { s₁ with heap := h', toks := tk' } ∧ Fr h₀ L h' m' ∧ News h₀ L h' (own ++ news') ∧ (∀ p ∈ news', p.1 ∉ wr) ∧ (∀ p ∈ keep, p ∈ news') ∧ Jn m' news'
section
variable {prog : Program} {w : World} {A : Around} {s : Shared} {env : Env} {h₀ : Heap} {target : Expr} {body orelse : List Stmt} {Q : Flow → Shared → Prop}
  {I : Addr} {fp wr : List Addr} {n : Nat} {P Md : Nat → Value → Heap → Prop} {St : Nat → Heap → Prop} {m : Str → Option Value} {news keep : List (Addr × Obj)}
theorem for_gen (W : KTurns prog w A target I fp wr n P Md St) (hLw : env.locals ∉ wr) (hwr : ∀ b ∈ wr, h₀.get? b = none)
    (hlive : ∀ i h, St i h → ∃ own : List (Addr × Obj), own.map (·.1) = wr ∧ ∀ p ∈ own, h.get? p.1 = some p.2)
    (hfp : ∀ b ∈ fp, b ∈ wr ∨ (∃ o, h₀.get? b = some o) ∨ ∃ o, (b, o) ∈ keep)
    (hst : St 0 s.heap) (F : Fr h₀ env.locals s.heap m) (N : News h₀ env.locals s.heap news) (hnw : ∀ p ∈ news, p.1 ∉ wr) (hkp : ∀ p ∈ keep, p ∈ news)
    (J : Nat → (Str → Option Value) → List (Addr × Obj) → Prop) (h0 : J 0 m news)
    (step : ∀ i v m₁ news₁ h tk own, i < n → P i v h → J i m₁ news₁ → own.map (·.1) = wr → (∀ p ∈ news₁, p.1 ∉ wr) → (∀ p ∈ keep, p ∈ news₁) → Fr h₀ env.locals h m₁ → News h₀ env.locals h (own ++ news₁) →
      wpAny (model prog w) A (assign target env v) (fun _ s₂ => wpAny (model prog w) A (execs body env) (TurnEnd h₀ env.locals own wr keep (J (i + 1)) Q { s with heap := h, toks := tk }) (fun _ _ => False) s₂) (fun _ _ => False) { s with heap := h, toks := tk })
    (done : ∀ m₁ news₁ h tk, J n m₁ news₁ → (∀ p ∈ keep, p ∈ news₁) → Fr h₀ env.locals h m₁ → News h₀ env.locals h news₁ → wpAny (model prog w) A (execs orelse env) Q (fun _ _ => False) { s with heap := h, toks := tk }) :
    codeAny (model prog w) A (.forLoop target (.ref I) body orelse env) (fun r s' => match r with | .ok f => Q f s' | .error e => cameBackBy (model prog w) A env (fun _ _ => False) e s') s := by
  have base : ∀ b o, h₀.get? b = some o → b ∉ wr := fun b o e hb => by rw [hwr b hb] at e; cases e
  refine codeAny_forLoop_any
    (fun k s' => ∃ i h' tk' m' news', k = n - i ∧ i ≤ n ∧ s' = { s with heap := h', toks := tk' } ∧ St i h' ∧ Fr h₀ env.locals h' m' ∧ News h₀ env.locals h' news' ∧ (∀ p ∈ news', p.1 ∉ wr) ∧ (∀ p ∈ keep, p ∈ news') ∧ J i m' news') ?_ n
    ⟨0, s.heap, s.toks, m, news, rfl, Nat.zero_le _, rfl, hst, F, N, hnw, hkp, h0⟩
  rintro k s' ⟨i, h', tk', m', news', rfl, hi, rfl, hst', F', N', hnw', hkp', hJ⟩
  have carry : ∀ h₁ : Heap, (∀ b o, b ∉ wr → h'.get? b = some o → h₁.get? b = some o) → Fr h₀ env.locals h₁ m' ∧ News h₀ env.locals h₁ news' := fun h₁ hk =>
    ⟨⟨F'.ns.at' fun o e => hk _ o hLw e, fun b o e => hk b o (base b o e) (F'.keep b o e), F'.above⟩, fun p hp => ⟨hk _ _ (hnw' p hp) (N' p hp).1, (N' p hp).2⟩⟩
  rcases Nat.lt_or_eq_of_le hi with hlt | rfl
  · refine W.item i _ _ _ hlt hst' fun v h₁ tk₁ hMd hk₁ => ?_
    refine W.go i v _ _ _ hMd fun h₂ hP hst₂ hk₂ => ?_
    obtain ⟨F₂, N₂⟩ := carry h₂ fun b o hb x => hk₂ b o hb (hk₁ b o hb x)
    obtain ⟨own, hown, hlv⟩ := hlive _ _ hst₂
    have Nw : News h₀ env.locals h₂ (own ++ news') := fun p hp => by
      rcases List.mem_append.mp hp with hp | hp
      · have hm : p.1 ∈ wr := hown ▸ List.mem_map_of_mem hp
        exact ⟨hlv p hp, fun e => hLw (e ▸ hm), hwr _ hm⟩
      · exact N₂ p hp
    refine wpAny_noRaise (wpAny_mono (step i v m' news' h₂ tk₁ own hlt hP hJ hown hnw' hkp' F₂ Nw) (fun _ s₂ h₂' => wpAny_noRaise (wpAny_mono h₂' (fun f s₃ h₃ => ?_) fun _ _ e => e)) fun _ _ e => e)
    have again : (∃ h'' tk'' m'' news'', s₃ = { s with heap := h'', toks := tk'' } ∧ Fr h₀ env.locals h'' m'' ∧ News h₀ env.locals h'' (own ++ news'') ∧ (∀ p ∈ news'', p.1 ∉ wr) ∧ (∀ p ∈ keep, p ∈ news'') ∧ J (i + 1) m'' news'') →
        ∃ k', k' < n - i ∧ ∃ i h' tk' m' news', k' = n - i ∧ i ≤ n ∧ s₃ = { s with heap := h', toks := tk' } ∧ St i h' ∧ Fr h₀ env.locals h' m' ∧ News h₀ env.locals h' news' ∧ (∀ p ∈ news', p.1 ∉ wr) ∧ (∀ p ∈ keep, p ∈ news') ∧ J i m' news' := by
      rintro ⟨h₄, tk₄, m₄, news₄, rfl, F₄, N₄, hn₄, hk₄, hJ₄⟩
      refine ⟨n - (i + 1), by omega, i + 1, h₄, tk₄, m₄, news₄, rfl, hlt, rfl, ?_, F₄, fun p hp => N₄ p (List.mem_append_right _ hp), hn₄, hk₄, hJ₄⟩
      refine W.frame _ _ _ hst₂ fun b hb o e => ?_
      rcases hfp b hb with hbw | ⟨o₀, e₀⟩ | ⟨o₀, e₀⟩
      · obtain ⟨p, hp, rfl⟩ := List.mem_map.mp (show b ∈ own.map (·.1) from hown ▸ hbw)
        have := hlv p hp
        rw [e] at this
        exact (Option.some.inj this) ▸ (N₄ p (List.mem_append_left _ hp)).1
      · have := F₂.keep b o₀ e₀
        rw [e] at this
        exact (Option.some.inj this) ▸ F₄.keep b o₀ e₀
      · have := (N₂ _ (hkp' _ e₀)).1
        rw [show h₂.get? b = some o from e] at this
        exact (Option.some.inj this) ▸ (N₄ _ (List.mem_append_right _ (hk₄ _ e₀))).1
    cases f with
    | ret v => exact h₃
    | brk => exact h₃
    | next => exact again h₃
    | cont => exact again h₃
  · refine W.done _ _ _ hst' fun h₁ tk₁ hk₁ => ?_
    obtain ⟨F₁, N₁⟩ := carry h₁ hk₁
    exact wpAny_noRaise (done m' news' h₁ tk₁ hJ hkp' F₁ N₁)
theorem own_one {own : List (Addr × Obj)} {a : Addr} (h : own.map (·.1) = [a]) : ∃ o, own = [(a, o)] := by
  cases own with
  | nil => cases h
  | cons q r =>
    cases r with
    | nil => obtain ⟨b, o⟩ := q; cases h; exact ⟨o, rfl⟩
    | cons q' r' => cases h
theorem own_two {own : List (Addr × Obj)} {a b : Addr} (h : own.map (·.1) = [a, b]) : ∃ o o', own = [(a, o), (b, o')] := by
  cases own with
  | nil => cases h
  | cons q r =>
    obtain ⟨c, o⟩ := q
    have h1 : c = a ∧ r.map (·.1) = [b] := by simpa using h
    obtain ⟨rfl, h2⟩ := h1
    obtain ⟨o', rfl⟩ := own_one h2
    exact ⟨o, o', rfl⟩
theorem turn_next {h₀ h' : Heap} {L : Addr} {own : List (Addr × Obj)} {wr : List Addr} {keep news' : List (Addr × Obj)} {Jn : (Str → Option Value) → List (Addr × Obj) → Prop} {Q : Flow → Shared → Prop} {s₁ : Shared} {tk' : Nat} {m' : Str → Option Value}
    (F : Fr h₀ L h' m') (N : News h₀ L h' (own ++ news')) (hn : ∀ p ∈ news', p.1 ∉ wr) (hk : ∀ p ∈ keep, p ∈ news') (hj : Jn m' news') : TurnEnd h₀ L own wr keep Jn Q s₁ .next { s₁ with heap := h', toks := tk' } :=
  ⟨h', tk', m', news', rfl, F, N, hn, hk, hj⟩
/-- a for over a tuple that stands in the base -/
theorem for_tup {iter : Expr} {pos : Pos} {ax : Addr} {items : Array Value} (hh : A.handled = none) (hax : h₀.IsTuple ax items) (F : Fr h₀ env.locals s.heap m) (N : News h₀ env.locals s.heap news)
    (hs : ∀ x, foldedSetIterable iter env x = pure x)
    (hiter : ∀ Q' : Value → Shared → Prop, Q' (.ref ax) s → wpAny (model prog w) A (eval iter env) Q' (fun _ _ => False) s)
    (J : Nat → (Str → Option Value) → List (Addr × Obj) → Prop) (h0 : J 0 m news)
    (step : ∀ i v m₁ news₁ h tk I oI, i < items.size → items[i]? = some v → J i m₁ news₁ → (∀ p ∈ news₁, @Ne Nat p.1 I) → Fr h₀ env.locals h m₁ → News h₀ env.locals h ((I, oI) :: news₁) →
      wpAny (model prog w) A (assign target env v) (fun _ s₂ => wpAny (model prog w) A (execs body env) (TurnEnd h₀ env.locals [(I, oI)] [I] [] (J (i + 1)) Q { s with heap := h, toks := tk }) (fun _ _ => False) s₂) (fun _ _ => False) { s with heap := h, toks := tk })
    (done : ∀ m₁ news₁ h tk, J items.size m₁ news₁ → Fr h₀ env.locals h m₁ → News h₀ env.locals h news₁ → wpAny (model prog w) A (execs orelse env) Q (fun _ _ => False) { s with heap := h, toks := tk }) :
    wpAny (model prog w) A (exec (.For target iter body orelse pos) env) Q (fun _ _ => False) s := by
  have hl : s.heap.IsTuple ax items := hax.at fun o e => F.keep ax o e
  obtain ⟨ol, hol, _⟩ := id hax
  have hlt : ax < s.heap.objs.size := Heap.lt_size (F.keep _ _ hol)
  have hne : ax ≠ s.heap.objs.size := Nat.ne_of_lt hlt
  refine wpAny_For (hiter _ (wpAny_pyIter_tuple hl ?_)) hs
  refine for_gen (keep := []) (KTurns.ofWalks (Walks.tuple hh s.heap.objs.size ax hne items) fun i v s Q E st q => letGo_tupleiter st.1 q) ?_ (fun b hb => ?_) (fun i h st => ?_) (fun b hb => ?_)
    ⟨⟨_, Heap.get?_push_size _ rfl, rfl, rfl⟩, hl.at fun o e => Heap.get?_push_of_some _ e⟩ (F.push _) (fun p hp => ⟨Heap.get?_push_of_some _ (N p hp).1, (N p hp).2⟩) (fun p hp hI => ?_) (fun p hp => nomatch hp) J h0 ?_ ?_
  · intro h
    exact absurd F.ns.lt ((List.mem_singleton.mp h) ▸ Nat.lt_irrefl _)
  · rw [List.mem_singleton.mp hb]; exact next_is_new F
  · obtain ⟨it, hit, _⟩ := st.1
    exact ⟨[(s.heap.objs.size, it)], rfl, fun p hp => by rw [List.mem_singleton.mp hp]; exact hit⟩
  · rcases List.mem_cons.mp hb with e | hb
    · exact .inl (by simp [e])
    · exact .inr (.inl ⟨ol, by rw [List.mem_singleton.mp hb]; exact hol⟩)
  · exact absurd (Heap.lt_size (N p hp).1) ((List.mem_singleton.mp hI) ▸ Nat.lt_irrefl _)
  · intro i v m₁ news₁ h tk own hi hP hJ hown hnw _ F₁ N₁
    obtain ⟨oI, rfl⟩ := own_one hown
    exact step i v m₁ news₁ h tk _ oI hi hP hJ (fun p hp e => hnw p hp (by rw [show p.1 = s.heap.objs.size from e]; exact List.mem_singleton.mpr rfl)) F₁ N₁
  · intro m₁ news₁ h tk hJ _ F₁ N₁
    exact done m₁ news₁ h tk hJ F₁ N₁
/-- for a, b in enumerate(t): t a tuple that stands in the base -/
theorem for_enumT {pos : Pos} {iter : Expr} {elts : List Expr} {kx : Nat} {pt : Pos} {ax : Addr} {items : Array Value} (hh : A.handled = none) (hax : h₀.IsTuple ax items) (F : Fr h₀ env.locals s.heap m) (N : News h₀ env.locals s.heap news)
    (hs : ∀ x, foldedSetIterable iter env x = pure x)
    (hiter : ∀ Q' : Value → Shared → Prop, wpAny (model prog w) A (call (.type "enumerate") [.ref ax]) Q' (fun _ _ => False) s → wpAny (model prog w) A (eval iter env) Q' (fun _ _ => False) s)
    (J : Nat → (Str → Option Value) → List (Addr × Obj) → Prop) (h0 : J 0 m news)
    (step : ∀ (e it : Addr), @Ne Nat e it → ∀ i T t v m₁ news₁ h tk oe oi, i < items.size → items[i]? = some v → h.IsTuple T #[.int (i : Int) t, v] → J i m₁ news₁ → (∀ p ∈ news₁, @Ne Nat p.1 e ∧ @Ne Nat p.1 it) → Fr h₀ env.locals h m₁ → News h₀ env.locals h ((e, oe) :: (it, oi) :: news₁) →
      wpAny (model prog w) A (assign (.Tuple elts kx pt) env (.ref T)) (fun _ s₂ => wpAny (model prog w) A (execs body env) (TurnEnd h₀ env.locals [(e, oe), (it, oi)] [e, it] [] (J (i + 1)) Q { s with heap := h, toks := tk }) (fun _ _ => False) s₂) (fun _ _ => False) { s with heap := h, toks := tk })
    (done : ∀ m₁ news₁ h tk, J items.size m₁ news₁ → Fr h₀ env.locals h m₁ → News h₀ env.locals h news₁ → wpAny (model prog w) A (execs orelse env) Q (fun _ _ => False) { s with heap := h, toks := tk }) :
    wpAny (model prog w) A (exec (.For (.Tuple elts kx pt) iter body orelse pos) env) Q (fun _ _ => False) s := by
  have hl : s.heap.IsTuple ax items := hax.at fun o e => F.keep ax o e
  obtain ⟨ol, hol, _⟩ := id hax
  have hlt : ax < s.heap.objs.size := Heap.lt_size (F.keep _ _ hol)
  have hLs : env.locals < s.heap.objs.size := F.ns.lt
  refine wpAny_For (hiter _ (call_enumT hl fun h' hE hI hsz hk => wpAny_pyIter_enum hE ?_)) hs
  refine for_gen (keep := []) (KTurns.ofWalksU (walks_enumT hh (s.heap.objs.size + 1) s.heap.objs.size ax (Nat.succ_ne_self _) (ktu_ne 1 hlt) (Nat.ne_of_lt hlt) items).toU) ?_ (fun b hb => ?_) (fun i h st => ?_) (fun b hb => ?_)
    ⟨⟨.none, hE⟩, hI, hl.at fun o e => hk ax o e⟩ (F.keeps hk) (N.grown hk) (fun p hp hI => ?_) (fun p hp => nomatch hp) J h0 ?_ ?_
  · intro h
    have h' : env.locals = s.heap.objs.size + 1 ∨ env.locals = s.heap.objs.size := by simpa using h
    rcases h' with e | e
    · exact ktu_ne 1 hLs e
    · exact Nat.ne_of_lt hLs e
  · have hb' : b = s.heap.objs.size + 1 ∨ b = s.heap.objs.size := by simpa using hb
    rcases hb' with rfl | rfl
    · exact ktu_new F (Nat.le_add_right _ _)
    · exact ktu_new F (Nat.le_refl _)
  · obtain ⟨⟨old, he⟩, ⟨oi, hoi, _⟩, _⟩ := st
    exact ⟨[(_, _), (_, oi)], rfl, fun p hp => by
      rcases List.mem_cons.mp hp with rfl | hp
      · exact he
      · rw [List.mem_singleton.mp hp]; exact hoi⟩
  · have hb' : b = s.heap.objs.size + 1 ∨ b = s.heap.objs.size ∨ b = ax := by simpa using hb
    rcases hb' with rfl | rfl | rfl
    · exact .inl (by simp)
    · exact .inl (by simp)
    · exact .inr (.inl ⟨ol, hol⟩)
  · have hb' : p.1 = s.heap.objs.size + 1 ∨ p.1 = s.heap.objs.size := by simpa using hI
    have hlp : p.1 < s.heap.objs.size := Heap.lt_size (N p hp).1
    rcases hb' with e | e
    · exact ktu_ne 1 hlp e
    · exact Nat.ne_of_lt hlp e
  · rintro i v m₁ news₁ h tk own hi ⟨T, vals, rfl, ⟨t, x, hx, rfl⟩, hT⟩ hJ hown hnw _ F₁ N₁
    obtain ⟨oe, oi, rfl⟩ := own_two hown
    refine step _ _ (Nat.succ_ne_self _) i T t x m₁ news₁ h tk oe oi hi hx hT hJ (fun p hp => ⟨fun e => hnw p hp ?_, fun e => hnw p hp ?_⟩) F₁ N₁
    · rw [show p.1 = s.heap.objs.size + 1 from e]; exact List.mem_cons_self ..
    · rw [show p.1 = s.heap.objs.size from e]; exact List.mem_cons_of_mem _ (List.mem_cons_self ..)
  · intro m₁ news₁ h tk hJ _ F₁ N₁
    exact done m₁ news₁ h tk hJ F₁ N₁
end
end Mine
end
section
namespace Mine
theorem off_B3 : ∃ x : Nat, x = 0 := by
  w_top off
  first | (walk1; fail) | exact ⟨0, rfl⟩
end Mine
open PySem PySem.W PyProof.Rows PySem.Calls
namespace Mine
theorem fr_kept {h₀ h h' : Heap} {L : Addr} {m : Str → Option Value} {pre : List (Addr × Obj)} (F : Fr h₀ L h m) (N : News h₀ L h pre) (k : Kept pre h h') : Fr h₀ L h' m :=
  ⟨F.ns.at' fun o e => k _ o (fun p hp => (N p hp).2.1) e, fun b o e => k b o (fun p hp he => by have := (N p hp).2.2; rw [he, e] at this; cases this) (F.keep b o e), F.above⟩
section
variable {w : World} {k f : Nat} {vs : List Value} {R : Heap → Prop} {p : Program} {loose : List Str} {mean : ExcName → Option Value} {mg mb : Str → Option Value} {dp un : Nat} {gd : Option (List Code)} {cn : Str} {cs : Scope} {a : Addr} {ccd : Value} {cl : List (Str × Addr)} {outer : List Env} {A₀ : Around} {base h₀ : Heap} {L : Addr}
    {m : Str → Option Value} {s : Shared} {Q E : Value → Shared → Prop} {news : List (Addr × Obj)}
/-- a call that makes nothing -/
theorem con_pure {P : Value → Prop} (C : Con w k f vs R [] (fun r made => made = [] ∧ P r)) (B : Below A₀ base outer h₀) (F : Fr h₀ L s.heap m) (X : (Mine.hd.heap_39 w.params).In h₀) (N : News h₀ L s.heap news) (T : Top p loose mean mg mb h₀) (hk : cs.kind = .function) (hR : R s.heap) (hd : dp + k < recursionLimit) (hu : un + 8 * k < cLine)
    (ret : ∀ r h' tk', P r → Fr h₀ L h' m → News h₀ L h' news → Q r { s with heap := h', toks := tk' }) :
    wpAny (model PySem.Challenge.rw_oh0012_01.row.prog w) (ktrTop dp un gd cn cs L a ccd cl outer) (call (.ref f) vs) Q E s :=
  C p loose mean mg mb dp un gd cn cs a ccd cl outer A₀ base h₀ L m s Q E B F X (fun _ hp => nomatch hp) T hk hR hd hu fun r made h' tk' hp kp _ _ =>
    ret r h' tk' hp.2 (fr_kept F News.nil kp) fun q hq => ⟨kp _ _ (fun _ hp => nomatch hp) (N q hq).1, (N q hq).2⟩
/-- a call that makes things and changes none -/
theorem con_made {post : Value → List (Addr × Obj) → Prop} (C : Con w k f vs R [] post) (B : Below A₀ base outer h₀) (F : Fr h₀ L s.heap m) (X : (Mine.hd.heap_39 w.params).In h₀) (N : News h₀ L s.heap news) (T : Top p loose mean mg mb h₀) (hk : cs.kind = .function) (hR : R s.heap) (hd : dp + k < recursionLimit) (hu : un + 8 * k < cLine)
    (ret : ∀ r made h' tk', post r made → Fr h₀ L h' m → News h₀ L h' (made ++ news) → (∀ q ∈ made, ∀ p ∈ news, @Ne Nat p.1 q.1) → Q r { s with heap := h', toks := tk' }) :
    wpAny (model PySem.Challenge.rw_oh0012_01.row.prog w) (ktrTop dp un gd cn cs L a ccd cl outer) (call (.ref f) vs) Q E s :=
  C p loose mean mg mb dp un gd cn cs a ccd cl outer A₀ base h₀ L m s Q E B F X (fun _ hp => nomatch hp) T hk hR hd hu fun r made h' tk' hp kp nm fr =>
    ret r made h' tk' hp (fr_kept F News.nil kp) (fun q hq => by
      rcases List.mem_append.mp hq with hq | hq
      · exact nm q hq
      · exact ⟨kp _ _ (fun _ hp => nomatch hp) (N q hq).1, (N q hq).2⟩) fun q hq p hp e => by
        rcases fr q hq with x | x
        · cases x
        · have := (N p hp).1
          rw [show p.1 = q.1 from e, x] at this
          cases this
end
/-- the end of a body -/
theorem body_ret {g h' : Heap} {L : Addr} {post : Value → List (Addr × Obj) → Prop} {s₁ : Shared} {tk' : Nat} {m' : Str → Option Value} {made : List (Addr × Obj)} {v : Value} (F : Fr g L h' m') (N : News g L h' made) (hp : post v made) :
    BodyEnd g L post s₁ (.ret v) { s₁ with heap := h', toks := tk' } := ⟨made, m', h', tk', rfl, F, N, hp⟩
theorem news_sub {h₀ h : Heap} {L : Addr} {news news' : List (Addr × Obj)} (N : News h₀ L h news') (hs : ∀ p ∈ news, p ∈ news') : News h₀ L h news := fun p hp => N p (hs p hp)
set_option maxHeartbeats 8000000 in
theorem c_ifmt (w : World) (m : Int) (t : Tok) : Con w 1 21 [Value.int m t] (fun _ => True) [] (fun r made => made = [] ∧ ∃ t, r = .int (Builtin.bitAnd m 61440) t) := by
  refine' Con.intro (binds := [(Str.ofString "mode", .int m t)]) ?ho ?hcd ?hbind ?hloc ?hcell ?hco ?hgen ?hk ?hR ?_
  (case ho => k_dflt k_is)
  (case hcd => k_dflt k_is)
  (case hbind => intro s; exact BindsTo.of_eq rfl)
  (case hloc => exact locs rfl)
  (case hcell => decide)
  (case hco => exact rfl)
  (case hgen => exact rfl)
  (case hk => exact rfl)
  case hR => exact fun _ _ _ h => h
  intro p loose mean mg mb dp un gd outer A base g L s₁ B F X N T hR hlt hd hu
  k_steps
  exact body_ret (by k_asm) (by k_asm) ⟨rfl, _, rfl⟩
end Mine
end
section
namespace Mine
theorem off_D3 : ∃ x : Nat, x = 0 := by
  w_top off
  first | (walk1; fail) | exact ⟨0, rfl⟩
end Mine
open PySem PySem.W PyProof.Rows PySem.Calls
namespace Mine
theorem off_one {a I : Addr} {o : Obj} (h : @Ne Nat a I) : ∀ p ∈ [(a, o)], p.1 ∉ [I] := by
  intro p hp hm
  rw [List.mem_singleton.mp hp] at hm
  exact h (List.mem_singleton.mp hm)
theorem off_ones {a b I : Addr} {o1 o2 : Obj} (h1 : @Ne Nat a I) (h2 : @Ne Nat b I) : ∀ p ∈ [(a, o1), (b, o2)], p.1 ∉ [I] := by
  intro p hp hm
  have hm := List.mem_singleton.mp hm
  rcases List.mem_cons.mp hp with rfl | hp
  · exact h1 hm
  · rw [List.mem_singleton.mp hp] at hm; exact h2 hm
section
variable {prog : Program} {w : World} {A : Around} {s : Shared} {env : Env} {h₀ : Heap} {body orelse : List Stmt} {Q : Flow → Shared → Prop} {m : Str → Option Value} {news keep : List (Addr × Obj)}
/-- for x in range(..): -/
theorem for_range {x : Str} {px : Pos} {iter : Expr} {pos : Pos} {a b c : Int} {n : Nat} (hh : A.handled = none) (_F : Fr h₀ env.locals s.heap m) (_N : News h₀ env.locals s.heap news) (hs : ∀ x, foldedSetIterable iter env x = pure x)
    (hsmall : Builtin.Range.small a b c = true) (hn : Builtin.Range.rangeSize a b c = (n : Int))
    (hiter : ∀ Q' : Value → Shared → Prop, (∀ r h' tk t u v, IsRange h' r a b c t u v → Fr h₀ env.locals h' m → News h₀ env.locals h' news → Q' (.ref r) { s with heap := h', toks := tk }) → wpAny (model prog w) A (eval iter env) Q' (fun _ _ => False) s)
    (J : Nat → (Str → Option Value) → List (Addr × Obj) → Prop) (h0 : J 0 m news)
    (step : ∀ i t m₁ news₁ h tk I oI, i < n → J i m₁ news₁ → (∀ p ∈ news₁, @Ne Nat p.1 I) → Fr h₀ env.locals h m₁ → News h₀ env.locals h ((I, oI) :: news₁) →
      wpAny (model prog w) A (assign (.Name x px) env (.int (a + (i : Int) * c) t)) (fun _ s₂ => wpAny (model prog w) A (execs body env) (TurnEnd h₀ env.locals [(I, oI)] [I] [] (J (i + 1)) Q { s with heap := h, toks := tk }) (fun _ _ => False) s₂) (fun _ _ => False) { s with heap := h, toks := tk })
    (done : ∀ m₁ news₁ h tk, J n m₁ news₁ → Fr h₀ env.locals h m₁ → News h₀ env.locals h news₁ → wpAny (model prog w) A (execs orelse env) Q (fun _ _ => False) { s with heap := h, toks := tk }) :
    wpAny (model prog w) A (exec (.For (.Name x px) iter body orelse pos) env) Q (fun _ _ => False) s := by
  refine wpAny_For (hiter _ fun r h' tk t u v hr F N => wpAny_pyIter_range hr hsmall ?_) hs
  refine for_gen (s := { s with heap := h'.push _, toks := tk }) (keep := []) (KTurns.ofWalks (Walks.range hh h'.objs.size a c n) fun i v s Q E st q => wpAny_pure q) ?_ (fun b hb => ?_) (fun i h st => ?_) (fun b hb => .inl hb)
    (by show IsRangeIter _ _ _ _ _; rw [hn]; simpa using Heap.get?_push_size h' (o := { cls := .type "range_iterator", data := .fields #[rawInt a, rawInt (n : Int), rawInt c] }) rfl)
    (F.push _) (fun p hp => ⟨Heap.get?_push_of_some _ (N p hp).1, (N p hp).2⟩) (fun p hp hI => ?_) (fun p hp => nomatch hp) J h0 ?_ ?_
  · intro h
    exact absurd F.ns.lt ((List.mem_singleton.mp h) ▸ Nat.lt_irrefl _)
  · rw [List.mem_singleton.mp hb]; exact ktu_new F (Nat.le_refl _)
  · exact ⟨[(h'.objs.size, _)], rfl, fun p hp => by rw [List.mem_singleton.mp hp]; exact st⟩
  · exact absurd (Heap.lt_size (N p hp).1) ((List.mem_singleton.mp hI) ▸ Nat.lt_irrefl _)
  · rintro i v m₁ news₁ h tk' own hi ⟨t, rfl⟩ hJ hown hnw _ F₁ N₁
    obtain ⟨oI, rfl⟩ := own_one hown
    exact step i t m₁ news₁ h tk' _ oI hi hJ (fun p hp e => hnw p hp (by rw [show p.1 = h'.objs.size from e]; exact List.mem_singleton.mpr rfl)) F₁ N₁
  · intro m₁ news₁ h tk' hJ _ F₁ N₁
    exact done m₁ news₁ h tk' hJ F₁ N₁
/-- for x in a list that stands in the base, or in the ledger and is kept -/
theorem for_list {x : Str} {px : Pos} {iter : Expr} {pos : Pos} {ax : Addr} {items : Array Value} (hh : A.handled = none) (hs : ∀ x, foldedSetIterable iter env x = pure x)
    (hl : s.heap.IsList ax items) (hw : (∃ o, h₀.get? ax = some o) ∨ ∃ o, (ax, o) ∈ keep) (F : Fr h₀ env.locals s.heap m) (N : News h₀ env.locals s.heap news) (hkp : ∀ p ∈ keep, p ∈ news)
    (hiter : ∀ Q' : Value → Shared → Prop, Q' (.ref ax) s → wpAny (model prog w) A (eval iter env) Q' (fun _ _ => False) s)
    (J : Nat → (Str → Option Value) → List (Addr × Obj) → Prop) (h0 : J 0 m news)
    (step : ∀ i v m₁ news₁ h tk I oI, i < items.size → items[i]? = some v → J i m₁ news₁ → (∀ p ∈ news₁, @Ne Nat p.1 I) → (∀ p ∈ keep, p ∈ news₁) → Fr h₀ env.locals h m₁ → News h₀ env.locals h ((I, oI) :: news₁) →
      wpAny (model prog w) A (assign (.Name x px) env v) (fun _ s₂ => wpAny (model prog w) A (execs body env) (TurnEnd h₀ env.locals [(I, oI)] [I] keep (J (i + 1)) Q { s with heap := h, toks := tk }) (fun _ _ => False) s₂) (fun _ _ => False) { s with heap := h, toks := tk })
    (done : ∀ m₁ news₁ h tk, J items.size m₁ news₁ → (∀ p ∈ keep, p ∈ news₁) → Fr h₀ env.locals h m₁ → News h₀ env.locals h news₁ → wpAny (model prog w) A (execs orelse env) Q (fun _ _ => False) { s with heap := h, toks := tk }) :
    wpAny (model prog w) A (exec (.For (.Name x px) iter body orelse pos) env) Q (fun _ _ => False) s := by
  have hne : ax ≠ s.heap.objs.size := by obtain ⟨o, ho, _⟩ := hl; exact Nat.ne_of_lt (Heap.lt_size ho)
  refine wpAny_For (hiter _ (wpAny_pyIter_list hl ?_)) hs
  refine for_gen (keep := keep) (KTurns.ofWalks (Walks.list hh s.heap.objs.size ax hne items) fun i v s Q E st q => wpAny_pure q) ?_ (fun b hb => ?_) (fun i h st => ?_) (fun b hb => ?_)
    ⟨⟨_, Heap.get?_push_size _ rfl, rfl, rfl⟩, hl.at fun o e => Heap.get?_push_of_some _ e⟩ (F.push _) (fun p hp => ⟨Heap.get?_push_of_some _ (N p hp).1, (N p hp).2⟩) (fun p hp hI => ?_) hkp J h0 ?_ ?_
  · intro h
    exact absurd F.ns.lt ((List.mem_singleton.mp h) ▸ Nat.lt_irrefl _)
  · rw [List.mem_singleton.mp hb]; exact next_is_new F
  · obtain ⟨it, hit, _⟩ := st.1
    exact ⟨[(s.heap.objs.size, it)], rfl, fun p hp => by rw [List.mem_singleton.mp hp]; exact hit⟩
  · rcases List.mem_cons.mp hb with e | hb
    · exact .inl (by simp [e])
    · rw [List.mem_singleton.mp hb]; exact .inr hw
  · exact absurd (Heap.lt_size (N p hp).1) ((List.mem_singleton.mp hI) ▸ Nat.lt_irrefl _)
  · intro i v m₁ news₁ h tk own hi hP hJ hown hnw hk F₁ N₁
    obtain ⟨oI, rfl⟩ := own_one hown
    exact step i v m₁ news₁ h tk _ oI hi hP hJ (fun p hp e => hnw p hp (by rw [show p.1 = s.heap.objs.size from e]; exact List.mem_singleton.mpr rfl)) hk F₁ N₁
  · intro m₁ news₁ h tk hJ hk F₁ N₁
    exact done m₁ news₁ h tk hJ hk F₁ N₁
end
end Mine
end
section
namespace Mine
theorem off_F1 : ∃ x : Nat, x = 0 := by
  w_top off
  first | (walk1; fail) | exact ⟨0, rfl⟩
end Mine
open PySem PySem.W PyProof.Rows PySem.Calls
namespace Mine
/-- names whose values are told -/
def tellM (l : List (Str × Value)) (m : Str → Option Value) (y : Str) : Option Value := match l.lookup y with | some v => some v | none => m y
theorem tellM_eq {l : List (Str × Value)} {m : Str → Option Value} (h : ∀ p ∈ l, m p.1 = some p.2) : tellM l m = m := by
  funext y
  unfold tellM
  split
  · rename_i v hv
    have : (y, v) ∈ l := by
      clear h
      induction l with
      | nil => cases hv
      | cons q r ih =>
        obtain ⟨a, b⟩ := q
        rw [List.lookup_cons] at hv
        split at hv
        · rename_i he
          cases hv
          rw [eq_of_beq he]; exact .head _
        · exact .tail _ (ih hv)
    exact (h _ this).symm
  · rfl
theorem fr_tell {h₀ h : Heap} {L : Addr} {m : Str → Option Value} (F : Fr h₀ L h m) {l : List (Str × Value)} (hl : ∀ p ∈ l, m p.1 = some p.2) : Fr h₀ L h (tellM l m) := (tellM_eq hl).symm ▸ F
theorem strs_push {vs : Array Value} {ss : List Str} {c : Str} {u : Tok} (h : StrsAre vs.toList ss) : StrsAre (vs.push (.str c u)).toList (ss ++ [c]) := by
  rw [Array.toList_push]
  exact StrsAre.append' h (.cons c u .nil)
theorem sum_ones : ∀ {l : List Str}, (∀ x ∈ l, x.length = 1) → (l.map (·.length)).sum = l.length
  | [], _ => rfl
  | a :: r, h => by
    rw [List.map_cons, List.sum_cons, h a (.head _), sum_ones (l := r) fun x hx => h x (.tail _ hx), List.length_cons, Nat.add_comm]
inductive PairsAre (h : Heap) : List Value → List (Int × Str) → Prop where
  | nil : PairsAre h [] []
  | cons {p : Addr} {b : Int} {c : Str} {t u : Tok} {vs : List Value} {r : List (Int × Str)} : h.IsTuple p #[.int b t, .str c u] → PairsAre h vs r → PairsAre h (.ref p :: vs) ((b, c) :: r)
theorem PairsAre.at {h : Heap} : ∀ {vs : List Value} {r : List (Int × Str)}, PairsAre h vs r → ∀ {i : Nat} {v : Value}, vs[i]? = some v → ∃ p b c t u, v = .ref p ∧ h.IsTuple p #[.int b t, .str c u] ∧ r[i]? = some (b, c)
  | _, _, .nil, _, _, e => by cases e
  | _, _, .cons ht hr, 0, v, e => by cases e; exact ⟨_, _, _, _, _, rfl, ht, rfl⟩
  | _, _, .cons ht hr, i + 1, v, e => by
    have := hr.at (i := i) (v := v) (by simpa using e)
    simpa using this
theorem PairsAre.length {h : Heap} {vs : List Value} {r : List (Int × Str)} (x : PairsAre h vs r) : vs.length = r.length := by
  induction x with
  | nil => rfl
  | cons _ _ ih => simp [ih]
inductive RowsAre (h : Heap) : List Value → List (List (Int × Str)) → Prop where
  | nil : RowsAre h [] []
  | cons {p : Addr} {its vs : List Value} {row : List (Int × Str)} {r : List (List (Int × Str))} : h.IsTuple p its.toArray → PairsAre h its row → RowsAre h vs r → RowsAre h (.ref p :: vs) (row :: r)
theorem RowsAre.at {h : Heap} : ∀ {vs : List Value} {r : List (List (Int × Str))}, RowsAre h vs r → ∀ {i : Nat} {v : Value}, vs[i]? = some v → ∃ p its row, v = .ref p ∧ h.IsTuple p its.toArray ∧ PairsAre h its row ∧ r[i]? = some row
  | _, _, .nil, _, _, e => by cases e
  | _, _, .cons ht hp hr, 0, v, e => by cases e; exact ⟨_, _, _, rfl, ht, hp, rfl⟩
  | _, _, .cons ht hp hr, i + 1, v, e => by
    have := hr.at (i := i) (v := v) (by simpa using e)
    simpa using this
theorem RowsAre.length {h : Heap} {vs : List Value} {r : List (List (Int × Str))} (x : RowsAre h vs r) : vs.length = r.length := by
  induction x with
  | nil => rfl
  | cons _ _ _ ih => simp [ih]
def fmTab : List (List (Int × Str)) :=
  [[(40960, Str.ofString "l"), (49152, Str.ofString "s"), (32768, Str.ofString "-"), (24576, Str.ofString "b"), (16384, Str.ofString "d"), (8192, Str.ofString "c"), (4096, Str.ofString "p")],
   [(256, Str.ofString "r")], [(128, Str.ofString "w")], [(2112, Str.ofString "s"), (2048, Str.ofString "S"), (64, Str.ofString "x")],
   [(32, Str.ofString "r")], [(16, Str.ofString "w")], [(1032, Str.ofString "s"), (1024, Str.ofString "S"), (8, Str.ofString "x")],
   [(4, Str.ofString "r")], [(2, Str.ofString "w")], [(513, Str.ofString "t"), (512, Str.ofString "T"), (1, Str.ofString "x")]]
theorem rows_in (w : World) {g : Heap} (X : (Mine.hd.heap_39 w.params).In g) : ∃ items : List Value, g.IsTuple 54 items.toArray ∧ RowsAre g items fmTab := by
  have h1 := X 54 _ (by k_dflt k_is)
  refine ⟨_, ⟨_, h1, rfl, _, rfl⟩, ?_⟩
  unfold fmTab
  repeat' (first | exact RowsAre.nil | exact PairsAre.nil | (refine RowsAre.cons ⟨_, X _ _ (by k_dflt k_is), rfl, _, rfl⟩ ?_ ?_) | (refine PairsAre.cons ⟨_, X _ _ (by k_dflt k_is), rfl, _, rfl⟩ ?_))
end Mine
end
section
namespace Mine
theorem off_U1 : ∃ x : Nat, x = 0 := by
  w_top off
  first | (walk1; fail) | exact ⟨0, rfl⟩
end Mine
open PySem PySem.W PyProof.Rows PySem.Calls
namespace Mine
theorem strs_split : ∀ {l1 l2 : List Str} {x : Str} {vs : List Value}, StrsAre vs (l1 ++ x :: l2) → ∃ v1 t v2, vs = v1 ++ .str x t :: v2 ∧ StrsAre v1 l1 ∧ StrsAre v2 l2
  | [], l2, x, vs, h => by
    obtain ⟨t, vs', rfl, h'⟩ := h.cons_inv
    exact ⟨[], t, vs', rfl, .nil, h'⟩
  | y :: l1, l2, x, vs, h => by
    obtain ⟨t, vs', rfl, h'⟩ := StrsAre.cons_inv (show StrsAre vs (y :: (l1 ++ x :: l2)) from h)
    obtain ⟨v1, u, v2, rfl, h1, h2⟩ := strs_split h'
    exact ⟨.str y t :: v1, u, v2, rfl, .cons y t h1, h2⟩
def isText (x : Str) : Value → Bool
  | .str y _ => y == x
  | _ => false
theorem strs_mem {vs : List Value} {ys : List Str} (h : StrsAre vs ys) : ∀ v ∈ vs, ∃ y t, v = .str y t ∧ y ∈ ys := by
  induction h with
  | nil => intro v hv; cases hv
  | cons y t _ ih =>
    intro v hv
    rcases List.mem_cons.mp hv with rfl | hv
    · exact ⟨y, t, rfl, .head _⟩
    · obtain ⟨z, u, e, hz⟩ := ih v hv
      exact ⟨z, u, e, .tail _ hz⟩
theorem strs_gives {vs : List Value} {ys : List Str} {x : Str} {t : Tok} (h : StrsAre vs ys) : ∀ v ∈ vs.toArray, MeetsSeq.EqGives v (.str x t) (isText x v) := by
  intro v hv
  obtain ⟨y, u, rfl, _⟩ := strs_mem h v (by simpa using hv)
  exact eqGives_str y x u t
section
variable {prog : Program} {w : World} {A : Around} {E : Value → Shared → Prop} {s : Shared} {h₀ : Heap} {L D : Addr} {m : Str → Option Value} {news news' : List (Addr × Obj)} {n : Nat}
/-- xs.remove(x), x a text of xs -/
theorem remove_hit {vs : List Value} {ys : List Str} {x : Str} {t : Tok} {Q : Value → Shared → Prop} (F : Fr h₀ L s.heap m) (N : News h₀ L s.heap news) (hv : StrsAre vs ys) (hx : x ∈ ys) (hz : vs.length ≤ sizeLine)
    {G : List Value → List (Addr × Obj)} (U : ∀ ws : List Value, Upd D (listOf vs.toArray n) (listOf ws.toArray (n + 1)) news (G ws))
    (h : ∀ h' ws, StrsAre ws (ys.erase x) → Fr h₀ L h' m → News h₀ L h' (G ws) → Q .none { s with heap := h' }) :
    wpAny (model prog w) A (call (.builtin "list.remove") [.ref D, .str x t]) Q E s := by
  obtain ⟨l1, l2, rfl, hno⟩ := List.eq_append_cons_of_mem hx
  obtain ⟨v1, u, v2, rfl, h1, h2⟩ := strs_split hv
  obtain ⟨pre, post, e1, e2, a', b'⟩ := (U (v1 ++ v2)).split
  rw [e1] at N
  have z := N (D, listOf (v1 ++ .str x u :: v2).toArray n) (List.mem_append.mpr (.inr (.head _)))
  have her : (l1 ++ x :: l2).erase x = l1 ++ l2 := by
    rw [List.erase_append_right _ hno, List.erase_cons_head]
  refine call_meets PySem.F.slot_list_remove ⟨_, z.1, rfl⟩ PySem.F.entry_list_remove (PySem.F.args_list_remove_2 _ _)
    (MeetsSeq.list_remove D (v1 ++ .str x u :: v2).toArray n (.str x t) (isText x) (strs_gives hv) v1.length (by simp) (by simp [isText]) (fun i hi hlt => ?_) (by simpa using hz))
    ⟨z.1, h _ (v1 ++ v2) (by rw [her]; exact StrsAre.append' h1 h2) (F.change (Heap.SameBut.update ..) z.2.1 z.2.2) (by rw [e2]; exact kl_turn _ N a' b' (kl_erase v1 v2 _) (by simp))⟩
  have hm : (v1 ++ Value.str x u :: v2).toArray[i] ∈ v1 := by
    simp only [List.getElem_toArray]
    rw [List.getElem_append_left hlt]
    exact List.getElem_mem _
  obtain ⟨y, t', e, hy⟩ := strs_mem h1 _ hm
  rw [e]
  show (y == x) = false
  exact beq_eq_false_iff_ne.mpr fun e => hno (e ▸ hy)
/-- xs.remove(x), x no text of xs -/
theorem remove_miss {vs : List Value} {ys : List Str} {x : Str} {t : Tok} {Q : Value → Shared → Prop} (hA : A.handled = none) (N : News h₀ L s.heap news) (hm : (D, listOf vs.toArray n) ∈ news) (hv : StrsAre vs ys) (hx : x ∉ ys)
    (h : ∀ h' tk e, Heap.NewExc s.heap h' e "ValueError" → E (.ref e) { s with heap := h', toks := tk }) :
    wpAny (model prog w) A (call (.builtin "list.remove") [.ref D, .str x t]) Q E s := by
  have z := N _ hm
  refine call_meets PySem.F.slot_list_remove ⟨_, z.1, rfl⟩ PySem.F.entry_list_remove (PySem.F.args_list_remove_2 _ _)
    (MeetsSeq.list_remove_none D vs.toArray n (.str x t) (isText x) (strs_gives hv) (fun i hi => ?_)) ⟨z.1, hA, h⟩
  have hm : vs.toArray[i] ∈ vs := by
    simp only [List.getElem_toArray]
    exact List.getElem_mem _
  obtain ⟨y, t', e, hy⟩ := strs_mem hv _ hm
  rw [e]
  show (y == x) = false
  exact beq_eq_false_iff_ne.mpr fun e => hx (e ▸ hy)
end
end Mine
end
section
namespace Mine
theorem off_F2 : ∃ x : Nat, x = 0 := by
  w_top off
  first | (walk1; fail) | exact ⟨0, rfl⟩
end Mine
open PySem PySem.W PyProof.Rows PySem.Calls
namespace Mine
local macro_rules | `(tactic| walk_at "call ref") => `(tactic| (k_here; (with_reducible show wpAny _ _ (call (Value.ref 21) _) _ _ _); (refine' con_pure (c_ifmt _ _ _) ?B ?F ?X ?N ?T ?hk trivial ?hd ?hu ?_; (case B => k_asm); (case F => k_asm); (case X => k_asm); (case N => k_asm); (case T => k_asm); (case hk => exact rfl); (case hd => omega); (case hu => omega)); (intro r' h' tk' hr' F' N'); (obtain ⟨t9, e9⟩ := hr'); (subst e9)))
def hit (i md b : Int) : Bool := if i = 0 then Builtin.bitAnd md 61440 == b else Builtin.bitAnd md b == b
def sgn (i : Int) (md : Int) (row : List (Int × Str)) : Str := match row.find? (fun p => hit i md p.1) with | some p => p.2 | none => if i = 0 then Str.ofString "?" else Str.ofString "-"
def sgns (md : Int) (k : Nat) : List Str := (fmTab.take k).mapIdx (fun i row => sgn (i : Int) md row)
def fm (md : Int) : Str := Txt.join (Str.ofString "") (sgns md 10)
theorem off_two {pa e it : Addr} {o : Obj} (h1 : @Ne Nat pa e) (h2 : @Ne Nat pa it) : ∀ p ∈ [(pa, o)], p.1 ∉ [e, it] := by
  intro p hp hm
  rw [List.mem_singleton.mp hp] at hm
  rcases List.mem_cons.mp hm with x | hm
  · exact h1 x
  · exact h2 (List.mem_singleton.mp hm)
theorem off_three {e it pa I : Addr} {o1 o2 o3 : Obj} (h1 : @Ne Nat e I) (h2 : @Ne Nat it I) (h3 : @Ne Nat pa I) : ∀ p ∈ [(e, o1), (it, o2), (pa, o3)], p.1 ∉ [I] := by
  intro p hp hm
  have hm := List.mem_singleton.mp hm
  rcases List.mem_cons.mp hp with rfl | hp
  · exact h1 hm
  · rcases List.mem_cons.mp hp with rfl | hp
    · exact h2 hm
    · rw [List.mem_singleton.mp hp] at hm; exact h3 hm
theorem hit_t0 {i md b : Int} (h : i = 0) (e : Builtin.bitAnd md 61440 = b) : hit i md b = true := by unfold hit; rw [if_pos h]; exact beq_iff_eq.mpr e
theorem hit_tn {i md b : Int} (h : i ≠ 0) (e : Builtin.bitAnd md b = b) : hit i md b = true := by unfold hit; rw [if_neg h]; exact beq_iff_eq.mpr e
theorem hit_f0 {i md b : Int} (h : i = 0) (e : Builtin.bitAnd md 61440 ≠ b) : hit i md b = false := by unfold hit; rw [if_pos h]; exact beq_eq_false_iff_ne.mpr e
theorem hit_fn {i md b : Int} (h : i ≠ 0) (e : Builtin.bitAnd md b ≠ b) : hit i md b = false := by unfold hit; rw [if_neg h]; exact beq_eq_false_iff_ne.mpr e
theorem none_more {i md b : Int} {c : Str} {row : List (Int × Str)} {j : Nat} (hn : ∀ k < j, ∀ b c, row[k]? = some (b, c) → hit i md b = false) (hj : row[j]? = some (b, c)) (hb : hit i md b = false) : ∀ k < j + 1, ∀ b c, row[k]? = some (b, c) → hit i md b = false := by
  intro k hk b' c' e
  rcases Nat.lt_succ_iff_lt_or_eq.mp hk with h | rfl
  · exact hn k h b' c' e
  · rw [hj] at e; cases e; exact hb
theorem sgn_hit {i md : Int} {b : Int} {c : Str} : ∀ {row : List (Int × Str)} {j : Nat}, row[j]? = some (b, c) → (∀ k < j, ∀ b c, row[k]? = some (b, c) → hit i md b = false) → hit i md b = true → sgn i md row = c
  | [], _, h, _, _ => by cases h
  | q :: r, 0, h, _, hb => by
    cases h
    unfold sgn
    rw [List.find?_cons_of_pos (by exact hb)]
  | q :: r, j + 1, h, hn, hb => by
    obtain ⟨b', c'⟩ := q
    have h0 : hit i md b' = false := hn 0 (Nat.succ_pos _) b' c' rfl
    have ih := sgn_hit (i := i) (md := md) (row := r) (j := j) (by simpa using h) (fun k hk b c e => hn (k + 1) (by omega) b c (by simpa using e)) hb
    unfold sgn at ih ⊢
    rw [List.find?_cons_of_neg (by simp [h0])]
    exact ih
theorem sgn_none {i md : Int} : ∀ {row : List (Int × Str)}, (∀ k < row.length, ∀ b c, row[k]? = some (b, c) → hit i md b = false) → sgn i md row = if i = 0 then Str.ofString "?" else Str.ofString "-"
  | [], _ => rfl
  | q :: r, hn => by
    obtain ⟨b', c'⟩ := q
    have h0 : hit i md b' = false := hn 0 (Nat.succ_pos _) b' c' rfl
    have ih := sgn_none (i := i) (md := md) (row := r) (fun k hk b c e => hn (k + 1) (by simp; omega) b c (by simpa using e))
    unfold sgn at ih ⊢
    rw [List.find?_cons_of_neg (by simp [h0])]
    exact ih
theorem sgns_succ {md : Int} {i : Nat} {row : List (Int × Str)} (h : fmTab[i]? = some row) : sgns md (i + 1) = sgns md i ++ [sgn (i : Int) md row] := by
  have hi : i < fmTab.length := (List.getElem?_eq_some_iff.mp h).1
  unfold sgns
  rw [List.take_add_one, h, Option.toList_some, List.mapIdx_append]
  simp [List.length_take, Nat.min_eq_left (Nat.le_of_lt hi)]
theorem sgns_len (md : Int) (i : Nat) : (sgns md i).length ≤ 10 := by
  unfold sgns
  rw [List.length_mapIdx, List.length_take]
  exact Nat.min_le_right _ _
theorem fmTab_one : ∀ row ∈ fmTab, ∀ p ∈ row, p.2.length = 1 := by decide
theorem sgn_len {i md : Int} {row : List (Int × Str)} (h : row ∈ fmTab) : (sgn i md row).length = 1 := by
  unfold sgn
  split
  · rename_i p hp
    exact fmTab_one row h p (List.mem_of_find?_eq_some hp)
  · split <;> rfl
theorem sgns_one (md : Int) (k : Nat) : ∀ x ∈ sgns md k, x.length = 1 := by
  intro x hx
  unfold sgns at hx
  obtain ⟨i, hi, rfl⟩ := List.mem_mapIdx.mp hx
  exact sgn_len (List.mem_of_mem_take (List.getElem_mem _))
/-- one more sign on the list -/
theorem fm_more {md : Int} {i : Nat} {row : List (Int × Str)} {vs : Array Value} {c : Str} {u : Tok} (hr : fmTab[i]? = some row) (hv : StrsAre vs.toList (sgns md i)) (hc : sgn (i : Int) md row = c) :
    StrsAre (vs.push (.str c u)).toList (sgns md (i + 1)) ∧ (vs.push (.str c u)).size ≤ 10 := by
  have h1 : StrsAre (vs.push (.str c u)).toList (sgns md (i + 1)) := by
    rw [sgns_succ hr, hc]; exact strs_push hv
  refine ⟨h1, ?_⟩
  have := h1.length
  rw [Array.length_toList] at this
  rw [this]
  exact sgns_len _ _
set_option maxHeartbeats 8000000 in
theorem c_fm (w : World) (md : Int) (t : Tok) : Con w 2 61 [Value.int md t] (fun _ => True) [] (fun r made => made = [] ∧ ∃ t, r = .str (fm md) t) := by
  refine' Con.intro (binds := [(Str.ofString "mode", .int md t)]) ?ho ?hcd ?hbind ?hloc ?hcell ?hco ?hgen ?hk ?hR ?_
  (case ho => k_dflt k_is)
  (case hcd => k_dflt k_is)
  (case hbind => intro s; exact BindsTo.of_eq rfl)
  (case hloc => exact locs rfl)
  (case hcell => decide)
  (case hco => exact rfl)
  (case hgen => exact rfl)
  (case hk => exact rfl)
  case hR => exact fun _ _ _ h => h
  intro p loose mean mg mb dp un gd outer A base g L s₁ B F X N T hR hlt hd hu
  obtain ⟨items, hit, hrows⟩ := rows_in w X
  (repeat ((fail_if_success (with_reducible show wpAny _ _ (exec (Stmt.For _ _ _ _ _) _) _ _ _)); first | (k_unfold; (try dsimp only)) | walk1 | (dsimp only; walk1)))
  rename_i pa _ _ h1 F1 N1
  refine for_enumT (ax := 54) (items := items.toArray) rfl hit F1 N1 ?hs ?hiter
    (fun i m' news' => (∀ q ∈ [(Str.ofString "perm", Value.ref pa), (Str.ofString "mode", Value.int md t)], m' q.1 = some q.2) ∧ ∃ vs n, news' = [(pa, listOf vs n)] ∧ StrsAre vs.toList (sgns md i) ∧ vs.size ≤ 10) ?h0 ?step ?done
  case hs => exact fun _ => rfl
  case hiter =>
    intro Q' h
    repeat (first | exact h | (k_unfold; (try dsimp only)) | walk1 | (dsimp only; walk1))
  case h0 =>
    refine ⟨?_, #[], 0, rfl, .nil, by decide⟩
    intro q hq
    rcases List.mem_cons.mp hq with rfl | hq
    · rfl
    · rw [List.mem_singleton.mp hq]; rfl
  case step =>
    rintro e it hei i T t' v m₁ news₁ h tk oe oi hi hv hT ⟨hm, vs, n, rfl, hvs, hvz⟩ hnw F₁ N₁
    have hpe : @Ne Nat pa e := (hnw _ (.head _)).1
    have hpi : @Ne Nat pa it := (hnw _ (.head _)).2
    replace F₁ := fr_tell F₁ hm
    have hvz' : vs.size ≤ sizeLine := Nat.le_trans hvz (by decide)
    obtain ⟨tb, its, row, rfl, hrow, hpairs, hri⟩ := hrows.at (by simpa using hv)
    refine unpackN_ F₁ N₁ hT rfl rfl rfl ?_
    intro h2 F2 N2
    clear F₁ N₁
    (repeat ((fail_if_success (with_reducible show wpAny _ _ (exec (Stmt.For _ _ _ _ _) _) _ _ _)); first | (k_unfold; (try dsimp only)) | walk1 | (dsimp only; walk1)))
    rename_i h3 F3 N3
    refine for_tup (ax := tb) (items := its.toArray) rfl hrow F3 N3 ?hs2 ?hiter2
      (fun j m' news' => (∀ q ∈ [(Str.ofString "perm", Value.ref pa), (Str.ofString "mode", Value.int md t), (Str.ofString "index", Value.int (i : Int) t')], m' q.1 = some q.2) ∧ news' = [(e, oe), (it, oi), (pa, listOf vs n)] ∧ ∀ k < j, ∀ b c, row[k]? = some (b, c) → Mine.hit i md b = false) ?h02 ?step2 ?done2
    case hs2 => exact fun _ => rfl
    case hiter2 =>
      intro Q' h
      walk1
      exact h
    case h02 =>
      refine ⟨?_, rfl, fun k hk => absurd hk (Nat.not_lt_zero _)⟩
      intro q hq
      rcases List.mem_cons.mp hq with rfl | hq
      · rfl
      · rcases List.mem_cons.mp hq with rfl | hq
        · rfl
        · rw [List.mem_singleton.mp hq]; rfl
    case step2 =>
      rintro j pv m₁ news₁ h4 tk4 I oI hj hjv ⟨hm', rfl, hnone⟩ hI F₁ N₁
      have hIe : @Ne Nat e I := hI _ (.head _)
      have hIi : @Ne Nat it I := hI _ (.tail _ (.head _))
      have hIp : @Ne Nat pa I := hI _ (.tail _ (.tail _ (.head _)))
      replace F₁ := fr_tell F₁ hm'
      obtain ⟨pp, b, c, tt, uu, rfl, hpair, hrj⟩ := hpairs.at (by simpa using hjv)
      refine unpackN_ F₁ N₁ (hpair.at fun o e => F₁.keep _ o e) rfl rfl rfl ?_
      intro h5 F5 N5
      clear F₁ N₁
      k_steps
      all_goals (first
        | (refine wpAny_execs_nil ?_
           obtain ⟨hs1, hs2⟩ := fm_more (u := uu) hri hvs (sgn_hit hrj hnone (by first | exact hit_t0 (by assumption) (by assumption) | exact hit_tn (by assumption) (by assumption)))
           refine turn_next (by k_asm) (news_sub (by k_asm) (fun p hp => .tail _ hp)) (off_two hpe hpi) (fun p hp => nomatch hp) ⟨?_, _, _, rfl, hs1, hs2⟩
           ((intro q hq; (repeat' (first | (rcases List.mem_cons.mp hq with e9 | hq'; (subst e9; exact rfl); (clear hq; revert hq'; intro hq)) | (cases hq))))))
        | (refine turn_next (by k_asm) (by k_asm) (off_three hIe hIi hIp) (fun p hp => nomatch hp) ⟨?_, rfl, none_more hnone hrj (by first | exact hit_f0 (by assumption) (by assumption) | exact hit_fn (by assumption) (by assumption))⟩
           ((intro q hq; (repeat' (first | (rcases List.mem_cons.mp hq with e9 | hq'; (subst e9; exact rfl); (clear hq; revert hq'; intro hq)) | (cases hq)))))))
    case done2 =>
      rintro m₁ news₁ h4 tk4 ⟨hm', rfl, hnone⟩ F₁ N₁
      replace F₁ := fr_tell F₁ hm'
      have hlen : its.toArray.size = row.length := by rw [List.size_toArray]; exact hpairs.length
      rw [hlen] at hnone
      have hsn := sgn_none hnone
      k_steps
      all_goals (
        obtain ⟨hs1, hs2⟩ := fm_more (u := _) hri hvs (hsn.trans (by first | exact if_pos (by assumption) | exact if_neg (by assumption)))
        refine turn_next (by k_asm) (by k_asm) (off_two hpe hpi) (fun p hp => nomatch hp) ⟨?_, _, _, rfl, hs1, hs2⟩
        ((intro q hq; (repeat' (first | (rcases List.mem_cons.mp hq with e9 | hq'; (subst e9; exact rfl); (clear hq; revert hq'; intro hq)) | (cases hq))))))
  case done =>
    rintro m₁ news₁ h4 tk4 ⟨hm', vs, n, rfl, hvs, hvz⟩ F₁ N₁
    replace F₁ := fr_tell F₁ hm'
    k_steps
    refine join_listW (ys := sgns md 10) (x := Str.ofString "") (News.isList (by k_asm) (.head _)) ?_ (by decide) ?_ ?_
    · have hl : items.toArray.size = 10 := by rw [List.size_toArray]; exact hrows.length
      rw [hl] at hvs
      exact hvs
    · rw [sum_ones (sgns_one md 10)]
      have := sgns_len md 10
      omega
    · intro t' k
      k_steps
      exact body_ret (by k_asm) News.nil ⟨rfl, _, rfl⟩
end Mine
end
section
namespace Mine
theorem off_U2 : ∃ x : Nat, x = 0 := by
  w_top off
  first | (walk1; fail) | exact ⟨0, rfl⟩
end Mine
open PySem PySem.W PyProof.Rows PySem.Calls
namespace Mine
def flowVal (fl : Flow) : Value := match fl with | .ret v => v | _ => .none
/-- the end of a body that may have caught an exception: the caller's frame stands up to its slots -/
def BodyEndT (g : Heap) (L' L : Addr) (oL : Obj) (post : Value → List (Addr × Obj) → Prop) (s₁ : Shared) (fl : Flow) (s' : Shared) : Prop :=
  ∃ made m' h' tk' sl, s' = { s₁ with heap := h', toks := tk' } ∧ Fr g L' h' m' ∧ News g L' h' (made ++ [(L, { oL with slots := sl })]) ∧ (∀ p ∈ made, p.1 ≠ L) ∧ post (flowVal fl) made
section
variable {prog : Program} {w : World} {A : Around} {s : Shared} {h₀ : Heap} {L : Addr} {m : Str → Option Value} {env : Env} {pre : List (Addr × Obj)}
  {name qual : Str} {params : Arguments} {body : List Stmt} {scope : Scope} {dV kV doc pm cdv ct : Value} {an : Option Addr} {fo : Obj} {f : Addr} {args : Args} {binds : List (Str × Value)}
  {Q E : Value → Shared → Prop} {post : Value → List (Addr × Obj) → Prop}
theorem call_try (F : Fr h₀ L s.heap m) (N : News h₀ L s.heap pre) (hlim : h₀.NoLimit) (hf : env.frame = some L) (hke : env.scope.kind = .function)
    (ho : s.heap.get? f = some fo) (hd : fo.data = .func (fnX name qual params body scope [] dV kV doc pm an cdv ct)) (hcd : s.heap.CodeRec cdv qual) (hroom : A.depth < recursionLimit)
    (hbind : BindsTo s (fnX name qual params body scope [] dV kV doc pm an cdv ct) args binds) (hloc : ∀ y ∈ binds, scope.names.lookup y.1 = some .local)
    (h : ∀ g L' h₁ tk oL, h₀.StaysIn g → TI.Frs [env] [(L, oL)] → (∀ p ∈ pre, p.1 ≠ L) → Fr g L' h₁ (fun y => binds.reverse.lookup y) → News g L' h₁ (pre ++ [(L, oL)]) →
      wpAny (model prog w) (A.deeper (envX qual scope L' f cdv [])) (execs body (envX qual scope L' f cdv []))
        (BodyEndT g L' L oL post { s with heap := h₁, toks := tk }) (fun _ _ => False) { s with heap := h₁, toks := tk })
    (ret : ∀ r made h' tk', post r made → Fr h₀ L h' m → (∀ b o, b ≠ L → (∀ p ∈ pre, p.1 ≠ b) → s.heap.get? b = some o → h'.get? b = some o) → News h₀ L h' made → (∀ q ∈ made, q.1 ∈ pre.map (·.1) ∨ s.heap.get? q.1 = none) → Q r { s with heap := h', toks := tk' })
    (hcell : ∀ x ∈ scope.names, x.2 ≠ .cell) (hco : scope.isCoroutine = false := by rfl) (hgen : scope.isGenerator = false := by rfl) (hk : scope.kind = .function := by rfl) :
    codeAny (model prog w) A (.call (.ref f) args) (fun r s' => match r with | .ok (.ret v) => Q v s' | .ok _ => False | .error e => E e s') s := by
  obtain ⟨oL, es, ep, hL, hLd, hLk, hLf⟩ := F.ns
  have hLt : L < s.heap.objs.size := Heap.lt_size hL
  have hLn : h₀.get? L = none := Heap.get?_none_of_le F.above
  have out : ∀ b o, h₀.get? b = some o → b ∉ L :: pre.map (·.1) := fun b o e hm => by
    rcases List.mem_cons.mp hm with rfl | hm
    · rw [hLn] at e; cases e
    · obtain ⟨p, hp, rfl⟩ := List.mem_map.mp hm
      rw [(N p hp).2.2] at e; cases e
  have st : h₀.StaysIn (hideAll s.heap (L :: pre.map (·.1))) := fun b o e => hideAll_get _ (F.keep b o e) (out b o e)
  refine codeAny_call_def (fd := fnX name qual params body scope [] dV kV doc pm an cdv ct) (body := body) (binds := binds) hroom ho hd (hlim.keeps F.keep) hcd rfl hbind hcell hloc (fun h₁ hns hk₁ => ?_) hco hgen hk
  refine wpAny_mono (h (hideAll s.heap (L :: pre.map (·.1))) s.heap.objs.size h₁ (s.toks + binds.length) oL st ⟨by rw [hke]; decide, hf, ⟨es, ep, hLd⟩, trivial⟩ (fun p hp => (N p hp).2.1)
    ⟨hns, fun b o e => hk₁ b o (of_hideAll _ e), Nat.le_of_eq (hideAll_size _ _)⟩ (fun p hp => ?_)) (fun fl s' hl => ?_) fun _ _ y => y.elim
  · rcases List.mem_append.mp hp with hp | hp
    · exact ⟨hk₁ _ _ (N p hp).1, Nat.ne_of_lt (Heap.lt_size (N p hp).1), hideAll_none _ (List.mem_cons_of_mem _ (List.mem_map_of_mem hp))⟩
    · rw [List.mem_singleton.mp hp]
      exact ⟨hk₁ _ _ hL, Nat.ne_of_lt hLt, hideAll_none _ (List.mem_cons_self ..)⟩
  · obtain ⟨made, m', h', tk', sl, rfl, F', N', hne, hp⟩ := hl
    have hL' : h'.get? L = some { oL with slots := sl } := (N' _ (List.mem_append_right _ (List.mem_singleton.mpr rfl))).1
    refine ret (flowVal fl) made h' tk' hp ⟨⟨_, es, ep, hL', hLd, hLk, hLf⟩, fun b o e => F'.keep b o (st b o e), F.above⟩ (fun b o hb hp' e => F'.keep b o (hideAll_get _ e fun hm => ?_)) (fun p hp => ⟨(N' p (List.mem_append_left _ hp)).1, hne p hp, ?_⟩) fun q hq => ?_
    · rcases List.mem_cons.mp hm with x | hm
      · exact hb x
      · obtain ⟨q, hq, he⟩ := List.mem_map.mp hm
        exact hp' q hq he
    · cases q : h₀.get? p.1 with
      | none => rfl
      | some o => have := (N' p (List.mem_append_left _ hp)).2.2; rw [st _ _ q] at this; cases this
    · rcases fresh_of_hide (N' q (List.mem_append_left _ hq)).2.2 with hm | hm
      · rcases List.mem_cons.mp hm with x | hm
        · exact absurd x (hne q hq)
        · exact .inl hm
      · exact .inr hm
end
/-- a contract for a def that catches, called in the law's own frame -/
def ConT (w : World) (k f : Nat) (vs : List Value) (pre : List (Addr × Obj)) (post : Value → List (Addr × Obj) → Prop) : Prop :=
  ∀ (mean : ExcName → Option Value) (mg mb : Str → Option Value) (dp un : Nat) (gd : Option (List Code)) (cn : Str) (cs : Scope) (a : Addr) (ccd : Value) (cl : List (Str × Addr)) (h₀ : Heap) (L : Addr)
    (m : Str → Option Value) (s : Shared) (Q E : Value → Shared → Prop),
    Fr h₀ L s.heap m → (Mine.hd.heap_39 w.params).In h₀ → News h₀ L s.heap pre → Top Mine.hd.view_39 (looseW Mine.hd.view_39 [Str.ofString "_filemode_table"]) mean mg mb h₀ → cs.kind = .function → dp + k < recursionLimit → un + 8 * k < cLine →
    (∀ r made h' tk', post r made → Fr h₀ L h' m → (∀ b o, b ≠ L → (∀ p ∈ pre, p.1 ≠ b) → s.heap.get? b = some o → h'.get? b = some o) → News h₀ L h' made → (∀ q ∈ made, q.1 ∈ pre.map (·.1) ∨ s.heap.get? q.1 = none) → Q r { s with heap := h', toks := tk' }) →
    wpAny (model PySem.Challenge.rw_oh0012_01.row.prog w) (ktrTop dp un gd cn cs L a ccd cl []) (call (.ref f) vs) Q E s
section
variable {w : World} {k f : Nat} {vs : List Value} {pre : List (Addr × Obj)} {post : Value → List (Addr × Obj) → Prop} {oc : Value} {od : Option Addr} {osl : Array (Option Value)}
  {name qual : Str} {params : Arguments} {body : List Stmt} {scope : Scope} {dV kV doc pm cdv ct : Value} {an : Option Addr} {binds : List (Str × Value)}
theorem ConT.intro (ho : (Mine.hd.heap_39 w.params).lookup f = some ⟨oc, od, .func (fnOf name qual params body scope dV kV doc pm an cdv ct), osl⟩) (hcd : codeIn (Mine.hd.heap_39 w.params) cdv qual = true)
    (hbind : ∀ s, BindsTo s (fnOf name qual params body scope dV kV doc pm an cdv ct) ⟨vs, []⟩ binds) (hloc : ∀ y ∈ binds, scope.names.lookup y.1 = some .local) (hcell : ∀ x ∈ scope.names, x.2 ≠ .cell)
    (hco : scope.isCoroutine = false) (hgen : scope.isGenerator = false) (hk : scope.kind = .function)
    (h : ∀ (mean : ExcName → Option Value) (mg mb : Str → Option Value) (A : Around) (env : Env) (g : Heap) (L L' : Addr) (oL : Obj) (s₁ : Shared),
      A.frames = some [env] → A.handled = none → A.depth + k < recursionLimit → A.units + 8 * k < cLine → TI.Frs [env] [(L, oL)] → (∀ p ∈ pre, p.1 ≠ L) →
      Fr g L' s₁.heap (fun y => binds.reverse.lookup y) → (Mine.hd.heap_39 w.params).In g → News g L' s₁.heap (pre ++ [(L, oL)]) → Top Mine.hd.view_39 (looseW Mine.hd.view_39 [Str.ofString "_filemode_table"]) mean mg mb g →
      wpAny (model PySem.Challenge.rw_oh0012_01.row.prog w) (A.deeper (envOf qual scope L' f cdv)) (execs body (envOf qual scope L' f cdv)) (BodyEndT g L' L oL post s₁) (fun _ _ => False) s₁) :
    ConT w k f vs pre post := by
  intro mean mg mb dp un gd cn cs a ccd cl h₀ L m s Q E F X N T hks hd hu ret
  refine wpAny_call ?_
  refine call_try (env := envX cn cs L a ccd cl) F N T.nolimit rfl hks ((X.keeps F.keep) _ _ ho) rfl (codeRec_of (X.keeps F.keep) hcd) (show dp < recursionLimit by omega) (hbind s) hloc ?_ ret hcell hco hgen hk
  intro g L' h₁ tk oL st Fs hne F' N'
  exact h mean mg mb (ktrTop dp un gd cn cs L a ccd cl []) (envX cn cs L a ccd cl) g L L' oL { s with heap := h₁, toks := tk } rfl rfl hd hu Fs hne F' (X.keeps st) N' (T.keeps st)
end
def uld : List Str → List Str → List Str × List Str
  | [], ys => ([], ys)
  | x :: xs, ys => if x ∈ ys then uld xs (ys.erase x) else (x :: (uld xs ys).1, (uld xs ys).2)
set_option maxHeartbeats 8000000 in
theorem c_uld (w : World) (ea aa : Addr) (es as : List Value) (n1 n2 : Nat) (xs ys : List Str) (hne : @Ne Nat ea aa) (hx : StrsAre es xs) (hy : StrsAre as ys) (hzx : es.length ≤ 100) (hzy : as.length ≤ 100) :
    ConT w 1 68 [.ref ea, .ref aa] [(ea, listOf es.toArray n1), (aa, listOf as.toArray n2)] (fun r made => ∃ tp mi ms as' k1 k2 k3 k4, r = .ref tp ∧ made = [(tp, { cls := .type "tuple", data := .seq #[.ref mi, .ref aa] k1 }), (mi, listOf ms k2), (ea, listOf #[] k3), (aa, listOf as' k4)] ∧
      StrsAre ms.toList (uld xs.reverse ys).1 ∧ StrsAre as'.toList (uld xs.reverse ys).2 ∧ @Ne Nat tp mi ∧ @Ne Nat tp ea ∧ @Ne Nat tp aa ∧ @Ne Nat mi ea ∧ @Ne Nat mi aa) := by
  refine' ConT.intro (binds := [(Str.ofString "expected", .ref ea), (Str.ofString "actual", .ref aa)]) ?ho ?hcd ?hbind ?hloc ?hcell ?hco ?hgen ?hk ?_
  (case ho => k_dflt k_is)
  (case hcd => k_dflt k_is)
  (case hbind => intro s; exact BindsTo.of_eq rfl)
  (case hloc => exact locs rfl)
  (case hcell => decide)
  (case hco => exact rfl)
  (case hgen => exact rfl)
  (case hk => exact rfl)
  intro mean mg mb A env g L L' oL s₁ hA hh hd hu Fs hpne F X N T
  have hea : @Ne Nat ea L := hpne _ (.head _)
  have haa : @Ne Nat aa L := hpne _ (.tail _ (.head _))
  (repeat ((fail_if_success (with_reducible show wpAny _ _ (exec (Stmt.While _ _ _ _) _) _ _ _)); first | (k_unfold; (try dsimp only)) | walk1 | (dsimp only; walk1)))
  rename_i mi _ l1 h1 F1 N1
  have hm1 : @Ne Nat mi ea := Nat.ne_of_gt (l1 _ (.head _))
  have hm2 : @Ne Nat mi aa := Nat.ne_of_gt (l1 _ (.tail _ (.head _)))
  have hm3 : @Ne Nat mi L := Nat.ne_of_gt (l1 _ (.tail _ (.tail _ (.head _))))
  clear l1
  refine While_inv (fun n m' news' => (∀ q ∈ [(Str.ofString "expected", Value.ref ea), (Str.ofString "actual", Value.ref aa), (Str.ofString "missing", Value.ref mi)], m' q.1 = some q.2) ∧
      ∃ es' as' ms k1 k2 k3 sl xs' ys' zs, news' = [(mi, listOf ms k1), (ea, listOf es'.toArray k2), (aa, listOf as'.toArray k3), (L, { oL with slots := sl })] ∧ StrsAre es' xs' ∧ StrsAre as' ys' ∧ StrsAre ms.toList zs ∧
        uld xs.reverse ys = (zs ++ (uld xs'.reverse ys').1, (uld xs'.reverse ys').2) ∧ n = xs'.length ∧ xs'.length + zs.length ≤ 100 ∧ ys'.length ≤ 100) F1 N1 (n₀ := xs.length) ?h0 ?turn PassesOwn.never
  case h0 =>
    have := hx.length
    have := hy.length
    refine ⟨?_, es, as, #[], _, _, _, oL.slots, xs, ys, [], rfl, hx, hy, .nil, rfl, rfl, by simp; omega, by omega⟩
    ((intro q hq; (repeat' (first | (rcases List.mem_cons.mp hq with e9 | hq'; (subst e9; exact rfl); (clear hq; revert hq'; intro hq)) | (cases hq)))))
  case turn =>
    rintro n m₁ news₁ h₁ tk₁ F₁ N₁ ⟨hm, es', as', ms, k1, k2, k3, sl, xs', ys', zs, rfl, he', ha', hms, hul, rfl, hb1, hb2⟩
    replace F₁ := fr_tell F₁ hm
    have hz1 : ms.size ≤ sizeLine := by
      have := hms.length
      rw [Array.length_toList] at this
      exact Nat.le_trans (by omega) (show 100 ≤ sizeLine by decide)
    rcases List.eq_nil_or_concat xs' with rfl | ⟨xr, x, rfl⟩
    · obtain rfl := he'.nil_inv
      have e1 : (uld xs.reverse ys).1 = zs := by rw [hul]; exact List.append_nil _
      have e2 : (uld xs.reverse ys).2 = ys' := by rw [hul]; rfl
      k_steps
      rename_i tp h9 F9 N9 l9
      obtain ⟨l91, l92, l93, l94⟩ := l9
      have q1 : @Ne Nat tp mi := Nat.ne_of_gt l91
      have q2 : @Ne Nat tp ea := Nat.ne_of_gt l92
      have q3 : @Ne Nat tp aa := Nat.ne_of_gt l93
      have q4 : @Ne Nat tp L := Nat.ne_of_gt l94
      refine ⟨[(tp, _), (mi, _), (ea, _), (aa, _)], _, _, _, sl, rfl, F9, N9, ?_, tp, mi, ms, _, _, _, _, _, rfl, rfl, e1 ▸ hms, ?_, q1, q2, q3, hm1, hm2⟩
      · intro p hp
        rcases List.mem_cons.mp hp with rfl | hp
        · exact q4
        · rcases List.mem_cons.mp hp with rfl | hp
          · exact hm3
          · rcases List.mem_cons.mp hp with rfl | hp
            · exact hea
            · rw [List.mem_singleton.mp hp]; exact haa
      · rw [e2]; exact ha'
    · obtain ⟨er, t, e2, rfl, hr, h2⟩ := strs_split (l2 := []) (by simpa using he')
      obtain rfl := h2.nil_inv
      iterate 2 walk1
      refine wpAny_truthy_list (items := (er ++ [Value.str x t]).toArray) (News.isList N₁ (.tail _ (.head _))) ?hfit ?_
      case hfit => simp; have := hr.length; simp at hb1; omega
      refine Eq.mpr (if_pos (by simp)) ?_
      k_steps
      dsimp only
      have hlr := hr.length
      have hxl : xr.length + 1 + zs.length ≤ 100 := by simpa using hb1
      refine kl_pop F₁ N₁ (p := er) (y := .str x t) (by simpa using kpa_last (.str x t) er) (by k_upd) ?hz ?_
      case hz =>
        refine Nat.le_trans ?_ (show 100 ≤ sizeLine by decide)
        simp; omega
      intro h2 F2 N2
      clear F₁ N₁
      k_steps
      by_cases hxy : x ∈ ys'
      · refine remove_hit (by k_asm) (by k_asm) ha' hxy ?hz2 (G := fun ws => [(mi, listOf ms k1), (ea, listOf er.toArray (k2 + 1)), (aa, listOf ws.toArray (k3 + 1)), (L, { oL with slots := sl })]) (fun ws => by k_upd) ?_
        case hz2 => have := ha'.length; exact Nat.le_trans (by omega) (show 100 ≤ sizeLine by decide)
        intro h3 ws hws F3 N3
        k_steps
        refine WhileStep.intro (by k_asm) (by k_asm) (n' := xr.length) (by simp) ⟨?_, er, ws, ms, _, _, _, _, xr, ys'.erase x, zs, rfl, hr, hws, hms, ?_, rfl, ?_, ?_⟩
        · ((intro q hq; (repeat' (first | (rcases List.mem_cons.mp hq with e9 | hq'; (subst e9; exact rfl); (clear hq; revert hq'; intro hq)) | (cases hq)))))
        · rw [hul, List.concat_eq_append, List.reverse_append, List.reverse_singleton, List.singleton_append, uld, if_pos hxy]
        · omega
        · exact Nat.le_trans (List.length_erase_le) hb2
      · refine remove_miss hh (by k_asm) (.tail _ (.tail _ (.head _))) ha' hxy ?_
        intro h3 tk3 e hex
        refine TLg.noted_new1 (new := [(mi, listOf ms k1), (ea, listOf er.toArray (k2 + 1)), (aa, listOf as'.toArray k3)]) (oL := { oL with slots := sl }) hA ⟨Fs.1, Fs.2.1, Fs.2.2.1, trivial⟩ hex (by k_asm) (by k_asm) ⟨hm3, hea, haa, trivial⟩ ?_
        intro h4 sl4 _ H4
        refine TT.HeldNA.land H4 ?_
        intro h5 H5
        show wpAny _ (Around.deeper _ (envOf _ _ _ _ _)) (handleBy _ _ [ExceptHandler.ExceptHandler (some (Expr.Name _ _)) none [_] _]) _ _ _
        refine TT.clause_hitTN (s' := { heap := h5, gens := _, drawn := _, toks := _, os := _ }) H5 T (k := ?_)
        intro h6 F6 N6
        simp only [List.cons_append, List.nil_append] at N6
        k_steps
        refine WhileStep.intro (by k_asm) (by k_asm) (n' := xr.length) (by simp) ⟨?_, er, as', ms.push (.str x t), _, _, _, sl4, xr, ys', zs ++ [x], rfl, hr, ha', strs_push hms, ?_, rfl, ?_, hb2⟩
        · ((intro q hq; (repeat' (first | (rcases List.mem_cons.mp hq with e9 | hq'; (subst e9; exact rfl); (clear hq; revert hq'; intro hq)) | (cases hq)))))
        · rw [hul, List.concat_eq_append, List.reverse_append, List.reverse_singleton, List.singleton_append, uld, if_neg hxy, List.append_assoc, List.singleton_append]
        · simp; omega
end Mine
end
section
namespace Mine
theorem off_L1 : ∃ x : Nat, x = 0 := by
  w_top off
  first | (walk1; fail) | exact ⟨0, rfl⟩
end Mine
open PySem PySem.W PyProof.Rows PySem.Calls
namespace Mine
def lstep (r : List Int) (k : Nat) : List Int := (r.set k (Builtin.bitOr (r.getD k 0) (r.getD (k + 1) 0))).set (k + 1) (Builtin.bitAnd (r.getD k 0) (r.getD (k + 1) 0))
def lrow (r : List Int) (last : Nat) : List Int := (List.range last).foldl lstep r
def ladderTo (ns : List Int) (i : Nat) : List Int := (List.range i).foldl (fun r i => lrow r (ns.length - 1 - i)) ns
def ladder (ns : List Int) : List Int := ladderTo ns (ns.length - 1)
theorem lstep_len (r : List Int) (k : Nat) : (lstep r k).length = r.length := by simp [lstep]
theorem lrow_len (r : List Int) (l : Nat) : (lrow r l).length = r.length := by
  unfold lrow
  induction l with
  | zero => rfl
  | succ l ih => rw [List.range_succ, List.foldl_append]; simp [lstep_len, ih]
theorem ladderTo_len (ns : List Int) (i : Nat) : (ladderTo ns i).length = ns.length := by
  unfold ladderTo
  induction i with
  | zero => rfl
  | succ l ih => rw [List.range_succ, List.foldl_append]; simp [lrow_len, ih]
set_option maxHeartbeats 8000000 in
theorem c_ladder (w : World) (l : Addr) (vs : List Value) (ns : List Int) (hi : IntsAre vs ns) (hz : ns.length ≤ 100) :
    Con w 1 82 [.ref l] (fun h => h.IsList l vs.toArray) [] (fun r made => ∃ rg us k, r = .ref rg ∧ made = [(rg, listOf us.toArray k)] ∧ IntsAre us (ladder ns)) := by
  refine' Con.intro (binds := [(Str.ofString "modes", .ref l)]) ?ho ?hcd ?hbind ?hloc ?hcell ?hco ?hgen ?hk ?hR ?_
  (case ho => k_dflt k_is)
  (case hcd => k_dflt k_is)
  (case hbind => intro s; exact BindsTo.of_eq rfl)
  (case hloc => exact locs rfl)
  (case hcell => decide)
  (case hco => exact rfl)
  (case hgen => exact rfl)
  (case hk => exact rfl)
  case hR => exact fun h h' k x => x.at fun o e => k _ _ (fun _ hp => nomatch hp) e
  intro p loose mean mg mb dp un gd outer A base g L s₁ B F X N T hR hlt hd hu
  (repeat ((fail_if_success (with_reducible show wpAny _ _ (exec (Stmt.For _ _ _ _ _) _) _ _ _)); first | (k_unfold; (try dsimp only)) | walk1 | (dsimp only; walk1)))
  rename_i rg cp _ _ h1 F1 N1
  have hvl : vs.length = ns.length := hi.length
  refine for_range (a := (ns.length : Int) - 1) (b := 0) (c := -1) (n := ns.length - 1) rfl F1 N1 (fun _ => rfl) ?hsm ?hn ?hiter
    (fun i m' news' => (∀ q ∈ [(Str.ofString "rungs", Value.ref rg)], m' q.1 = some q.2) ∧ ∃ us k, news' = [(rg, listOf us.toArray k)] ∧ IntsAre us (ladderTo ns i)) ?h0 ?step ?done
  case hsm => exact small_down (by omega) (by omega) (by omega) (by omega)
  case hn => rw [rangeSize_downNat]; omega
  case hiter =>
    intro Q' hQ
    k_steps
    exact hQ _ _ _ _ _ _ (by assumption) (by k_asm) (by k_asm)
  case h0 =>
    refine ⟨?_, vs, _, rfl, hi⟩
    ((intro q hq; (repeat' (first | (rcases List.mem_cons.mp hq with e9 | hq'; (subst e9; exact rfl); (clear hq; revert hq'; intro hq)) | (cases hq)))))
  case step =>
    rintro i t m₁ news₁ h tk I oI hin ⟨hm, us, k, rfl, hus⟩ hI F₁ N₁
    have hIr : @Ne Nat rg I := hI _ (.head _)
    replace F₁ := fr_tell F₁ hm
    (repeat ((fail_if_success (with_reducible show wpAny _ _ (exec (Stmt.For _ _ _ _ _) _) _ _ _)); first | (k_unfold; (try dsimp only)) | walk1 | (dsimp only; walk1)))
    rename_i h2 F2 N2
    have hul : (ladderTo ns i).length = ns.length := ladderTo_len ns i
    refine for_range (a := 0) (b := (ns.length : Int) - 1 + (i : Int) * -1) (c := 1) (n := ns.length - 1 - i) rfl F2 N2 (fun _ => rfl) ?hsm2 ?hn2 ?hiter2
      (fun j m' news' => (∀ q ∈ [(Str.ofString "rungs", Value.ref rg)], m' q.1 = some q.2) ∧ ∃ us k, news' = [(I, oI), (rg, listOf us.toArray k)] ∧ IntsAre us ((List.range j).foldl lstep (ladderTo ns i))) ?h02 ?step2 ?done2
    case hsm2 => exact small_one (by omega) (by omega) (by omega) (by omega)
    case hn2 => rw [rangeSize_nat]; omega
    case hiter2 =>
      intro Q' hQ
      k_steps
      exact hQ _ _ _ _ _ _ (by assumption) (by k_asm) (by k_asm)
    case h02 =>
      refine ⟨?_, us, _, rfl, hus⟩
      ((intro q hq; (repeat' (first | (rcases List.mem_cons.mp hq with e9 | hq'; (subst e9; exact rfl); (clear hq; revert hq'; intro hq)) | (cases hq)))))
    case step2 =>
      rintro j t2 m₂ news₂ h3 tk3 I2 oI2 hjn ⟨hm2, us2, k2, rfl, hus2⟩ hI2 F₂ N₂
      have hI2r : @Ne Nat rg I2 := hI2 _ (.tail _ (.head _))
      have hI2I : @Ne Nat I I2 := hI2 _ (.head _)
      replace F₂ := fr_tell F₂ hm2
      have hrl : ((List.range j).foldl lstep (ladderTo ns i)).length = ns.length := by
        rw [← lrow, lrow_len, ladderTo_len]
      have hnext : (List.range (j + 1)).foldl lstep (ladderTo ns i) = lstep ((List.range j).foldl lstep (ladderTo ns i)) j := by
        rw [List.range_succ, List.foldl_append]; rfl
      rw [hnext]
      generalize (List.range j).foldl lstep (ladderTo ns i) = r at hus2 hrl ⊢
      have hj1 : (0 : Int) + (j : Int) * 1 = (j : Int) := by omega
      rw [hj1]
      have hj0 : (0 : Int) ≤ (j : Int) := by omega
      have hj2 : (j : Int) < (r.length : Int) := by omega
      have hj3 : (j : Int) + 1 < (r.length : Int) := by omega
      k_steps
      have e1 : ((j : Int)).toNat = j := by omega
      have e2 : ((j : Int) + 1).toNat = j + 1 := by omega
      simp only [e1, e2] at *
      refine turn_next (by k_asm) (news_sub (by k_asm) (fun p hp => .tail _ hp)) (off_ones hI2I hI2r) (fun p hp => nomatch hp) ⟨?_, _, _, rfl, by assumption⟩
      ((intro q hq; (repeat' (first | (rcases List.mem_cons.mp hq with e9 | hq'; (subst e9; exact rfl); (clear hq; revert hq'; intro hq)) | (cases hq)))))
    case done2 =>
      rintro m₂ news₂ h3 tk3 ⟨hm2, us2, k2, rfl, hus2⟩ F₂ N₂
      replace F₂ := fr_tell F₂ hm2
      k_steps
      refine turn_next (by k_asm) (by k_asm) (off_one hIr) (fun p hp => nomatch hp) ⟨?_, us2, _, rfl, ?_⟩
      · ((intro q hq; (repeat' (first | (rcases List.mem_cons.mp hq with e9 | hq'; (subst e9; exact rfl); (clear hq; revert hq'; intro hq)) | (cases hq)))))
      · have e : ladderTo ns (i + 1) = lrow (ladderTo ns i) (ns.length - 1 - i) := by
          unfold ladderTo
          rw [List.range_succ, List.foldl_append]; rfl
        rw [e]
        exact hus2
  case done =>
    rintro m₁ news₁ h tk ⟨hm, us, k, rfl, hus⟩ F₁ N₁
    replace F₁ := fr_tell F₁ hm
    k_steps
    exact body_ret (by k_asm) (by k_asm) ⟨rg, us, _, rfl, rfl, hus⟩
end Mine
end
section
namespace Mine
theorem off_K1 : ∃ x : Nat, x = 0 := by
  w_top off
  first | (walk1; fail) | exact ⟨0, rfl⟩
end Mine
open PySem PySem.W PyProof.Rows PySem.Calls
namespace Mine
def bit (m k : Int) : Int := (m.fdiv (2 ^ k.toNat)).fmod 2
def kind (k : Int) : Str := Txt.item (Str.ofString "?pc?d?b?-?l?s???") k
set_option maxHeartbeats 8000000 in
theorem c_bit (w : World) (m k : Int) (t u : Tok) (hk0 : 0 ≤ k) (hk1 : k ≤ 15) : Con w 1 75 [Value.int m t, Value.int k u] (fun _ => True) [] (fun r made => made = [] ∧ ∃ t, r = .int (bit m k) t) := by
  refine' Con.intro (binds := [(Str.ofString "mode", .int m t), (Str.ofString "place", .int k u)]) ?ho ?hcd ?hbind ?hloc ?hcell ?hco ?hgen ?hk ?hR ?_
  (case ho => k_dflt k_is)
  (case hcd => k_dflt k_is)
  (case hbind => intro s; exact BindsTo.of_eq rfl)
  (case hloc => exact locs rfl)
  (case hcell => decide)
  (case hco => exact rfl)
  (case hgen => exact rfl)
  (case hk => exact rfl)
  case hR => exact fun _ _ _ h => h
  intro p loose mean mg mb dp un gd outer A base g L s₁ B F X N T hR hlt hd hu
  k_steps
  exact body_ret (by k_asm) (by k_asm) ⟨rfl, _, rfl⟩
set_option maxHeartbeats 8000000 in
theorem c_kind (w : World) (k : Int) (u : Tok) (hk0 : 0 ≤ k) (hk1 : k ≤ 15) : Con w 1 89 [Value.int k u] (fun _ => True) [] (fun r made => made = [] ∧ ∃ t, r = .str (kind k) t) := by
  refine' Con.intro (binds := [(Str.ofString "number", .int k u)]) ?ho ?hcd ?hbind ?hloc ?hcell ?hco ?hgen ?hk ?hR ?_
  (case ho => k_dflt k_is)
  (case hcd => k_dflt k_is)
  (case hbind => intro s; exact BindsTo.of_eq rfl)
  (case hloc => exact locs rfl)
  (case hcell => decide)
  (case hco => exact rfl)
  (case hgen => exact rfl)
  (case hk => exact rfl)
  case hR => exact fun _ _ _ h => h
  intro p loose mean mg mb dp un gd outer A base g L s₁ B F X N T hR hlt hd hu
  k_steps
  exact body_ret (by k_asm) (by k_asm) ⟨rfl, _, rfl⟩
end Mine
end
section
namespace Mine
theorem off_O1 : ∃ x : Nat, x = 0 := by
  w_top off
  first | (walk1; fail) | exact ⟨0, rfl⟩
end Mine
open PySem PySem.W PyProof.Rows PySem.Calls PyProof.V
namespace Mine
theorem countIn_strs (x : Str) : ∀ ys : List Str, PySem.Spec.countIn (.str x) (ys.map PyData.str) = ((ys.count x : Nat) : Int)
  | [] => rfl
  | y :: r => by
    rw [List.map_cons, PySem.Spec.countIn, countIn_strs x r, List.count_cons]
    by_cases h : y = x
    · subst h; simp [PySem.Spec.same]; omega
    · have h' : (y == x) = false := by simpa using h
      simp [PySem.Spec.same, h, h']
section
variable {prog : Program} {w : World} {A : Around} {E : Value → Shared → Prop} {s : Shared} {h₀ : Heap} {L l : Addr} {m : Str → Option Value} {n : Nat}
theorem count_method {its : Array Value} {pl : Sem Bool} {Q : Value × List Value → Shared → Prop} (hb : h₀.get? l = some (listOf its n)) (F : Fr h₀ L s.heap m) (h : Q (.builtin "list.count", [.ref l]) s) : wpAny (model prog w) A (getMethod (.ref l) (Str.ofString "count") pl) Q E s :=
  getMethod_builtin ⟨_, F.keep _ _ hb, rfl⟩ PySem.F.plainAttrs_list PySem.F.slot_list_count PySem.F.type_list_count (fun a e => by cases e; exact ⟨_, F.keep _ _ hb, rfl⟩) h
theorem count_call {vs : List Value} {ys : List Str} {x : Str} {t : Tok} {Q : Value → Shared → Prop} (hb : h₀.get? l = some (listOf vs.toArray n)) (hy : StrsAre vs ys) (F : Fr h₀ L s.heap m) (h : Q (.int ((ys.count x : Nat) : Int) s.toks) { s with toks := s.toks + 1 }) :
    wpAny (model prog w) A (call (.builtin "list.count") [.ref l, .str x t]) Q E s :=
  count_list_strs ⟨_, F.keep _ _ hb, rfl, _, rfl⟩ hy (by rw [countIn_strs]; exact h)
end
local macro_rules | `(tactic| walk_at "getMethod ref") => `(tactic| ((with_reducible show wpAny _ _ (getMethod (Value.ref _) (Str.ofString "count") _) _ _ _); (refine count_method (by assumption) (by k_asm) ?_)))
local macro_rules | `(tactic| walk_at "call builtin:list.count") => `(tactic| ((with_reducible show wpAny _ _ (call (Value.builtin "list.count") [Value.ref _, Value.str _ _]) _ _ _); (refine count_call (by assumption) (by assumption) (by k_asm) ?_)))
def overTo (xs ys : List Str) (i : Nat) : List Str := (List.range i).filterMap (fun k => match xs[k]? with | some x => if ys.count x < (xs.take (k + 1)).count x then some x else none | none => none)
theorem overTo_succ {xs ys : List Str} {i : Nat} {x : Str} (h : xs[i]? = some x) : overTo xs ys (i + 1) = overTo xs ys i ++ (if ys.count x < (xs.take (i + 1)).count x then [x] else []) := by
  unfold overTo
  rw [List.range_succ, List.filterMap_append]
  congr 1
  simp only [List.filterMap_cons, h, List.filterMap_nil]
  by_cases hc : ys.count x < (xs.take (i + 1)).count x
  · rw [if_pos hc, if_pos hc]
  · rw [if_neg hc, if_neg hc]
set_option maxHeartbeats 8000000 in
theorem c_over (w : World) (la lb : Addr) (vs ws : List Value) (xs ys : List Str) (hx : StrsAre vs xs) (hy : StrsAre ws ys) (n1 n2 : Nat) (hz : xs.length ≤ 100) :
    Con w 1 96 [.ref la, .ref lb] (fun h => h.get? la = some (listOf vs.toArray n1) ∧ h.get? lb = some (listOf ws.toArray n2)) [] (fun r made => ∃ ov us k, r = .ref ov ∧ made = [(ov, listOf us k)] ∧ StrsAre us.toList (overTo xs ys xs.length)) := by
  refine' Con.intro (binds := [(Str.ofString "mine", .ref la), (Str.ofString "theirs", .ref lb)]) ?ho ?hcd ?hbind ?hloc ?hcell ?hco ?hgen ?hk ?hR ?_
  (case ho => k_dflt k_is)
  (case hcd => k_dflt k_is)
  (case hbind => intro s; exact BindsTo.of_eq rfl)
  (case hloc => exact locs rfl)
  (case hcell => decide)
  (case hco => exact rfl)
  (case hgen => exact rfl)
  (case hk => exact rfl)
  case hR => exact fun h h' k x => ⟨k _ _ (fun _ hp => nomatch hp) x.1, k _ _ (fun _ hp => nomatch hp) x.2⟩
  intro p loose mean mg mb dp un gd outer A base g L s₁ B F X N T hR hlt hd hu
  (repeat ((fail_if_success (with_reducible show wpAny _ _ (exec (Stmt.For _ _ _ _ _) _) _ _ _)); first | (k_unfold; (try dsimp only)) | walk1 | (dsimp only; walk1)))
  rename_i sd _ so lo hs fs _ _ _ _ ov _ l2 h1 F1 N1
  obtain ⟨hR1, hR2⟩ := hR
  have hL1 : g.IsList la vs.toArray := ⟨_, hR1, rfl, _, rfl⟩
  have hL2 : g.IsList lb ws.toArray := ⟨_, hR2, rfl, _, rfl⟩
  refine for_list (keep := []) rfl (fun _ => rfl) (hL1.at fun o e => F1.keep _ o e) (.inl ⟨_, hR1⟩) F1 N1 (fun p hp => nomatch hp) ?hiter
    (fun i m' news' => (∀ q ∈ [(Str.ofString "mine", Value.ref la), (Str.ofString "theirs", Value.ref lb), (Str.ofString "seen", Value.ref sd), (Str.ofString "over", Value.ref ov)], m' q.1 = some q.2) ∧
      ∃ us k o kvs D, news' = [(ov, listOf us k), (sd, o)] ∧ StrsAre us.toList (overTo xs ys i) ∧ us.size ≤ i ∧ o.IsDictOf (strKind PySem.Challenge.rw_oh0012_01.row.prog w) kvs ∧ FlatPairs PyData.str kvs D ∧ D.length ≤ i ∧
        ∀ x, PySem.Spec.lookup (.str x) D = if (xs.take i).count x = 0 then none else some (.int ((xs.take i).count x : Nat))) ?h0 ?step ?done
  case hiter =>
    intro Q' h
    walk1
    exact h
  case h0 =>
    refine ⟨?_, #[], _, _, _, _, rfl, .nil, by simp, hs, fs, by simp, fun x => by simp; rfl⟩
    ((intro q hq; (repeat' (first | (rcases List.mem_cons.mp hq with e9 | hq'; (subst e9; exact rfl); (clear hq; revert hq'; intro hq)) | (cases hq)))))
  case step =>
    rintro i v m₁ news₁ h tk I oI hin hv ⟨hm, us, k, o, kvs, D, rfl, hus, huz, hdo, hfl, hDl, hlk⟩ hI _ F₁ N₁
    have hI1 : @Ne Nat ov I := hI _ (.head _)
    have hI2 : @Ne Nat sd I := hI _ (.tail _ (.head _))
    have hov : @Ne Nat ov sd := Nat.ne_of_gt l2
    replace F₁ := fr_tell F₁ hm
    obtain ⟨x, t, rfl, hxi⟩ := hx.item i v (by simpa using hv)
    clear hs fs
    k_steps
    rename Flat _ _ => hfv
    have hget : (PySem.Spec.lookup (.str x) D).getD (.int 0) = .int ((xs.take i).count x : Nat) := by
      rw [hlk x]
      by_cases hc : (xs.take i).count x = 0
      · rw [if_pos hc, hc]; rfl
      · rw [if_neg hc]; rfl
    rw [hget] at hfv
    obtain ⟨t9, rfl⟩ := hfv.int_inv
    k_steps
    refine setItem_madeIn (own := [(I, oI), (ov, listOf us k)]) (rest := []) (enc := PyData.str) (knd := strKind _ w) (dv := .int (((xs.take i).count x : Nat) + 1)) same_str (strKind_is _ w x t) (Flat.int _ _) (by k_asm) (by k_asm) ?o1 (fun p hp => nomatch hp) hdo hfl ?_ ?hsz
    case o1 =>
      intro p hp
      rcases List.mem_cons.mp hp with rfl | hp
      · exact fun e => hI2 e.symm
      · rw [List.mem_singleton.mp hp]; exact hov
    case hsz =>
      have := hx.length
      simp at hin
      exact Nat.le_trans (by omega) (show 100 ≤ sizeLine by decide)
    intro h2 o2 F2 N2 hdo2 hfl2
    simp only [List.cons_append, List.nil_append] at N2
    have hcnt : ∀ y, (xs.take (i + 1)).count y = (xs.take i).count y + if y = x then 1 else 0 := by
      intro y
      rw [List.take_add_one, hxi, Option.toList_some, List.count_append, List.count_singleton]
      by_cases e : y = x
      · subst e; simp
      · rw [if_neg e, if_neg (by simpa using fun e' => e e'.symm)]
    have hlk2 : ∀ y, PySem.Spec.lookup (.str y) (putD (.str x) (.int (((xs.take i).count x : Nat) + 1)) D) = if (xs.take (i + 1)).count y = 0 then none else some (.int ((xs.take (i + 1)).count y : Nat)) := by
      intro y
      rw [lookup_putD_str, hcnt]
      by_cases e : y = x
      · subst e
        rw [if_pos rfl, if_pos rfl, if_neg (Nat.succ_ne_zero _)]
        rfl
      · rw [if_neg e, if_neg e, Nat.add_zero]
        exact hlk y
    have hD2 : (putD (.str x) (.int (((xs.take i).count x : Nat) + 1)) D).length ≤ i + 1 := Nat.le_trans (putD_length_le _ _ _) (by omega)
    generalize putD (.str x) (.int (((xs.take i).count x : Nat) + 1)) D = D2 at hfl2 hlk2 hD2
    have hl9 : PySem.Spec.lookup (.str x) D2 = some (.int ((xs.take (i + 1)).count x : Nat)) := by
      rw [hlk2, if_neg]
      rw [hcnt, if_pos rfl]; exact Nat.succ_ne_zero _
    clear hdo hfl hlk hfv hget
    (repeat ((fail_if_success (with_reducible show wpAny _ _ (subscriptTail _ _ _ _) _ _ _)); first | (k_unfold; (try dsimp only)) | walk1 | (dsimp only; walk1)))
    refine item_strTab (D := D2) ⟨lo, _, Heap.dictOf_iff.mpr ⟨_, (N2 _ (.tail _ (.tail _ (.head _)))).1, hdo2⟩, hfl2⟩ hl9 ?_
    intro v9 hv9
    obtain ⟨t8, rfl⟩ := hv9.int_inv
    have huz9 : us.size ≤ sizeLine := by
      have := hx.length
      simp at hin
      exact Nat.le_trans (by omega) (show 100 ≤ sizeLine by decide)
    k_steps
    · refine turn_next (by k_asm) (by k_asm) (off_ones hI1 hI2) (fun p hp => nomatch hp) ⟨?_, us.push (.str x t), _, o2, _, D2, rfl, ?_, by simp; omega, hdo2, hfl2, hD2, hlk2⟩
      · ((intro q hq; (repeat' (first | (rcases List.mem_cons.mp hq with e9 | hq'; (subst e9; exact rfl); (clear hq; revert hq'; intro hq)) | (cases hq)))))
      · rw [overTo_succ hxi, if_pos (by omega)]
        exact strs_push hus
    · refine turn_next (by k_asm) (by k_asm) (off_ones hI1 hI2) (fun p hp => nomatch hp) ⟨?_, us, _, o2, _, D2, rfl, ?_, by omega, hdo2, hfl2, hD2, hlk2⟩
      · ((intro q hq; (repeat' (first | (rcases List.mem_cons.mp hq with e9 | hq'; (subst e9; exact rfl); (clear hq; revert hq'; intro hq)) | (cases hq)))))
      · rw [overTo_succ hxi, if_neg (by omega), List.append_nil]
        exact hus
  case done =>
    rintro m₁ news₁ h tk ⟨hm, us, k, o, kvs, D, rfl, hus, huz, hdo, hfl, hDl, hlk⟩ _ F₁ N₁
    replace F₁ := fr_tell F₁ hm
    have hvl : vs.toArray.size = xs.length := by rw [List.size_toArray]; exact hx.length
    rw [hvl] at hus
    clear hs fs
    k_steps
    exact body_ret (by k_asm) (news_sub N₁ (fun p hp => by rw [List.mem_singleton.mp hp]; exact .head _)) ⟨ov, us, _, rfl, rfl, hus⟩
end Mine
end
section
namespace Mine
theorem off_G1 : ∃ x : Nat, x = 0 := by
  w_top off
  first | (walk1; fail) | exact ⟨0, rfl⟩
end Mine
open PySem PySem.W PyProof.Rows PySem.Calls
namespace Mine
/-- four addresses apart from each other and from the ledger -/
structure Apart4 (I C K D : Nat) (news : List (Addr × Obj)) : Prop where
  ic : @Ne Nat I C
  ik : @Ne Nat I K
  id : @Ne Nat I D
  ck : @Ne Nat C K
  cd : @Ne Nat C D
  kd : @Ne Nat K D
  off : ∀ p ∈ news, @Ne Nat p.1 I ∧ @Ne Nat p.1 C ∧ @Ne Nat p.1 K ∧ @Ne Nat p.1 D
/-- the end of an element: the ledger as it stood, the element's value told -/
def EltEnd (h₀ : Heap) (L : Addr) (m : Str → Option Value) (all : List (Addr × Obj)) (s : Shared) (P : Value → Prop) (y : Value) (s₂ : Shared) : Prop :=
  ∃ h' tk', s₂ = { s with heap := h', toks := tk' } ∧ Fr h₀ L h' m ∧ News h₀ L h' all ∧ P y
theorem elt_end {h₀ h' : Heap} {L : Addr} {m : Str → Option Value} {all : List (Addr × Obj)} {s : Shared} {tk' : Nat} {P : Value → Prop} {y : Value} (F : Fr h₀ L h' m) (N : News h₀ L h' all) (hp : P y) : EltEnd h₀ L m all s P y { s with heap := h', toks := tk' } :=
  ⟨h', tk', rfl, F, N, hp⟩
section
variable {prog : Program} {w : World} {A : Around} {s : Shared} {env : Env} {h₀ : Heap} {L : Addr} {Q : Value → Shared → Prop} {m : Str → Option Value} {news : List (Addr × Obj)}
theorem new_comp_env {scope : Scope} {cl : List (Str × Addr)} {qual : Str} {globals : Addr} {Q : Env → Shared → Prop} {E : Value → Shared → Prop} {M : Model} {x : Str}
    (hone : ∀ k, cellsFrom k scope.names cl = (x, k) :: cl) (hpush : ∀ h, pushCells h scope.names = h.push { cls := .type "cell", data := .cell none })
    (hQ : Q { scope := scope, locals := s.heap.objs.size, globals := globals, cells := (x, s.heap.objs.size + 1) :: cl, qual := qual, func := none, code := env.code, frame := env.frame, builtins := env.builtins }
      { s with heap := (s.heap.push { cls := .type "dict", data := .dict #[] }).push { cls := .type "cell", data := .cell none } }) :
    wpAny M A (newFunctionEnv scope globals cl [] qual none .none (some env)) Q E s := by
  simp only [newFunctionEnv, Option.isSome_some, if_true]
  refine wpAny_bind (wpAny_alloc ?_)
  refine wpAny_bind (wpAny_layCells _ (fun name kind cells => by cases hkc : kind == NameKind.cell <;> simp [hkc]) _ _ _ _ ?_)
  rw [hone, hpush, List.forIn_nil]
  refine wpAny_bind (wpAny_pure (wpAny_pure ?_))
  have hz : (s.heap.push { cls := .type "dict", data := .dict #[] }).objs.size = s.heap.objs.size + 1 := Heap.size_push ..
  show Q { scope := scope, locals := s.heap.objs.size, globals := globals, cells := (x, (s.heap.push { cls := .type "dict", data := .dict #[] }).objs.size) :: cl, qual := qual, func := none, code := env.code, frame := env.frame, builtins := env.builtins } _
  rw [hz]
  exact hQ
/-- [elt for x in range(a, b)], x captured by what stands within: x is a cell -/
theorem comp_cell {elt iter : Expr} {x : Str} {px : Pos} {scope : Scope} {cl : List (Str × Addr)} {pos : Pos} {a b : Int} {n : Nat} {P : Nat → Value → Prop} (hh : A.handled = none)
    (_F : Fr h₀ L s.heap m) (_N : News h₀ L s.heap news)
    (hclos : closureFor scope env = pure cl) (hone : ∀ k, cellsFrom k scope.names cl = (x, k) :: cl) (hpush : ∀ h, pushCells h scope.names = h.push { cls := .type "cell", data := .cell none })
    (hkind : scope.kind = .function) (hnames : ∀ y ∈ scope.names, y.2 = .local → scope.names.lookup y.1 = some .local) (hx : (relabel scope env).names.lookup x = some .cell)
    (hs : ∀ x, foldedSetIterable iter env x = pure x) (hsm : Builtin.Range.small a b 1 = true) (hn : Builtin.Range.rangeSize a b 1 = (n : Int)) (hz : n ≤ sizeLine)
    (hiter : ∀ Q' : Value → Shared → Prop, (∀ r h' tk t u v, IsRange h' r a b 1 t u v → Fr h₀ L h' m → News h₀ L h' news → Q' (.ref r) { s with heap := h', toks := tk }) → wpAny (model prog w) A (eval iter env) Q' (fun _ _ => False) s)
    (helt : ∀ i t I oI C oC K oK D ys h tk, i < n → oK.data = .cell (some (.int (a + (i : Int)) t)) → Apart4 I C K D news → Fr h₀ L h m → News h₀ L h ((K, oK) :: (I, oI) :: (C, oC) :: (D, LCg.lst ys) :: news) →
      wpAny (model prog w) A (eval elt (compEnvC scope ((x, K) :: cl) C env)) (EltEnd h₀ L m ((K, oK) :: (I, oI) :: (C, oC) :: (D, LCg.lst ys) :: news) s (P i)) (fun _ _ => False) { s with heap := h, toks := tk })
    (done : ∀ D ys h tk, ys.length = n → (∀ j y, ys[j]? = some y → P j y) → Fr h₀ L h m → News h₀ L h ((D, LCg.lst ys) :: news) → (∀ p ∈ news, @Ne Nat p.1 D) → Q (.ref D) { s with heap := h, toks := tk }) :
    wpAny (model prog w) A (eval (.ListComp elt [⟨.Name x px, iter, [], 0⟩] scope pos) env) Q (fun _ _ => False) s := by
  rw [eval_ListComp]
  refine wpAny_comprehension_free (use := none) rfl hs hclos hkind hnames (hiter _ fun r h' tk t u v hr F N => wpAny_pyIter_range hr hsm ?_)
  have hLs : L < h'.objs.size := F.ns.lt
  have hNs : ∀ p ∈ news, p.1 < h'.objs.size := fun p hp => Heap.lt_size (N p hp).1
  have new₀ : ∀ c, h'.objs.size ≤ c → h₀.get? c = none := fun c hc => ktu_new F hc
  rw [hn]
  generalize hI : h'.objs.size = I at hLs hNs new₀ ⊢
  generalize hH1 : h'.push { cls := .type "range_iterator", data := .fields #[rawInt a, rawInt (n : Int), rawInt 1] } = H1
  have hz1 : H1.objs.size = I + 1 := by rw [← hH1, Heap.size_push, hI]
  have k1 : ∀ b o, h'.get? b = some o → H1.get? b = some o := fun b o e => hH1 ▸ Heap.get?_push_of_some _ e
  have hI1 : IsRangeIter H1 I a (n : Int) 1 := by
    show H1.get? I = _
    rw [← hH1, ← hI]; exact Heap.get?_push_size _ rfl
  refine wpAny_newObj_type ?_
  dsimp only
  generalize hH2 : H1.push { cls := .type "list", dict := none, data := .seq ([] : List Value).toArray } = H2
  have hz2 : H2.objs.size = I + 2 := by rw [← hH2, Heap.size_push, hz1]
  have k2 : ∀ b o, H1.get? b = some o → H2.get? b = some o := fun b o e => hH2 ▸ Heap.get?_push_of_some _ e
  have hD2 : H2.get? (I + 1) = some (LCg.lst []) := by rw [← hH2, ← hz1]; exact Heap.get?_push_size _ rfl
  refine new_comp_env hone hpush ?_
  dsimp only
  generalize hH3 : H2.push { cls := .type "dict", data := .dict #[] } = H3
  have hz3 : H3.objs.size = I + 3 := by rw [← hH3, Heap.size_push, hz2]
  have k3 : ∀ b o, H2.get? b = some o → H3.get? b = some o := fun b o e => hH3 ▸ Heap.get?_push_of_some _ e
  have hC3 : H3.Ns (I + 2) (fun _ => none) := by rw [← hH3, ← hz2]; exact Heap.Ns.new H2 (.type "dict")
  generalize hH4 : H3.push { cls := .type "cell", data := .cell none } = H4
  have k4 : ∀ b o, H3.get? b = some o → H4.get? b = some o := fun b o e => hH4 ▸ Heap.get?_push_of_some _ e
  have hK4 : H4.IsCell (I + 3) none := ⟨_, by rw [← hH4, ← hz3]; exact Heap.get?_push_size _ rfl, rfl⟩
  rw [hz2, hz1]
  have kk : ∀ b o, h'.get? b = some o → H4.get? b = some o := fun b o e => k4 b o (k3 b o (k2 b o (k1 b o e)))
  have hCL : ∀ c, I ≤ c → c ≠ L := fun c hc => Nat.ne_of_gt (Nat.lt_of_lt_of_le hLs hc)
  have ap : Apart4 I (I + 2) (I + 3) (I + 1) news := ⟨by omega, by omega, by omega, by omega, by omega, by omega, fun p hp => by have : @LT.lt Nat _ p.1 I := hNs p hp; omega⟩
  have loop : codeAny (model prog w) A (.compLoop (.ListComp elt [⟨.Name x px, iter, [], 0⟩] scope pos) 0 (.ref I) (.ref (I + 1)) (compEnvC scope ((x, I + 3) :: cl) (I + 2) env))
      (compPost (model prog w) A (fun _ _ => False) none Q (.ref (I + 1)) (I + 2)) { s with heap := H4, toks := tk } := by
    refine codeAny_compLoop_tests
      (fun k s' => ∃ i h tk' ys m' o v₀, s' = { s with heap := h, toks := tk' } ∧ i ≤ n ∧ k = n - i ∧ ys.length = i ∧ IsRangeIter h I (a + (i : Nat) * 1) ((n : Int) - (i : Nat)) 1 ∧ Fr h₀ L h m ∧ h.Ns (I + 2) m' ∧ h.get? (I + 3) = some o ∧ o.data = .cell v₀ ∧ h.get? (I + 1) = some (LCg.lst ys) ∧ News h₀ L h news ∧ ∀ j y, ys[j]? = some y → P j y) ?_ n
      ?_
    · rintro k s' ⟨i, h, tk', ys, m', o, v₀, rfl, hi, rfl, hyl, hr, F', hC, hK, hKd, hD, N', hP⟩
      have stay : ∀ h₂ : Heap, (∀ b o, b ∉ [I] → h.get? b = some o → h₂.get? b = some o) → Fr h₀ L h₂ m ∧ News h₀ L h₂ news := fun h₂ hk =>
        ⟨⟨F'.ns.at' fun o e => hk _ o (fun hm => hCL I (Nat.le_refl _) (List.mem_singleton.mp hm).symm) e, fun b o e => hk b o (fun hm => by rw [List.mem_singleton.mp hm, new₀ I (Nat.le_refl _)] at e; cases e) (F'.keep b o e), F'.above⟩,
          fun p hp => ⟨hk _ _ (fun hm => (ap.off p hp).1 (List.mem_singleton.mp hm)) (N' p hp).1, (N' p hp).2⟩⟩
      have ne1 : ∀ j, j ≠ 0 → I + j ∉ [I] := fun j hj hm => by have : @Eq Nat (I + j) I := List.mem_singleton.mp hm; omega
      rcases Nat.lt_or_eq_of_le hi with hlt | rfl
      · refine (Walks.range hh I a 1 n).item i _ _ _ hlt hr fun v h₂ tk₂ hv hst₂ hk₂ => ?_
        obtain ⟨t, rfl⟩ := hv
        obtain ⟨F₂, N₂⟩ := stay h₂ hk₂
        have hC₂ : h₂.Ns (I + 2) m' := hC.at' fun o e => hk₂ _ o (ne1 2 (by decide)) e
        have hK₂ : h₂.IsCell (I + 3) v₀ := ⟨o, hk₂ _ _ (ne1 3 (by decide)) hK, hKd⟩
        have hD₂ : h₂.get? (I + 1) = some (LCg.lst ys) := hk₂ _ _ (ne1 1 (by decide)) hD
        refine wpAny_assign_Name (wpAny_storeName_cell (c := I + 3) (by show scope.kind = _; exact hkind) hx (by show List.lookup x ((x, I + 3) :: cl) = _; simp) hK₂ fun h₃ hK₃ hs₃ => ?_)
        refine wpAny_tests_nil ?_
        simp only [if_true]
        have k3' : ∀ b o, b ≠ I + 3 → h₂.get? b = some o → h₃.get? b = some o := fun b o hb e => hs₃.extBut b o hb e
        have F₃ : Fr h₀ L h₃ m := F₂.change hs₃ (hCL _ (Nat.le_add_right _ _)) (new₀ _ (Nat.le_add_right _ _))
        obtain ⟨oK, hoK, hoKd⟩ := hK₃
        have e1 : a + (i : Int) * 1 = a + (i : Int) := by rw [Int.mul_one]
        rw [e1] at hoKd
        have hI₃ : IsRangeIter h₃ I (a + ((i + 1 : Nat) : Int) * 1) ((n : Int) - ((i + 1 : Nat) : Int)) 1 := k3' _ _ (by have := ap.ik; exact this) hst₂
        have hC₃ : h₃.Ns (I + 2) m' := hC₂.at' fun o e => k3' _ o (by have := ap.ck; exact this) e
        obtain ⟨oC, hoC, hoCn⟩ := LCg.ns_obj hC₃
        have hD₃ : h₃.get? (I + 1) = some (LCg.lst ys) := k3' _ _ (by have := ap.kd; exact fun e => this e.symm) hD₂
        have N₃ : News h₀ L h₃ ((I + 3, oK) :: (I, _) :: (I + 2, oC) :: (I + 1, LCg.lst ys) :: news) := fun p hp => by
          rcases List.mem_cons.mp hp with rfl | hp
          · exact ⟨hoK, hCL _ (Nat.le_add_right _ _), new₀ _ (Nat.le_add_right _ _)⟩
          · rcases List.mem_cons.mp hp with rfl | hp
            · exact ⟨hI₃, hCL _ (Nat.le_refl _), new₀ _ (Nat.le_refl _)⟩
            · rcases List.mem_cons.mp hp with rfl | hp
              · exact ⟨hoC, hCL _ (Nat.le_add_right _ _), new₀ _ (Nat.le_add_right _ _)⟩
              · rcases List.mem_cons.mp hp with rfl | hp
                · exact ⟨hD₃, hCL _ (Nat.le_add_right _ _), new₀ _ (Nat.le_add_right _ _)⟩
                · exact ⟨k3' _ _ (ap.off p hp).2.2.1 (N₂ p hp).1, (N₂ p hp).2⟩
        refine wpAny_noRaise (wpAny_mono (helt i t I _ (I + 2) oC (I + 3) oK (I + 1) ys h₃ tk₂ hlt hoKd ap F₃ N₃) (fun y s₄ h₄ => ?_) fun _ _ e => e)
        obtain ⟨h₄, tk₄, rfl, F₄, N₄, hPy⟩ := h₄
        have zK := (N₄ _ (.head _)).1
        have zI := (N₄ _ (.tail _ (.head _))).1
        have zC := (N₄ _ (.tail _ (.tail _ (.head _)))).1
        have zD := (N₄ _ (.tail _ (.tail _ (.tail _ (.head _))))).1
        refine append_at (hsz := by show ys.toArray.size ≤ sizeLine; rw [List.size_toArray, hyl]; exact Nat.le_trans hi hz) zD fun h₅ hs₅ hD₅ => ?_
        have k5 : ∀ b o, b ≠ I + 1 → h₄.get? b = some o → h₅.get? b = some o := fun b o hb e => hs₅.extBut b o hb e
        refine ⟨n - (i + 1), by omega, i + 1, h₅, tk₄, ys ++ [y], m', oK, _, rfl, hlt, rfl, by simp [hyl], k5 _ _ (by have := ap.id; exact this) zI, F₄.change hs₅ (hCL _ (Nat.le_add_right _ _)) (new₀ _ (Nat.le_add_right _ _)),
          (hoCn.ns zC).at' fun o e => k5 _ o (by have := ap.cd; exact this) e, k5 _ _ (by have := ap.kd; exact this) zK, hoKd, hD₅.trans (congrArg some (LCg.lst_snoc ys y)), fun p hp => ?_, fun j z hz' => ?_⟩
        · have z := N₄ p (.tail _ (.tail _ (.tail _ (.tail _ hp))))
          exact ⟨k5 _ _ (ap.off p hp).2.2.2 z.1, z.2⟩
        · by_cases hj : j < ys.length
          · rw [List.getElem?_append_left hj] at hz'
            exact hP j z hz'
          · have hj' : j = ys.length := by
              have := (List.getElem?_eq_some_iff.mp hz').1
              simp at this; omega
            subst hj'
            simp at hz'
            rw [hyl, ← hz']
            exact hPy
      · refine (Walks.range hh I a 1 i).done _ _ _ hr fun h₂ tk₂ hk₂ => ?_
        obtain ⟨F₂, N₂⟩ := stay h₂ hk₂
        refine ⟨m', hC.at' fun o e => hk₂ _ o (ne1 2 (by decide)) e, fun h₃ hs₃ => ?_⟩
        refine done (I + 1) ys h₃ tk₂ hyl hP (F₂.change hs₃ (hCL _ (Nat.le_add_right _ _)) (new₀ _ (Nat.le_add_right _ _))) (fun p hp => ?_) fun p hp => (ap.off p hp).2.2.2
        rcases List.mem_cons.mp hp with rfl | hp
        · exact ⟨hs₃.extBut _ _ (by have := ap.cd; exact fun e => this e.symm) (hk₂ _ _ (ne1 1 (by decide)) hD), hCL _ (Nat.le_add_right _ _), new₀ _ (Nat.le_add_right _ _)⟩
        · exact ⟨hs₃.extBut _ _ (ap.off p hp).2.1 (N₂ p hp).1, (N₂ p hp).2⟩
    · refine ⟨0, H4, tk, [], _, _, none, rfl, Nat.zero_le _, rfl, rfl, ?_, F.keeps kk, hC3.keeps k4, hK4.choose_spec.1, hK4.choose_spec.2, k4 _ _ (k3 _ _ hD2), N.grown kk, fun j y e => by simp at e⟩
      show IsRangeIter _ _ _ _ _
      simpa using k4 _ _ (k3 _ _ (k2 _ _ hI1))
  exact codeAny_compStart_list loop ((Walks.range hh I a 1 n).self 0 _ _ _ (by show IsRangeIter _ _ _ _ _; simpa using k4 _ _ (k3 _ _ (k2 _ _ hI1))) loop)
end
end Mine
end
section
namespace Mine
theorem off_M0 : ∃ x : Nat, x = 0 := by
  w_top off
  first | (walk1; fail) | exact ⟨0, rfl⟩
end Mine
open PySem PySem.W PyProof.Rows PySem.Calls
namespace Mine
theorem list_four {α : Type} {l : List α} (h : l.length = 4) : ∃ a b c d, l = [a, b, c, d] := by
  match l, h with
  | [a, b, c, d], _ => exact ⟨a, b, c, d, rfl⟩
def cnt (ns : List Int) (k : Int) : Int := (ns.map (fun m => bit m k)).sum
def rungNo (ns : List Int) (i : Int) : Int := (if cnt ns 12 > i then 1 else 0) + (if cnt ns 13 > i then 2 else 0) + (if cnt ns 14 > i then 4 else 0) + (if cnt ns 15 > i then 8 else 0)
def colS (ns : List Int) (p : Int) : Str :=
  if p = 0 then Txt.join (Str.ofString "") ((List.range ns.length).map (fun i : Nat => kind (rungNo ns (i : Int))))
  else if p.fmod 3 ≠ 0 then Txt.mul (Txt.item (Str.ofString "xrw") (p.fmod 3)) (cnt ns (9 - p)) ++ Txt.mul (Str.ofString "-") ((ns.length : Int) - cnt ns (9 - p))
  else Txt.mul (Txt.item (Str.ofString "sst") (p.fdiv 3 - 1)) (if cnt ns (11 - (p.fdiv 3 - 1)) < cnt ns (9 - p) then cnt ns (11 - (p.fdiv 3 - 1)) else cnt ns (9 - p)) ++ Txt.mul (Str.ofString "x") (cnt ns (9 - p) - cnt ns (11 - (p.fdiv 3 - 1))) ++
    Txt.mul (Txt.item (Str.ofString "SST") (p.fdiv 3 - 1)) (cnt ns (11 - (p.fdiv 3 - 1)) - cnt ns (9 - p)) ++ Txt.mul (Str.ofString "-") ((ns.length : Int) - if cnt ns (11 - (p.fdiv 3 - 1)) > cnt ns (9 - p) then cnt ns (11 - (p.fdiv 3 - 1)) else cnt ns (9 - p))
theorem colS_0 {ns : List Int} {p : Int} (h : p = 0) : Txt.join (Str.ofString "") ((List.range ns.length).map (fun i : Nat => kind (rungNo ns (i : Int)))) = colS ns p := by
  unfold colS; rw [if_pos h]
theorem colS_rw {ns : List Int} {p : Int} (h : p ≠ 0) (h3 : p.fmod 3 ≠ 0) : Txt.mul (Txt.item (Str.ofString "xrw") (p.fmod 3)) (cnt ns (9 - p)) ++ Txt.mul (Str.ofString "-") ((ns.length : Int) - cnt ns (9 - p)) = colS ns p := by
  unfold colS; rw [if_neg h, if_pos h3]
theorem colS_x {ns : List Int} {p : Int} (h : p ≠ 0) (h3 : p.fmod 3 = 0) : Txt.mul (Txt.item (Str.ofString "sst") (p.fdiv 3 - 1)) (if cnt ns (11 - (p.fdiv 3 - 1)) < cnt ns (9 - p) then cnt ns (11 - (p.fdiv 3 - 1)) else cnt ns (9 - p)) ++ Txt.mul (Str.ofString "x") (cnt ns (9 - p) - cnt ns (11 - (p.fdiv 3 - 1))) ++
    Txt.mul (Txt.item (Str.ofString "SST") (p.fdiv 3 - 1)) (cnt ns (11 - (p.fdiv 3 - 1)) - cnt ns (9 - p)) ++ Txt.mul (Str.ofString "-") ((ns.length : Int) - if cnt ns (11 - (p.fdiv 3 - 1)) > cnt ns (9 - p) then cnt ns (11 - (p.fdiv 3 - 1)) else cnt ns (9 - p)) = colS ns p := by
  unfold colS; rw [if_neg h, if_neg (show ¬ p.fmod 3 ≠ 0 from fun x => x h3)]
theorem str_ret {x y : Str} {t : Tok} (h : x = y) : ∃ t', Value.str x t = .str y t' := ⟨t, h ▸ rfl⟩
theorem strs_of_each {ys : List Value} {n : Nat} {f : Nat → Str} (hl : ys.length = n) (h : ∀ (j : Nat) (y : Value), ys[j]? = some y → ∃ t, y = .str (f j) t) : StrsAre ys ((List.range n).map f) := by
  induction ys generalizing n f with
  | nil => subst hl; exact .nil
  | cons y r ih =>
    cases n with
    | zero => cases hl
    | succ n =>
      obtain ⟨t, rfl⟩ := h 0 y rfl
      rw [List.range_succ_eq_map, List.map_cons, List.map_map]
      exact .cons _ t (ih (f := fun j => f (j + 1)) (by simpa using hl) fun j y e => h (j + 1) y (by simpa using e))
theorem bit_le (m k : Int) : 0 ≤ bit m k ∧ bit m k ≤ 1 := by
  unfold bit
  have h1 := Int.fmod_nonneg_of_pos (m.fdiv (2 ^ k.toNat)) (show (0 : Int) < 2 by decide)
  have h2 := Int.fmod_lt_of_pos (m.fdiv (2 ^ k.toNat)) (show (0 : Int) < 2 by decide)
  omega
theorem cnt_le (ns : List Int) (k : Int) : 0 ≤ cnt ns k ∧ cnt ns k ≤ (ns.length : Int) := by
  unfold cnt
  induction ns with
  | nil => simp
  | cons n r ih =>
    have := bit_le n k
    simp only [List.map_cons, List.sum_cons, List.length_cons]
    omega
theorem ints_of_map {ys : List Value} {f : Int → Int} {as : List Int} (h : CarriedAll ys (as.map fun a => PyData.int (f a))) : IntsAre ys (as.map f) := IntsAre.ofCarried (by rw [List.map_map]; exact h)
theorem rung_sum (ns : List Int) (i : Int) : (((rangeInts 0 1 (4 - 0 : Int).toNat).filter (fun a => decide (0 + i < [cnt ns (12 + ((0 : Nat) : Int)), cnt ns (12 + ((1 : Nat) : Int)), cnt ns (12 + ((2 : Nat) : Int)), cnt ns (12 + ((3 : Nat) : Int))].getD a.toNat 0))).map (fun a => (2 : Int) ^ a.toNat)).sum = rungNo ns i := by
  have e : rangeInts 0 1 (4 - 0 : Int).toNat = [0, 1, 2, 3] := by decide
  rw [e]
  unfold rungNo
  have e0 : (12 : Int) + ((0 : Nat) : Int) = 12 := by omega
  have e1 : (12 : Int) + ((1 : Nat) : Int) = 13 := by omega
  have e2 : (12 : Int) + ((2 : Nat) : Int) = 14 := by omega
  have e3 : (12 : Int) + ((3 : Nat) : Int) = 15 := by omega
  rw [e0, e1, e2, e3, Int.zero_add]
  by_cases h0 : i < cnt ns 12 <;> by_cases h1 : i < cnt ns 13 <;> by_cases h2 : i < cnt ns 14 <;> by_cases h3 : i < cnt ns 15 <;> simp [h0, h1, h2, h3, List.filter_cons]
theorem rung_le (ns : List Int) (i : Int) : 0 ≤ rungNo ns i ∧ rungNo ns i ≤ 15 := by
  unfold rungNo
  (repeat' split) <;> omega
theorem item_len (x : Str) (i : Int) : (Txt.item x i).length = 1 := rfl
theorem mul_len {x : Str} (n : Int) (hx : x.length = 1) : (Txt.mul x n).length = n.toNat := by
  obtain ⟨c⟩ := x
  have : ∃ d, c = #[d] := by
    have h : c.size = 1 := hx
    exact ⟨c[0], by apply Array.ext; · simp [h]
                    · intro i h1 h2; simp at h2; subst h2; rfl⟩
  obtain ⟨d, rfl⟩ := this
  have := congrArg List.length (mul_one_list d n)
  rw [Array.length_toList, List.length_replicate] at this
  exact this
section
variable {prog : Program} {w : World} {A : Around} {E : Value → Shared → Prop} {s : Shared} {x y : Str} {t u : Tok} {Q : Value → Shared → Prop}
theorem mul_rule {n : Int} (hx : x.length = 1) (hlo : -1000 ≤ n) (hhi : n ≤ 1000) (h : ∀ t' k, (Txt.mul x n).length ≤ 1000 → Q (.str (Txt.mul x n) t') { s with toks := k }) : wpAny (model prog w) A (binaryOp .Mult (.str x t) (.int n u)) Q E s :=
  SB.mul (mulOk_of 1 1000 (Nat.le_of_eq hx) hhi (by omega) (by decide) (by decide)) fun t' k => h t' k (by rw [mul_len n hx]; omega)
theorem add_rule (hx : x.length ≤ 10000) (hy : y.length ≤ 10000) (h : ∀ t' k, (x ++ y).length ≤ x.length + y.length → Q (.str (x ++ y) t') { s with toks := k }) : wpAny (model prog w) A (binaryOp .Add (.str x t) (.str y u)) Q E s :=
  SB.add (fun t' k => h t' k (by rw [Str.length_append]; omega)) (Nat.le_trans (Nat.add_le_add hx hy) (by decide))
end
end Mine
end
section
namespace Mine
theorem off_M1 : ∃ x : Nat, x = 0 := by
  w_top off
  first | (walk1; fail) | exact ⟨0, rfl⟩
end Mine
open PySem PySem.W PyProof.Rows PySem.Calls
namespace Mine
local macro_rules | `(tactic| walk_at "call ref") => `(tactic| (k_here; (with_reducible show wpAny _ _ (call (Value.ref 75) _) _ _ _); (refine' con_pure (c_bit _ _ _ _ _ ?h0 ?h1) ?B ?F ?X ?N ?T ?hk trivial ?hd ?hu ?_; (case h0 => omega); (case h1 => omega); (case B => k_asm); (case F => k_asm); (case X => k_asm); (case N => k_asm); (case T => k_asm); (case hk => exact rfl); (case hd => omega); (case hu => omega)); (intro r' h' tk' hr' F' N'); (obtain ⟨t9, e9⟩ := hr'); (subst e9)))
local macro_rules | `(tactic| walk_at "call ref") => `(tactic| (k_here; (with_reducible show wpAny _ _ (call (Value.ref 89) _) _ _ _); (refine' con_pure (c_kind _ _ _ ?h0 ?h1) ?B ?F ?X ?N ?T ?hk trivial ?hd ?hu ?_; (case h0 => omega); (case h1 => omega); (case B => k_asm); (case F => k_asm); (case X => k_asm); (case N => k_asm); (case T => k_asm); (case hk => exact rfl); (case hd => omega); (case hu => omega)); (intro r' h' tk' hr' F' N'); (obtain ⟨t9, e9⟩ := hr'); (subst e9)))
local macro_rules | `(tactic| walk_at "binaryOp Mult str int") => `(tactic| ((refine mul_rule (by first | exact item_len _ _ | decide) (by omega) (by omega) ?_); (intro _ _ _)))
local macro_rules | `(tactic| walk_at "binaryOp Add str str") => `(tactic| ((refine add_rule (by omega) (by omega) ?_); (intro _ _ _)))
set_option maxHeartbeats 8000000 in
theorem c_col (w : World) (l : Addr) (vs : List Value) (ns : List Int) (n : Nat) (p : Int) (u : Tok) (hi : IntsAre vs ns) (hz : ns.length ≤ 100) (hp0 : 0 ≤ p) (hp1 : p ≤ 9) :
    Con w 2 101 [.ref l, .int p u] (fun h => h.get? l = some (listOf vs.toArray n)) [] (fun r made => made = [] ∧ ∃ t, r = .str (colS ns p) t) := by
  refine' Con.introC (binds := [(Str.ofString "modes", .ref l), (Str.ofString "place", .int p u)]) ?ho ?hcd ?hbind ?hkind ?hnd ?hco ?hgen ?hk ?hR ?_
  (case ho => k_dflt k_is)
  (case hcd => k_dflt k_is)
  (case hbind => intro s; exact BindsTo.of_eq rfl)
  (case hkind => exact rfl)
  (case hnd => decide)
  (case hco => exact rfl)
  (case hgen => exact rfl)
  (case hk => exact rfl)
  case hR => exact fun h h' k x => k _ _ (fun _ hp => nomatch hp) x
  intro pr loose mean mg mb dp un gd outer A base g L cells s₁ B F X N Y T hR hlt hd hu
  k_cells Y
  simp only [List.cons_append, List.nil_append, List.append_nil] at N
  have hlist : g.IsList l vs.toArray := ⟨_, hR, rfl, _, rfl⟩
  obtain ⟨hc1, hc2⟩ := cnt_le ns (9 - p)
  obtain ⟨hc3, hc4⟩ := cnt_le ns (11 - (p.fdiv 3 - 1))
  simp only [cnt] at hc1 hc2 hc3 hc4
  have hq3 : p.fdiv 3 = p / 3 := Int.fdiv_eq_ediv_of_nonneg p (by omega)
  have hr3 : p.fmod 3 = p % 3 := Int.fmod_eq_emod_of_nonneg p (by omega)
  k_steps
  · rename Fr _ _ _ _ => F1
    rename News _ _ _ _ => N1
    refine comp_cell (a := 0) (b := 4) (n := 4) (P := fun i y => ∃ t, y = .int (cnt ns (12 + (i : Int))) t) rfl F1 N1 rfl (fun _ => rfl) (fun _ => rfl) rfl (by decide) rfl (fun _ => rfl) (by decide) (by decide) (by decide) ?hiter ?helt ?done
    case hiter => 
      intro Q' hQ
      k_steps
      exact hQ _ _ _ _ _ _ (by assumption) (by k_asm) (by k_asm)
    case helt =>
      intro i t I oI C oC K oK D ys h tk hin hK ap F9 N9
      k_steps
      rw [show (12 : Int) + (0 + (i : Int)) = 12 + (i : Int) by omega]
      exact elt_end (by k_asm) (by first | k_asm | exact news_sub (by k_asm) (fun p hp => .tail _ hp)) ⟨_, rfl⟩
    case done =>
      intro D ys h tk hyl hys F9 N9 hDn
      obtain ⟨y0, y1, y2, y3, rfl⟩ := list_four hyl
      obtain ⟨t0, rfl⟩ := hys 0 y0 rfl
      obtain ⟨t1, rfl⟩ := hys 1 y1 rfl
      obtain ⟨t2, rfl⟩ := hys 2 y2 rfl
      obtain ⟨t3, rfl⟩ := hys 3 y3 rfl
      clear hys hyl
      have hd1 : @Ne Nat (L + 1) D := (hDn _ (.tail _ (.tail _ (.tail _ (.head _)))))
      have hd2 : @Ne Nat (L + 1 + 1) D := (hDn _ (.tail _ (.tail _ (.head _))))
      have hd3 : @Ne Nat (L + 1 + 1 + 1) D := (hDn _ (.tail _ (.head _)))
      have hd4 : @Ne Nat (L + 1 + 1 + 1 + 1) D := (hDn _ (.head _))
      k_steps
      rename Fr _ _ _ _ => F1
      rename News _ _ _ _ => N1
      refine comp_cell (a := 0) (b := (ns.length : Int)) (n := ns.length) (P := fun i y => ∃ t, y = .str (kind (rungNo ns (i : Int))) t) rfl F1 N1 rfl (fun _ => rfl) (fun _ => rfl) rfl (by decide) rfl (fun _ => rfl) (small_one (by omega) (by omega) (by omega) (by omega)) (by rw [rangeSize_nat]; omega) ?hz2 ?hiter2 ?helt2 ?done2
      case hz2 => exact Nat.le_trans hz (show 100 ≤ sizeLine by decide)
      case hiter2 => 
        intro Q' hQ
        k_steps
        exact hQ _ _ _ _ _ _ (by assumption) (by k_asm) (by k_asm)
      case helt2 =>
        intro i t I oI C oC K oK D ys h tk hin hK ap F9 N9
        k_steps
        rename CarriedAll _ _ => hc9
        rename Heap.IsList _ _ _ => hl9
        have hi9 := ints_of_map hc9
        refine LSm.sum_ints (by k_asm) (by k_asm) rfl hl9 hi9 ?_
        intro h8 tk8 t8 F8 N8
        have hsum := rung_sum ns (i : Int)
        rw [hsum]
        obtain ⟨hr0, hr1⟩ := rung_le ns (i : Int)
        clear hi9 hc9 hl9
        k_steps
        exact elt_end (by k_asm) (by first | k_asm | exact news_sub (by k_asm) (fun p hp => .tail _ hp)) ⟨_, rfl⟩
      case done2 =>
        intro D2 ys h tk hyl hys F9 N9 hDn2
        have hstr := strs_of_each hyl hys
        k_steps
        refine join_listW (ys := (List.range ns.length).map (fun i : Nat => kind (rungNo ns (i : Int)))) (x := Str.ofString "") (News.isList N9 (.head _)) hstr (by decide) ?_ ?_
        · rw [sum_ones (by intro x hx; obtain ⟨i, _, rfl⟩ := List.mem_map.mp hx; rfl)]
          simp; omega
        · intro t' k
          k_steps
          exact body_ret (by k_asm) News.nil ⟨rfl, str_ret (colS_0 (by assumption))⟩
  · exact body_ret (by k_asm) News.nil ⟨rfl, str_ret (colS_rw (by assumption) (by assumption))⟩
  · refine body_ret (by k_asm) News.nil ⟨rfl, str_ret (colS_x (by assumption) ?_)⟩
    omega
end Mine
end
section
namespace Mine
theorem off_G2 : ∃ x : Nat, x = 0 := by
  w_top off
  first | (walk1; fail) | exact ⟨0, rfl⟩
end Mine
open PySem PySem.W PyProof.Rows PySem.Calls
namespace Mine
/-- a place where the walk is to halt -/
def Halt (P : Prop) : Prop := P
theorem halt {P : Prop} (h : Halt P) : P := h
/-- an element's end: the ledger as it stood, the value told -/
def ElIs (news : List (Addr × Obj)) (P : Value → Prop) (y : Value) (news' : List (Addr × Obj)) : Prop := news' = news ∧ P y
section
variable {prog : Program} {w : World} {A : Around} {h₀ : Heap} {L : Addr} {m : Str → Option Value} {env : Env} {elt : Expr} {x : Str} {scope : Scope} {cl : List (Str × Addr)} {Fin : Shared → List Value → List (Addr × Obj) → Prop} {ax : Addr} {its : Array Value} {news : List (Addr × Obj)} {s₁ : Shared}
theorem comp_src (P : Nat → Value → Prop) (hh : A.handled = none) (F : Fr h₀ L s₁.heap m) (N : News h₀ L s₁.heap news) (hsrc : LCg.SrcAt h₀ ax its news) (hsz : its.size ≤ sizeLine)
    (helt : ∀ i v I oI C oC D m₂ ys s₂ h tk (E' : Value → Shared → Prop), (∃ h, s₂ = { s₁ with heap := h }) → its[i]? = some v → LCg.NsObj oC m₂ → m₂ x = some v → Fr h₀ L h m → News h₀ L h ((I, oI) :: (C, oC) :: (D, LCg.lst ys) :: news) → LCg.Off3 I C D news → ((@Ne Nat I C) ∧ (@Ne Nat I D) ∧ (@Ne Nat C D)) →
      wpAny (model prog w) A (eval elt (compEnvC scope cl C env)) (LCg.CompEnd h₀ L m { s₂ with heap := h, toks := tk } I oI C oC D (LCg.lst ys) (LCg.SrcAt h₀ ax its) (fun y news' => ElIs news (P i) y news')) E' { s₂ with heap := h, toks := tk })
    (fin : ∀ s₂ ys, (∃ h, s₂ = { s₁ with heap := h }) → ys.length = its.size → (∀ (j : Nat) y, ys[j]? = some y → P j y) → Fin s₂ ys news) :
    LCg.CompSrc prog w A h₀ L m env elt x scope cl Fin (.ref ax) s₁ := by
  refine .inl ⟨ax, its, news, rfl, hh, F, N, hsrc, hsz, fun s₂ hs₂ => ?_⟩
  have key : ∀ (j i : Nat) (ys : List Value), i + j = its.size → ys.length = i → (∀ (k : Nat) y, ys[k]? = some y → P k y) → LCg.CompRest prog w A h₀ L m env elt x scope cl s₂ (LCg.SrcAt h₀ ax its) (fun i v => its[i]? = some v) (Fin s₂) j i ys news := by
    intro j
    induction j with
    | zero =>
      intro i ys hi hl hP
      exact LCg.CompRest.zero (fin s₂ ys hs₂ (by omega) hP)
    | succ j ih =>
      intro i ys hi hl hP
      refine LCg.CompRest.succ ?_
      intro v I oI C oC D m₂ h tk E' hv hC hx F' N' off ne
      refine wpAny_mono (helt i v I oI C oC D m₂ ys s₂ h tk E' hs₂ hv hC hx F' N' off ne) (fun y s₃ hq => ?_) fun _ _ e => e
      obtain ⟨h', tk', nw, e, F₃, N₃, off', hS, hn, hPy⟩ := hq
      rw [hn] at N₃ off' hS
      refine ⟨h', tk', news, e, F₃, N₃, off', hS, ih (i + 1) _ (by omega) (by simp [hl]) fun k z hz => ?_⟩
      by_cases hk : k < ys.length
      · rw [List.getElem?_append_left hk] at hz
        exact hP k z hz
      · have hk' : k = ys.length := by
          have := (List.getElem?_eq_some_iff.mp hz).1
          simp at this; omega
        subst hk'
        simp at hz
        rw [hl, ← hz]
        exact hPy
  exact key its.size 0 [] (by omega) rfl (fun k y e => by simp at e)
end
section
variable {prog : Program} {w : World} {A : Around} {E : Value → Shared → Prop} {s : Shared} {h₀ : Heap} {L : Addr} {m : Str → Option Value} {Q : Value → Shared → Prop} {news : List (Addr × Obj)}
/-- list(text) -/
theorem list_text {x : Str} {t : Tok} (hh : A.handled = none) (F : Fr h₀ L s.heap m) (N : News h₀ L s.heap news) (hz : x.length ≤ 10000)
    (h : ∀ D us c h' tk, StrsAre us (signs x) → Fr h₀ L h' m → News h₀ L h' ((D, listOf us.toArray c) :: news) → (∀ p ∈ news, p.1 < D) → Q (.ref D) { s with heap := h', toks := tk }) :
    wpAny (model prog w) A (call (.type "list") [.str x t]) Q E s := by
  refine call_list_str hh x t (hn := Nat.le_trans hz (show 10000 ≤ sizeLine by decide)) fun h' tk acc' c' hk hS' hacc => ?_
  have hc : CarriedAll acc'.toList ((signs x).map PyData.str) := carriedAll_of_get _ _ (by simp [hacc.1, signs]) fun j v hv => by
    obtain ⟨c, u, hc, rfl⟩ := hacc.2 j v (by simpa using hv)
    exact ⟨.str ⟨#[c]⟩, by simp [signs, hc], .str _ _⟩
  refine h s.heap.objs.size acc'.toList c' h' tk (StrsAre.ofCarried hc) (F.keeps hk) (fun p hp => ?_) fun p hp => Heap.lt_size (N p hp).1
  rcases List.mem_cons.mp hp with rfl | hp
  · refine ⟨by simpa using hS', Nat.ne_of_gt F.ns.lt, next_is_new F⟩
  · exact ⟨hk _ _ (N p hp).1, (N p hp).2⟩
theorem strs_rev : ∀ {vs : List Value} {xs : List Str}, StrsAre vs xs → StrsAre vs.reverse xs.reverse
  | _, _, .nil => .nil
  | _, _, .cons y t r => by
    rw [List.reverse_cons, List.reverse_cons]
    exact StrsAre.append' (strs_rev r) (.cons y t .nil)
theorem rev_strs {l : Addr} {value slice : PySem.Expr} {vs : List Value} {xs : List Str} {vk : Value} {ops : List Value} (F : Fr h₀ L s.heap m) (N : News h₀ L s.heap news) (hl : s.heap.IsList l vs.toArray) (pk : IsPart vk (some (-1))) (hi : StrsAre vs xs) (hz : xs.length ≤ 1000)
    (h : ∀ D ws h', Fr h₀ L h' m → News h₀ L h' ((D, listOf (List.toArray ws) 0) :: news) → (∀ p ∈ news, p.1 < D) → StrsAre ws xs.reverse → Q (.ref D) { s with heap := h' })
    (hs : subscripted slice false (.ref l) (.ref s.heap.objs.size) = operate ops (getItem (.ref l) (.ref s.heap.objs.size))) (ht : ∀ r, letTemporaryGo value (.ref l) r = pure ()) :
    wpAny (model prog w) A (subscriptTail value slice (.ref l) (.ref s.heap.objs.size)) Q E { s with heap := s.heap.push { cls := .type "slice", data := .fields #[.none, .none, vk] } } :=
  krv_lit (its := vs.toArray) (zs := vs.reverse) F N hl pk rfl (fun D h' F' N' l1 => h D vs.reverse h' F' N' l1 (strs_rev hi)) hs ht (by rw [List.size_toArray, hi.length]; exact Nat.le_trans hz (show 1000 ≤ sizeLine by decide))
end
theorem signs_one {x : Str} (h : x.length = 1) : signs x = [x] := by
  obtain ⟨c⟩ := x
  have h' : c.size = 1 := h
  have e : c.toList = [c[0]] := by
    apply List.ext_getElem
    · simp [h']
    · intro i h1 h2; simp at h2; subst h2; simp
  unfold signs
  simp only [e, List.map_cons, List.map_nil]
  congr 2
  apply Array.toList_inj.mp
  simpa using e.symm
theorem signs_app (x y : Str) : signs (x ++ y) = signs x ++ signs y := by
  unfold signs
  rw [Str.cps_append]
  simp
theorem signs_join : ∀ {l : List Str}, (∀ x ∈ l, x.length = 1) → signs (Txt.join (Str.ofString "") l) = l
  | [], _ => rfl
  | [x], h => by
    show signs x = [x]
    exact signs_one (h x (.head _))
  | x :: y :: r, h => by
    have ih := signs_join (l := y :: r) fun z hz => h z (.tail _ hz)
    have e : Txt.join (Str.ofString "") (x :: y :: r) = x ++ Str.ofString "" ++ Txt.join (Str.ofString "") (y :: r) := by
      unfold Txt.join
      rw [StrLaws.glued_eq_join, StrLaws.glued_eq_join]
      rfl
    rw [e, signs_app, signs_app, ih, signs_one (h x (.head _))]
    rfl
end Mine
end
section
namespace Mine
theorem off_N1 : ∃ x : Nat, x = 0 := by
  w_top off
  first | (walk1; fail) | exact ⟨0, rfl⟩
end Mine
open PySem PySem.W PyProof.Rows PySem.Calls
namespace Mine
theorem kind_lo {ns : List Int} {m : Int} (h : ∀ m ∈ ns, 0 ≤ m ∧ m < 65536) (hm : m ∈ ns) : 0 ≤ m.fdiv 4096 := by
  have := h m hm
  rw [Int.fdiv_eq_ediv_of_nonneg m (by omega)]; omega
theorem kind_hi {ns : List Int} {m : Int} (h : ∀ m ∈ ns, 0 ≤ m ∧ m < 65536) (hm : m ∈ ns) : m.fdiv 4096 ≤ 15 := by
  have := h m hm
  rw [Int.fdiv_eq_ediv_of_nonneg m (by omega)]; omega
local macro_rules | `(tactic| walk_at "call ref") => `(tactic| (k_here; (with_reducible show wpAny _ _ (call (Value.ref 75) _) _ _ _); (refine' con_pure (c_bit _ _ _ _ _ ?h0 ?h1) ?B ?F ?X ?N ?T ?hk trivial ?hd ?hu ?_; (case h0 => omega); (case h1 => omega); (case B => k_asm); (case F => k_asm); (case X => k_asm); (case N => k_asm); (case T => k_asm); (case hk => exact rfl); (case hd => omega); (case hu => omega)); (intro r' h' tk' hr' F' N'); (obtain ⟨t9, e9⟩ := hr'); (subst e9)))
local macro_rules | `(tactic| walk_at "call ref") => `(tactic| (k_here; (with_reducible show wpAny _ _ (call (Value.ref 89) _) _ _ _); (refine' con_pure (c_kind _ _ _ ?h0 ?h1) ?B ?F ?X ?N ?T ?hk trivial ?hd ?hu ?_; (case h0 => first | omega | exact kind_lo (by assumption) (by assumption)); (case h1 => first | omega | exact kind_hi (by assumption) (by assumption)); (case B => k_asm); (case F => k_asm); (case X => k_asm); (case N => k_asm); (case T => k_asm); (case hk => exact rfl); (case hd => omega); (case hu => omega)); (intro r' h' tk' hr' F' N'); (obtain ⟨t9, e9⟩ := hr'); (subst e9)))
local macro_rules | `(tactic| walk_at "call ref") => `(tactic| (k_here; (with_reducible show wpAny _ _ (call (Value.ref 101) _) _ _ _); (refine' con_pure (c_col _ _ _ _ _ _ _ ?hi ?hz ?h0 ?h1) ?B ?F ?X ?N ?T ?hk ?hR ?hd ?hu ?_; (case F => k_asm); (case hR => exact Fr.keep (by k_asm) _ _ (by assumption)); (case hi => assumption); (case hz => assumption); (case h0 => omega); (case h1 => omega); (case B => k_asm); (case X => k_asm); (case N => k_asm); (case T => k_asm); (case hk => exact rfl); (case hd => omega); (case hu => omega)); (intro r' h' tk' hr' F' N'); (obtain ⟨t9, e9⟩ := hr'); (subst e9)))
local macro_rules | `(tactic| walk_at "binaryOp Mult str int") => `(tactic| ((refine mul_rule (by first | exact item_len _ _ | decide) (by omega) (by omega) ?_); (intro _ _ _)))
local macro_rules | `(tactic| walk_at "binaryOp Add str str") => `(tactic| ((refine add_rule (by omega) (by omega) ?_); (intro _ _ _)))
def kindsOf (ns : List Int) : List Str := ns.map (fun m => kind (m.fdiv 4096))
theorem strs_of_map {ys : List Value} {ns : List Int} {f : Int → Str} (hl : ys.length = ns.length) (h : ∀ (j : Nat) (y : Value), ys[j]? = some y → ∃ m t, ns[j]? = some m ∧ y = .str (f m) t) : StrsAre ys (ns.map f) := by
  induction ys generalizing ns with
  | nil => cases ns with
    | nil => exact .nil
    | cons _ _ => cases hl
  | cons y r ih => cases ns with
    | nil => cases hl
    | cons m ns =>
      obtain ⟨m', t, e, rfl⟩ := h 0 y rfl
      cases e
      exact .cons _ t (ih (by simpa using hl) fun j y e => h (j + 1) y (by simpa using e))
theorem colS_signs0 (ns : List Int) : signs (colS ns 0) = (List.range ns.length).map (fun i : Nat => kind (rungNo ns (i : Int))) := by
  rw [← colS_0 rfl, signs_join]
  intro x hx
  obtain ⟨i, _, rfl⟩ := List.mem_map.mp hx
  rfl
theorem colS_len0 (ns : List Int) : (colS ns 0).length = ns.length := by
  rw [← signs_length, colS_signs0, List.length_map, List.length_range]
local macro_rules | `(tactic| walk_at "call type:list") => `(tactic| ((with_reducible show wpAny _ _ (call (Value.type "list") [Value.str _ _]) _ _ _); (refine list_text rfl (by k_asm) (by k_asm) (by omega) ?_); (intro D' us' c' h' tk' hus' F' N' l1); (try k_lt l1)))
local macro_rules | `(tactic| walk_at "subscriptTail Name Slice ref ref") => `(tactic| (k_here; (with_reducible show wpAny _ _ (subscriptTail _ (PySem.Expr.Slice none none (some _) _) (Value.ref _) (Value.ref _)) _ _ _); k_dflt (refine' rev_strs ?F ?N ?l ?k ?i ?z ?_ ?s ?t; (case F => k_asm); (case N => k_asm); (case l => exact News.isList (by k_asm) (by k_mem)); (case k => exact IsPart.int _ _); (case i => assumption); (case z => omega); (case s => with_unfolding_all rfl); (case t => kmk_pure)); (intro D' ws' h' F' N' l1 hI'); (try k_lt l1)))
local macro_rules | `(tactic| walk_at "call ref") => `(tactic| (k_here; (with_reducible show wpAny _ _ (call (Value.ref 96) _) _ _ _); (refine' con_made (c_over _ _ _ _ _ _ _ ?hx ?hy _ _ ?hz) ?B ?F ?X ?N ?T ?hk ?hR ?hd ?hu ?_; (case F => k_asm); (case N => k_asm); (case hR => exact ⟨News.get (by k_asm) (by k_mem), News.get (by k_asm) (by k_mem)⟩); (case hx => assumption); (case hy => assumption); (case hz => first | omega | (simp only [List.length_reverse]; omega)); (case B => k_asm); (case X => k_asm); (case T => k_asm); (case hk => exact rfl); (case hd => omega); (case hu => omega)); (intro r' made' h' tk' hp' F' N' ne'); (obtain ⟨ov', us', k', e1, e2, hus'⟩ := hp'); (subst e1); (subst e2); (simp only [List.cons_append, List.nil_append] at N')))
local macro_rules | `(tactic| walk_at "CompSrc") => `(tactic| ((with_reducible show LCg.CompSrc _ _ _ _ _ _ _ (Expr.Call (Expr.Name (Str.ofString "_law_kind") _) _ _ _) _ _ _ _ _ _); (refine halt ?_)))
local macro_rules | `(tactic| walk_at "CompSrc") => `(tactic| ((with_reducible show LCg.CompSrc _ _ _ _ _ _ _ (Expr.Subscript (Expr.Name (Str.ofString "signs") _) _ _) _ _ _ _ _ _); (refine halt ?_)))
def signsT (p : Int) : Str := Str.ofString "-x" ++ Txt.item (Str.ofString "SST") (p.fdiv 3 - 1) ++ Txt.item (Str.ofString "sst") (p.fdiv 3 - 1)
def shownAt (p m : Int) : Str := Txt.item (signsT p) (bit m (9 - p) + 2 * bit m (11 - (p.fdiv 3 - 1)))
def pairsT (ns : List Int) (p : Int) : Int := if (((ns.map (shownAt p)).count (Txt.item (signsT p) 2) : Nat) : Int) < (((ns.map (shownAt p)).count (Txt.item (signsT p) 1) : Nat) : Int) then (((ns.map (shownAt p)).count (Txt.item (signsT p) 2) : Nat) : Int) else (((ns.map (shownAt p)).count (Txt.item (signsT p) 1) : Nat) : Int)
def lostStep (S : Str) (pr : Int) (acc : List Str) (x : Str) : List Str := if Txt.contains (Txt.slice S (some 1) (some 3)) x = true ∧ (acc.count x : Int) < pr then acc ++ [x] else acc
theorem lost_in {S : Str} {pr : Int} {acc : List Str} {x : Str} (h : (Builtin.Str.occurrences (Txt.slice S (some 1) (some 3)) x 0 (Txt.slice S (some 1) (some 3)).length 1).isEmpty = false) (h2 : (acc.count x : Int) < pr) : lostStep S pr acc x = acc ++ [x] := by
  unfold lostStep; rw [if_pos ⟨by unfold Txt.contains; rw [h]; rfl, h2⟩]
theorem lost_out1 {S : Str} {pr : Int} {acc : List Str} {x : Str} (h : (Builtin.Str.occurrences (Txt.slice S (some 1) (some 3)) x 0 (Txt.slice S (some 1) (some 3)).length 1).isEmpty = true) : lostStep S pr acc x = acc := by
  unfold lostStep; rw [if_neg (fun hc => by have := hc.1; unfold Txt.contains at this; rw [h] at this; cases this)]
theorem lost_out2 {S : Str} {pr : Int} {acc : List Str} {x : Str} (h2 : ¬ (acc.count x : Int) < pr) : lostStep S pr acc x = acc := by
  unfold lostStep; rw [if_neg (fun hc => h2 hc.2)]
theorem fold_more {α β : Type} {f : β → α → β} {b : β} {xs : List α} {i : Nat} {x : α} (h : xs[i]? = some x) : (xs.take (i + 1)).foldl f b = f ((xs.take i).foldl f b) x := by
  rw [List.take_add_one, h, Option.toList_some, List.foldl_append]; rfl
theorem pairs_le (ns : List Int) (p : Int) : 0 ≤ pairsT ns p ∧ pairsT ns p ≤ (ns.length : Int) := by
  unfold pairsT
  have h1 : (ns.map (shownAt p)).count (Txt.item (signsT p) 1) ≤ ns.length := by
    have := List.count_le_length (a := Txt.item (signsT p) 1) (l := ns.map (shownAt p)); simpa using this
  have h2 : (ns.map (shownAt p)).count (Txt.item (signsT p) 2) ≤ ns.length := by
    have := List.count_le_length (a := Txt.item (signsT p) 2) (l := ns.map (shownAt p)); simpa using this
  split <;> omega
def lostT (ns : List Int) (p : Int) : List Str := (ns.map (shownAt p)).foldl (lostStep (signsT p) (pairsT ns p)) []
def lastT (ns : List Int) (p : Int) : Str := Txt.mul (Txt.item (signsT p) 3) (pairsT ns p) ++ Txt.mul (Str.ofString "-") (pairsT ns p)
theorem off_five {a b c d e I : Addr} {o1 o2 o3 o4 o5 : Obj} (h1 : @Ne Nat a I) (h2 : @Ne Nat b I) (h3 : @Ne Nat c I) (h4 : @Ne Nat d I) (h5 : @Ne Nat e I) : ∀ p ∈ [(a, o1), (b, o2), (c, o3), (d, o4), (e, o5)], p.1 ∉ [I] := by
  intro p hp hm
  have hm := List.mem_singleton.mp hm
  rcases List.mem_cons.mp hp with rfl | hp
  · exact h1 hm
  · rcases List.mem_cons.mp hp with rfl | hp
    · exact h2 hm
    · rcases List.mem_cons.mp hp with rfl | hp
      · exact h3 hm
      · rcases List.mem_cons.mp hp with rfl | hp
        · exact h4 hm
        · rw [List.mem_singleton.mp hp] at hm; exact h5 hm
def diffA (ns : List Int) (p : Int) : List Str :=
  if p = 0 then overTo (kindsOf ns).reverse (signs (colS ns 0)) (kindsOf ns).reverse.length else if p.fmod 3 ≠ 0 then [] else (lostT ns p).reverse
def diffB (ns : List Int) (p : Int) : List Str :=
  if p = 0 then overTo (signs (colS ns 0)) (kindsOf ns) (signs (colS ns 0)).length else if p.fmod 3 ≠ 0 then [] else signs (lastT ns p)
theorem item_rule {prog : Program} {w : World} {A : Around} {E : Value → Shared → Prop} {s : Shared} {x : Str} {t u : Tok} {i : Int} {n : Nat} {value slice : PySem.Expr} {Q : Value → Shared → Prop} (hk : x.length = n) (hz : n ≤ 1000) (h0 : 0 ≤ i) (h1 : i < (n : Int))
    (h : Q (.str (Txt.item x i) s.toks) { s with toks := s.toks + 1 })
    (hs : subscripted slice false (.str x t) (.int i u) = operate [.str x t, .int i u] (getItem (.str x t) (.int i u)) := by with_unfolding_all rfl) (ht : ∀ r, letTemporaryGo value (.str x t) r = pure () := by intro _; with_unfolding_all rfl) :
    wpAny (model prog w) A (subscriptTail value slice (.str x t) (.int i u)) Q E s :=
  KXi.item hk (by omega) h1 (by omega) (fun _ => h) hs ht
local macro_rules | `(tactic| walk_at "subscriptTail") => `(tactic| (k_here; (with_reducible show wpAny _ _ (subscriptTail _ _ (Value.str _ _) (Value.int _ _)) _ _ _); (refine' item_rule ?k1 ?k0 ?k2 ?k3 ?_ ?k4 ?k5; (case k1 => assumption); (case k0 => decide); (case k2 => omega); (case k3 => omega); (case k4 => with_unfolding_all rfl); (case k5 => (intro _; with_unfolding_all rfl)))))
theorem count_callN {prog : Program} {w : World} {A : Around} {E : Value → Shared → Prop} {s : Shared} {h₀ : Heap} {L l : Addr} {news : List (Addr × Obj)} {n : Nat} {vs : List Value} {ys : List Str} {x : Str} {t : Tok} {Q : Value → Shared → Prop} (N : News h₀ L s.heap news) (hm : (l, listOf vs.toArray n) ∈ news) (hy : StrsAre vs ys) (h : Q (.int ((ys.count x : Nat) : Int) s.toks) { s with toks := s.toks + 1 }) :
    wpAny (model prog w) A (call (.builtin "list.count") [.ref l, .str x t]) Q E s :=
  count_list_strs ⟨_, (N _ hm).1, rfl, _, rfl⟩ hy (by rw [countIn_strs]; exact h)
local macro_rules | `(tactic| walk_at "call builtin:list.count") => `(tactic| ((with_reducible show wpAny _ _ (call (Value.builtin "list.count") [Value.ref _, Value.str _ _]) _ _ _); (k_dflt (refine' count_callN ?N ?m ?y ?_; (case N => k_asm); (case m => k_mem); (case y => assumption)))))
local macro_rules | `(tactic| walk_at "exec For Name Name cons nil") => `(tactic| (refine halt ?_))
set_option maxHeartbeats 8000000 in
theorem c_diff (w : World) (l : Addr) (vs : List Value) (ns : List Int) (n : Nat) (p : Int) (u : Tok) (hi : IntsAre vs ns) (hz : ns.length ≤ 100) (hrng : ∀ m ∈ ns, 0 ≤ m ∧ m < 65536) (hp0 : 0 ≤ p) (hp1 : p ≤ 9) :
    Con w 3 106 [.ref l, .int p u] (fun h => h.get? l = some (listOf vs.toArray n)) [] (fun r made => ∃ tp la lb us ws k1 k2 k3, r = .ref tp ∧ made = [(tp, { cls := .type "tuple", data := .seq #[.ref la, .ref lb] k1 }), (la, listOf us k2), (lb, listOf ws k3)] ∧ StrsAre us.toList (diffA ns p) ∧ StrsAre ws.toList (diffB ns p)) := by
  refine' Con.introC (binds := [(Str.ofString "modes", .ref l), (Str.ofString "place", .int p u)]) ?ho ?hcd ?hbind ?hkind ?hnd ?hco ?hgen ?hk ?hR ?_
  (case ho => k_dflt k_is)
  (case hcd => k_dflt k_is)
  (case hbind => intro s; exact BindsTo.of_eq rfl)
  (case hkind => exact rfl)
  (case hnd => decide)
  (case hco => exact rfl)
  (case hgen => exact rfl)
  (case hk => exact rfl)
  case hR => exact fun h h' k x => k _ _ (fun _ hp => nomatch hp) x
  intro pr loose mean mg mb dp un gd outer A base g L cells s₁ B F X N Y T hR hlt hd hu
  k_cells Y
  simp only [List.cons_append, List.nil_append, List.append_nil] at N
  have hlist : g.IsList l vs.toArray := ⟨_, hR, rfl, _, rfl⟩
  obtain ⟨hc1, hc2⟩ := cnt_le ns (9 - p)
  obtain ⟨hc3, hc4⟩ := cnt_le ns (11 - (p.fdiv 3 - 1))
  simp only [cnt] at hc1 hc2 hc3 hc4
  have hq3 : p.fdiv 3 = p / 3 := Int.fdiv_eq_ediv_of_nonneg p (by omega)
  have hr3 : p.fmod 3 = p % 3 := Int.fmod_eq_emod_of_nonneg p (by omega)
  k_steps
  · unfold Halt
    refine comp_src (fun i y => ∃ m t, ns[i]? = some m ∧ y = .str (kind (m.fdiv 4096)) t) rfl (by k_asm) (by k_asm) (.inl hlist) ?hsz ?helt ?fin
    case hsz => rw [List.size_toArray, hi.length]; exact Nat.le_trans hz (show 100 ≤ sizeLine by decide)
    case helt =>
      rintro i v I oI C oC D m₂ ys s₂ h tk E' ⟨hh, rfl⟩ hv hC hx F9 N9 off ne
      obtain ⟨k, t, rfl, hk⟩ := IntsAre.at hi i v (by simpa using hv)
      have hkm : k ∈ ns := List.mem_of_getElem? hk
      simp only [LCg.Off3, and_true] at off
      k_steps
      exact ⟨rfl, k, _, hk, rfl⟩
    case fin =>
      rintro s₂ ys ⟨hh, rfl⟩ hyl hys
      have hks : StrsAre ys (kindsOf ns) := strs_of_map (by rw [hyl, List.size_toArray, hi.length]) hys
      have hkr := strs_rev hks
      have hkl : (kindsOf ns).length = ns.length := List.length_map ..
      have hcl : (colS ns 0).length ≤ 1000 := by rw [colS_len0]; omega
      have hsl : (signs (colS ns 0)).length = ns.length := by rw [signs_length, colS_len0]
      k_steps
      rename_i p0 _ _ _ _ _ _ _ _ _ _ _ _ _ _ _ _ _ _ _ _ _ _ _ ov1 us1 k1 hus1 _ _ _ ov2 us2 k2 hus2 _ _ _ _ _ _
      subst p0
      exact body_ret (by k_asm) (news_sub (by k_asm) (by ((intro p hp; (rcases List.mem_cons.mp hp with e9 | hp; (subst e9; k_mem); (rcases List.mem_cons.mp hp with e9 | hp; (subst e9; k_mem); (rcases List.mem_cons.mp hp with e9 | hp; (subst e9; k_mem); (cases hp)))))))) ⟨_, ov1, ov2, us1, us2, _, _, _, rfl, rfl, hus1, hus2⟩
  · refine body_ret (by k_asm) (news_sub (by k_asm) (by ((intro p hp; (rcases List.mem_cons.mp hp with e9 | hp; (subst e9; k_mem); (rcases List.mem_cons.mp hp with e9 | hp; (subst e9; k_mem); (rcases List.mem_cons.mp hp with e9 | hp; (subst e9; k_mem); (cases hp)))))))) ⟨_, _, _, #[], #[], _, _, _, rfl, rfl, ?_, ?_⟩
    · unfold diffA; rw [if_neg (by assumption), if_pos (by assumption)]; exact .nil
    · unfold diffB; rw [if_neg (by assumption), if_pos (by assumption)]; exact .nil
  · unfold Halt
    have hsg : (Str.ofString "-x" ++ Txt.item (Str.ofString "SST") (p.fdiv 3 - 1) ++ Txt.item (Str.ofString "sst") (p.fdiv 3 - 1)).length = 4 := rfl
    refine comp_src (fun i y => ∃ m t, ns[i]? = some m ∧ y = .str (shownAt p m) t) rfl (by k_asm) (by k_asm) (.inl hlist) ?hsz2 ?helt2 ?fin2
    case hsz2 => rw [List.size_toArray, hi.length]; exact Nat.le_trans hz (show 100 ≤ sizeLine by decide)
    case helt2 =>
      rintro i v I oI C oC D m₂ ys s₂ h tk E' ⟨hh, rfl⟩ hv hC hx F9 N9 off ne
      obtain ⟨k, t, rfl, hk⟩ := IntsAre.at hi i v (by simpa using hv)
      have hkm : k ∈ ns := List.mem_of_getElem? hk
      obtain ⟨hb1, hb2⟩ := bit_le k (9 - p)
      obtain ⟨hb3, hb4⟩ := bit_le k (11 - (p.fdiv 3 - 1))
      simp only [LCg.Off3, and_true] at off
      k_steps
      exact ⟨rfl, k, _, hk, rfl⟩
    case fin2 =>
      rintro s₂ ys ⟨hh, rfl⟩ hyl hys
      have hss : StrsAre ys (ns.map (shownAt p)) := strs_of_map (by rw [hyl, List.size_toArray, hi.length]) hys
      have hsl : (ns.map (shownAt p)).length = ns.length := List.length_map ..
      k_steps
      unfold Halt
      rename_i oc3 _ _ _ _ _ _ _ _ oc2 _ _ _ _ _ _ _ _ _ _ oc1 _ sd _ _ o1 _ _ _ _ _ lo _ l1 h1 F1 N1
      obtain ⟨l2, l3, l4, l5⟩ := l1
      have hlsd : @Ne Nat lo sd := Nat.ne_of_gt l2
      have hlc1 : @Ne Nat lo (L + 1 + 1 + 1) := Nat.ne_of_gt l3
      have hlc2 : @Ne Nat lo (L + 1 + 1) := Nat.ne_of_gt l4
      have hlc3 : @Ne Nat lo (L + 1) := Nat.ne_of_gt l5
      refine for_list (keep := [(sd, LCg.lst ys)]) rfl (fun _ => rfl) (ax := sd) (items := ys.toArray) (News.isList N1 (.tail _ (.head _))) (.inr ⟨_, .head _⟩) F1 N1 (fun p hp => by rw [List.mem_singleton.mp hp]; exact .tail _ (.head _)) ?hiter
        (fun i m' news' => (m' (Str.ofString "lost") = some (.ref lo) ∧ ∃ t, m' (Str.ofString "pairs") = some (.int (pairsT ns p) t)) ∧
          ∃ us k, news' = [(lo, listOf us k), (sd, LCg.lst ys), (L + 1 + 1 + 1, oc1), (L + 1 + 1, oc2), (L + 1, oc3)] ∧ StrsAre us.toList (((ns.map (shownAt p)).take i).foldl (lostStep (signsT p) (pairsT ns p)) []) ∧ us.size ≤ i) ?h0 ?step ?done
      case hiter =>
        intro Q' h
        walk1
        exact h
      case h0 =>
        exact ⟨⟨rfl, _, rfl⟩, #[], _, rfl, .nil, Nat.le_refl _⟩
      case step =>
        rintro i v m₁ news₁ h tk I oI hin hv ⟨⟨hm1, tp, hm2⟩, us, k, rfl, hus, huz⟩ hI hkp F₁ N₁
        have hI1 : @Ne Nat lo I := hI _ (.head _)
        have hI2 : @Ne Nat sd I := hI _ (.tail _ (.head _))
        have hI3 : @Ne Nat (L + 1 + 1 + 1) I := hI _ (.tail _ (.tail _ (.head _)))
        have hI4 : @Ne Nat (L + 1 + 1) I := hI _ (.tail _ (.tail _ (.tail _ (.head _))))
        have hI5 : @Ne Nat (L + 1) I := hI _ (.tail _ (.tail _ (.tail _ (.tail _ (.head _)))))
        replace F₁ := fr_tell F₁ (l := [(Str.ofString "lost", .ref lo), (Str.ofString "pairs", .int (pairsT ns p) tp)]) (by
          intro q hq
          rcases List.mem_cons.mp hq with rfl | hq
          · exact hm1
          · rw [List.mem_singleton.mp hq]; exact hm2)
        obtain ⟨x, t, rfl, hxi⟩ := hss.item i v (by simpa using hv)
        have huz9 : us.size ≤ sizeLine := by
          have := hss.length
          simp at hin
          exact Nat.le_trans (by omega) (show 100 ≤ sizeLine by decide)
        clear hss hys
        have hkp' : ∀ us' k', ∀ q ∈ [(sd, LCg.lst ys)], q ∈ [(lo, listOf us' k'), (sd, LCg.lst ys), (L + 1 + 1 + 1, oc1), (L + 1 + 1, oc2), (L + 1, oc3)] := fun us' k' q hq => by rw [List.mem_singleton.mp hq]; exact .tail _ (.head _)
        k_steps
        · refine turn_next (by k_asm) (by k_asm) (off_five hI1 hI2 hI3 hI4 hI5) (hkp' _ _) ⟨⟨rfl, tp, rfl⟩, us, _, rfl, ?_, by omega⟩
          rw [fold_more hxi, lost_out1 (by assumption)]
          exact hus
        · refine turn_next (by k_asm) (by k_asm) (off_five hI1 hI2 hI3 hI4 hI5) (hkp' _ _) ⟨⟨rfl, tp, rfl⟩, us.push (.str x t), _, rfl, ?_, by simp; omega⟩
          rw [fold_more hxi, lost_in (by assumption) (by assumption)]
          exact strs_push hus
        · refine turn_next (by k_asm) (by k_asm) (off_five hI1 hI2 hI3 hI4 hI5) (hkp' _ _) ⟨⟨rfl, tp, rfl⟩, us, _, rfl, ?_, by omega⟩
          rw [fold_more hxi, lost_out2 (by assumption)]
          exact hus
      case done =>
        rintro m₁ news₁ h tk ⟨⟨hm1, tp, hm2⟩, us, k, rfl, hus, huz⟩ hkp F₁ N₁
        replace F₁ := fr_tell F₁ (l := [(Str.ofString "lost", .ref lo), (Str.ofString "pairs", .int (pairsT ns p) tp)]) (by
          intro q hq
          rcases List.mem_cons.mp hq with rfl | hq
          · exact hm1
          · rw [List.mem_singleton.mp hq]; exact hm2)
        obtain ⟨ul, rfl⟩ : ∃ ul : List Value, us = ul.toArray := ⟨us.toList, by simp⟩
        have hul : StrsAre ul (lostT ns p) := by
          rw [List.size_toArray, hyl, List.size_toArray, hi.length, List.take_of_length_le (by simp)] at hus
          unfold lostT
          simpa using hus
        have hull : (lostT ns p).length ≤ 100 := by
          have h1 := hul.length
          have h2 := hss.length
          simp at huz
          omega
        obtain ⟨hpr1, hpr2⟩ := pairs_le ns p
        clear hss hys hus
        have hp3 : ¬ p.fmod 3 ≠ 0 := fun h => h (by assumption)
        k_steps
        have hA : diffA ns p = (lostT ns p).reverse := by unfold diffA; rw [if_neg (by assumption), if_neg hp3]
        have hB : diffB ns p = signs (lastT ns p) := by unfold diffB; rw [if_neg (by assumption), if_neg hp3]
        refine body_ret (by k_asm) (news_sub (by k_asm) (by ((intro p hp; (rcases List.mem_cons.mp hp with e9 | hp; (subst e9; k_mem); (rcases List.mem_cons.mp hp with e9 | hp; (subst e9; k_mem); (rcases List.mem_cons.mp hp with e9 | hp; (subst e9; k_mem); (cases hp)))))))) ⟨_, _, _, _, _, _, _, _, rfl, rfl, ?_, ?_⟩
        · rw [hA]; assumption
        · rw [hB]; assumption
end Mine
end
section
namespace Mine
theorem off_H1 : ∃ x : Nat, x = 0 := by
  w_top off
  first | (walk1; fail) | exact ⟨0, rfl⟩
end Mine
open PySem PySem.W PyProof.Rows PySem.Calls
namespace Mine
section
variable {prog : Program} {w : World} {A : Around} {h₀ : Heap} {L : Addr} {m : Str → Option Value} {env : Env} {ct elt : Expr} {x : Str} {scope : Scope} {cl : List (Str × Addr)} {Fin : Shared → List Value → List (Addr × Obj) → Prop} {ax : Addr} {its : Array Value} {news : List (Addr × Obj)} {s₁ : Shared}
/-- the end of a test that lets nothing by -/
def NoneOk (h₀ : Heap) (L : Addr) (m : Str → Option Value) (s : Shared) (own news : List (Addr × Obj)) (ok : Bool) (s' : Shared) : Prop := ok = false ∧ ∃ h' tk', s' = { s with heap := h', toks := tk' } ∧ Fr h₀ L h' m ∧ News h₀ L h' (own ++ news)
theorem none_ok {h' : Heap} {tk' : Nat} {s : Shared} {own : List (Addr × Obj)} (F : Fr h₀ L h' m) (N : News h₀ L h' (own ++ news)) : NoneOk h₀ L m s own news false { s with heap := h', toks := tk' } := ⟨rfl, h', tk', rfl, F, N⟩
/-- a comprehension whose test no element passes -/
theorem comp_none (hh : A.handled = none) (F : Fr h₀ L s₁.heap m) (N : News h₀ L s₁.heap news) (hsrc : LCg.SrcAt h₀ ax its news) (hsz : its.size ≤ sizeLine)
    (helt : ∀ (i : Nat) v I oI C oC D m₂ s₂ h tk (E' : Value → Shared → Prop), (∃ h, s₂ = { s₁ with heap := h }) → its[i]? = some v → LCg.NsObj oC m₂ → m₂ x = some v → Fr h₀ L h m → News h₀ L h ((I, oI) :: (C, oC) :: (D, LCg.lst []) :: news) → LCg.Off3 I C D news → ((@Ne Nat I C) ∧ (@Ne Nat I D) ∧ (@Ne Nat C D)) →
      wpAny (model prog w) A (isTrue ct (compEnvC scope cl C env) (eval ct (compEnvC scope cl C env))) (NoneOk h₀ L m { s₂ with heap := h, toks := tk } [(I, oI), (C, oC), (D, LCg.lst [])] news) E' { s₂ with heap := h, toks := tk })
    (fin : ∀ s₂, (∃ h, s₂ = { s₁ with heap := h }) → Fin s₂ [] news) :
    LCt.CompSrcT prog w A h₀ L m env ct elt x scope cl Fin (.ref ax) s₁ := by
  refine .inl ⟨ax, its, news, rfl, hh, F, N, hsrc, hsz, fun s₂ hs₂ => ?_⟩
  have key : ∀ (j i : Nat), i + j = its.size → LCt.CompRestT prog w A h₀ L m env ct elt x scope cl s₂ (LCg.SrcAt h₀ ax its) (fun i v => its[i]? = some v) (Fin s₂) j i [] news := by
    intro j
    induction j with
    | zero =>
      intro i hi
      exact LCt.CompRestT.zero (fin s₂ hs₂)
    | succ j ih =>
      intro i hi
      refine LCt.CompRestT.succ ?_
      intro v I oI C oC D m₂ h tk E' hv hC hx F' N' off ne
      refine wpAny_mono (helt i v I oI C oC D m₂ s₂ h tk E' hs₂ hv hC hx F' N' off ne) (fun ok s₃ hq => ?_) fun _ _ e => e
      obtain ⟨rfl, h', tk', e, F₃, N₃⟩ := hq
      rw [if_neg (by decide)]
      exact ⟨h', tk', news, e, F₃, N₃, off, hsrc, ih (i + 1) (by omega)⟩
  exact key its.size 0 (by omega)
end
theorem fm_signs (m : Int) : signs (fm m) = sgns m 10 := signs_join (sgns_one m 10)
theorem fm_len (m : Int) : (fm m).length = 10 := by
  rw [← signs_length, fm_signs]
  unfold sgns
  rw [List.length_mapIdx]
  rfl
theorem strs_lit {vs : List Value} {xs : List Str} (h : StrsAre vs xs) : ∀ {i : Nat} {v : Value}, vs[i]? = some v → ∃ x t, xs[i]? = some x ∧ v = .str x t := by
  induction h with
  | nil => intro i v e; cases e
  | cons y t r ih =>
    intro i v e
    cases i with
    | zero => cases e; exact ⟨y, t, rfl, rfl⟩
    | succ i => exact ih (i := i) (v := v) (by simpa using e)
end Mine
end
section
namespace Mine
theorem off_P2 : ∃ x : Nat, x = 0 := by
  w_top off
  first | (walk1; fail) | exact ⟨0, rfl⟩
end Mine
open PySem PySem.W PyProof.Rows PySem.Calls
namespace Mine
section
variable {α : Type} [DecidableEq α]
/-- what is left of a list when each item may go so often -/
def rm (c : α → Nat) : List α → List α
  | [] => []
  | y :: t => if c y = 0 then y :: rm c t else rm (fun z => if z = y then c z - 1 else c z) t
theorem rm_congr {l : List α} : ∀ {c d : α → Nat}, (∀ z ∈ l, c z = d z) → rm c l = rm d l := by
  induction l with
  | nil => intro c d h; rfl
  | cons y t ih =>
    intro c d h
    have hy := h y (.head _)
    unfold rm
    rw [hy]
    by_cases h0 : d y = 0
    · rw [if_pos h0, if_pos h0, ih fun z hz => h z (.tail _ hz)]
    · rw [if_neg h0, if_neg h0]
      refine ih fun z hz => ?_
      rw [h z (.tail _ hz)]
theorem rm_snoc {x : α} : ∀ {pre : List α} {c : α → Nat}, rm c (pre ++ [x]) = rm c pre ++ if c x < (pre ++ [x]).count x then [x] else [] := by
  intro pre
  induction pre with
  | nil =>
    intro c
    simp only [List.nil_append, rm, List.count_singleton, beq_self_eq_true, if_true]
    by_cases h : c x = 0
    · rw [if_pos h, if_pos (by omega)]
    · rw [if_neg h, if_neg (by omega)]
  | cons y t ih =>
    intro c
    rw [List.cons_append]
    unfold rm
    by_cases h : c y = 0
    · rw [if_pos h, if_pos h, ih, List.cons_append]
      congr 2
      by_cases e : y = x
      · subst e
        rw [if_pos, if_pos]
        · rw [h, List.count_cons_self]; omega
        · rw [h, List.count_append, List.count_singleton_self]; omega
      · rw [List.count_cons_of_ne e]
    · rw [if_neg h, if_neg h, ih]
      congr 1
      by_cases e : y = x
      · subst e
        simp only [if_true, List.count_cons_self]
        by_cases h2 : c y - 1 < (t ++ [y]).count y
        · rw [if_pos h2, if_pos (by omega)]
        · rw [if_neg h2, if_neg (by omega)]
      · rw [if_neg (show ¬ x = y from fun q => e q.symm), List.count_cons_of_ne e]
theorem rm_erase {x : α} : ∀ {l : List α} {c d : α → Nat}, x ∈ l → (∀ z, d z = if z = x then c z + 1 else c z) → rm d l = rm c (l.erase x) := by
  intro l
  induction l with
  | nil => intro c d h; cases h
  | cons y t ih =>
    intro c d hx hd
    by_cases e : y = x
    · subst e
      rw [List.erase_cons_head]
      rw [rm, if_neg (by rw [hd, if_pos rfl]; omega)]
      refine rm_congr fun z _ => ?_
      rw [hd]
      by_cases q : z = y
      · rw [if_pos q, if_pos q]; omega
      · rw [if_neg q, if_neg q]
    · have hx' : x ∈ t := by
        rcases List.mem_cons.mp hx with q | q
        · exact absurd q.symm e
        · exact q
      rw [List.erase_cons_tail (by simpa using e)]
      have hy : d y = c y := by rw [hd, if_neg e]
      unfold rm
      rw [hy]
      by_cases h0 : c y = 0
      · rw [if_pos h0, if_pos h0, ih hx' hd]
      · rw [if_neg h0, if_neg h0]
        refine ih hx' fun z => ?_
        rw [hd]
        by_cases q : z = y
        · subst q; rw [if_pos rfl, if_neg e, if_pos rfl, if_neg e]
        · rw [if_neg q, if_neg q]
end
theorem overTo_rm {xs ys : List Str} : ∀ {i : Nat}, i ≤ xs.length → overTo xs ys i = rm (fun z => ys.count z) (xs.take i) := by
  intro i
  induction i with
  | zero => intro _; rfl
  | succ i ih =>
    intro h
    have hi : xs[i]? = some xs[i] := List.getElem?_eq_getElem h
    rw [overTo_succ hi, ih (by omega)]
    have : xs.take (i + 1) = xs.take i ++ [xs[i]] := by rw [List.take_add_one, hi, Option.toList_some]
    rw [this, rm_snoc]
theorem over_rm (xs ys : List Str) : overTo xs ys xs.length = rm (fun z => ys.count z) xs := by
  rw [overTo_rm (Nat.le_refl _), List.take_length]
theorem uld_rm : ∀ (xs ys : List Str), uld xs ys = (rm (fun z => ys.count z) xs, rm (fun z => xs.count z) ys)
  | [], ys => by
    have : ∀ l : List Str, rm (fun z => ([] : List Str).count z) l = l := by
      intro l
      induction l with
      | nil => rfl
      | cons y t ih => rw [rm, if_pos (by rfl), ih]
    rw [uld, this]; rfl
  | x :: xs, ys => by
    rw [uld]
    by_cases hx : x ∈ ys
    · rw [if_pos hx, uld_rm xs (ys.erase x)]
      congr 1
      · rw [rm, if_neg (by have := List.count_pos_iff.mpr hx; omega)]
        refine rm_congr fun z _ => ?_
        by_cases q : z = x
        · subst q; rw [List.count_erase_self, if_pos rfl]
        · rw [List.count_erase_of_ne (fun e => q e), if_neg q]
      · refine (rm_erase hx fun z => ?_).symm
        by_cases q : z = x
        · subst q; rw [List.count_cons_self, if_pos rfl]
        · rw [List.count_cons_of_ne (fun e => q e.symm), if_neg q]
    · rw [if_neg hx, uld_rm xs ys]
      congr 1
      · rw [rm, if_pos (List.count_eq_zero.mpr hx)]
      · refine rm_congr fun z hz => ?_
        have hn : x ≠ z := fun e => hx (by rw [e]; exact hz)
        rw [List.count_cons_of_ne hn]
theorem uld_sub : ∀ (xs ys : List Str), (∀ z ∈ (uld xs ys).1, z ∈ xs) ∧ (∀ z ∈ (uld xs ys).2, z ∈ ys)
  | [], ys => ⟨fun z h => (by rw [uld] at h; cases h), fun z h => (by rw [uld] at h; exact h)⟩
  | x :: xs, ys => by
    rw [uld]
    by_cases hx : x ∈ ys
    · rw [if_pos hx]
      obtain ⟨h1, h2⟩ := uld_sub xs (ys.erase x)
      exact ⟨fun z hz => .tail _ (h1 z hz), fun z hz => List.mem_of_mem_erase (h2 z hz)⟩
    · rw [if_neg hx]
      obtain ⟨h1, h2⟩ := uld_sub xs ys
      refine ⟨fun z hz => ?_, h2⟩
      rcases List.mem_cons.mp hz with e | hz
      · rw [e]; exact .head _
      · exact .tail _ (h1 z hz)
end Mine
end
section
namespace Mine
theorem off_P3 : ∃ x : Nat, x = 0 := by
  w_top off
  first | (walk1; fail) | exact ⟨0, rfl⟩
end Mine
open PySem PySem.W PyProof.Rows PySem.Calls
namespace Mine
/-- sixteen bits -/
def In16 (m : Int) : Prop := 0 ≤ m ∧ m < 65536
def tb (k : Nat) (m : Int) : Bool := m.toNat.testBit k
theorem bit_tb {m : Int} (h : 0 ≤ m) (k : Nat) : bit m (k : Int) = (tb k m).toNat := by
  obtain ⟨n, rfl⟩ := Int.eq_ofNat_of_zero_le h
  unfold bit tb
  rw [Int.toNat_natCast, Int.toNat_natCast, Nat.testBit_eq_decide_div_mod_eq, Int.fdiv_eq_ediv_of_nonneg _ (Int.le_of_lt (Int.pow_pos (by decide))), Int.fmod_eq_emod_of_nonneg _ (by decide)]
  have e : (n : Int) / 2 ^ k % 2 = ((n / 2 ^ k % 2 : Nat) : Int) := by
    rw [Int.natCast_emod, Int.natCast_ediv, Int.natCast_pow]; rfl
  rw [e]
  by_cases h1 : n / 2 ^ k % 2 = 1
  · rw [h1]; rfl
  · have : n / 2 ^ k % 2 = 0 := by omega
    rw [this]; rfl
theorem and_nat {a b : Int} (ha : 0 ≤ a) (hb : 0 ≤ b) : Builtin.bitAnd a b = ((a.toNat &&& b.toNat : Nat) : Int) := bitAnd_pp ha hb
theorem or_nat {a b : Int} (ha : 0 ≤ a) (hb : 0 ≤ b) : Builtin.bitOr a b = ((a.toNat ||| b.toNat : Nat) : Int) := by
  unfold Builtin.bitOr
  have n1 : Builtin.bitNot a = -a - 1 := rfl
  have n2 : Builtin.bitNot b = -b - 1 := rfl
  rw [bitAnd_nn (by rw [n1]; omega) (by rw [n2]; omega)]
  have e : ∀ x : Int, Builtin.bitNot (Builtin.bitNot x) = x := fun x => by
    show -(-x - 1) - 1 = x
    omega
  rw [e, e, e]
theorem and_in {a b : Int} (ha : In16 a) (hb : In16 b) : In16 (Builtin.bitAnd a b) := by
  rw [and_nat ha.1 hb.1]
  have : a.toNat &&& b.toNat < 2 ^ 16 := Nat.and_lt_two_pow _ (by have := hb.2; have := hb.1; omega)
  unfold In16
  omega
theorem or_in {a b : Int} (ha : In16 a) (hb : In16 b) : In16 (Builtin.bitOr a b) := by
  rw [or_nat ha.1 hb.1]
  have : a.toNat ||| b.toNat < 2 ^ 16 := Nat.or_lt_two_pow (by have := ha.2; have := ha.1; omega) (by have := hb.2; have := hb.1; omega)
  unfold In16
  omega
theorem tb_and {a b : Int} (ha : 0 ≤ a) (hb : 0 ≤ b) (k : Nat) : tb k (Builtin.bitAnd a b) = (tb k a && tb k b) := by
  unfold tb
  rw [and_nat ha hb, Int.toNat_natCast, Nat.testBit_and]
theorem tb_or {a b : Int} (ha : 0 ≤ a) (hb : 0 ≤ b) (k : Nat) : tb k (Builtin.bitOr a b) = (tb k a || tb k b) := by
  unfold tb
  rw [or_nat ha hb, Int.toNat_natCast, Nat.testBit_or]
def bstep (r : List Bool) (k : Nat) : List Bool := (r.set k (r.getD k false || r.getD (k + 1) false)).set (k + 1) (r.getD k false && r.getD (k + 1) false)
def bladder (r : List Bool) : List Bool := (List.range (r.length - 1)).foldl (fun q i => (List.range (r.length - 1 - i)).foldl bstep q) r
theorem getD_in {r : List Int} (h : ∀ x ∈ r, In16 x) (k : Nat) : In16 (r.getD k 0) := by
  rw [List.getD_eq_getElem?_getD]
  cases e : r[k]? with
  | none => exact ⟨by decide, by decide⟩
  | some x => exact h x (List.mem_of_getElem? e)
theorem getD_tb (r : List Int) (b k : Nat) : (r.map (tb b)).getD k false = tb b (r.getD k 0) := by
  rw [List.getD_eq_getElem?_getD, List.getD_eq_getElem?_getD, List.getElem?_map]
  cases e : r[k]? with
  | none => show false = (0 : Nat).testBit b; rw [Nat.zero_testBit]
  | some x => rfl
theorem lstep_tb {r : List Int} (h : ∀ x ∈ r, In16 x) (k : Nat) : (∀ x ∈ lstep r k, In16 x) ∧ ∀ b, (lstep r k).map (tb b) = bstep (r.map (tb b)) k := by
  have h1 := getD_in h k
  have h2 := getD_in h (k + 1)
  refine ⟨fun x hx => ?_, fun b => ?_⟩
  · unfold lstep at hx
    rcases List.mem_or_eq_of_mem_set hx with hx | rfl
    · rcases List.mem_or_eq_of_mem_set hx with hx | rfl
      · exact h x hx
      · exact or_in h1 h2
    · exact and_in h1 h2
  · unfold lstep bstep
    rw [List.map_set, List.map_set, getD_tb, getD_tb, tb_or h1.1 h2.1, tb_and h1.1 h2.1]
theorem lrow_tb {r : List Int} (h : ∀ x ∈ r, In16 x) (n : Nat) : (∀ x ∈ lrow r n, In16 x) ∧ ∀ b, (lrow r n).map (tb b) = (List.range n).foldl bstep (r.map (tb b)) := by
  unfold lrow
  induction n with
  | zero => exact ⟨h, fun b => rfl⟩
  | succ n ih =>
    rw [List.range_succ, List.foldl_append]
    obtain ⟨i1, i2⟩ := ih
    obtain ⟨j1, j2⟩ := lstep_tb i1 n
    refine ⟨j1, fun b => ?_⟩
    rw [List.foldl_append]
    show (lstep _ n).map (tb b) = bstep _ n
    rw [j2, i2]
theorem ladderTo_tb {ns : List Int} (h : ∀ x ∈ ns, In16 x) (L n : Nat) : (∀ x ∈ (List.range n).foldl (fun r i => lrow r (L - i)) ns, In16 x) ∧ ∀ b, ((List.range n).foldl (fun r i => lrow r (L - i)) ns).map (tb b) = (List.range n).foldl (fun q i => (List.range (L - i)).foldl bstep q) (ns.map (tb b)) := by
  induction n with
  | zero => exact ⟨h, fun b => rfl⟩
  | succ n ih =>
    rw [List.range_succ, List.foldl_append]
    obtain ⟨i1, i2⟩ := ih
    obtain ⟨j1, j2⟩ := lrow_tb i1 (L - n)
    refine ⟨j1, fun b => ?_⟩
    rw [List.foldl_append]
    show (lrow _ _).map (tb b) = List.foldl bstep _ _
    rw [j2, i2]
theorem ladder_tb {ns : List Int} (h : ∀ x ∈ ns, In16 x) : (∀ x ∈ ladder ns, In16 x) ∧ ∀ b, (ladder ns).map (tb b) = bladder (ns.map (tb b)) := by
  unfold ladder ladderTo bladder
  simp only [List.length_map]
  exact ladderTo_tb h _ _
def sorted (n a : Nat) : List Bool := List.replicate a true ++ List.replicate (n - a) false
theorem sort3 : ∀ a b c : Bool, bladder [a, b, c] = sorted 3 ([a, b, c].count true) := by decide
theorem sort4 : ∀ a b c d : Bool, bladder [a, b, c, d] = sorted 4 ([a, b, c, d].count true) := by decide
theorem sort5 : ∀ a b c d e : Bool, bladder [a, b, c, d, e] = sorted 5 ([a, b, c, d, e].count true) := by decide
theorem bsort {l : List Bool} (h : l.length = 3 ∨ l.length = 4 ∨ l.length = 5) : bladder l = sorted l.length (l.count true) := by
  match l, h with
  | [a, b, c], _ => exact sort3 a b c
  | [a, b, c, d], _ => exact sort4 a b c d
  | [a, b, c, d, e], _ => exact sort5 a b c d e
theorem cnt_tb {ns : List Int} (h : ∀ x ∈ ns, In16 x) (k : Nat) : cnt ns (k : Int) = ((ns.map (tb k)).count true : Nat) := by
  unfold cnt
  induction ns with
  | nil => rfl
  | cons x r ih =>
    rw [List.map_cons, List.map_cons, List.sum_cons, ih fun y hy => h y (.tail _ hy), bit_tb (h x (.head _)).1, List.count_cons]
    cases tb k x <;> simp <;> omega
end Mine
end
section
namespace Mine
theorem off_P4 : ∃ x : Nat, x = 0 := by
  w_top off
  first | (walk1; fail) | exact ⟨0, rfl⟩
end Mine
open PySem PySem.W PyProof.Rows PySem.Calls
namespace Mine
theorem signs_at {x : Str} {i : Nat} (h : i < x.length) : (signs x)[i]? = some (Txt.item x (i : Int)) := by
  unfold signs Txt.item Txt.charAt
  have h' : i < x.cps.size := h
  have e : seqIndex? (i : Int) x.length = some i := by
    unfold seqIndex?
    simp
    omega
  rw [e, List.getElem?_map, Array.getElem?_toList]
  simp [h']
theorem fm_at {i : Nat} {row : List (Int × Str)} (h : fmTab[i]? = some row) (m : Int) : Txt.item (fm m) (i : Int) = sgn (i : Int) m row := by
  have hi : i < 10 := (List.getElem?_eq_some_iff.mp h).1
  have h1 := signs_at (x := fm m) (i := i) (by rw [fm_len]; exact hi)
  rw [fm_signs] at h1
  unfold sgns at h1
  rw [List.getElem?_mapIdx, List.getElem?_take_of_lt hi, h] at h1
  exact (Option.some.inj h1).symm
theorem two_bits (n a b : Nat) : (n &&& (2 ^ a ||| 2 ^ b) = (2 ^ a ||| 2 ^ b)) ↔ (n.testBit a = true ∧ n.testBit b = true) := by
  constructor
  · intro h
    have ha := congrArg (fun x => x.testBit a) h
    have hb := congrArg (fun x => x.testBit b) h
    simp only [Nat.testBit_and, Nat.testBit_or, Nat.testBit_two_pow_self, Bool.true_or, Bool.or_true, Bool.and_true] at ha hb
    exact ⟨ha, hb⟩
  · rintro ⟨ha, hb⟩
    apply Nat.eq_of_testBit_eq
    intro j
    rw [Nat.testBit_and, Nat.testBit_or]
    by_cases h1 : a = j
    · subst h1; rw [ha]; simp
    · by_cases h2 : b = j
      · subst h2; rw [hb]; simp
      · rw [Nat.testBit_two_pow_of_ne h1, Nat.testBit_two_pow_of_ne h2]; simp
theorem hit_two {i m : Int} {K a b : Nat} (hm : 0 ≤ m) (hi : i ≠ 0) (hK : K = 2 ^ a ||| 2 ^ b) : hit i m (K : Int) = (tb a m && tb b m) := by
  unfold hit
  rw [if_neg hi, and_nat hm (by omega), Int.toNat_natCast]
  unfold tb
  by_cases h : m.toNat &&& K = K
  · rw [h]
    rw [hK] at h
    obtain ⟨h1, h2⟩ := (two_bits _ _ _).mp h
    rw [h1, h2]; simp
  · have h' : ¬ (m.toNat.testBit a = true ∧ m.toNat.testBit b = true) := fun q => h (by rw [hK]; exact (two_bits _ _ _).mpr q)
    have e1 : (((m.toNat &&& K : Nat) : Int) == (K : Int)) = false := by
      rw [beq_eq_false_iff_ne]
      intro q
      exact h (by omega)
    rw [e1]
    cases q1 : m.toNat.testBit a <;> cases q2 : m.toNat.testBit b <;> simp_all
/-- the sign of a right to read or write -/
theorem sgn_rw {i m : Int} {K a : Nat} {c : Str} (hm : 0 ≤ m) (hi : i ≠ 0) (hK : K = 2 ^ a) : sgn i m [((K : Int), c)] = if tb a m then c else Str.ofString "-" := by
  have h := hit_two (K := K) (a := a) (b := a) hm hi (by rw [hK, Nat.or_self])
  rw [Bool.and_self] at h
  unfold sgn
  cases e : tb a m with
  | true => rw [e] at h; rw [List.find?_cons_of_pos (by exact h)]; rfl
  | false => rw [e] at h; rw [List.find?_cons_of_neg (by simp [h])]; simp [hi]
/-- the sign of a right to run, with the bit above -/
theorem sgn_x {i m : Int} {K A B a b : Nat} {c d e : Str} (hm : 0 ≤ m) (hi : i ≠ 0) (hK : K = 2 ^ a ||| 2 ^ b) (hA : A = 2 ^ a) (hB : B = 2 ^ b) :
    sgn i m [((K : Int), c), ((B : Int), d), ((A : Int), e)] = if tb a m then (if tb b m then c else e) else (if tb b m then d else Str.ofString "-") := by
  have h := hit_two (K := K) (a := a) (b := b) hm hi hK
  have h1 := hit_two (K := A) (a := a) (b := a) hm hi (by rw [hA, Nat.or_self])
  have h2 := hit_two (K := B) (a := b) (b := b) hm hi (by rw [hB, Nat.or_self])
  rw [Bool.and_self] at h1 h2
  unfold sgn
  cases ea : tb a m <;> cases eb : tb b m <;> rw [ea, eb] at h <;> rw [ea] at h1 <;> rw [eb] at h2
  · rw [List.find?_cons_of_neg (by simp [h]), List.find?_cons_of_neg (by simp [h2]), List.find?_cons_of_neg (by simp [h1])]; simp [hi]
  · rw [List.find?_cons_of_neg (by simp [h]), List.find?_cons_of_pos (by exact h2)]; simp
  · rw [List.find?_cons_of_neg (by simp [h]), List.find?_cons_of_neg (by simp [h2]), List.find?_cons_of_pos (by exact h1)]; simp
  · rw [List.find?_cons_of_pos (by exact h)]; simp
theorem and_shift (y : Int) : ∀ (k : Nat) (x : Int), Builtin.bitAnd x (2 ^ k * y) = 2 ^ k * Builtin.bitAnd (x / 2 ^ k) y
  | 0, x => by rw [Int.pow_zero, Int.one_mul, Int.one_mul, Int.ediv_one]
  | k + 1, x => by
    have e : (2 : Int) ^ (k + 1) = 2 * 2 ^ k := by rw [Int.pow_succ, Int.mul_comm]
    rw [e, Int.mul_assoc, kbt_halves, show 2 * (2 ^ k * y) / 2 = 2 ^ k * y by omega, if_neg (fun q => by omega), and_shift y k (x / 2), Int.ediv_ediv_of_nonneg (by decide), Int.add_zero, Int.mul_assoc]
theorem fmt_mask {m : Int} (h : In16 m) : Builtin.bitAnd m 61440 = 4096 * (m.fdiv 4096) := by
  have e := and_shift 15 12 m
  rw [show (2 : Int) ^ 12 = 4096 by decide, show (4096 : Int) * 15 = 61440 by decide, bitAnd_m4] at e
  rw [e, Int.fdiv_eq_ediv_of_nonneg m (by decide)]
  have := h.1
  have := h.2
  omega
def kindAt (q : Nat) : Str := match ([(40960, Str.ofString "l"), (49152, Str.ofString "s"), (32768, Str.ofString "-"), (24576, Str.ofString "b"), (16384, Str.ofString "d"), (8192, Str.ofString "c"), (4096, Str.ofString "p")] : List (Int × Str)).find? (fun p => 4096 * (q : Int) == p.1) with | some p => p.2 | none => Str.ofString "?"
theorem kinds16 : ∀ q < 16, kindAt q = kind (q : Int) := by decide
theorem sgn_kind {m : Int} (h : In16 m) : sgn 0 m [(40960, Str.ofString "l"), (49152, Str.ofString "s"), (32768, Str.ofString "-"), (24576, Str.ofString "b"), (16384, Str.ofString "d"), (8192, Str.ofString "c"), (4096, Str.ofString "p")] = kind (m.fdiv 4096) := by
  have e : m.fdiv 4096 = ((m.fdiv 4096).toNat : Int) := by
    rw [Int.fdiv_eq_ediv_of_nonneg m (by decide)]
    have := h.1
    omega
  have hl : (m.fdiv 4096).toNat < 16 := by
    rw [Int.fdiv_eq_ediv_of_nonneg m (by decide)]
    have := h.1
    have := h.2
    omega
  have := kinds16 _ hl
  rw [e, ← this]
  unfold sgn kindAt hit
  rw [fmt_mask h, ← e]
  rfl
theorem item_0 {m : Int} (h : In16 m) : Txt.item (fm m) 0 = kind (m.fdiv 4096) := by
  rw [← sgn_kind h]; exact fm_at (i := 0) rfl m
theorem item_1 {m : Int} (h : In16 m) : Txt.item (fm m) 1 = if tb 8 m then Str.ofString "r" else Str.ofString "-" := (fm_at (i := 1) rfl m).trans (sgn_rw (K := 256) h.1 (by decide) rfl)
theorem item_2 {m : Int} (h : In16 m) : Txt.item (fm m) 2 = if tb 7 m then Str.ofString "w" else Str.ofString "-" := (fm_at (i := 2) rfl m).trans (sgn_rw (K := 128) h.1 (by decide) rfl)
theorem item_3 {m : Int} (h : In16 m) : Txt.item (fm m) 3 = if tb 6 m then (if tb 11 m then Str.ofString "s" else Str.ofString "x") else (if tb 11 m then Str.ofString "S" else Str.ofString "-") := (fm_at (i := 3) rfl m).trans (sgn_x (K := 2112) (A := 64) (B := 2048) h.1 (by decide) (by decide) rfl rfl)
theorem item_4 {m : Int} (h : In16 m) : Txt.item (fm m) 4 = if tb 5 m then Str.ofString "r" else Str.ofString "-" := (fm_at (i := 4) rfl m).trans (sgn_rw (K := 32) h.1 (by decide) rfl)
theorem item_5 {m : Int} (h : In16 m) : Txt.item (fm m) 5 = if tb 4 m then Str.ofString "w" else Str.ofString "-" := (fm_at (i := 5) rfl m).trans (sgn_rw (K := 16) h.1 (by decide) rfl)
theorem item_6 {m : Int} (h : In16 m) : Txt.item (fm m) 6 = if tb 3 m then (if tb 10 m then Str.ofString "s" else Str.ofString "x") else (if tb 10 m then Str.ofString "S" else Str.ofString "-") := (fm_at (i := 6) rfl m).trans (sgn_x (K := 1032) (A := 8) (B := 1024) h.1 (by decide) (by decide) rfl rfl)
theorem item_7 {m : Int} (h : In16 m) : Txt.item (fm m) 7 = if tb 2 m then Str.ofString "r" else Str.ofString "-" := (fm_at (i := 7) rfl m).trans (sgn_rw (K := 4) h.1 (by decide) rfl)
theorem item_8 {m : Int} (h : In16 m) : Txt.item (fm m) 8 = if tb 1 m then Str.ofString "w" else Str.ofString "-" := (fm_at (i := 8) rfl m).trans (sgn_rw (K := 2) h.1 (by decide) rfl)
theorem item_9 {m : Int} (h : In16 m) : Txt.item (fm m) 9 = if tb 0 m then (if tb 9 m then Str.ofString "t" else Str.ofString "x") else (if tb 9 m then Str.ofString "T" else Str.ofString "-") := (fm_at (i := 9) rfl m).trans (sgn_x (K := 513) (A := 1) (B := 512) h.1 (by decide) (by decide) rfl rfl)
end Mine
end
section
namespace Mine
theorem off_P5 : ∃ x : Nat, x = 0 := by
  w_top off
  first | (walk1; fail) | exact ⟨0, rfl⟩
end Mine
open PySem PySem.W PyProof.Rows PySem.Calls
namespace Mine
abbrev Len35 (n : Nat) : Prop := n = 3 ∨ n = 4 ∨ n = 5
theorem signs_inj {x y : Str} (h : signs x = signs y) : x = y := by
  obtain ⟨a⟩ := x
  obtain ⟨b⟩ := y
  unfold signs at h
  have e : a.toList = b.toList := (List.map_inj_right (fun x y q => by injection q with q; simpa using q)).mp h
  rw [Array.toList_inj.mp e]
theorem one_sign {x : Str} (h : x.length = 1) : ∃ d, x = ⟨#[d]⟩ := by
  obtain ⟨c⟩ := x
  have h : c.size = 1 := h
  exact ⟨c[0], by congr 1; apply Array.ext; · simp [h]
                  · intro i h1 h2; simp at h2; subst h2; rfl⟩
theorem signs_mul {x : Str} (n : Int) (hx : x.length = 1) : signs (Txt.mul x n) = List.replicate n.toNat x := by
  obtain ⟨d, rfl⟩ := one_sign hx
  unfold signs
  rw [mul_one_list d n, List.map_replicate]
theorem col_join {l : List Str} {x : Str} (h1 : ∀ y ∈ l, y.length = 1) (h : l = signs x) : Txt.join (Str.ofString "") l = x := signs_inj ((signs_join h1).trans h)
theorem rm_nil {α : Type} [DecidableEq α] : ∀ {l : List α} {c : α → Nat}, (∀ z, l.count z ≤ c z) → rm c l = [] := by
  intro l
  induction l with
  | nil => intro c h; rfl
  | cons y t ih =>
    intro c h
    have hy := h y
    rw [List.count_cons_self] at hy
    rw [rm, if_neg (by omega)]
    refine ih fun z => ?_
    have hz := h z
    by_cases e : z = y
    · subst e; rw [if_pos rfl]; omega
    · rw [if_neg e]; rw [List.count_cons_of_ne (fun q => e q.symm)] at hz; exact hz
theorem rm_map {α β : Type} [DecidableEq α] [DecidableEq β] {f : α → β} (hf : ∀ x y, f x = f y → x = y) : ∀ {l : List α} {c : β → Nat}, rm c (l.map f) = (rm (fun x => c (f x)) l).map f := by
  intro l
  induction l with
  | nil => intro c; rfl
  | cons y t ih =>
    intro c
    rw [List.map_cons, rm, rm]
    by_cases h : c (f y) = 0
    · rw [if_pos h, if_pos h, List.map_cons, ih]
    · rw [if_neg h, if_neg h, ih]
      congr 1
      refine rm_congr fun z _ => ?_
      by_cases e : z = y
      · rw [if_pos e, if_pos (by rw [e])]
      · rw [if_neg e, if_neg (fun q => e (hf _ _ q))]
theorem count_inj {α β : Type} [BEq α] [LawfulBEq α] [BEq β] [LawfulBEq β] {f : α → β} (hf : ∀ x y, f x = f y → x = y) (l : List α) (x : α) : (l.map f).count (f x) = l.count x := by
  induction l with
  | nil => rfl
  | cons y t ih =>
    rw [List.map_cons, List.count_cons, List.count_cons, ih]
    by_cases e : (y == x) = true
    · have e' := eq_of_beq e
      subst e'; simp
    · have e' : ¬ (f y == f x) = true := fun q => e (by rw [hf _ _ (eq_of_beq q)]; exact beq_self_eq_true x)
      rw [if_neg e, if_neg e']
theorem sorted_perm {l : List Bool} : (sorted l.length (l.count true)).Perm l := by
  rw [List.perm_iff_count]
  have hc : l.count true + l.count false = l.length := by
    induction l with
    | nil => rfl
    | cons x t ih => rw [List.count_cons, List.count_cons, List.length_cons]; cases x <;> simp <;> omega
  intro b
  unfold sorted
  rw [List.count_append, List.count_replicate, List.count_replicate]
  cases b <;> simp <;> omega
section
variable {ns : List Int} (hlen : Len35 ns.length) (hr : ∀ m ∈ ns, In16 m)
include hlen hr
theorem ladder_bits (k : Nat) : (ladder ns).map (tb k) = sorted ns.length ((ns.map (tb k)).count true) := by
  rw [(ladder_tb hr).2 k, bsort (by rw [List.length_map]; exact hlen), List.length_map]
/-- rights to read and to write -/
theorem rw_list {k : Nat} {c : Str} {p : Int} (hc : c.length = 1) (hp0 : p ≠ 0) (h3 : p.fmod 3 ≠ 0) (hk : 9 - p = (k : Int)) (hx : Txt.item (Str.ofString "xrw") (p.fmod 3) = c) (hit : ∀ m, In16 m → Txt.item (fm m) p = if tb k m then c else Str.ofString "-") :
    (ladder ns).map (fun m => Txt.item (fm m) p) = signs (colS ns p) := by
  have e : (ladder ns).map (fun m => Txt.item (fm m) p) = ((ladder ns).map (tb k)).map (fun b => if b then c else Str.ofString "-") := by
    rw [List.map_map]
    exact List.map_congr_left fun m hm => hit m ((ladder_tb hr).1 m hm)
  rw [e, ladder_bits hlen hr k, ← colS_rw hp0 h3, signs_app, signs_mul _ (by rw [hx]; exact hc), signs_mul _ (by rfl), hx, hk, cnt_tb hr]
  unfold sorted
  rw [List.map_append, List.map_replicate, List.map_replicate]
  have h1 : (((ns.map (tb k)).count true : Nat) : Int).toNat = (ns.map (tb k)).count true := Int.toNat_natCast _
  have h2 : ((ns.length : Int) - ((ns.map (tb k)).count true : Nat)).toNat = ns.length - (ns.map (tb k)).count true := by omega
  rw [h1, h2]; rfl
theorem rw_diff {k : Nat} {c : Str} {p : Int} (hp0 : p ≠ 0) (h3 : p.fmod 3 ≠ 0) (hit : ∀ m, In16 m → Txt.item (fm m) p = if tb k m then c else Str.ofString "-") :
    uld (ns.map (fun m => Txt.item (fm m) p)).reverse ((ladder ns).map (fun m => Txt.item (fm m) p)) = (diffA ns p, diffB ns p) := by
  have e : (ladder ns).map (fun m => Txt.item (fm m) p) = ((ladder ns).map (tb k)).map (fun b => if b then c else Str.ofString "-") := by
    rw [List.map_map]
    exact List.map_congr_left fun m hm => hit m ((ladder_tb hr).1 m hm)
  have e' : ns.map (fun m => Txt.item (fm m) p) = (ns.map (tb k)).map (fun b => if b then c else Str.ofString "-") := by
    rw [List.map_map]
    exact List.map_congr_left fun m hm => hit m (hr m hm)
  have hp : ((ladder ns).map (fun m => Txt.item (fm m) p)).Perm (ns.map (fun m => Txt.item (fm m) p)) := by
    rw [e, e', ladder_bits hlen hr k]
    have := sorted_perm (l := ns.map (tb k))
    rw [List.length_map] at this
    exact this.map _
  have hA : diffA ns p = [] := by unfold diffA; rw [if_neg hp0, if_pos h3]
  have hB : diffB ns p = [] := by unfold diffB; rw [if_neg hp0, if_pos h3]
  rw [hA, hB, uld_rm]
  congr 1
  · exact rm_nil fun z => by rw [List.count_reverse]; exact Nat.le_of_eq (hp.count_eq z).symm
  · exact rm_nil fun z => by rw [List.count_reverse]; exact Nat.le_of_eq (hp.count_eq z)
end
end Mine
end
section
namespace Mine
theorem off_P6 : ∃ x : Nat, x = 0 := by
  w_top off
  first | (walk1; fail) | exact ⟨0, rfl⟩
end Mine
open PySem PySem.W PyProof.Rows PySem.Calls
namespace Mine
abbrev BB := Bool × Bool
def fourC (n A B : Nat) : List BB := List.replicate (min A B) (true, true) ++ List.replicate (A - B) (true, false) ++ List.replicate (B - A) (false, true) ++ List.replicate (n - max A B) (false, false)
theorem four_sorted : ∀ n < 6, ∀ A < n + 1, ∀ B < n + 1, (sorted n A).zip (sorted n B) = fourC n A B := by decide
def lostP (pr : Nat) (acc : List BB) (q : BB) : List BB := if (q.1 != q.2) = true ∧ acc.count q < pr then acc ++ [q] else acc
def prP (ps : List BB) : Nat := min (ps.count (false, true)) (ps.count (true, false))
def okP (ps : List BB) : Bool :=
  let ls := fourC ps.length ((ps.map (·.1)).count true) ((ps.map (·.2)).count true)
  decide (rm (fun z => ls.count z) ps.reverse = (ps.foldl (lostP (prP ps)) []).reverse ∧ rm (fun z => ps.count z) ls = List.replicate (prP ps) (true, true) ++ List.replicate (prP ps) (false, false))
theorem ok3 : ∀ a b c : BB, okP [a, b, c] = true := by
  rintro ⟨a, a'⟩ ⟨b, b'⟩ ⟨c, c'⟩
  revert a a' b b' c c'
  decide +kernel
theorem ok4 : ∀ a b c d : BB, okP [a, b, c, d] = true := by
  rintro ⟨a, a'⟩ ⟨b, b'⟩ ⟨c, c'⟩ ⟨d, d'⟩
  revert a a' b b' c c' d d'
  decide +kernel
theorem ok5 : ∀ a b c d e : BB, okP [a, b, c, d, e] = true := by
  rintro ⟨a, a'⟩ ⟨b, b'⟩ ⟨c, c'⟩ ⟨d, d'⟩ ⟨e, e'⟩
  revert a a' b b' c c' d d' e e'
  decide +kernel
theorem okAll {ps : List BB} (h : Len35 ps.length) : okP ps = true := by
  match ps, h with
  | [a, b, c], _ => exact ok3 a b c
  | [a, b, c, d], _ => exact ok4 a b c d
  | [a, b, c, d, e], _ => exact ok5 a b c d e
end Mine
end
section
namespace Mine
theorem off_P7 : ∃ x : Nat, x = 0 := by
  w_top off
  first | (walk1; fail) | exact ⟨0, rfl⟩
end Mine
open PySem PySem.W PyProof.Rows PySem.Calls
namespace Mine
section
variable {ns : List Int} (hlen : Len35 ns.length) (hr : ∀ m ∈ ns, In16 m)
include hlen hr
theorem ladder_pairs (a b : Nat) : (ladder ns).map (fun m => (tb a m, tb b m)) = fourC ns.length ((ns.map (tb a)).count true) ((ns.map (tb b)).count true) := by
  have h1 : (ns.map (tb a)).count true ≤ ns.length := by have := List.count_le_length (a := true) (l := ns.map (tb a)); simpa using this
  have h2 : (ns.map (tb b)).count true ≤ ns.length := by have := List.count_le_length (a := true) (l := ns.map (tb b)); simpa using this
  rw [← List.zip_map', ladder_bits hlen hr a, ladder_bits hlen hr b]
  exact four_sorted _ (by unfold Len35 at hlen; omega) _ (by omega) _ (by omega)
variable {a b : Nat} {sg : BB → Str} {p : Int} (h1 : ∀ q, (sg q).length = 1) (hp0 : p ≠ 0) (h3 : p.fmod 3 = 0) (ha : 9 - p = (a : Int)) (hb : 11 - (p.fdiv 3 - 1) = (b : Int)) (hit : ∀ m, In16 m → Txt.item (fm m) p = sg (tb a m, tb b m))
include hit
theorem x_rows : (ladder ns).map (fun m => Txt.item (fm m) p) = (fourC ns.length ((ns.map (tb a)).count true) ((ns.map (tb b)).count true)).map sg := by
  rw [← ladder_pairs hlen hr a b, List.map_map]
  exact List.map_congr_left fun m hm => hit m ((ladder_tb hr).1 m hm)
omit hlen in
theorem x_cols : ns.map (fun m => Txt.item (fm m) p) = (ns.map (fun m => (tb a m, tb b m))).map sg := by
  rw [List.map_map]
  exact List.map_congr_left fun m hm => hit m (hr m hm)
include h1 hp0 h3 ha hb
theorem x_list (e_s : Txt.item (Str.ofString "sst") (p.fdiv 3 - 1) = sg (true, true)) (e_x : Str.ofString "x" = sg (true, false)) (e_S : Txt.item (Str.ofString "SST") (p.fdiv 3 - 1) = sg (false, true)) (e_d : Str.ofString "-" = sg (false, false)) :
    (ladder ns).map (fun m => Txt.item (fm m) p) = signs (colS ns p) := by
  rw [x_rows hlen hr hit, ← colS_x hp0 h3, e_s, e_x, e_S, e_d, ha, hb, cnt_tb hr, cnt_tb hr]
  simp only [signs_app]
  rw [signs_mul _ (h1 _), signs_mul _ (h1 _), signs_mul _ (h1 _), signs_mul _ (h1 _)]
  unfold fourC
  simp only [List.map_append, List.map_replicate]
  generalize (ns.map (tb a)).count true = A
  generalize (ns.map (tb b)).count true = B
  have q1 : (if (B : Int) < (A : Int) then (B : Int) else (A : Int)).toNat = min A B := by split <;> omega
  have q2 : ((A : Int) - (B : Int)).toNat = A - B := by omega
  have q3 : ((B : Int) - (A : Int)).toNat = B - A := by omega
  have q4 : ((ns.length : Int) - if (B : Int) > (A : Int) then (B : Int) else (A : Int)).toNat = ns.length - max A B := by split <;> omega
  rw [q1, q2, q3, q4]
theorem x_diff (hinj : ∀ x y, sg x = sg y → x = y) (hsh : ∀ q : BB, Txt.item (signsT p) ((q.1.toNat : Int) + 2 * (q.2.toNat : Int)) = sg q) (e_d : Str.ofString "-" = sg (false, false))
    (hin : ∀ q : BB, Txt.contains (Txt.slice (signsT p) (some 1) (some 3)) (sg q) = (q.1 != q.2)) :
    uld (ns.map (fun m => Txt.item (fm m) p)).reverse ((ladder ns).map (fun m => Txt.item (fm m) p)) = (diffA ns p, diffB ns p) := by
  have hn3 : ¬ p.fmod 3 ≠ 0 := fun x => x h3
  have hA : diffA ns p = (lostT ns p).reverse := by unfold diffA; rw [if_neg hp0, if_neg hn3]
  have hB : diffB ns p = signs (lastT ns p) := by unfold diffB; rw [if_neg hp0, if_neg hn3]
  have hshown : ns.map (shownAt p) = (ns.map (fun m => (tb a m, tb b m))).map sg := by
    rw [List.map_map]
    refine List.map_congr_left fun m hm => ?_
    unfold shownAt
    rw [ha, hb, bit_tb (hr m hm).1, bit_tb (hr m hm).1]
    exact hsh (tb a m, tb b m)
  have hs1 : Txt.item (signsT p) 1 = sg (true, false) := hsh (true, false)
  have hs2 : Txt.item (signsT p) 2 = sg (false, true) := hsh (false, true)
  have hs3 : Txt.item (signsT p) 3 = sg (true, true) := hsh (true, true)
  have hps : Len35 (ns.map (fun m => (tb a m, tb b m))).length := by rw [List.length_map]; exact hlen
  have hok := okAll hps
  unfold okP at hok
  have hok := of_decide_eq_true hok
  have f1 : ((ns.map (fun m => (tb a m, tb b m))).map (·.1)) = ns.map (tb a) := by rw [List.map_map]; rfl
  have f2 : ((ns.map (fun m => (tb a m, tb b m))).map (·.2)) = ns.map (tb b) := by rw [List.map_map]; rfl
  rw [f1, f2, List.length_map] at hok
  rw [x_rows hlen hr hit, x_cols hr hit, hA, hB, uld_rm]
  unfold lostT lastT
  have hpr : pairsT ns p = (prP (ns.map (fun m => (tb a m, tb b m))) : Nat) := by
    unfold pairsT prP
    rw [hshown, hs1, hs2, count_inj hinj, count_inj hinj]
    split <;> omega
  rw [hshown, hpr, hs3]
  generalize ns.map (fun m => (tb a m, tb b m)) = ps at *
  generalize fourC ns.length ((ns.map (tb a)).count true) ((ns.map (tb b)).count true) = ls at *
  have hlost : ∀ (l acc : List BB), (l.map sg).foldl (lostStep (signsT p) ((prP ps : Nat) : Int)) (acc.map sg) = (l.foldl (lostP (prP ps)) acc).map sg := by
    intro l
    induction l with
    | nil => intro acc; rfl
    | cons q t ih =>
      intro acc
      rw [List.map_cons, List.foldl_cons, List.foldl_cons, ← ih]
      congr 1
      unfold lostStep lostP
      rw [hin, count_inj hinj]
      by_cases hc : (q.1 != q.2) = true ∧ acc.count q < prP ps
      · rw [if_pos hc, if_pos ⟨hc.1, by have := hc.2; omega⟩, List.map_append]; rfl
      · rw [if_neg hc, if_neg (fun x => hc ⟨x.1, by have := x.2; omega⟩)]
  have hl0 := hlost ps []
  rw [List.map_nil] at hl0
  rw [hl0, signs_app, signs_mul _ (h1 _), signs_mul _ (by rfl), e_d, Int.toNat_natCast, ← List.map_reverse, ← List.map_reverse, rm_map hinj, rm_map hinj]
  congr 1
  · rw [← hok.1]
    congr 1
    exact rm_congr fun z _ => by rw [count_inj hinj]
  · have e2 : List.replicate (prP ps) (sg (true, true)) ++ List.replicate (prP ps) (sg (false, false)) = (List.replicate (prP ps) (true, true) ++ List.replicate (prP ps) (false, false)).map sg := by simp only [List.map_append, List.map_replicate]
    rw [e2, ← hok.2]
    congr 1
    exact rm_congr fun z _ => by rw [count_inj hinj, List.count_reverse]
end
theorem sorted_at (n A i : Nat) (h : i < n) (_hA : A ≤ n) : (sorted n A)[i]? = some (decide (i < A)) := by
  unfold sorted
  by_cases hi : i < A
  · rw [List.getElem?_append_left (by simpa using hi), List.getElem?_replicate, if_pos hi, decide_eq_true hi]
  · rw [List.getElem?_append_right (by simpa using hi), List.length_replicate, List.getElem?_replicate, if_pos (by omega), decide_eq_false hi]
theorem four_bits {x : Int} (h : In16 x) : x.fdiv 4096 = (tb 12 x).toNat + 2 * (tb 13 x).toNat + 4 * (tb 14 x).toNat + 8 * (tb 15 x).toNat := by
  have b12 := bit_tb h.1 12
  have b13 := bit_tb h.1 13
  have b14 := bit_tb h.1 14
  have b15 := bit_tb h.1 15
  have e : ∀ k : Nat, bit x (k : Int) = x / 2 ^ k % 2 := fun k => by
    unfold bit
    rw [Int.toNat_natCast, Int.fdiv_eq_ediv_of_nonneg x (Int.le_of_lt (Int.pow_pos (by decide))), Int.fmod_eq_emod_of_nonneg _ (by decide)]
  rw [e] at b12 b13 b14 b15
  rw [← b12, ← b13, ← b14, ← b15, Int.fdiv_eq_ediv_of_nonneg x (by decide)]
  have := h.1
  have := h.2
  omega
section
variable {ns : List Int} (hlen : Len35 ns.length) (hr : ∀ m ∈ ns, In16 m)
include hlen hr
theorem rung_at {i : Nat} {x : Int} (hx : (ladder ns)[i]? = some x) : x.fdiv 4096 = rungNo ns (i : Int) := by
  have hxi : In16 x := (ladder_tb hr).1 x (List.mem_of_getElem? hx)
  have hi : i < ns.length := by
    have := (List.getElem?_eq_some_iff.mp hx).1
    rw [show (ladder ns).length = ns.length from ladderTo_len ns _] at this
    exact this
  have hb : ∀ k : Nat, (tb k x).toNat = if cnt ns (k : Int) > (i : Int) then 1 else 0 := by
    intro k
    have h1 : ((ladder ns).map (tb k))[i]? = some (tb k x) := by rw [List.getElem?_map, hx]; rfl
    have hc : (ns.map (tb k)).count true ≤ ns.length := by have := List.count_le_length (a := true) (l := ns.map (tb k)); simpa using this
    rw [ladder_bits hlen hr k, sorted_at _ _ _ hi hc] at h1
    rw [← Option.some.inj h1, cnt_tb hr]
    by_cases q : i < (ns.map (tb k)).count true
    · rw [decide_eq_true q, if_pos (by omega)]; rfl
    · rw [decide_eq_false q, if_neg (by omega)]; rfl
  rw [four_bits hxi, hb 12, hb 13, hb 14, hb 15]
  unfold rungNo
  have c12 : ((12 : Nat) : Int) = 12 := rfl
  have c13 : ((13 : Nat) : Int) = 13 := rfl
  have c14 : ((14 : Nat) : Int) = 14 := rfl
  have c15 : ((15 : Nat) : Int) = 15 := rfl
  rw [c12, c13, c14, c15]
  (repeat' split) <;> omega
theorem zero_list : (ladder ns).map (fun m => Txt.item (fm m) 0) = signs (colS ns 0) := by
  rw [colS_signs0]
  apply List.ext_getElem?
  intro i
  rw [List.getElem?_map, List.getElem?_map]
  by_cases hi : i < ns.length
  · have hl : i < (ladder ns).length := by rw [show (ladder ns).length = ns.length from ladderTo_len ns _]; exact hi
    have hx : (ladder ns)[i]? = some (ladder ns)[i] := List.getElem?_eq_getElem hl
    rw [hx, List.getElem?_range hi]
    show some (Txt.item (fm (ladder ns)[i]) 0) = some (kind (rungNo ns (i : Int)))
    rw [item_0 ((ladder_tb hr).1 _ (List.mem_of_getElem? hx)), rung_at hlen hr hx]
  · rw [List.getElem?_eq_none (by rw [show (ladder ns).length = ns.length from ladderTo_len ns _]; omega), List.getElem?_eq_none (by rw [List.length_range]; omega)]
    rfl
theorem zero_diff : uld (ns.map (fun m => Txt.item (fm m) 0)).reverse ((ladder ns).map (fun m => Txt.item (fm m) 0)) = (diffA ns 0, diffB ns 0) := by
  have e : ns.map (fun m => Txt.item (fm m) 0) = kindsOf ns := List.map_congr_left fun m hm => item_0 (hr m hm)
  have hA : diffA ns 0 = overTo (kindsOf ns).reverse (signs (colS ns 0)) (kindsOf ns).reverse.length := by unfold diffA; rw [if_pos rfl]
  have hB : diffB ns 0 = overTo (signs (colS ns 0)) (kindsOf ns) (signs (colS ns 0)).length := by unfold diffB; rw [if_pos rfl]
  rw [zero_list hlen hr, e, hA, hB, over_rm, over_rm, uld_rm]
  congr 1
  exact rm_congr fun z _ => by rw [List.count_reverse]
end
def sgS (q : BB) : Str := if q.1 then (if q.2 then Str.ofString "s" else Str.ofString "x") else (if q.2 then Str.ofString "S" else Str.ofString "-")
def sgT (q : BB) : Str := if q.1 then (if q.2 then Str.ofString "t" else Str.ofString "x") else (if q.2 then Str.ofString "T" else Str.ofString "-")
theorem sgS_one : ∀ q, (sgS q).length = 1 := by rintro ⟨a, b⟩; revert a b; decide
theorem sgT_one : ∀ q, (sgT q).length = 1 := by rintro ⟨a, b⟩; revert a b; decide
theorem sgS_inj : ∀ x y, sgS x = sgS y → x = y := by rintro ⟨a, b⟩ ⟨c, d⟩; revert a b c d; decide
theorem sgT_inj : ∀ x y, sgT x = sgT y → x = y := by rintro ⟨a, b⟩ ⟨c, d⟩; revert a b c d; decide
theorem sh3 : ∀ q : BB, Txt.item (signsT 3) ((q.1.toNat : Int) + 2 * (q.2.toNat : Int)) = sgS q := by rintro ⟨a, b⟩; revert a b; decide +kernel
theorem sh6 : ∀ q : BB, Txt.item (signsT 6) ((q.1.toNat : Int) + 2 * (q.2.toNat : Int)) = sgS q := by rintro ⟨a, b⟩; revert a b; decide +kernel
theorem sh9 : ∀ q : BB, Txt.item (signsT 9) ((q.1.toNat : Int) + 2 * (q.2.toNat : Int)) = sgT q := by rintro ⟨a, b⟩; revert a b; decide +kernel
theorem in3 : ∀ q : BB, Txt.contains (Txt.slice (signsT 3) (some 1) (some 3)) (sgS q) = (q.1 != q.2) := by rintro ⟨a, b⟩; revert a b; decide +kernel
theorem in6 : ∀ q : BB, Txt.contains (Txt.slice (signsT 6) (some 1) (some 3)) (sgS q) = (q.1 != q.2) := by rintro ⟨a, b⟩; revert a b; decide +kernel
theorem in9 : ∀ q : BB, Txt.contains (Txt.slice (signsT 9) (some 1) (some 3)) (sgT q) = (q.1 != q.2) := by rintro ⟨a, b⟩; revert a b; decide +kernel
section
variable {ns : List Int} (hlen : Len35 ns.length) (hr : ∀ m ∈ ns, In16 m)
include hlen hr
theorem col_list : ∀ {i : Nat}, i < 10 → (ladder ns).map (fun m => Txt.item (fm m) (i : Int)) = signs (colS ns (i : Int))
  | 0, _ => zero_list hlen hr
  | 1, _ => rw_list hlen hr (k := 8) (c := Str.ofString "r") (p := 1) rfl (by decide) (by decide) rfl (by decide) fun _ h => item_1 h
  | 2, _ => rw_list hlen hr (k := 7) (c := Str.ofString "w") (p := 2) rfl (by decide) (by decide) rfl (by decide) fun _ h => item_2 h
  | 3, _ => x_list hlen hr (a := 6) (b := 11) (sg := sgS) (p := 3) sgS_one (by decide) (by decide) rfl rfl (fun _ h => item_3 h) (by decide) (by decide) (by decide) (by decide)
  | 4, _ => rw_list hlen hr (k := 5) (c := Str.ofString "r") (p := 4) rfl (by decide) (by decide) rfl (by decide) fun _ h => item_4 h
  | 5, _ => rw_list hlen hr (k := 4) (c := Str.ofString "w") (p := 5) rfl (by decide) (by decide) rfl (by decide) fun _ h => item_5 h
  | 6, _ => x_list hlen hr (a := 3) (b := 10) (sg := sgS) (p := 6) sgS_one (by decide) (by decide) rfl rfl (fun _ h => item_6 h) (by decide) (by decide) (by decide) (by decide)
  | 7, _ => rw_list hlen hr (k := 2) (c := Str.ofString "r") (p := 7) rfl (by decide) (by decide) rfl (by decide) fun _ h => item_7 h
  | 8, _ => rw_list hlen hr (k := 1) (c := Str.ofString "w") (p := 8) rfl (by decide) (by decide) rfl (by decide) fun _ h => item_8 h
  | 9, _ => x_list hlen hr (a := 0) (b := 9) (sg := sgT) (p := 9) sgT_one (by decide) (by decide) rfl rfl (fun _ h => item_9 h) (by decide) (by decide) (by decide) (by decide)
  | i + 10, h => absurd h (by omega)
theorem diff_list : ∀ {i : Nat}, i < 10 → uld (ns.map (fun m => Txt.item (fm m) (i : Int))).reverse ((ladder ns).map (fun m => Txt.item (fm m) (i : Int))) = (diffA ns (i : Int), diffB ns (i : Int))
  | 0, _ => zero_diff hlen hr
  | 1, _ => rw_diff hlen hr (k := 8) (c := Str.ofString "r") (p := 1) (by decide) (by decide) fun _ h => item_1 h
  | 2, _ => rw_diff hlen hr (k := 7) (c := Str.ofString "w") (p := 2) (by decide) (by decide) fun _ h => item_2 h
  | 3, _ => x_diff hlen hr (a := 6) (b := 11) (sg := sgS) (p := 3) sgS_one (by decide) (by decide) rfl rfl (fun _ h => item_3 h) sgS_inj sh3 rfl in3
  | 4, _ => rw_diff hlen hr (k := 5) (c := Str.ofString "r") (p := 4) (by decide) (by decide) fun _ h => item_4 h
  | 5, _ => rw_diff hlen hr (k := 4) (c := Str.ofString "w") (p := 5) (by decide) (by decide) fun _ h => item_5 h
  | 6, _ => x_diff hlen hr (a := 3) (b := 10) (sg := sgS) (p := 6) sgS_one (by decide) (by decide) rfl rfl (fun _ h => item_6 h) sgS_inj sh6 rfl in6
  | 7, _ => rw_diff hlen hr (k := 2) (c := Str.ofString "r") (p := 7) (by decide) (by decide) fun _ h => item_7 h
  | 8, _ => rw_diff hlen hr (k := 1) (c := Str.ofString "w") (p := 8) (by decide) (by decide) fun _ h => item_8 h
  | 9, _ => x_diff hlen hr (a := 0) (b := 9) (sg := sgT) (p := 9) sgT_one (by decide) (by decide) rfl rfl (fun _ h => item_9 h) sgT_inj sh9 rfl in9
  | i + 10, h => absurd h (by omega)
end
theorem lay_ok {x : Str} (h : PyData.strOk x = true) : PyData.canLay0 (.str x) = true := by rw [PyData.canLay0]; exact h
theorem rows_ok : ∀ row ∈ fmTab, ∀ p ∈ row, PyData.strOk p.2 = true := by decide +kernel
theorem sgn_ok {i md : Int} {row : List (Int × Str)} (h : row ∈ fmTab) : PyData.canLay0 (.str (sgn i md row)) = true := by
  unfold sgn
  split
  · rename_i p hp
    exact lay_ok (rows_ok row h p (List.mem_of_find?_eq_some hp))
  · split <;> exact lay_ok (by decide +kernel)
theorem item_ok {i : Nat} (hi : i < 10) (m : Int) : PyData.canLay0 (.str (Txt.item (fm m) (i : Int))) = true := by
  have h : fmTab[i]? = some (fmTab[i]'hi) := List.getElem?_eq_getElem hi
  rw [fm_at h]
  exact sgn_ok (List.mem_of_getElem? h)
theorem plain_col {ns : List Int} (hlen : ns.length = 3 ∨ ns.length = 4 ∨ ns.length = 5) (hrng : ∀ m ∈ ns, 0 ≤ m ∧ m < 65536) {i : Nat} (hi : i < 10) : Txt.join (Str.ofString "") ((ladder ns).map (fun m => Txt.item (fm m) (i : Int))) = colS ns (i : Int) :=
  col_join (fun y hy => by obtain ⟨q, _, rfl⟩ := List.mem_map.mp hy; rfl) (col_list hlen hrng hi)
theorem plain_diff {ns : List Int} (hlen : ns.length = 3 ∨ ns.length = 4 ∨ ns.length = 5) (hrng : ∀ m ∈ ns, 0 ≤ m ∧ m < 65536) {i : Nat} (hi : i < 10) :
    uld (ns.map (fun m => Txt.item (fm m) (i : Int))).reverse ((ladder ns).map (fun m => Txt.item (fm m) (i : Int))) = (diffA ns (i : Int), diffB ns (i : Int)) := diff_list hlen hrng hi
theorem plain_ok {ns : List Int} (hlen : ns.length = 3 ∨ ns.length = 4 ∨ ns.length = 5) (hrng : ∀ m ∈ ns, 0 ≤ m ∧ m < 65536) {i : Nat} (hi : i < 10) :
    (∀ x ∈ diffA ns (i : Int), PyData.canLay0 (.str x) = true) ∧ (∀ x ∈ diffB ns (i : Int), PyData.canLay0 (.str x) = true) := by
  have h := plain_diff hlen hrng hi
  obtain ⟨s1, s2⟩ := uld_sub (ns.map (fun m => Txt.item (fm m) (i : Int))).reverse ((ladder ns).map (fun m => Txt.item (fm m) (i : Int)))
  rw [h] at s1 s2
  refine ⟨fun x hx => ?_, fun x hx => ?_⟩
  · obtain ⟨q, _, rfl⟩ := List.mem_map.mp (List.mem_reverse.mp (s1 x hx))
    exact item_ok hi q
  · obtain ⟨q, _, rfl⟩ := List.mem_map.mp (s2 x hx)
    exact item_ok hi q
end Mine
end
section
namespace Mine
theorem off_V1 : ∃ x : Nat, x = 0 := by
  w_top off
  first | (walk1; fail) | exact ⟨0, rfl⟩
end Mine
open PySem PySem.W PyProof.Rows PySem.Calls
namespace Mine
theorem lay_strs : ∀ {xs : List Str}, (∀ x ∈ xs, PyData.canLay0 (.str x) = true) → PyData.canLayAll0 (xs.map PyData.str) = true
  | [], _ => rfl
  | x :: r, h => by
    rw [List.map_cons, PyData.canLayAll0, h x (.head _), lay_strs fun y hy => h y (.tail _ hy)]; rfl
theorem depth_strs : ∀ xs : List Str, PyData.depthAll (xs.map PyData.str) ≤ 1
  | [] => by decide
  | x :: r => by
    have := depth_strs r
    rw [List.map_cons, PyData.depthAll, PyData.depth]
    omega
def twoD (xs ys : List Str) : PyData := .tuple [.list (xs.map .str), .list (ys.map .str)]
theorem two_shaped {xs ys : List Str} (h1 : ∀ x ∈ xs, PyData.canLay0 (.str x) = true) (h2 : ∀ x ∈ ys, PyData.canLay0 (.str x) = true) : SeqAt.shaped (twoD xs ys) = true := by
  have hc : (twoD xs ys).canLay0 = true := by
    unfold twoD
    simp only [PyData.canLay0, PyData.canLayAll0, lay_strs h1, lay_strs h2, Bool.and_self]
  have hd : (twoD xs ys).depth ≤ 64 := by
    unfold twoD
    simp only [PyData.depth, PyData.depthAll]
    have := depth_strs xs
    have := depth_strs ys
    omega
  unfold SeqAt.shaped
  rw [hc, decide_eq_true hd]; rfl
section
variable {prog : Program} {w : World} {A : Around} {E : Value → Shared → Prop} {s : Shared} {h₀ : Heap} {L : Addr} {news : List (Addr × Obj)} {Q : Value → Shared → Prop}
theorem two_reads {tp a b : Addr} {us ws : Array Value} {k1 k2 k3 : Nat} {xs ys : List Str} (N : News h₀ L s.heap news) (m1 : (tp, ({ cls := .type "tuple", data := .seq #[.ref a, .ref b] k1 } : Obj)) ∈ news) (m2 : (a, listOf us k2) ∈ news) (m3 : (b, listOf ws k3) ∈ news)
    (hu : StrsAre us.toList xs) (hw : StrsAre ws.toList ys) : ∃ as, Reads s.heap (.ref tp) (twoD xs ys) as :=
  ⟨_, reads_tuple_at (N _ m1).1 rfl rfl (.cons (reads_list_at (N _ m2).1 rfl rfl (hu.reads _)) (.cons (reads_list_at (N _ m3).1 rfl rfl (hw.reads _)) .nil))⟩
theorem ne_same {tp a b tp' a' b' : Addr} {us ws us' ws' : Array Value} {k1 k2 k3 k1' k2' k3' : Nat} {xs ys : List Str} (N : News h₀ L s.heap news) (m1 : (tp, ({ cls := .type "tuple", data := .seq #[.ref a, .ref b] k1 } : Obj)) ∈ news) (m2 : (a, listOf us k2) ∈ news) (m3 : (b, listOf ws k3) ∈ news)
    (m1' : (tp', ({ cls := .type "tuple", data := .seq #[.ref a', .ref b'] k1' } : Obj)) ∈ news) (m2' : (a', listOf us' k2') ∈ news) (m3' : (b', listOf ws' k3') ∈ news)
    (hu : StrsAre us.toList xs) (hw : StrsAre ws.toList ys) (hu' : StrsAre us'.toList xs) (hw' : StrsAre ws'.toList ys) (h1 : ∀ x ∈ xs, PyData.canLay0 (.str x) = true) (h2 : ∀ x ∈ ys, PyData.canLay0 (.str x) = true) (hr : A.units + 64 < cLine) (h : Q (.bool false) s) :
    wpAny (model prog w) A (compareOp .NotEq (.ref tp) (.ref tp')) Q E s := by
  obtain ⟨as, ra⟩ := two_reads N m1 m2 m3 hu hw
  obtain ⟨bs, rb⟩ := two_reads N m1' m2' m3' hu' hw'
  have sh := two_shaped h1 h2
  refine ne_dataH ra rb sh sh hr ?_
  rw [SeqAt.eqv_refl _ (SeqAt.canLay_of_shaped sh)]
  exact h
end
end Mine
end
section
namespace Mine
theorem off_X1 : ∃ x : Nat, x = 0 := by
  w_top off
  first | (walk1; fail) | exact ⟨0, rfl⟩
end Mine
open PySem PySem.W PyProof.Rows PySem.Calls
namespace Mine
theorem hd1 : 302 + 1 < recursionLimit := by decide
theorem hd2 : 302 + 2 < recursionLimit := by decide
theorem hd3 : 302 + 3 < recursionLimit := by decide
theorem hu1 : 7 + 8 * 1 < cLine := by decide
theorem hu2 : 7 + 8 * 2 < cLine := by decide
theorem hu3 : 7 + 8 * 3 < cLine := by decide
theorem map_at {α β : Type} {f : α → β} {l : List α} {i : Nat} {y : β} (h : (l.map f)[i]? = some y) : ∃ x, l[i]? = some x ∧ y = f x := by
  rw [List.getElem?_map] at h
  cases e : l[i]? with
  | none => rw [e] at h; cases h
  | some x => rw [e] at h; cases h; exact ⟨x, rfl, rfl⟩
theorem off_four {a b c d I : Addr} {o1 o2 o3 o4 : Obj} (h1 : @Ne Nat a I) (h2 : @Ne Nat b I) (h3 : @Ne Nat c I) (h4 : @Ne Nat d I) : ∀ p ∈ [(a, o1), (b, o2), (c, o3), (d, o4)], p.1 ∉ [I] := by
  intro p hp hm
  have hm := List.mem_singleton.mp hm
  rcases List.mem_cons.mp hp with rfl | hp
  · exact h1 hm
  · rcases List.mem_cons.mp hp with rfl | hp
    · exact h2 hm
    · rcases List.mem_cons.mp hp with rfl | hp
      · exact h3 hm
      · rw [List.mem_singleton.mp hp] at hm; exact h4 hm
theorem off_pair {a b : Addr} {oa ob : Obj} {rest : List (Addr × Obj)} (h1 : ∀ q ∈ rest, @Ne Nat a q.1) (h2 : ∀ q ∈ rest, @Ne Nat b q.1) : ∀ p ∈ [(a, oa), (b, ob)], ∀ q ∈ rest, @Ne Nat p.1 q.1 := by
  intro p hp
  rcases List.mem_cons.mp hp with rfl | hp
  · exact h1
  · rw [List.mem_singleton.mp hp]; exact h2
theorem off_rest5 {x a b c d e : Addr} {oa ob oc od oe : Obj} (h : (@Ne Nat a x) ∧ (@Ne Nat b x) ∧ (@Ne Nat c x) ∧ (@Ne Nat d x) ∧ (@Ne Nat e x)) : ∀ q ∈ [(a, oa), (b, ob), (c, oc), (d, od), (e, oe)], @Ne Nat x q.1 := by
  obtain ⟨h1, h2, h3, h4, h5⟩ := h
  intro p hp
  rcases List.mem_cons.mp hp with rfl | hp
  · exact fun q => h1 q.symm
  · rcases List.mem_cons.mp hp with rfl | hp
    · exact fun q => h2 q.symm
    · rcases List.mem_cons.mp hp with rfl | hp
      · exact fun q => h3 q.symm
      · rcases List.mem_cons.mp hp with rfl | hp
        · exact fun q => h4 q.symm
        · rw [List.mem_singleton.mp hp]; exact fun q => h5 q.symm
theorem no_raise {M : Model} {A : Around} {α : Type} {t : Sem α} {Q : α → Shared → Prop} {E : Value → Shared → Prop} {s : Shared} (h : wpAny M A t Q (fun _ _ => False) s) : wpAny M A t Q E s := wpAny_mono h (fun _ _ x => x) (fun _ _ x => x.elim)
theorem conT_use {w : World} {k f : Nat} {vs : List Value} {pre rest : List (Addr × Obj)} {post : Value → List (Addr × Obj) → Prop} {mean : ExcName → Option Value} {mg mb : Str → Option Value} {dp un : Nat} {gd : Option (List Code)} {cn : Str} {cs : Scope} {a : Addr} {ccd : Value} {cl : List (Str × Addr)} {h₀ : Heap} {L : Addr}
    {m : Str → Option Value} {s : Shared} {Q E : Value → Shared → Prop} (C : ConT w k f vs pre post) (F : Fr h₀ L s.heap m) (X : (Mine.hd.heap_39 w.params).In h₀) (N : News h₀ L s.heap (pre ++ rest)) (hoff : ∀ p ∈ pre, ∀ q ∈ rest, @Ne Nat p.1 q.1) (T : Top Mine.hd.view_39 (looseW Mine.hd.view_39 [Str.ofString "_filemode_table"]) mean mg mb h₀) (hk : cs.kind = .function) (hd : dp + k < recursionLimit) (hu : un + 8 * k < cLine)
    (ret : ∀ r made h' tk', post r made → Fr h₀ L h' m → News h₀ L h' (made ++ rest) → (∀ q ∈ made, ∀ p ∈ rest, @Ne Nat p.1 q.1) → Q r { s with heap := h', toks := tk' }) :
    wpAny (model PySem.Challenge.rw_oh0012_01.row.prog w) (ktrTop dp un gd cn cs L a ccd cl []) (call (.ref f) vs) Q E s := by
  refine C mean mg mb dp un gd cn cs a ccd cl h₀ L m s Q E F X (fun p hp => N p (List.mem_append_left _ hp)) T hk hd hu fun r made h' tk' hp F' kp N' fr => ?_
  refine ret r made h' tk' hp F' (fun q hq => ?_) (fun q hq p hp' e => ?_)
  · rcases List.mem_append.mp hq with hq | hq
    · exact N' q hq
    · have := N q (List.mem_append_right _ hq)
      exact ⟨kp _ _ this.2.1 (fun p hp => hoff p hp q hq) this.1, this.2⟩
  · rcases fr q hq with x | x
    · obtain ⟨z, hz, hze⟩ := List.mem_map.mp x
      exact hoff z hz p hp' (by rw [hze]; exact e.symm)
    · have := (N p (List.mem_append_right _ hp')).1
      rw [show p.1 = q.1 from e, x] at this
      cases this
local macro_rules | `(tactic| walk_at "CompSrc") => `(tactic| ((with_reducible show LCg.CompSrc _ _ _ _ _ _ _ (Expr.Subscript (Expr.Name (Str.ofString "row") _) _ _) _ _ _ _ _ _); (refine halt ?_)))
local macro_rules | `(tactic| walk_at "subscriptTail") => `(tactic| (k_here; (with_reducible show wpAny _ _ (subscriptTail _ _ (Value.str _ _) (Value.int _ _)) _ _ _); (refine' item_rule ?k1 ?k0 ?k2 ?k3 ?_ ?k4 ?k5; (case k1 => assumption); (case k0 => decide); (case k2 => omega); (case k3 => omega); (case k4 => with_unfolding_all rfl); (case k5 => (intro _; with_unfolding_all rfl)))))
local macro_rules | `(tactic| walk_at "call ref") => `(tactic| (k_here; (with_reducible show wpAny _ _ (call (Value.ref 101) _) _ _ _); (refine' con_pure (c_col _ _ _ _ _ _ _ ?hi ?hz ?h0 ?h1) ?B ?F ?X ?N ?T ?hk ?hR ?hd ?hu ?_; (case F => k_asm); (case N => k_asm); (case hR => k_dflt (exact News.get (by k_asm) (by k_mem))); (case hi => assumption); (case hz => assumption); (case h0 => omega); (case h1 => omega); (case B => exact below_caller _); (case X => k_asm); (case T => k_asm); (case hk => exact rfl); (case hd => (first | exact hd1 | exact hd2 | exact hd3 | exact hu1 | exact hu2 | exact hu3)); (case hu => (first | exact hd1 | exact hd2 | exact hd3 | exact hu1 | exact hu2 | exact hu3))); (intro r' h' tk' hr' F' N'); (obtain ⟨t9, e9⟩ := hr'); (subst e9)))
local macro_rules | `(tactic| walk_at "call ref") => `(tactic| ((with_reducible show wpAny _ _ (call (Value.ref 68) _) _ _ _); (refine halt ?_)))
local macro_rules | `(tactic| walk_at "call ref") => `(tactic| (k_here; (with_reducible show wpAny _ _ (call (Value.ref 106) _) _ _ _); (refine' con_made (c_diff _ _ _ _ _ _ _ ?hi ?hz ?hrng ?h0 ?h1) ?B ?F ?X ?N ?T ?hk ?hR ?hd ?hu ?_; (case F => k_asm); (case N => k_asm); (case hR => k_dflt (exact News.get (by k_asm) (by k_mem))); (case hi => assumption); (case hz => assumption); (case hrng => assumption); (case h0 => omega); (case h1 => omega); (case B => exact below_caller _); (case X => k_asm); (case T => k_asm); (case hk => exact rfl); (case hd => (first | exact hd1 | exact hd2 | exact hd3 | exact hu1 | exact hu2 | exact hu3)); (case hu => (first | exact hd1 | exact hd2 | exact hd3 | exact hu1 | exact hu2 | exact hu3))); (intro r' made' h' tk' hp' F' N' ne'); (obtain ⟨tp', la', lb', us', ws', k1', k2', k3', e1, e2, hus', hws'⟩ := hp'); (subst e1); (subst e2); (simp only [List.cons_append, List.nil_append] at N')))
local macro_rules | `(tactic| walk_at "compareOp NotEq ref ref") => `(tactic| ((with_reducible rename Halt True => hmk9); (revert hmk9; intro hmk9); (refine halt ?_)))
local macro_rules | `(tactic| walk_at "CompEnd") => `(tactic| ((with_reducible show LCg.CompEnd _ _ _ _ _ _ _ _ _ _ _ _ _ _); (refine halt ?_)))
/-- what the law's loop does, from where it starts -/
def ForOk (w : World) (qual : Str) (scope : Scope) (fs : Stmt) : Prop :=
  ∀ (mean : ExcName → Option Value) (mg mb : Str → Option Value) (gd : Option (List Code)) (fa : Addr) (cdv : Value) (h₀ : Heap) (L : Addr) (m : Str → Option Value) (s : Shared) (l bD aD : Addr) (vs ys zs : List Value) (ns : List Int) (k : Nat) (oc0 : Obj) (cv0 : Option Value),
    Top Mine.hd.view_39 (looseW Mine.hd.view_39 [Str.ofString "_filemode_table"]) mean mg mb h₀ → (Mine.hd.heap_39 w.params).In h₀ → Fr h₀ L s.heap m → News h₀ L s.heap [(aD, LCg.lst zs), (bD, LCg.lst ys), (l, listOf vs.toArray k), (L + 1, oc0)] → oc0.data = .cell cv0 →
    (∀ q ∈ [(Str.ofString "modes", Value.ref l), (Str.ofString "before", Value.ref bD), (Str.ofString "after", Value.ref aD)], m q.1 = some q.2) →
    @Ne Nat bD aD → @Ne Nat l aD → @Ne Nat (L + 1) aD → @Ne Nat l bD → @Ne Nat (L + 1) bD → @Ne Nat (L + 1) l → IntsAre vs ns → StrsAre ys (ns.map fm) → StrsAre zs ((ladder ns).map fm) → (ns.length = 3 ∨ ns.length = 4 ∨ ns.length = 5) → (∀ m ∈ ns, 0 ≤ m ∧ m < 65536) →
    wpAny (model PySem.Challenge.rw_oh0012_01.row.prog w) (ktrTop 302 7 gd qual scope L fa cdv (cellsFrom (L + 1) scope.names []) []) (exec fs (envOfC qual scope L fa cdv)) (fun f s' => f = .next ∧ ∃ h' tk' m', s' = { s with heap := h', toks := tk' } ∧ Fr h₀ L h' m') (fun _ _ => False) s
theorem for_of {w : World} {oc od osl name qual params b0 b1 b2 b3 b4 fs b6 scope dV kV doc pm an cdv ct} {oc' od' osl' name' qual' params' b0' b1' b2' b3' b4' fs' b6' scope' dV' kV' doc' pm' an' cdv' ct'}
    (ho : (Mine.hd.heap_39 w.params).lookup 111 = some ⟨oc, od, .func (fnOf name qual params [b0, b1, b2, b3, b4, fs, b6] scope dV kV doc pm an cdv ct), osl⟩)
    (h9 : (Mine.hd.heap_39 w.params).lookup 111 = some ⟨oc', od', .func (fnOf name' qual' params' [b0', b1', b2', b3', b4', fs', b6'] scope' dV' kV' doc' pm' an' cdv' ct'), osl'⟩) (h : ForOk w qual' scope' fs') : ForOk w qual scope fs := by
  rw [h9] at ho
  cases ho
  exact h
set_option maxHeartbeats 8000000 in
theorem law_for (w : World) {oc od osl name qual params b0 b1 b2 b3 b4 fs b6 scope dV kV doc pm an cdv ct}
    (ho : (Mine.hd.heap_39 w.params).lookup 111 = some ⟨oc, od, .func (fnOf name qual params [b0, b1, b2, b3, b4, fs, b6] scope dV kV doc pm an cdv ct), osl⟩) : ForOk w qual scope fs := by
  refine' for_of ho ?h9 ?main
  case h9 => k_dflt k_is
  case main =>
    intro mean mg mb gd fa cdv h₀ L m s l bD aD vs ys zs ns k oc0 cv0 T X F3 N4 hoc0 hm0 n1 n2 n3 n4 n5 n6 hi hb ha hlen hrng
    have hll : (ladder ns).length = ns.length := ladderTo_len ns _
    have hyn : ys.length = ns.length := by rw [hb.length, List.length_map]
    have hzn : zs.length = ns.length := by rw [ha.length, List.length_map, hll]
    have hl5 : ns.length ≤ 5 := by omega
    have hn5 : ns.length ≤ 100 := by omega
    have hz5 : zs.length ≤ 5 := by omega
    have hy5 : ys.length ≤ 5 := by omega
    refine for_range (a := 0) (b := 10) (c := 1) (n := 10) rfl F3 N4 (fun _ => rfl) (by decide) (by decide) ?hiter
      (fun i m' news' => (∀ q ∈ [(Str.ofString "modes", Value.ref l), (Str.ofString "before", Value.ref bD), (Str.ofString "after", Value.ref aD)], m' q.1 = some q.2) ∧ ∃ oc cv, news' = [(aD, LCg.lst zs), (bD, LCg.lst ys), (l, listOf vs.toArray k), (L + 1, oc)] ∧ oc.data = .cell cv) ?h0 ?step ?done
    case hiter =>
      intro Q' hQ
      k_steps
      exact hQ _ _ _ _ _ _ (by assumption) (by k_asm) (by k_asm)
    case h0 => exact ⟨hm0, oc0, _, rfl, hoc0⟩
    case step =>
      clear F3 N4 hoc0 hm0
      rintro i t m₁ news₁ h tk I oI hin ⟨hm, oc, cv, rfl, hoc⟩ hI F₁ N₁
      have hI1 : @Ne Nat aD I := hI _ (.head _)
      have hI2 : @Ne Nat bD I := hI _ (.tail _ (.head _))
      have hI3 : @Ne Nat l I := hI _ (.tail _ (.tail _ (.head _)))
      have hI4 : @Ne Nat (L + 1) I := hI _ (.tail _ (.tail _ (.tail _ (.head _))))
      replace F₁ := fr_tell F₁ hm
      have hz1 : (0 : Int) + (i : Int) * 1 = (i : Int) := by omega
      rw [hz1]
      k_steps
      unfold Halt
      refine comp_src (fun j y => ∃ m t, (ladder ns)[j]? = some m ∧ y = .str (Txt.item (fm m) (i : Int)) t) rfl (by k_asm) (by k_asm) (.inr ⟨_, .tail _ (.head _), rfl, _, rfl⟩) ?hsz4 ?helt4 ?fin4
      case hsz4 => rw [List.size_toArray]; exact Nat.le_trans hz5 (show 5 ≤ sizeLine by decide)
      case helt4 =>
        rintro j v I2 oI2 C oC D m₂ ys2 s₂ h tk E' ⟨hh, rfl⟩ hv hC hx F9 N9 off ne
        obtain ⟨x, t, hx', rfl⟩ := strs_lit ha (i := j) (v := v) (by simpa using hv)
        obtain ⟨q, hq, rfl⟩ := map_at hx'
        have hxl : (fm q).length = 10 := fm_len q
        k_steps
        unfold Halt
        exact ⟨_, _, _, rfl, F9, N9, off, .inr ⟨_, .tail _ (.head _), rfl, _, rfl⟩, rfl, q, _, hq, rfl⟩
      case fin4 =>
        rintro s₂ cs ⟨hh4, rfl⟩ hcl4 hcs
        have hc : StrsAre cs ((ladder ns).map (fun m => Txt.item (fm m) (i : Int))) := strs_of_map (by rw [hcl4, List.size_toArray, hzn, hll]) hcs
        have hP1 := plain_col hlen hrng hin
        have hP2 := plain_diff hlen hrng hin
        obtain ⟨ok1, ok2⟩ := plain_ok hlen hrng hin
        clear hcs
        k_steps
        rename_i oP _ _ dP cD _ _ F5 N5 o5
        clear hcl4 hI hm hlen hz1
        refine join_listW (ys := (ladder ns).map (fun m => Txt.item (fm m) (i : Int))) (x := Str.ofString "") (News.isList N5 (.head _)) hc (by decide) ?_ ?_
        · rw [sum_ones (by intro x hx; obtain ⟨q, _, rfl⟩ := List.mem_map.mp hx; rfl), List.length_map, hll]
          omega
        intro t5 k5
        rw [hP1]
        clear hP1
        k_steps
        · rename_i hbad
          exact absurd hbad (by simp)
        unfold Halt
        refine comp_src (fun j y => ∃ m t, ns[j]? = some m ∧ y = .str (Txt.item (fm m) (i : Int)) t) rfl (by k_asm) (by k_asm) (.inr ⟨_, .tail _ (.tail _ (.tail _ (.head _))), rfl, _, rfl⟩) ?hsz5 ?helt5 ?fin5
        case hsz5 => rw [List.size_toArray]; exact Nat.le_trans hy5 (show 5 ≤ sizeLine by decide)
        case helt5 =>
          rintro j v I2 oI2 C oC D m₂ ys2 s₂ h tk E' ⟨hh, rfl⟩ hv hC hx F9 N9 off ne
          obtain ⟨x, t, hx', rfl⟩ := strs_lit hb (i := j) (v := v) (by simpa using hv)
          obtain ⟨q, hq, rfl⟩ := map_at hx'
          have hxl : (fm q).length = 10 := fm_len q
          k_steps
          unfold Halt
          exact ⟨_, _, _, rfl, F9, N9, off, .inr ⟨_, .tail _ (.tail _ (.tail _ (.head _))), rfl, _, rfl⟩, rfl, q, _, hq, rfl⟩
        case fin5 =>
          rintro s₂ es ⟨hh5, rfl⟩ hel5 hes
          have he : StrsAre es (ns.map (fun m => Txt.item (fm m) (i : Int))) := strs_of_map (by rw [hel5, List.size_toArray, hyn]) hes
          clear hes
          k_steps
          unfold Halt
          rename Fr _ _ _ _ => F6
          rename News _ _ _ _ => N6
          rename_i o6
          refine conT_use (rest := [(I, oI), (aD, LCg.lst zs), (bD, LCg.lst ys), (l, listOf vs.toArray k), (L + 1, oP)]) (c_uld _ _ cD es cs _ _ _ _ ?hne he hc ?z1 ?z2) F6 (by k_asm) N6 ?hoff (by k_asm) rfl hd1 hu1 ?_
          case hne => exact fun e => o6.1 e.symm
          case z1 => rw [he.length, List.length_map]; omega
          case z2 => rw [hc.length, List.length_map, hll]; omega
          case hoff => exact off_pair (off_rest5 o6.2) (off_rest5 o5)
          rintro r made h7 tk7 ⟨tp, mi, ms, as7, q1, q2, q3, q4, rfl, rfl, hms, has, w1, w2, w3, w4, w5⟩ F7 N7 ne7
          simp only [List.cons_append, List.nil_append] at N7
          rw [hP2] at hms has
          have hmk : Halt True := trivial
          clear N6 F6 N5 F5 hP2
          k_steps
          rename_i tp8 la8 lb8 us8 ws8 _ _ _ hus8 hws8 N8 _ _
          unfold Halt
          refine ne_same N8 (.tail _ (.tail _ (.tail _ (.head _)))) (.tail _ (.tail _ (.tail _ (.tail _ (.head _))))) (.tail _ (.tail _ (.tail _ (.tail _ (.tail _ (.tail _ (.head _))))))) (.head _) (.tail _ (.head _)) (.tail _ (.tail _ (.head _))) hms has hus8 hws8 ok1 ok2 (show 7 + 64 < cLine by decide) ?_
          k_steps
          exact turn_next (by k_asm) (news_sub N8 (fun p hp => .tail _ (.tail _ (.tail _ (.tail _ (.tail _ (.tail _ (.tail _ hp)))))))) (off_four hI1 hI2 hI3 hI4) (fun p hp => nomatch hp) ⟨by ((intro q hq; (repeat' (first | (rcases List.mem_cons.mp hq with e9 | hq'; (subst e9; exact rfl); (clear hq; revert hq'; intro hq)) | (cases hq))))), oP, _, rfl, dP⟩
    case done =>
      rintro m₁ news₁ h tk ⟨hm, oc, cv, rfl, hoc⟩ F₁ N₁
      refine wpAny_execs_nil ?_
      exact ⟨rfl, _, _, _, rfl, F₁⟩
end Mine
end
section
namespace Mine
theorem off_W1 : ∃ x : Nat, x = 0 := by
  w_top off
  first | (walk1; fail) | exact ⟨0, rfl⟩
end Mine
open PySem PySem.W PyProof.Rows PySem.Calls
namespace Mine
/-- where the law's two ways to its modes meet -/
def Modes (h₀ : Heap) (L : Addr) (c : Addr × Obj) (s : Shared) (f : Flow) (s' : Shared) : Prop :=
  f = .next ∧ ∃ h' tk' m' l vs ns k, s' = { s with heap := h', toks := tk' } ∧ Fr h₀ L h' m' ∧ m' (Str.ofString "modes") = some (.ref l) ∧ News h₀ L h' [(l, listOf vs.toArray k), c] ∧ @Ne Nat c.1 l ∧ IntsAre vs ns ∧ (ns.length = 3 ∨ ns.length = 4 ∨ ns.length = 5) ∧ ∀ m ∈ ns, 0 ≤ m ∧ m < 65536
theorem join_modes {M : Model} {A : Around} {t : Sem Flow} {Q : Flow → Shared → Prop} {E : Value → Shared → Prop} {s : Shared} {h₀ : Heap} {L : Addr} {p1 p2 c : Addr × Obj} {m : Str → Option Value} (_F : Fr h₀ L s.heap m) (_N : News h₀ L s.heap [p1, p2, c])
    (ha : wpAny M A t (Modes h₀ L c s) E s) (hb : ∀ f s', Modes h₀ L c s f s' → Q f s') : wpAny M A t Q E s := wpAny_mono ha hb fun _ _ e => e
theorem modes_end {h₀ h' : Heap} {L : Addr} {c : Addr × Obj} {s : Shared} {tk' : Nat} {m' : Str → Option Value} {l : Addr} {vs : List Value} {ns : List Int} {k : Nat} (F : Fr h₀ L h' m') (hm : m' (Str.ofString "modes") = some (.ref l)) (N : News h₀ L h' [(l, listOf vs.toArray k), c]) (hn : @Ne Nat c.1 l) (hi : IntsAre vs ns)
    (hl : ns.length = 3 ∨ ns.length = 4 ∨ ns.length = 5) (hr : ∀ m ∈ ns, 0 ≤ m ∧ m < 65536) : Modes h₀ L c s .next { s with heap := h', toks := tk' } := ⟨rfl, h', tk', m', l, vs, ns, k, rfl, F, hm, N, hn, hi, hl, hr⟩
theorem modes_in {xs : List Int} : ∀ m ∈ xs.map (fun k' => k'.fmod 65536), 0 ≤ m ∧ m < 65536 := by
  intro m hm
  obtain ⟨x, _, rfl⟩ := List.mem_map.mp hm
  exact ⟨Int.fmod_nonneg_of_pos x (by decide), Int.fmod_lt_of_pos x (by decide)⟩
theorem isList_of_get {h : Heap} {l : Addr} {a : Array Value} {n : Nat} (e : h.get? l = some (listOf a n)) : h.IsList l a := ⟨_, e, rfl, _, rfl⟩
theorem three_in : ∀ m ∈ [(35245 : Int), 16841, 8760], 0 ≤ m ∧ m < 65536 := by decide
local macro_rules | `(tactic| walk_at "exec If") => `(tactic| ((with_reducible show wpAny _ _ (exec (Stmt.If (Expr.Compare (Expr.Call (Expr.Name (Str.ofString "len") _) _ _ _) _ _ _) _ _ _) _) _ _ _); (fail_if_success (with_reducible show wpAny _ _ _ (Modes _ _ _ _) _ _)); (refine halt ?_)))
local macro_rules | `(tactic| walk_at "CompSrc") => `(tactic| ((with_reducible show LCg.CompSrc _ _ _ _ _ _ _ (Expr.Call (Expr.Name (Str.ofString "filemode") _) _ _ _) _ _ _ _ _ _); (refine halt ?_)))
local macro_rules | `(tactic| walk_at "call ref") => `(tactic| (k_here; (with_reducible show wpAny _ _ (call (Value.ref 61) _) _ _ _); (refine' con_pure (c_fm _ _ _) ?B ?F ?X ?N ?T ?hk trivial ?hd ?hu ?_; (case F => k_asm); (case B => exact below_caller _); (case X => k_asm); (case N => k_asm); (case T => k_asm); (case hk => exact rfl); (case hd => (first | exact hd1 | exact hd2 | exact hd3 | exact hu1 | exact hu2 | exact hu3)); (case hu => (first | exact hd1 | exact hd2 | exact hd3 | exact hu1 | exact hu2 | exact hu3))); (intro r' h' tk' hr' F' N'); (obtain ⟨t9, e9⟩ := hr'); (subst e9)))
local macro_rules | `(tactic| walk_at "call ref") => `(tactic| (k_here; (with_reducible show wpAny _ _ (call (Value.ref 82) _) _ _ _); (refine' con_made (c_ladder _ _ _ _ ?hi ?hz) ?B ?F ?X ?N ?T ?hk ?hR ?hd ?hu ?_; (case F => k_asm); (case N => k_asm); (case hR => k_dflt (exact isList_of_get (News.get (by k_asm) (by k_mem)))); (case hi => assumption); (case hz => omega); (case B => exact below_caller _); (case X => k_asm); (case T => k_asm); (case hk => exact rfl); (case hd => (first | exact hd1 | exact hd2 | exact hd3 | exact hu1 | exact hu2 | exact hu3)); (case hu => (first | exact hd1 | exact hd2 | exact hd3 | exact hu1 | exact hu2 | exact hu3))); (intro r' made' h' tk' hp' F' N' ne'); (obtain ⟨rg', us', k', e1, e2, hus'⟩ := hp'); (subst e1); (subst e2); (simp only [List.cons_append, List.nil_append] at N')))
local macro_rules | `(tactic| walk_at "binaryOp Add ref ref") => `(tactic| ((with_reducible rename StrsAre _ _ => hsa9); (revert hsa9; intro hsa9); (refine halt ?_)))
local macro_rules | `(tactic| walk_at "eval ListComp") => `(tactic| (k_here; (with_reducible show wpAny _ _ (eval (Expr.ListComp _ [⟨_, Expr.BinOp _ _ _ _, _, _⟩] _ _) _) _ _ _); k_dflt (refine LCt.ListComp_T (F₀ := by k_asm) (by with_unfolding_all rfl) (by decide) (by rfl) (by decide) (by rfl) ?_)))
theorem news_pick {h₀ h : Heap} {L : Addr} {x1 x2 x3 x4 x5 x6 x7 x8 : Addr × Obj} (N : News h₀ L h [x1, x2, x3, x4, x5, x6, x7, x8]) : News h₀ L h [x4, x6, x7, x8] := news_sub N fun p hp => by
  rcases List.mem_cons.mp hp with rfl | hp
  · exact .tail _ (.tail _ (.tail _ (.head _)))
  · exact .tail _ (.tail _ (.tail _ (.tail _ (.tail _ hp))))
theorem law_around {q : Str} {sc : Scope} {L a : Addr} {cd : Value} : callerA.deeper (envOfC q sc L a cd) = ktrTop 302 7 (some []) q sc L a cd (cellsFrom (L + 1) sc.names []) [] := rfl
set_option maxHeartbeats 8000000 in
theorem t1 : PySem.Challenge.rw_oh0012_01.Holds := Mine.hd (by
  k_go0
  all_goals try k_fold
  k_steps
  unfold Halt
  refine join_modes (by k_asm) (by k_asm) ?pa ?pb
  case pa =>
    k_steps
    · rename_i a _ _ _ _ _ _ _ hi5 l2 _ _ _
      refine modes_end (by k_asm) rfl (news_sub (by k_asm) (by ((intro p hp; (rcases List.mem_cons.mp hp with e9 | hp; (subst e9; k_mem); (rcases List.mem_cons.mp hp with e9 | hp; (subst e9; k_mem); (cases hp))))))) (Nat.ne_of_lt l2.2.2.2) hi5 ?_ ?_
      · rw [List.length_append, show [(35245 : Int), 16841, 8760].length = 3 from rfl]; omega
      · intro m hm
        rcases List.mem_append.mp hm with hm | hm
        · exact modes_in m hm
        · exact three_in m hm
    · rename_i hi5 hl5 _ _ _ _ _ o1 a
      refine modes_end (by k_asm) rfl (news_sub (by k_asm) (by ((intro p hp; (rcases List.mem_cons.mp hp with e9 | hp; (subst e9; k_mem); (rcases List.mem_cons.mp hp with e9 | hp; (subst e9; k_mem); (cases hp))))))) o1.2 hi5 ?_ modes_in
      rw [List.length_map] at a ⊢
      omega
  case pb =>
    rintro f s' ⟨rfl, h', tk', m', l, vs, ns, k, rfl, F1, hm, N1, hcl, hi, hlen, hrng⟩
    replace F1 := fr_tell F1 (l := [(Str.ofString "modes", .ref l)]) (by
      intro q hq
      rw [List.mem_singleton.mp hq]; exact hm)
    rw [law_around]
    k_steps
    unfold Halt
    refine comp_src (fun i y => ∃ m t, ns[i]? = some m ∧ y = .str (fm m) t) rfl (by k_asm) (by k_asm) (.inr ⟨_, .head _, rfl, _, rfl⟩) ?hsz ?helt ?fin
    case hsz => rw [List.size_toArray, hi.length]; exact Nat.le_trans (show ns.length ≤ 5 by omega) (show 5 ≤ sizeLine by decide)
    case helt =>
      rintro i v I oI C oC D m₂ ys s₂ h tk E' ⟨hh, rfl⟩ hv hC hx F9 N9 off ne
      obtain ⟨k, t, rfl, hk⟩ := IntsAre.at hi i v (by simpa using hv)
      simp only [LCg.Off3, and_true] at off
      k_steps
      exact ⟨rfl, k, _, hk, rfl⟩
    case fin =>
      rintro s₂ ys ⟨hh, rfl⟩ hyl hys
      have hb : StrsAre ys (ns.map fm) := strs_of_map (by rw [hyl, List.size_toArray, hi.length]) hys
      have hn5 : ns.length ≤ 100 := by omega
      k_steps
      unfold Halt
      rename_i rg us k1 hus N2 ne1
      have hll : (ladder ns).length = ns.length := ladderTo_len ns _
      refine comp_src (fun i y => ∃ m t, (ladder ns)[i]? = some m ∧ y = .str (fm m) t) rfl (by k_asm) (by k_asm) (.inr ⟨_, .head _, rfl, _, rfl⟩) ?hsz2 ?helt2 ?fin2
      case hsz2 => rw [List.size_toArray, hus.length, hll]; exact Nat.le_trans (show ns.length ≤ 5 by omega) (show 5 ≤ sizeLine by decide)
      case helt2 =>
        rintro i v I oI C oC D m₂ ys s₂ h tk E' ⟨hh, rfl⟩ hv hC hx F9 N9 off ne
        obtain ⟨k, t, rfl, hk⟩ := IntsAre.at hus i v (by simpa using hv)
        simp only [LCg.Off3, and_true] at off
        k_steps
        exact ⟨rfl, k, _, hk, rfl⟩
      case fin2 =>
        rintro s₂ zs ⟨hh2, rfl⟩ hyl2 hys2
        have ha : StrsAre zs ((ladder ns).map fm) := strs_of_map (by rw [hyl2, List.size_toArray, hus.length]) hys2
        clear hys hys2
        have hyn : ys.length = ns.length := by rw [hb.length, List.length_map]
        have hzn : zs.length = ns.length := by rw [ha.length, List.length_map, hll]
        have hz5 : zs.length ≤ 5 := by omega
        have hy5 : ys.length ≤ 5 := by omega
        have hn3 : 3 ≤ ns.length := by omega
        have hl5 : ns.length ≤ 5 := by omega
        k_steps
        unfold Halt
        have hb : StrsAre ys (ns.map fm) := by assumption
        have ha : StrsAre zs ((ladder ns).map fm) := by assumption
        refine kmk_add_lit (its := ys.toArray) (its2 := zs.toArray) (zs := ys ++ zs) (by k_asm) (by k_asm) ⟨_, News.get (by k_asm) (.tail _ (.tail _ (.head _))), rfl, _, rfl⟩ ⟨_, News.get (by k_asm) (.head _), rfl, _, rfl⟩ rfl ?_ (by simp only [List.toList_toArray]; exact Nat.le_trans (show ys.length + zs.length ≤ 10 by omega) (show 10 ≤ sizeLine by decide))
        intro D2 h2 F2 N2 l2
        refine comp_none rfl (by k_asm) (by k_asm) (.inr ⟨_, .head _, rfl, _, rfl⟩) ?hsz3 ?helt3 ?fin3
        case hsz3 => rw [List.size_toArray, List.length_append]; exact Nat.le_trans (show ys.length + zs.length ≤ 10 by omega) (show 10 ≤ sizeLine by decide)
        case helt3 =>
          rintro i v I oI C oC D m₂ s₂ h tk E' ⟨hh, rfl⟩ hv hC hx F9 N9 off ne
          have hbz : StrsAre (ys ++ zs) (ns.map fm ++ (ladder ns).map fm) := StrsAre.append' hb ha
          obtain ⟨x, t, hx', rfl⟩ := strs_lit hbz (i := i) (v := v) (by simpa using hv)
          have hxl : x.length = 10 := by
            rcases List.mem_append.mp (List.mem_of_getElem? hx') with hm | hm
            · obtain ⟨q, _, rfl⟩ := List.mem_map.mp hm; exact fm_len q
            · obtain ⟨q, _, rfl⟩ := List.mem_map.mp hm; exact fm_len q
          simp only [LCg.Off3, and_true] at off
          k_steps
          exact ⟨by simp [hxl], _, _, rfl, F9, N9⟩
        case fin3 =>
          rintro s₂ ⟨hh3, rfl⟩
          k_steps
          rename_i oc0 hoc0 _ _ _ _ _ _ _ _ _ _ _ _ _ _ _ _ _ _ _ bD _ _ o2 _ _ aD _ _ o3 _ _ _ _ x6 _ _ F3 N3 x1
          clear x6 x1 l2
          have N4 := news_pick N3
          clear N3
          refine' wpAny_mono (law_for _ ?ho _ _ _ _ _ _ _ _ _ _ l bD aD vs ys zs ns k oc0 _ ?T ?X F3 N4 hoc0 ?tell o3.2.1 o3.2.2.1 o3.2.2.2 o2.1 o2.2 hcl hi hb ha hlen hrng) ?fin ?exc
          case ho => k_dflt k_is
          case T => k_asm
          case X => k_asm
          case tell => ((intro q hq; (repeat' (first | (rcases List.mem_cons.mp hq with e9 | hq'; (subst e9; exact rfl); (clear hq; revert hq'; intro hq)) | (cases hq)))))
          case exc => exact fun _ _ x => x.elim
          case fin =>
            rintro f s' ⟨rfl, h9, tk9, m9, rfl, F9⟩
            k_steps)
end Mine
end
theorem PySem.Challenge.cw_oh0012_01_holds : PySem.Challenge.rw_oh0012_01.Holds := by
  exact Mine.t1
