import PyProof.Rows.All
import Wide.All
import OpenK.AllK
import Wide.FinOn
import PySem.Challenge.RW_oc0090_01
open PySem PySem.W PyProof.Rows
set_option Elab.async false
section
open PySem PySem.W PyProof.Rows
set_option Elab.async false
namespace Mine
set_option maxRecDepth 100000 in
set_option maxHeartbeats 8000000 in
open_top hd for PySem.Challenge.rw_oc0090_01
end Mine
end
section
open PySem PySem.W PyProof.Rows PySem.Calls
set_option Elab.async false
namespace Mine

def Keep (h h' : Heap) : Prop := ∀ b o, h.get? b = some o → h'.get? b = some o

abbrev AT (dp un : Nat) (gd : Option (List Code)) (fr : List Env) : Around := { handled := none, depth := dp, frames := some fr, guards := gd, units := un }

theorem lookup1 (a : Str) (v : Value) : (fun y => [(a, v)].reverse.lookup y) = fun y => if y = a then some v else none := by
  funext y
  show (match y == a with | true => some v | false => none) = _
  by_cases h : y = a
  · simp [h]
  · simp [h, beq_eq_false_iff_ne.mpr h]
theorem lookup2 (a b : Str) (v u : Value) : (fun y => [(a, v), (b, u)].reverse.lookup y) = fun y => if y = b then some u else if y = a then some v else none := by
  funext y
  show (match y == b with | true => some u | false => match y == a with | true => some v | false => none) = _
  by_cases h : y = b
  · simp [h]
  · rw [beq_eq_false_iff_ne.mpr h, if_neg h]
    exact congrFun (lookup1 a v) y
theorem lookup3 (a b c : Str) (v u x : Value) : (fun y => [(a, v), (b, u), (c, x)].reverse.lookup y) = fun y => if y = c then some x else if y = b then some u else if y = a then some v else none := by
  funext y
  show (match y == c with | true => some x | false => match y == b with | true => some u | false => match y == a with | true => some v | false => none) = _
  by_cases hc : y = c
  · simp [hc]
  · rw [beq_eq_false_iff_ne.mpr hc, if_neg hc]
    exact congrFun (lookup2 a b v u) y
theorem enter0 {prog : Program} {w : World} {A : Around} {s : Shared} {K : Frag}
    {R : Result → Shared → Prop} {name qual : Str} {params : Arguments} {body : List Stmt} {scope : Scope} {dV kV doc pm cdv ct oc : Value} {an od : Option Addr} {osl : Array (Option Value)} {f : Addr} {args : Args} (binds : List (Str × Value)) (m : Str → Option Value) (hm : (fun y => binds.reverse.lookup y) = m)
    (X : K.In s.heap) (hlim : s.heap.NoLimit)
    (ho : K.lookup f = some ⟨oc, od, .func (fnOf name qual params body scope dV kV doc pm an cdv ct), osl⟩) (hcd : codeIn K cdv qual = true) (hroom : A.depth < recursionLimit)
    (hbind : BindsTo s (fnOf name qual params body scope dV kV doc pm an cdv ct) args binds) (hloc : ∀ y ∈ binds, scope.names.lookup y.1 = some .local)
    (h : ∀ h₁, Fr s.heap s.heap.objs.size h₁ m → News s.heap s.heap.objs.size h₁ [] →
      wpAny (model prog w) (A.deeper (envOf qual scope s.heap.objs.size f cdv)) (execs body (envOf qual scope s.heap.objs.size f cdv))
        (fun fl s' => R (.ok (.ret (match fl with | .ret v => v | _ => .none))) s')
        (fun e s' => wpAny (model prog w) (A.deeper (envOf qual scope s.heap.objs.size f cdv)) (leaving (envOf qual scope s.heap.objs.size f cdv) e) (fun _ s'' => R (.error e) s'') (fun e' s'' => R (.error e') s'') s')
        { s with heap := h₁, toks := s.toks + binds.length })
    (hco : scope.isCoroutine = false := by rfl) (hgen : scope.isGenerator = false := by rfl) (hk : scope.kind = .function := by rfl)
    (hcell : ∀ x ∈ scope.names, x.2 ≠ .cell := by decide) : codeAny (model prog w) A (.call (.ref f) args) R s := by
  refine codeAny_call_def (fd := fnOf name qual params body scope dV kV doc pm an cdv ct) (body := body) (binds := binds) hroom (X _ _ ho) rfl hlim (codeRec_of X hcd) rfl hbind hcell hloc (fun h₁ hns hk₁ => ?_) hco hgen hk
  exact h h₁ ⟨hm ▸ hns, hk₁, Nat.le_refl _⟩ News.nil

/-- a for loop by an invariant over the number of turns taken -/
theorem for_rule {prog : Program} {w : World} {A : Around} {s : Shared} {R : Result → Shared → Prop} {target : Expr} {it : Value} {body orelse : List Stmt} {env : Env} (n : Nat) (J : Nat → Shared → Prop)
    (step : ∀ i s, i < n → J i s → wpAny (model prog w) A (pyNext it) (fun r s₁ => ∃ v, r = some v ∧ wpAny (model prog w) A (letOwnedTupleGo target it v) (fun _ s₁' =>
          wpAny (model prog w) A (assign target env v) (fun _ s₂ => wpAny (model prog w) A (execs body env) (fun f s₃ => match f with
            | .next | .cont => J (i + 1) s₃
            | .brk => R (.ok .next) s₃
            | .ret v => R (.ok (.ret v)) s₃) (notedBy (model prog w) A env fun e s' => R (.error e) s') s₂) (notedBy (model prog w) A env fun e s' => R (.error e) s') s₁') (notedBy (model prog w) A env fun e s' => R (.error e) s') s₁) (notedBy (model prog w) A env fun e s' => R (.error e) s') s)
    (done : ∀ s, J n s → wpAny (model prog w) A (pyNext it) (fun r s₁ => r = none ∧ wpAny (model prog w) A (execs orelse env) (fun f s₃ => R (.ok f) s₃) (notedBy (model prog w) A env fun e s' => R (.error e) s') s₁) (notedBy (model prog w) A env fun e s' => R (.error e) s') s)
    (h : J 0 s) : codeAny (model prog w) A (.forLoop target it body orelse env) R s := by
  refine codeAny_forLoop_any (fun k s => ∃ i, i + k = n ∧ J i s) (fun k s hI => ?_) n ⟨0, by omega, h⟩
  obtain ⟨i, hi, hJ⟩ := hI
  cases k with
  | zero =>
    have e : i = n := by omega
    subst e
    refine wpAny_mono (done s hJ) (fun r s₁ h₁ => ?_) fun _ _ x => x
    obtain ⟨rfl, h₂⟩ := h₁
    exact h₂
  | succ k =>
    refine wpAny_mono (step i s (by omega) hJ) (fun r s₁ h₁ => ?_) fun _ _ x => x
    obtain ⟨v, rfl, h₂⟩ := h₁
    refine wpAny_mono h₂ (fun _ s₁' h₃ => wpAny_mono h₃ (fun _ s₂ h₄ => wpAny_mono h₄ (fun f s₃ h₅ => ?_) fun _ _ x => x) fun _ _ x => x) fun _ _ x => x
    cases f with
    | next => exact ⟨k, by omega, i + 1, by omega, h₅⟩
    | cont => exact ⟨k, by omega, i + 1, by omega, h₅⟩
    | brk => exact h₅
    | ret v => exact h₅
end Mine
end
section
open PySem PySem.W PyProof.Rows PySem.Calls
set_option Elab.async false
namespace Mine
section
variable {prog : Program} {w : World} {A : Around} {E : Value → Shared → Prop} {s : Shared}

theorem nextOf_tuple_item {it l : Addr} {i : Nat} {items : Array Value} {x : Value} {Q : Value → Shared → Prop} (hit : s.heap.IsTupleIter it l i)
    (hl : s.heap.IsTuple l items) (hx : items[i]? = some x)
    (hQ : ∀ h', h'.IsTupleIter it l (i + 1) → Heap.SameBut it s.heap h' → Q x { s with heap := h' }) :
    wpAny (model prog w) A (Builtin.SmallTypes.nextOf (.ref it)) Q E s := by
  obtain ⟨o, ho, hc, hd⟩ := id hit
  obtain ⟨ol, hol, _, nl, hdl⟩ := hl
  unfold Builtin.SmallTypes.nextOf
  refine wpAny_bind (wpAny_callSpecial?_slot (name := Str.ofString "__next__") hit.typeIs F.slot_tuple_iterator_next
    (wpAny_call_entry F.slot_tuple_iterator_next hit.typeIs F.entry_tuple_iterator_next ?_ (F.args_tuple_iterator_next_1 _)))
  show wpAny _ _ (field (.ref it) 0 >>= _) _ _ s
  refine wpAny_bind (wpAny_field ho hd (x := .ref l) rfl ?_)
  show wpAny _ _ (if (Value.ref l == Value.none) = true then _ else _) _ _ s
  rw [if_neg (show ¬ ((Value.ref l == Value.none) = true) from Bool.false_ne_true)]
  show wpAny _ _ (field (.ref it) 1 >>= _) _ _ s
  refine wpAny_bind (wpAny_field ho hd (x := .int i 0) rfl ?_)
  show wpAny _ _ (seqItems? (.ref l) >>= _) _ _ s
  refine wpAny_bind (wpAny_seqItems hol hdl ?_)
  simp only [Int.toNat_natCast, hx]
  refine wpAny_bind (wpAny_setField ho hd (by simp) (wpAny_pure ⟨x, rfl, wpAny_pure (hQ _ ?_ (Heap.SameBut.update ..))⟩))
  exact ⟨_, Heap.get?_update_self _ ho (Obj.isFreed_of_fields (Obj.data_mapFields hd _)), (Obj.cls_mapFields ..).trans hc, by
    rw [Obj.data_mapFields hd]; simp [rawInt]⟩

theorem nextOf_tuple_end {it l : Addr} {i : Nat} {items : Array Value} {Q : Value → Shared → Prop} (hh : A.handled = none)
    (hit : s.heap.IsTupleIter it l i) (hl : s.heap.IsTuple l items) (hx : items[i]? = none)
    (hE : ∀ h' e, Heap.ExtBut it s.heap h' → (∃ o, h'.get? e = some o ∧ o.cls = .type "StopIteration") → E (.ref e) { s with heap := h' }) :
    wpAny (model prog w) A (Builtin.SmallTypes.nextOf (.ref it)) Q E s := by
  obtain ⟨o, ho, hc, hd⟩ := id hit
  obtain ⟨ol, hol, _, nl, hdl⟩ := hl
  unfold Builtin.SmallTypes.nextOf
  refine wpAny_bind (wpAny_callSpecial?_slot (name := Str.ofString "__next__") hit.typeIs F.slot_tuple_iterator_next
    (wpAny_call_entry F.slot_tuple_iterator_next hit.typeIs F.entry_tuple_iterator_next ?_ (F.args_tuple_iterator_next_1 _)))
  show wpAny _ _ (field (.ref it) 0 >>= _) _ _ s
  refine wpAny_bind (wpAny_field ho hd (x := .ref l) rfl ?_)
  show wpAny _ _ (if (Value.ref l == Value.none) = true then _ else _) _ _ s
  rw [if_neg (show ¬ ((Value.ref l == Value.none) = true) from Bool.false_ne_true)]
  show wpAny _ _ (field (.ref it) 1 >>= _) _ _ s
  refine wpAny_bind (wpAny_field ho hd (x := .int i 0) rfl ?_)
  show wpAny _ _ (seqItems? (.ref l) >>= _) _ _ s
  refine wpAny_bind (wpAny_seqItems hol hdl ?_)
  simp only [Int.toNat_natCast, hx]
  refine wpAny_bind (wpAny_rule (wpAny_bind (wpAny_setField ho hd (by simp) ?_)))
  show wpAny _ _ (newExc (.type "StopIteration") [] >>= _) _ _ _
  refine wpAny_bind ?_
  simp only [newExc, newTuple]
  refine wpAny_bind (wpAny_newObj_type ?_ (by size_fits))
  refine wpAny_bind (m := firstArgMember _ _) (wpAny_of_eq (a := Value.none) (by first | rfl | (simp only [firstArgMember]; rfl)) ?_)
  refine wpAny_newObj_type ?_ (by size_fits)
  simp only [raiseNew]
  refine wpAny_bind (wpAny_handled ?_)
  first | rw [show A.in1.handled = none from hh] | rw [hh]
  refine wpAny_bind (wpAny_pure (wpAny_throw ?_))
  exact hE _ _ (((Heap.SameBut.update ..).extBut.push _).push _) ⟨_, Heap.get?_push_size _ rfl, rfl⟩
end

theorem drawsTuple {prog : Program} {w : World} {A : Around} (hh : A.handled = none) (it l : Addr) (hne : l ≠ it) (items : Array Value) :
    Draws prog w A it [it, l] items.size (fun i v => items[i]? = some v) (fun i h => h.IsTupleIter it l i ∧ h.IsTuple l items) where
  live := fun _ _ st => let ⟨o, ho, _⟩ := st.1; ⟨o, ho⟩
  frame := fun _ _ _ st hk => ⟨st.1.at fun o e => hk it (by simp) o e, st.2.at fun o e => hk l (by simp) o e⟩
  item := fun i s Q E hi st hQ => by
    refine nextOf_tuple_item st.1 st.2 (x := items[i]) (by simp [hi]) fun h' hit' hs' => ?_
    exact hQ _ h' s.toks (by simp [hi]) ⟨hit', st.2.extBut hs'.extBut hne⟩ hs'
  done := fun s Q E st hE => nextOf_tuple_end hh st.1 st.2 (by simp) hE

theorem meets_enumerate_newT (l : Addr) (items : Array Value) (n : Nat) (dct : Option Addr) (sl : Array (Option Value)) :
    Meets (Builtin.«enumerate.__new__» ⟨[.type "enumerate", .ref l], []⟩) (fun _ R s => s.heap.get? l = some { cls := .type "tuple", dict := dct, data := .seq items n, slots := sl } ∧
      R (.ok (.ret (.ref (s.heap.push { cls := .type "tuple_iterator", data := .fields #[.ref l, .int 0 0] }).objs.size)))
        { s with heap := (s.heap.push { cls := .type "tuple_iterator", data := .fields #[.ref l, .int 0 0] }).push { cls := .type "enumerate", data := .fields #[.none, .bool false, .ref s.heap.objs.size, rawInt 0, .none, .none] } }) :=
  .of_wp fun prog w A R s h => by
    obtain ⟨hp, g, d, tk, os⟩ := s; obtain ⟨hl, h⟩ := h
    have hsub := sub_enumerate
    have hL : Heap.IsTuple (Shared.heap ⟨hp, g, d, tk, os⟩) l items := ⟨_, hl, rfl, n, rfl⟩
    wp_walk using wpAny_loadPart' hl
    refine wpAny_stack_any fun st => wpAny_pure ?_
    split
    · rename_i c _ _ _ _ _
      cases (c == Value.type "enumerate")
      · wp_walk using wpAny_loadPart' hl, wpAny_pyIter_tuple hL
        exact ⟨_, rfl, h⟩
      · wp_walk using wpAny_loadPart' hl, wpAny_pyIter_tuple hL
        exact ⟨_, rfl, h⟩
    · wp_walk using wpAny_loadPart' hl, wpAny_pyIter_tuple hL
      exact ⟨_, rfl, h⟩

section
variable {prog : Program} {w : World} {A : Around} {E : Value → Shared → Prop} {s : Shared}
theorem call_enumerate_tuple {l : Addr} {items : Array Value} {Q : Value → Shared → Prop} (hL : s.heap.IsTuple l items)
    (h : ∀ h', IsEnum h' (s.heap.objs.size + 1) s.heap.objs.size 0 .none → h'.IsTupleIter s.heap.objs.size l 0 → h'.objs.size = s.heap.objs.size + 2 →
      (∀ b o, s.heap.get? b = some o → h'.get? b = some o) → Q (.ref (s.heap.objs.size + 1)) { s with heap := h' }) :
    wpAny (model prog w) A (call (.type "enumerate") [.ref l]) Q E s := by
  obtain ⟨⟨c, dct, dt, sl⟩, hl, hc, n, hd⟩ := hL
  replace hc : c = .type "tuple" := hc
  replace hd : dt = .seq items n := hd
  subst hc hd
  refine callType_new F.called_enumerate (by decide) (F.typeCall_enumerate_1 _) (F.newCall_enumerate_1 _) (fun obj => F.args_object_init_2 obj _) F.entry_enumerate_new
    (meets_enumerate_newT l items n dct sl) ⟨hl, ?_⟩
  have hz : (s.heap.push { cls := .type "tuple_iterator", data := .fields #[.ref l, .int 0 0] }).objs.size = s.heap.objs.size + 1 := Heap.size_push ..
  show _ ∧ _
  rw [hz]
  have he : IsEnum ((s.heap.push { cls := .type "tuple_iterator", data := .fields #[.ref l, .int 0 0] }).push
      { cls := .type "enumerate", data := .fields #[.none, .bool false, .ref s.heap.objs.size, rawInt 0, .none, .none] }) (s.heap.objs.size + 1) s.heap.objs.size 0 .none := by
    have := Heap.get?_push_size (s.heap.push { cls := .type "tuple_iterator", data := .fields #[.ref l, .int 0 0] })
      (o := { cls := .type "enumerate", data := .fields #[.none, .bool false, .ref s.heap.objs.size, rawInt 0, .none, .none] }) rfl
    rw [hz] at this; exact this
  refine ⟨⟨_, he, rfl⟩, h _ he ⟨_, Heap.get?_push_of_some _ (Heap.get?_push_size _ rfl), rfl, rfl⟩ (by rw [Heap.size_push, hz]) fun b o x => Heap.get?_push_of_some _ (Heap.get?_push_of_some _ x)⟩
end
end Mine
end
section
open PySem PySem.W PyProof.Rows PySem.Calls
set_option Elab.async false
namespace Mine
/-- what a turn of a loop hands on -/
def PEnd (h₀ : Heap) (L : Addr) (J : (Str → Option Value) → List (Addr × Obj) → Prop) (own : List (Addr × Obj)) (s s₃ : Shared) : Prop :=
  ∃ h tk m₂ news₂, s₃ = { s with heap := h, toks := tk } ∧ Fr h₀ L h m₂ ∧ News h₀ L h (news₂ ++ own) ∧ (∀ p ∈ news₂, ∀ q ∈ own, p.1 ≠ q.1) ∧ J m₂ news₂

/-- what a turn of a loop ends in -/
def TEnd (R : Result → Shared → Prop) (P : Shared → Prop) (f : Flow) (s₃ : Shared) : Prop := match f with
  | .next | .cont => P s₃
  | .brk => R (.ok .next) s₃
  | .ret v => R (.ok (.ret v)) s₃

section
variable {prog : Program} {w : World} {A : Around} {h₀ : Heap} {s : Shared} {env : Env} {R : Result → Shared → Prop} {body orelse : List Stmt} {m : Str → Option Value} {news : List (Addr × Obj)}

/-- for x, y in a written tuple of pairs: .. else: .. -/
theorem for_pairs {x y : Str} {px py pt : Pos} {kt : Nat} {I ta : Addr} {tas : Array Value} (vals : Nat → Value × Value)
    (hx : env.kindOf x = some .local) (hy : env.kindOf y = some .local)
    (hp : (env.scope.kind == .class || (env.scope.kind == .module && env.locals != env.globals)) = false) (hh : A.handled = none)
    (hta : h₀.IsTuple ta tas) (hcells : ∀ i v, tas[i]? = some v → ∃ a, v = .ref a ∧ h₀.IsTuple a #[(vals i).1, (vals i).2])
    (J : Nat → (Str → Option Value) → List (Addr × Obj) → Prop)
    (F : Fr h₀ env.locals s.heap m) (N : News h₀ env.locals s.heap news) (j0 : J 0 m news)
    (hit : s.heap.IsTupleIter I ta 0) (hI : ∀ p ∈ news, p.1 ≠ I) (hI0 : h₀.get? I = none) (hIL : I ≠ env.locals)
    (step : ∀ i m₁ news₁ h tk o, i < tas.size → J i m₁ news₁ → (∀ p ∈ news₁, p.1 ≠ I) → Fr h₀ env.locals h (fun z => if z = y then some (vals i).2 else if z = x then some (vals i).1 else m₁ z) → News h₀ env.locals h (news₁ ++ [(I, o)]) →
      wpAny (model prog w) A (execs body env) (TEnd R (PEnd h₀ env.locals (J (i + 1)) [(I, o)] s)) (notedBy (model prog w) A env fun e s' => R (.error e) s') { s with heap := h, toks := tk })
    (done : ∀ m₁ news₁ h tk, J tas.size m₁ news₁ → Fr h₀ env.locals h m₁ → News h₀ env.locals h news₁ →
      wpAny (model prog w) A (execs orelse env) (fun f s₃ => R (.ok f) s₃) (notedBy (model prog w) A env fun e s' => R (.error e) s') { s with heap := h, toks := tk }) :
    codeAny (model prog w) A (.forLoop (.Tuple [.Name x px, .Name y py] kt pt) (.ref I) body orelse env) R s := by
  obtain ⟨ot, hot, _⟩ := id hta
  have hne : ta ≠ I := fun e => by rw [e, hI0] at hot; cases hot
  have W := Walks.tuple (prog := prog) (w := w) hh I ta hne tas
  refine for_rule tas.size (fun i s₁ => ∃ h tk m₁ news₁, s₁ = { s with heap := h, toks := tk } ∧ h.IsTupleIter I ta i ∧ Fr h₀ env.locals h m₁ ∧ News h₀ env.locals h news₁ ∧ (∀ p ∈ news₁, p.1 ≠ I) ∧ J i m₁ news₁) ?_ ?_ ⟨s.heap, s.toks, m, news, rfl, hit, F, N, hI, j0⟩
  · rintro i s₁ hi ⟨h, tk, m₁, news₁, rfl, hit₁, F₁, N₁, hI₁, hJ⟩
    have ht₁ : h.IsTuple ta tas := hta.at fun o e => F₁.keep _ _ e
    refine W.item i _ _ _ hi ⟨hit₁, ht₁⟩ fun v h₁ tk₁ hv st hk => ?_
    obtain ⟨a, rfl, hta'⟩ := hcells i v hv
    have F₂ : Fr h₀ env.locals h₁ m₁ := ⟨F₁.ns.at' fun o e => hk _ o (fun q => hIL (List.mem_singleton.mp q).symm) e, fun b o e => hk b o (fun q => by rw [List.mem_singleton.mp q, hI0] at e; cases e) (F₁.keep b o e), F₁.above⟩
    have N₂ : News h₀ env.locals h₁ news₁ := fun p hp' => ⟨hk _ _ (fun q => hI₁ p hp' (List.mem_singleton.mp q)) (N₁ p hp').1, (N₁ p hp').2⟩
    refine ⟨_, rfl, ?_⟩
    obtain ⟨⟨oI, hoI, hcI, hdI⟩, _⟩ := id st
    refine wpAny_bind (wpAny_load hoI ?_)
    rw [hcI, hdI]
    refine wpAny_pure ?_
    refine wpAny_assign_Tuple hh (hta'.at fun o e => F₂.keep _ _ e) rfl rfl fun h₃ hx₃ => ?_
    replace hx₃ : Heap.ExtBut h₁.objs.size h₁ h₃ := hx₃
    have up₃ : ∀ b o, h₁.get? b = some o → h₃.get? b = some o := fun b o x => hx₃ b o (Nat.ne_of_lt (Heap.lt_size x)) x
    have F₃ : Fr h₀ env.locals h₃ m₁ := ⟨F₂.ns.at' fun o e => up₃ _ o e, fun b o e => up₃ b o (F₂.keep b o e), F₂.above⟩
    have N₃ : News h₀ env.locals h₃ (news₁ ++ [(I, oI)]) := fun p hp' => by
      rcases List.mem_append.mp hp' with hp' | hp'
      · exact ⟨up₃ _ _ (N₂ p hp').1, (N₂ p hp').2⟩
      · rw [List.mem_singleton.mp hp']
        exact ⟨up₃ _ _ hoI, hIL, hI0⟩
    show wpAny _ A (do holding [(vals i).2] (assign (.Name x px) env (vals i).1); do holding [] (assign (.Name y py) env (vals i).2); pure ()) _ _ _
    refine wpAny_bind (wpAny_holding (wpAny_assign_Name (wpAny_storeName_local hx F₃.ns (fun h₄ hn₄ hs₄ => ?_) hp)))
    replace hs₄ : Heap.SameBut env.locals h₃ h₄ := hs₄
    refine wpAny_bind (wpAny_holding (wpAny_assign_Name (wpAny_storeName_local hy hn₄ (fun h₅ hn₅ hs₅ => wpAny_pure ?_) hp)))
    replace hs₅ : Heap.SameBut env.locals h₄ h₅ := hs₅
    refine wpAny_mono (step i m₁ news₁ h₅ _ oI hi hJ hI₁ ((F₃.set hn₄ hs₄).set hn₅ hs₅) ((N₃.set hs₄).set hs₅)) (fun f s₃ hf => ?_) fun _ _ e => e
    have fin : PEnd h₀ env.locals (J (i + 1)) [(I, oI)] s s₃ → ∃ h tk m₁ news₁, s₃ = { s with heap := h, toks := tk } ∧ h.IsTupleIter I ta (i + 1) ∧ Fr h₀ env.locals h m₁ ∧ News h₀ env.locals h news₁ ∧ (∀ p ∈ news₁, p.1 ≠ I) ∧ J (i + 1) m₁ news₁ := by
      rintro ⟨h', tk', m₂, news₂, rfl, F', N', ha, hJ'⟩
      exact ⟨h', tk', m₂, news₂, rfl, ⟨oI, (N' _ (List.mem_append_right _ (List.mem_singleton.mpr rfl))).1, hcI, hdI⟩, F', fun p hp' => N' p (List.mem_append_left _ hp'), fun p hp' => ha p hp' _ (List.mem_singleton.mpr rfl), hJ'⟩
    cases f with
    | next => exact fin hf
    | cont => exact fin hf
    | brk => exact hf
    | ret v => exact hf
  · rintro s₁ ⟨h, tk, m₁, news₁, rfl, hit₁, F₁, N₁, hI₁, hJ⟩
    have ht₁ : h.IsTuple ta tas := hta.at fun o e => F₁.keep _ _ e
    refine W.done _ _ _ ⟨hit₁, ht₁⟩ fun h₁ tk₁ hk => ⟨rfl, ?_⟩
    exact done m₁ news₁ h₁ tk₁ hJ ⟨F₁.ns.at' fun o e => hk _ o (fun q => hIL (List.mem_singleton.mp q).symm) e, fun b o e => hk b o (fun q => by rw [List.mem_singleton.mp q, hI0] at e; cases e) (F₁.keep b o e), F₁.above⟩
      fun p hp' => ⟨hk _ _ (fun q => hI₁ p hp' (List.mem_singleton.mp q)) (N₁ p hp').1, (N₁ p hp').2⟩
end
end Mine
end
section
open PySem PySem.W PyProof.Rows PySem.Calls
set_option Elab.async false
namespace Mine
/-- a goal that the walk is to leave alone -/
def Hold (P : Prop) : Prop := P
theorem hold {P : Prop} (h : Hold P) : P := h
theorem Keep.refl (h : Heap) : Keep h h := fun _ _ e => e
theorem Keep.trans {h h' h'' : Heap} (x : Keep h h') (y : Keep h' h'') : Keep h h'' := fun b o e => y b o (x b o e)
theorem frKeep {h₀ h h' : Heap} {L : Addr} {m : Str → Option Value} (F : Fr h₀ L h m) (k : Keep h h') : Fr h₀ L h' m := ⟨F.ns.keeps k, fun b o e => k b o (F.keep b o e), F.above⟩
theorem newsKeep {h₀ h h' : Heap} {L : Addr} {news : List (Addr × Obj)} (N : News h₀ L h news) (k : Keep h h') : News h₀ L h' news := fun p hp => ⟨k _ _ (N p hp).1, (N p hp).2⟩

section
variable {prog : Program} {w : World} {A : Around} {h₀ : Heap} {s : Shared} {env : Env} {E : Value → Shared → Prop} {body : List Stmt} {m : Str → Option Value} {news : List (Addr × Obj)} {Q : Flow → Shared → Prop}
/-- for xi, xc in enumerate(a written tuple) -/
theorem pair_enum {xi xc : Str} {ta : Addr} {tas : Array Value} (hh : A.handled = none) (hta : h₀.IsTuple ta tas) (F : Fr h₀ env.locals s.heap m) (N : News h₀ env.locals s.heap news)
    (J : Nat → (Str → Option Value) → List (Addr × Obj) → Prop) (j0 : J 0 m news)
    (step : ∀ i v m₁ news₁ h tk own t, tas[i]? = some v → J i m₁ news₁ → news₁.map (·.1) = news.map (·.1) → OwnOff own (news.map (·.1)) →
      Fr h₀ env.locals h (fun y => if y = xc then some v else if y = xi then some (.int i t) else m₁ y) → News h₀ env.locals h (news₁ ++ own) →
      wpAny (model prog w) A (execs body env) (fun f s₃ => TEnd (fun r s' => match r with | .ok f => Q f s' | .error _ => False) (PEnd h₀ env.locals (fun m₂ news₂ => news₂.map (·.1) = news.map (·.1) ∧ J (i + 1) m₂ news₂) own s) f s₃) E { s with heap := h, toks := tk })
    (done : ∀ h tk m' news', Fr h₀ env.locals h m' → News h₀ env.locals h news' → news'.map (·.1) = news.map (·.1) → J tas.size m' news' → Q .next { s with heap := h, toks := tk }) :
    wpAny (model prog w) A (call (.type "enumerate") [.ref ta]) (fun xv s₁ => wpAny (model prog w) A (pyIter xv) (fun it s₂ => PairAt3 prog w A h₀ env xi xc body Q E it s₂) E s₁) E s := by
  obtain ⟨ot, hot, _⟩ := id hta
  have hlt : ta < s.heap.objs.size := Nat.lt_of_lt_of_le (Heap.lt_size hot) (Nat.le_trans F.above (Nat.le_of_lt F.ns.lt))
  refine call_enumerate_tuple (hta.at fun o e => F.keep _ _ e) fun h' he hit hsz hk => ?_
  refine wpAny_pyIter_enum he ?_
  have D := drawsTuple (prog := prog) (w := w) (A := A.in1) hh s.heap.objs.size ta (Nat.ne_of_lt hlt) tas
  have W := WalksT.enumerateD (A := A) D (s.heap.objs.size + 1) (Nat.succ_ne_self _) (fun hm => by rcases List.mem_cons.mp hm with e | hm; exact Nat.succ_ne_self _ e; exact Nat.lt_irrefl _ (Nat.lt_of_lt_of_le (show s.heap.objs.size + 1 < s.heap.objs.size from (List.mem_singleton.mp hm) ▸ hlt) (Nat.le_succ _))) (by simp)
  have nin : ∀ b, h₀.get? b = none ∨ ∃ o, h₀.get? b = some o := fun b => by cases h₀.get? b <;> simp
  have hfresh : ∀ k, h₀.get? (s.heap.objs.size + k) = none := fun k => Heap.get?_none_of_le (Nat.le_trans F.above (Nat.le_trans (Nat.le_of_lt F.ns.lt) (Nat.le_add_right _ _)))
  refine ⟨_, _, _, _, _, _, _, (fun i v0 v1 => ∃ t, v0 = .int i t ∧ tas[i]? = some v1), m, news, J, rfl, W, ?_, ?_, ?_, ?_, ⟨⟨_, he⟩, hit, (hta.at fun o e => F.keep _ _ e).at fun o e => hk _ _ e⟩, frKeep F hk, newsKeep N hk, j0, ?_, ?_⟩
  · rintro i vals ⟨t, x, hx, rfl⟩
    exact ⟨_, _, rfl, t, rfl, hx⟩
  · intro hm
    rcases List.mem_cons.mp hm with e | hm
    · exact Nat.lt_irrefl _ (Nat.lt_trans (Nat.lt_succ_self _) (show s.heap.objs.size + 1 < s.heap.objs.size from e ▸ F.ns.lt))
    · rcases List.mem_cons.mp hm with e | hm
      · exact Nat.lt_irrefl _ (show s.heap.objs.size < s.heap.objs.size from e ▸ F.ns.lt)
      · exact Nat.lt_irrefl _ (Nat.lt_of_lt_of_le (Heap.lt_size hot) (show h₀.objs.size ≤ ta from (List.mem_singleton.mp hm) ▸ F.above))
  · intro b hb
    rcases List.mem_cons.mp hb with rfl | hb
    · exact hfresh 1
    · rw [List.mem_singleton.mp hb]; exact hfresh 0
  · intro p hp hb
    have h2 := Heap.lt_size (N p hp).1
    rcases List.mem_cons.mp hb with e | hb
    · exact Nat.lt_irrefl _ (Nat.lt_trans (Nat.lt_succ_self _) (show s.heap.objs.size + 1 < s.heap.objs.size from e ▸ h2))
    · exact Nat.lt_irrefl _ (show s.heap.objs.size < s.heap.objs.size from (List.mem_singleton.mp hb) ▸ h2)
  · rintro i v0 v1 m₁ news₁ s₁ own ⟨h, tk, rfl⟩ hi ⟨t, rfl, hv⟩ hJ hadr hown F₁ N₁
    have hoff : OwnOff own (news.map (·.1)) := by
      intro p hp b hb e
      obtain ⟨q, hq, rfl⟩ := List.mem_map.mp hb
      have h1 := hown p hp
      have h2 := Heap.lt_size (N q hq).1
      simp only [List.mem_cons, List.not_mem_nil, or_false] at h1
      rcases h1 with h1 | h1 | h1
      · exact Nat.lt_irrefl _ (Nat.lt_trans (Nat.lt_succ_self _) (show s.heap.objs.size + 1 < s.heap.objs.size from by rw [← e, h1] at h2; exact h2))
      · exact Nat.lt_irrefl _ (show s.heap.objs.size < s.heap.objs.size from by rw [← e, h1] at h2; exact h2)
      · have := (N q hq).2.2
        rw [← e, h1, hot] at this
        cases this
    refine wpAny_mono (step i v1 m₁ news₁ h tk own t hv hJ hadr hoff F₁ fun p hp => N₁ p ((List.mem_append.mp hp).elim (List.mem_append_right _) (List.mem_append_left _))) (fun f s₃ hf => ?_) fun _ _ e => e
    have fin : PEnd h₀ env.locals (fun m₂ news₂ => news₂.map (·.1) = news.map (·.1) ∧ J (i + 1) m₂ news₂) own s s₃ → LoopStep2 h₀ env.locals own news₁ (J (i + 1)) { s with heap := h, toks := tk } .next s₃ := by
      rintro ⟨h', tk', m₂, news₂, rfl, F', N', _, ha, hJ'⟩
      exact ⟨rfl, h', tk', m₂, news₂, rfl, F', fun p hp => N' p ((List.mem_append.mp hp).elim (List.mem_append_right _) (List.mem_append_left _)), ha.trans hadr.symm, hJ'⟩
    cases f with
    | next => exact fin hf
    | cont => exact fin hf
    | brk => exact hf
    | ret v => exact hf
  · intro h' tk m' news' F' N' ha hJ
    exact done h' tk m' news' F' N' ha hJ
end
end Mine
end
section
open PySem PySem.W PyProof.Rows PySem.Calls
set_option Elab.async false
namespace Mine
abbrev fmMap (v : Int) (t : Tok) (p : Addr) (ix tb bt ch : Option Value) : Str → Option Value := fun y =>
  if y = Str.ofString "index" then ix else if y = Str.ofString "table" then tb else if y = Str.ofString "bit" then bt else if y = Str.ofString "char" then ch else
  if y = Str.ofString "perm" then some (.ref p) else if y = Str.ofString "mode" then some (.int v t) else none

theorem ite_str {α : Type} (a : Str) (f g : Str → α) (h : f a = g a) (h' : ∀ y, y ≠ a → f y = g y) : f = g := by
  funext y
  by_cases e : y = a
  · rw [e]; exact h
  · exact h' y e

theorem fmMap_in (v : Int) (t : Tok) (p : Addr) (ix tb bt ch : Option Value) (a b : Value) :
    (fun z => if z = Str.ofString "char" then some b else if z = Str.ofString "bit" then some a else fmMap v t p ix tb bt ch z) = fmMap v t p ix tb (some a) (some b) := by
  funext z
  unfold fmMap
  by_cases h1 : z = Str.ofString "char"
  · subst h1; rfl
  · by_cases h2 : z = Str.ofString "bit"
    · subst h2; rfl
    · simp only [if_neg h1, if_neg h2]
theorem fmMap_out (v : Int) (t : Tok) (p : Addr) (ix tb bt ch : Option Value) (a b : Value) :
    (fun z => if z = Str.ofString "table" then some b else if z = Str.ofString "index" then some a else fmMap v t p ix tb bt ch z) = fmMap v t p (some a) (some b) bt ch := by
  funext z
  unfold fmMap
  by_cases h1 : z = Str.ofString "table"
  · subst h1; rfl
  · by_cases h2 : z = Str.ofString "index"
    · subst h2; rfl
    · simp only [if_neg h1, if_neg h2]
theorem fmMap_0 (v : Int) (t : Tok) (p : Addr) : (fun y => if y = Str.ofString "perm" then some (Value.ref p) else if y = Str.ofString "mode" then some (Value.int v t) else none) = fmMap v t p none none none none := by
  funext z
  unfold fmMap
  by_cases h1 : z = Str.ofString "perm"
  · subst h1; rfl
  · by_cases h2 : z = Str.ofString "mode"
    · subst h2; rfl
    · simp only [if_neg h1, if_neg h2]
      repeat' split
      all_goals rfl

abbrev FmE := Int × Tok × Str × Tok
def fmT : List (List FmE) :=
  [[(40960,431,Str.ofString "l",459),(49152,433,Str.ofString "s",460),(32768,427,Str.ofString "-",461),(24576,425,Str.ofString "b",462),(16384,421,Str.ofString "d",463),(8192,423,Str.ofString "c",464),(4096,429,Str.ofString "p",465)],
   [(256,441,Str.ofString "r",466)], [(128,443,Str.ofString "w",467)], [(2112,468,Str.ofString "s",469),(2048,435,Str.ofString "S",470),(64,445,Str.ofString "x",471)],
   [(32,447,Str.ofString "r",472)], [(16,449,Str.ofString "w",473)], [(1032,474,Str.ofString "s",475),(1024,437,Str.ofString "S",476),(8,451,Str.ofString "x",477)],
   [(4,453,Str.ofString "r",478)], [(2,455,Str.ofString "w",479)], [(513,480,Str.ofString "t",481),(512,439,Str.ofString "T",482),(1,457,Str.ofString "x",483)]]
def fmVals (row : List FmE) (j : Nat) : Value × Value := match row[j]? with
  | some (b, tb, c, tc) => (.int b tb, .str c tc)
  | none => (.none, .none)
def fmHit (i : Nat) (v b : Int) : Bool := if i = 0 then decide (Builtin.bitAnd v 61440 = b) else decide (Builtin.bitAnd v b = b)
def fmPick (i : Nat) (v : Int) (row : List FmE) : Str := match row.find? (fun x => fmHit i v x.1) with
  | some x => x.2.2.1
  | none => if i = 0 then Str.ofString "?" else Str.ofString "-"
def fmChars (v : Int) : List Str := (List.range 10).map fun i => fmPick i v (fmT.getD i [])

def fmAddr : List (Addr × List Addr) := [(77, [70,71,72,73,74,75,76]), (79, [78]), (81, [80]), (85, [82,83,84]), (87, [86]), (89, [88]), (93, [90,91,92]), (95, [94]), (97, [96]), (101, [98,99,100])]
def fm102 : Array Value := #[.ref 77, .ref 79, .ref 81, .ref 85, .ref 87, .ref 89, .ref 93, .ref 95, .ref 97, .ref 101]

theorem isTup_K {K : Frag} {h : Heap} {a : Addr} {l : Array Value} {dd : Option Addr} {sl : Array (Option Value)} {n : Nat} (X : K.In h) (hl : K.lookup a = some ⟨.type "tuple", dd, .seq l n, sl⟩) : h.IsTuple a l := ⟨_, X _ _ hl, rfl, n, rfl⟩

set_option maxRecDepth 100000 in
theorem fm_table {w : World} {h : Heap} (X : (Mine.hd.heap_39 w.params).In h) : h.IsTuple 102 fm102 ∧
    ∀ i v, fm102[i]? = some v → ∃ ta tas, v = .ref ta ∧ h.IsTuple ta tas ∧ tas.size = (fmT.getD i []).length ∧ ∀ j u, tas[j]? = some u → ∃ a, u = .ref a ∧ h.IsTuple a #[(fmVals (fmT.getD i []) j).1, (fmVals (fmT.getD i []) j).2] := by
  refine ⟨isTup_K X (n := 0) rfl, ?_⟩
  intro i v hv
  have hi : i < 10 := by
    rcases Nat.lt_or_ge i 10 with h | h
    · exact h
    · rw [Array.getElem?_eq_none (by simpa [fm102] using h)] at hv; cases hv
  have one : ∀ (ta : Addr) (tas : List Addr), fm102[i]? = some (.ref ta) → h.IsTuple ta (tas.map Value.ref).toArray → tas.length = (fmT.getD i []).length →
      (∀ j a, tas[j]? = some a → h.IsTuple a #[(fmVals (fmT.getD i []) j).1, (fmVals (fmT.getD i []) j).2]) →
      ∃ ta tas, v = .ref ta ∧ h.IsTuple ta tas ∧ tas.size = (fmT.getD i []).length ∧ ∀ j u, tas[j]? = some u → ∃ a, u = .ref a ∧ h.IsTuple a #[(fmVals (fmT.getD i []) j).1, (fmVals (fmT.getD i []) j).2] := by
    intro ta tas h1 h2 h3 h4
    refine ⟨ta, _, Option.some.inj (hv.symm.trans h1), h2, by simpa using h3, fun j u hu => ?_⟩
    simp only [List.getElem?_toArray, List.getElem?_map, Option.map_eq_some_iff] at hu
    obtain ⟨a, ha, rfl⟩ := hu
    exact ⟨a, rfl, h4 j a ha⟩
  have lt : ∀ {l : List Addr} {j a}, l[j]? = some a → j < l.length := fun h => (List.getElem?_eq_some_iff.mp h).1
  have hi' : i = 0 ∨ i = 1 ∨ i = 2 ∨ i = 3 ∨ i = 4 ∨ i = 5 ∨ i = 6 ∨ i = 7 ∨ i = 8 ∨ i = 9 := by omega
  rcases hi' with rfl | rfl | rfl | rfl | rfl | rfl | rfl | rfl | rfl | rfl
  · refine one 77 [70, 71, 72, 73, 74, 75, 76] rfl (isTup_K X (n := 0) rfl) rfl fun j a ha => ?_
    have hj : j < 7 := lt ha
    have hj' : j = 0 ∨ j = 1 ∨ j = 2 ∨ j = 3 ∨ j = 4 ∨ j = 5 ∨ j = 6 := by omega
    rcases hj' with rfl | rfl | rfl | rfl | rfl | rfl | rfl <;> (cases ha; exact isTup_K X (n := 0) rfl)
  · refine one 79 [78] rfl (isTup_K X (n := 0) rfl) rfl fun j a ha => ?_
    have hj : j < 1 := lt ha
    obtain rfl : j = 0 := by omega
    cases ha; exact isTup_K X (n := 0) rfl
  · refine one 81 [80] rfl (isTup_K X (n := 0) rfl) rfl fun j a ha => ?_
    have hj : j < 1 := lt ha
    obtain rfl : j = 0 := by omega
    cases ha; exact isTup_K X (n := 0) rfl
  · refine one 85 [82, 83, 84] rfl (isTup_K X (n := 0) rfl) rfl fun j a ha => ?_
    have hj : j < 3 := lt ha
    have hj' : j = 0 ∨ j = 1 ∨ j = 2 := by omega
    rcases hj' with rfl | rfl | rfl <;> (cases ha; exact isTup_K X (n := 0) rfl)
  · refine one 87 [86] rfl (isTup_K X (n := 0) rfl) rfl fun j a ha => ?_
    have hj : j < 1 := lt ha
    obtain rfl : j = 0 := by omega
    cases ha; exact isTup_K X (n := 0) rfl
  · refine one 89 [88] rfl (isTup_K X (n := 0) rfl) rfl fun j a ha => ?_
    have hj : j < 1 := lt ha
    obtain rfl : j = 0 := by omega
    cases ha; exact isTup_K X (n := 0) rfl
  · refine one 93 [90, 91, 92] rfl (isTup_K X (n := 0) rfl) rfl fun j a ha => ?_
    have hj : j < 3 := lt ha
    have hj' : j = 0 ∨ j = 1 ∨ j = 2 := by omega
    rcases hj' with rfl | rfl | rfl <;> (cases ha; exact isTup_K X (n := 0) rfl)
  · refine one 95 [94] rfl (isTup_K X (n := 0) rfl) rfl fun j a ha => ?_
    have hj : j < 1 := lt ha
    obtain rfl : j = 0 := by omega
    cases ha; exact isTup_K X (n := 0) rfl
  · refine one 97 [96] rfl (isTup_K X (n := 0) rfl) rfl fun j a ha => ?_
    have hj : j < 1 := lt ha
    obtain rfl : j = 0 := by omega
    cases ha; exact isTup_K X (n := 0) rfl
  · refine one 101 [98, 99, 100] rfl (isTup_K X (n := 0) rfl) rfl fun j a ha => ?_
    have hj : j < 3 := lt ha
    have hj' : j = 0 ∨ j = 1 ∨ j = 2 := by omega
    rcases hj' with rfl | rfl | rfl <;> (cases ha; exact isTup_K X (n := 0) rfl)
end Mine
end
section
open PySem PySem.W PyProof.Rows PySem.Calls
set_option Elab.async false
namespace Mine
set_option maxRecDepth 100000 in
set_option maxHeartbeats 800000 in
theorem ifmt_c (w : World) (mean : ExcName → Option Value) (mg mb : Str → Option Value) (v : Int) (t : Tok) {A : Around} {s : Shared} (hd : A.depth < recursionLimit)
   (X : (Mine.hd.heap_39 w.params).In s.heap) (T : Top Mine.hd.view_39 (looseW Mine.hd.view_39 [Str.ofString "_filemode_table"]) mean mg mb s.heap) {Q E : Value → Shared → Prop}
   (hQ : ∀ t h' tk', Keep s.heap h' → Q (.int (Builtin.bitAnd v 61440) t) {s with heap := h', toks := tk'}) :
   wpAny (model PySem.Challenge.rw_oc0090_01.row.prog w) A (call (.ref 69) [.int v t]) Q E s := by
  w_on
  revert X
  k_fill
  intro X
  refine wpAny_call ?_
  k_dflt (refine' enter0 [(Str.ofString "mode", .int v t)] _ (lookup1 _ _) X T.nolimit ?k6 ?k7 ?k8 ?k9 ?kB ?_ ?c2 ?c3 ?c4 ?c5; (case k6 => k_is); (case k7 => k_is); (case k8 => exact hd); (case k9 => exact BindsTo.of_eq rfl); (case c5 => decide); (case kB => exact locs rfl); (case c2 => exact rfl); (case c3 => exact rfl); (case c4 => exact rfl); k_whole)
  intro h₁ F N
  k_steps
  exact hQ _ _ _ F.keep

local macro_rules | `(tactic| walk_at "call builtin:list.append") => `(tactic| (k_here; (try dsimp only [List.cons_append, List.nil_append]); (with_reducible show wpAny _ _ (call (Value.builtin _) [Value.ref _, _]) _ _ _); k_dflt (refine' append_K ?k1 ?k2 ?k3 ?_ ?z; (case k1 => k_asm); (case k2 => k_asm); (case k3 => k_upd); (case z => (simp only [List.size_toArray, PySem.sizeLine_eq]; omega)); k_whole); intro h' F' N'))
theorem fmVals_at {row : List FmE} {j : Nat} {x : FmE} (h : row[j]? = some x) : fmVals row j = (.int x.1 x.2.1, .str x.2.2.1 x.2.2.2) := by
  unfold fmVals
  rw [h]

theorem fmPick_hit {i : Nat} {v b : Int} {row : List FmE} {k : Nat} {tb : Tok} {c : Str} {tc : Tok} (hno : ∀ k' < k, ∀ x, row[k']? = some x → fmHit i v x.1 = false) (hx : row[k]? = some (b, tb, c, tc)) (hb : fmHit i v b = true) : c = fmPick i v row := by
  obtain ⟨hk, he⟩ := List.getElem?_eq_some_iff.mp hx
  have : row.find? (fun x => fmHit i v x.1) = some (b, tb, c, tc) := by
    rw [List.find?_eq_some_iff_getElem]
    refine ⟨hb, k, hk, he, fun j hj => ?_⟩
    rw [hno j hj _ (List.getElem?_eq_getElem _)]
    rfl
  unfold fmPick
  rw [this]
theorem fmPick_none {i : Nat} {v : Int} {row : List FmE} (hno : ∀ k' < row.length, ∀ x, row[k']? = some x → fmHit i v x.1 = false) : fmPick i v row = if i = 0 then Str.ofString "?" else Str.ofString "-" := by
  have : row.find? (fun x => fmHit i v x.1) = none := by
    rw [List.find?_eq_none]
    intro x hx
    obtain ⟨k, hk, rfl⟩ := List.mem_iff_getElem.mp hx
    rw [hno k hk _ (List.getElem?_eq_getElem _)]
    exact Bool.false_ne_true
  unfold fmPick
  rw [this]
theorem fmRow_len : ∀ i < 10, ∀ x ∈ fmT.getD i [], x.2.2.1.length = 1 := by decide
theorem fmPick_len (v : Int) {i : Nat} (hi : i < 10) : (fmPick i v (fmT.getD i [])).length = 1 := by
  unfold fmPick
  split
  · rename_i x hx
    exact fmRow_len i hi x (List.mem_of_find?_eq_some hx)
  · split <;> rfl
theorem fmChars_len (v : Int) : ∀ a ∈ fmChars v, a.length = 1 := by
  intro a ha
  obtain ⟨i, hi, rfl⟩ := List.mem_map.mp ha
  exact fmPick_len v (List.mem_range.mp hi)
theorem fmChars_at (v : Int) {i : Nat} (hi : i < 10) : (fmChars v).take (i + 1) = (fmChars v).take i ++ [fmPick i v (fmT.getD i [])] := by
  unfold fmChars
  rw [List.take_add_one, List.getElem?_map, List.getElem?_range hi]
  rfl

set_option maxRecDepth 100000 in
set_option maxHeartbeats 1600000 in
theorem filemode_c (w : World) (mean : ExcName → Option Value) (mg mb : Str → Option Value) (v : Int) (t : Tok) {dp un gd fr} {s : Shared}
   (hd : dp + 5 < recursionLimit) (hu : un + 50 < cLine)
   (X : (Mine.hd.heap_39 w.params).In s.heap) (T : Top Mine.hd.view_39 (looseW Mine.hd.view_39 [Str.ofString "_filemode_table"]) mean mg mb s.heap) {Q E : Value → Shared → Prop}
   (hQ : ∀ t h' tk', Keep s.heap h' → Q (.str (Txt.join (Str.ofString "") (fmChars v)) t) {s with heap := h', toks := tk'}) :
   wpAny (model PySem.Challenge.rw_oc0090_01.row.prog w) (AT dp un gd fr) (call (.ref 109) [.int v t]) Q E s := by
  w_on
  revert X
  k_fill
  intro X
  refine wpAny_call ?_
  k_dflt (refine' enter0 [(Str.ofString "mode", .int v t)] _ (lookup1 _ _) X T.nolimit ?k6 ?k7 ?k8 ?k9 ?kB ?_ ?c2 ?c3 ?c4 ?c5; (case k6 => k_is); (case k7 => k_is); (case k8 => ktr_room); (case k9 => exact BindsTo.of_eq rfl); (case c5 => decide); (case kB => exact locs rfl); (case c2 => exact rfl); (case c3 => exact rfl); (case c4 => exact rfl); k_whole)
  intro h₁ F N
  k_steps
  rename_i p _ _ _ F' N'
  rw [fmMap_0] at F'
  obtain ⟨t102, trows⟩ := fm_table X
  refine pair_enum (hh := rfl) t102 F' N' (fun i m₁ news₁ => (∃ ix tb bt ch, m₁ = fmMap v t p ix tb bt ch) ∧ ∃ vs n, news₁ = [(p, W.listOf vs.toArray n)] ∧ StrsAre vs ((fmChars v).take i)) ⟨⟨_, _, _, _, rfl⟩, [], 0, rfl, .nil⟩ ?_ ?_
  · intro i vt m₁ news₁ h tk own ti hv hJ hadr hoff F₁ N₁
    obtain ⟨⟨ix, tb, bt, ch, rfl⟩, vs, n, rfl, hvs⟩ := hJ
    obtain ⟨ta, tas, rfl, hta, hsz, hcells⟩ := trows i vt hv
    rw [fmMap_out] at F₁
    refine wpAny_execs_cons (wpAny_For ?_)
    refine ld F₁ (v := .ref ta) rfl ?_
    refine wpAny_pyIter_tuple (hta.at fun o e => F₁.keep _ _ e) ?_
    have hi : i < 10 := by
      rcases Nat.lt_or_ge i 10 with h | h
      · exact h
      · rw [Array.getElem?_eq_none (by simpa [fm102] using h)] at hv; cases hv
    have hop : OwnOff own [p] := hoff
    have hlen : vs.length ≤ 10 := by
      have h1 : vs.length = ((fmChars v).take i).length := hvs.length
      rw [h1, List.length_take]
      omega
    have hfr : ∀ k, s.heap.get? (h.objs.size + k) = none := fun k => Heap.get?_none_of_le (Nat.le_trans F₁.above (Nat.le_trans (Nat.le_of_lt F₁.ns.lt) (Nat.le_add_right _ _)))
    have close : ∀ (S : Shared) (h' : Heap) (tk' : Nat) (bt ch : Option Value) (c' : Str) (tc' : Tok), c' = fmPick i v (fmT.getD i []) → Fr s.heap s.heap.objs.size h' (fmMap v t p (some (.int i ti)) (some (.ref ta)) bt ch) →
        News s.heap s.heap.objs.size h' ((p, W.listOf (vs.toArray.push (.str c' tc')) (n + 1)) :: own) →
        PEnd s.heap s.heap.objs.size (fun m₂ news₂ => news₂.map (·.1) = [(p, W.listOf #[] 0)].map (·.1) ∧ (∃ ix tb bt ch, m₂ = fmMap v t p ix tb bt ch) ∧ ∃ vs n, news₂ = [(p, W.listOf vs.toArray n)] ∧ StrsAre vs ((fmChars v).take (i + 1))) own S { S with heap := h', toks := tk' } := by
      intro S h' tk' bt ch c' tc' hc F₉ N₉
      refine ⟨h', tk', _, [(p, W.listOf (vs.toArray.push (.str c' tc')) (n + 1))], rfl, F₉, N₉, fun q hq r hr e => ?_, rfl, ⟨_, _, _, _, rfl⟩, vs ++ [.str c' tc'], n + 1, by rw [List.push_toArray], ?_⟩
      · rw [List.mem_singleton.mp hq] at e
        exact hop r hr p (List.mem_singleton.mpr rfl) e.symm
      · rw [fmChars_at v hi, ← hc]
        exact kct_snoc hvs
    k_with "call ref" => ((rename Fr _ _ _ _ => lF'); (rename News _ _ _ _ => lN'); (with_unfolding_all refine ifmt_c w mean mg mb v t (by ktr_room) (Frag.In.keeps (by assumption) lF'.keep) (Top.keeps (by assumption) lF'.keep) ?_); intro t' h' tk' hk'; (replace lF' := frKeep lF' hk'); (replace lN' := newsKeep lN' hk'); (try dsimp only))
    refine for_pairs (fmVals (fmT.getD i [])) rfl rfl rfl rfl hta hcells (fun k m₁ news₁ => (∃ bt ch, m₁ = fmMap v t p (some (.int i ti)) (some (.ref ta)) bt ch) ∧ news₁ = (p, W.listOf vs.toArray n) :: own ∧ ∀ k' < k, ∀ x, (fmT.getD i [])[k']? = some x → fmHit i v x.1 = false)
      (frKeep F₁ fun _ _ e => Heap.get?_push_of_some _ e) (newsKeep N₁ fun _ _ e => Heap.get?_push_of_some _ e) ⟨⟨_, _, rfl⟩, rfl, fun k' hk' => absurd hk' (Nat.not_lt_zero _)⟩ ⟨_, Heap.get?_push_size _ rfl, rfl, rfl⟩ (fun q hq e => Nat.lt_irrefl _ (show h.objs.size < h.objs.size from e ▸ Heap.lt_size (N₁ q hq).1)) (hfr 0) (fun e => Nat.lt_irrefl _ (show h.objs.size < h.objs.size from e ▸ F₁.ns.lt)) ?_ ?_
    · intro k m₂ news₂ h₂ tk₂ o hk hJ₂ hI F₂ N₂
      obtain ⟨⟨bt₂, ch₂, rfl⟩, rfl, hno⟩ := hJ₂
      rw [hsz] at hk
      obtain ⟨x, hx⟩ : ∃ x, (fmT.getD i [])[k]? = some x := ⟨_, List.getElem?_eq_getElem hk⟩
      rw [fmVals_at hx, fmMap_in] at F₂
      obtain ⟨b, tb', c, tc⟩ := x
      obtain ⟨own2, hown2⟩ : ∃ l, l = own ++ [(h.objs.size, o)] := ⟨_, rfl⟩
      have hpI : p ≠ h.objs.size := hI (p, _) (List.mem_cons_self ..)
      have hO : OwnOff own2 [p] := by
        rw [hown2]
        intro q hq b hb e
        rw [List.mem_singleton.mp hb] at e
        rcases List.mem_append.mp hq with hq | hq
        · exact hop q hq p (List.mem_singleton.mpr rfl) e
        · rw [List.mem_singleton.mp hq] at e
          exact hpI e.symm
      replace N₂ : News s.heap s.heap.objs.size h₂ ((p, W.listOf vs.toArray n) :: own2) := by rw [hown2]; exact N₂
      replace F₂ : Fr s.heap s.heap.objs.size h₂ (fmMap v t p (some (.int i ti)) (some (.ref ta)) (some (.int b tb')) (some (.str c tc))) := F₂
      dsimp only
      have drop2 : ∀ {h' : Heap} {q : Addr × Obj}, News s.heap s.heap.objs.size h' (q :: own2) → News s.heap s.heap.objs.size h' (q :: own) := fun N' r hr => N' r (by
        rcases List.mem_cons.mp hr with rfl | hr
        · exact List.mem_cons_self ..
        · exact List.mem_cons_of_mem _ (hown2 ▸ List.mem_append_left _ hr))
      have next2 : ∀ (S : Shared) (h' : Heap) (tk' : Nat), fmHit i v b = false → Fr s.heap s.heap.objs.size h' (fmMap v t p (some (.int i ti)) (some (.ref ta)) (some (.int b tb')) (some (.str c tc))) →
          News s.heap s.heap.objs.size h' ((p, W.listOf vs.toArray n) :: own2) → PEnd s.heap s.heap.objs.size (fun m₁ news₁ => (∃ bt ch, m₁ = fmMap v t p (some (.int i ti)) (some (.ref ta)) bt ch) ∧ news₁ = (p, W.listOf vs.toArray n) :: own ∧ ∀ k' < k + 1, ∀ x, (fmT.getD i [])[k']? = some x → fmHit i v x.1 = false) [(h.objs.size, o)] S { S with heap := h', toks := tk' } := by
        intro S h' tk' hb F₉ N₉
        refine ⟨h', tk', _, (p, W.listOf vs.toArray n) :: own, rfl, F₉, by rw [hown2] at N₉; exact N₉, fun q hq r hr => ?_, ⟨_, _, rfl⟩, rfl, fun k' hk' x' hx' => ?_⟩
        · rw [List.mem_singleton.mp hr]; exact hI q hq
        · rcases Nat.lt_succ_iff_lt_or_eq.mp hk' with h9 | h9
          · exact hno k' h9 x' hx'
          · rw [h9, hx] at hx'
            cases hx'
            exact hb
      by_cases hi0 : i = 0
      · subst hi0
        k_steps
        · rename_i hE
          rename Fr _ _ _ _ => fE
          rename News _ _ _ _ => nE
          exact wpAny_execs_nil (close _ _ _ _ _ c tc (fmPick_hit hno hx (by unfold fmHit; rw [if_pos rfl]; exact decide_eq_true (by assumption))) fE (drop2 nE))
        · rename Fr _ _ _ _ => fE
          rename News _ _ _ _ => nE
          exact next2 _ _ _ (by unfold fmHit; rw [if_pos rfl]; exact decide_eq_false (by assumption)) fE nE
      · have hiz : (0 : Int) < (i : Int) := by omega
        k_steps
        all_goals try (exfalso; omega)
        · rename Fr _ _ _ _ => fE
          rename News _ _ _ _ => nE
          exact wpAny_execs_nil (close _ _ _ _ _ c tc (fmPick_hit hno hx (by unfold fmHit; rw [if_neg hi0]; exact decide_eq_true (by assumption))) fE (drop2 nE))
        · rename Fr _ _ _ _ => fE
          rename News _ _ _ _ => nE
          exact next2 _ _ _ (by unfold fmHit; rw [if_neg hi0]; exact decide_eq_false (by assumption)) fE nE
    · intro m₂ news₂ h₂ tk₂ hJ₂ F₂ N₂
      obtain ⟨⟨bt₂, ch₂, rfl⟩, rfl, hno⟩ := hJ₂
      rw [hsz] at hno
      replace N₂ : News s.heap s.heap.objs.size h₂ ((p, W.listOf vs.toArray n) :: own) := N₂
      replace F₂ : Fr s.heap s.heap.objs.size h₂ (fmMap v t p (some (.int i ti)) (some (.ref ta)) bt₂ ch₂) := F₂
      dsimp only
      have hpk := fmPick_none hno
      by_cases hi0 : i = 0
      · rw [if_pos hi0] at hpk
        have hiz : (i : Int) = 0 := by omega
        k_steps
        all_goals try (exfalso; omega)
        rename Fr _ _ _ _ => fE
        rename News _ _ _ _ => nE
        exact close _ _ _ _ _ _ _ hpk.symm fE nE
      · rw [if_neg hi0] at hpk
        have hiz : (0 : Int) < (i : Int) := by omega
        k_steps
        all_goals try (exfalso; omega)
        rename Fr _ _ _ _ => fE
        rename News _ _ _ _ => nE
        exact close _ _ _ _ _ _ _ hpk.symm fE nE
  · intro h tk m₁ news₁ F₁ N₁ _ hJ
    obtain ⟨⟨ix, tb, bt, ch, rfl⟩, vs, n, rfl, hvs⟩ := hJ
    replace hvs : StrsAre vs (fmChars v) := hvs
    replace N₁ : News s.heap s.heap.objs.size h [(p, W.listOf vs.toArray n)] := N₁
    replace F₁ : Fr s.heap s.heap.objs.size h (fmMap v t p ix tb bt ch) := F₁
    dsimp only
    k_steps
    refine KT.join_1 (l := fmChars v) (g := id) (ys := vs) ⟨_, N₁.get (List.mem_cons_self ..), rfl, n, rfl⟩ ?_ (fmChars_len v) (by unfold fmChars; simp) ?_
    · have := hvs.carried
      simpa using this
    · intro t' k _
      rw [List.map_id]
      exact hQ _ _ _ F₁.keep
end Mine
end
section
open PySem PySem.W PyProof.Rows PySem.Calls
set_option Elab.async false
namespace Mine
section
variable {prog : Program} {w : World} {A : Around} {h₀ : Heap} {s : Shared} {env : Env} {E : Value → Shared → Prop} {body : List Stmt} {m : Str → Option Value} {news : List (Addr × Obj)} {Q : Flow → Shared → Prop}
/-- a loop whose iterator walks, by an invariant, its turns' ends in this file's own words -/
theorem loop_own {y : Str} {I : Addr} {fp wr : List Addr} {n : Nat} {P : Nat → Value → Prop} {St : Nat → Heap → Prop} (W : Walks prog w A I fp wr n P St) (hLf : env.locals ∉ fp) (hwr : ∀ b ∈ wr, h₀.get? b = none) (hfp : ∀ q ∈ news, q.1 ∉ fp) (hst : St 0 s.heap)
    (F : Fr h₀ env.locals s.heap m) (N : News h₀ env.locals s.heap news) (J : Nat → (Str → Option Value) → List (Addr × Obj) → Prop) (j0 : J 0 m news)
    (turn : ∀ i v m₁ news₁ h tk own, i < n → P i v → J i m₁ news₁ → news₁.map (·.1) = news.map (·.1) → OwnOff own (news.map (·.1)) → Fr h₀ env.locals h (fun z => if z = y then some v else m₁ z) → News h₀ env.locals h (news₁ ++ own) →
      wpAny (model prog w) A (execs body env) (TEnd (fun r s' => match r with | .ok f => Q f s' | .error _ => False) (PEnd h₀ env.locals (fun m₂ news₂ => news₂.map (·.1) = news.map (·.1) ∧ J (i + 1) m₂ news₂) own s)) E { s with heap := h, toks := tk })
    (done : ∀ m₁ news₁ h tk, J n m₁ news₁ → news₁.map (·.1) = news.map (·.1) → Fr h₀ env.locals h m₁ → News h₀ env.locals h news₁ → Q .next { s with heap := h, toks := tk }) :
    LoopAtV prog w A h₀ env y body Q E (.ref I) s := by
  refine loop_invN (J := fun i m₁ news₁ => news₁.map (·.1) = news.map (·.1) ∧ J i m₁ news₁) W hLf hwr (fun p hp hb => hfp p hp (W.sub _ hb)) hfp hst F N ⟨rfl, j0⟩ ?_ ?_
  · intro i v m₁ news₁ h tk own hi hv hadr hoff hJ F₁ N₁
    refine wpAny_mono (turn i v m₁ news₁ h tk own hi hv hJ.2 hadr hoff F₁ N₁) (fun f s₃ hf => ?_) fun _ _ e => e
    have fin : PEnd h₀ env.locals (fun m₂ news₂ => news₂.map (·.1) = news.map (·.1) ∧ J (i + 1) m₂ news₂) own s s₃ → InvEndN h₀ env.locals (fun m₁ news₁ => news₁.map (·.1) = news.map (·.1) ∧ J (i + 1) m₁ news₁) own (news.map (·.1)) { s with heap := h, toks := tk } s₃ := by
      rintro ⟨h', tk', m₂, news₂, rfl, F', N', _, ha, hJ'⟩
      exact ⟨h', tk', m₂, _, news₂, rfl, F', N', fun p hp => List.mem_append_left _ hp, fun p hp => List.mem_append_right _ hp, ha, ha, hJ'⟩
    cases f with
    | next => exact fin hf
    | cont => exact fin hf
    | brk => exact hf
    | ret v => exact hf
  · rintro m₁ news₁ h tk ⟨ha, hJ⟩ F₁ N₁
    exact done m₁ news₁ h tk hJ ha F₁ N₁

/-- for y in a text -/
theorem str_loop {y x : Str} {t : Tok} (hh : A.handled = none) (F : Fr h₀ env.locals s.heap m) (N : News h₀ env.locals s.heap news) (J : Nat → (Str → Option Value) → List (Addr × Obj) → Prop) (j0 : J 0 m news)
    (turn : ∀ i c u m₁ news₁ h tk own, x.cps[i]? = some c → J i m₁ news₁ → news₁.map (·.1) = news.map (·.1) → OwnOff own (news.map (·.1)) → Fr h₀ env.locals h (fun z => if z = y then some (.str ⟨#[c]⟩ u) else m₁ z) → News h₀ env.locals h (news₁ ++ own) →
      wpAny (model prog w) A (execs body env) (TEnd (fun r s' => match r with | .ok f => Q f s' | .error _ => False) (PEnd h₀ env.locals (fun m₂ news₂ => news₂.map (·.1) = news.map (·.1) ∧ J (i + 1) m₂ news₂) own s)) E { s with heap := h, toks := tk })
    (done : ∀ m₁ news₁ h tk, J x.cps.size m₁ news₁ → news₁.map (·.1) = news.map (·.1) → Fr h₀ env.locals h m₁ → News h₀ env.locals h news₁ → Q .next { s with heap := h, toks := tk }) :
    wpAny (model prog w) A (pyIter (.str x t)) (fun it s₂ => LoopAtV prog w A h₀ env y body Q E it s₂) E s := by
  refine wpAny_pyIter_str fun o St W st => ?_
  have k : Keep s.heap (s.heap.push o) := fun _ _ e => Heap.get?_push_of_some _ e
  refine loop_own (W A hh) (fun hm => ?_) (fun b hb => ?_) (fun q hq hm => ?_) st (frKeep F k) (newsKeep N k) J j0 ?_ ?_
  · exact Nat.lt_irrefl _ (show s.heap.objs.size < s.heap.objs.size from (List.mem_singleton.mp hm) ▸ F.ns.lt)
  · rw [List.mem_singleton.mp hb]
    exact Heap.get?_none_of_le (Nat.le_trans F.above (Nat.le_of_lt F.ns.lt))
  · exact Nat.lt_irrefl _ (show s.heap.objs.size < s.heap.objs.size from (List.mem_singleton.mp hm) ▸ Heap.lt_size (N q hq).1)
  · rintro i v m₁ news₁ h tk own hi ⟨c, u, hc, rfl⟩ hJ hadr hoff F₁ N₁
    exact turn i c u m₁ news₁ h tk own hc hJ hadr hoff F₁ N₁
  · intro m₁ news₁ h tk hJ ha F₁ N₁
    exact done m₁ news₁ h tk hJ ha F₁ N₁
end
end Mine
end
section
open PySem PySem.W PyProof.Rows PySem.Calls
set_option Elab.async false
namespace Mine
/-- what one sign shows -/
def signPts (c : Nat) : Int := (if c = 45 then 0 else 1) + (if c = 115 ∨ c = 116 then 1 else 0)
def textPts (x : Str) (n : Nat) : Int := ((x.cps.toList.take n).map signPts).sum
theorem textPts_succ {x : Str} {i c : Nat} (h : x.cps[i]? = some c) : textPts x (i + 1) = textPts x i + signPts c := by
  unfold textPts
  rw [List.take_add_one, Array.getElem?_toList, h, List.map_append, List.sum_append]
  simp
abbrev ptMap (x : Str) (t : Tok) (part : Int) (t2 : Tok) (n : Int) (tn : Tok) (sg : Option Value) : Str → Option Value := fun y =>
  if y = Str.ofString "points" then some (.int n tn) else if y = Str.ofString "sign" then sg else if y = Str.ofString "part" then some (.int part t2) else if y = Str.ofString "row" then some (.str x t) else none
theorem ptMap_0 (x : Str) (t : Tok) (part : Int) (t2 : Tok) (tn : Tok) : (fun y => if y = Str.ofString "points" then some (Value.int 0 tn) else if y = Str.ofString "part" then some (Value.int part t2) else if y = Str.ofString "row" then some (Value.str x t) else none) = ptMap x t part t2 0 tn none := by
  funext y
  unfold ptMap
  by_cases h1 : y = Str.ofString "sign"
  · subst h1; rfl
  · simp only [if_neg h1]
theorem ptMap_s (x : Str) (t : Tok) (part : Int) (t2 : Tok) (n : Int) (tn : Tok) (sg : Option Value) (v : Value) : (fun y => if y = Str.ofString "sign" then some v else ptMap x t part t2 n tn sg y) = ptMap x t part t2 n tn (some v) := by
  funext y
  unfold ptMap
  by_cases h1 : y = Str.ofString "sign"
  · subst h1; rfl
  · simp only [if_neg h1]
theorem ptMap_p (x : Str) (t : Tok) (part : Int) (t2 : Tok) (n n' : Int) (tn tn' : Tok) (sg : Option Value) : (fun y => if y = Str.ofString "points" then some (.int n' tn') else ptMap x t part t2 n tn sg y) = ptMap x t part t2 n' tn' sg := by
  funext y
  unfold ptMap
  by_cases h1 : y = Str.ofString "points"
  · simp only [if_pos h1]
  · simp only [if_neg h1]
theorem ptMap_pp (x : Str) (t : Tok) (part : Int) (t2 : Tok) (n n' n'' : Int) (tn tn' tn'' : Tok) (sg : Option Value) : (fun y => if y = Str.ofString "points" then some (.int n'' tn'') else if y = Str.ofString "points" then some (.int n' tn') else ptMap x t part t2 n tn sg y) = ptMap x t part t2 n'' tn'' sg := by
  funext y
  unfold ptMap
  by_cases h1 : y = Str.ofString "points"
  · simp only [if_pos h1]
  · simp only [if_neg h1]
theorem frEq {h₀ h : Heap} {L : Addr} {m m' : Str → Option Value} (F : Fr h₀ L h m) (e : m = m') : Fr h₀ L h m' := e ▸ F
theorem beq_one (c d : Nat) : ((⟨#[c]⟩ : Str) == ⟨#[d]⟩) = decide (c = d) := by
  by_cases h : c = d
  · subst h; simp
  · rw [decide_eq_false h]
    exact beq_eq_false_iff_ne.mpr fun e => h (by injection e with e; injection e with e; injection e)
theorem one_str {c d : Nat} : ((⟨#[c]⟩ : Str) = ⟨#[d]⟩) ↔ c = d := by
  constructor
  · intro h; injection h with h; injection h with h; injection h
  · intro h; rw [h]

local macro_rules | `(tactic| walk_at "pyIter str") => `(tactic| refine hold ?_)
local macro_rules | `(tactic| walk_at "exec For Name Subscript cons nil") => `(tactic| refine hold ?_)
set_option maxRecDepth 100000 in
set_option maxHeartbeats 1600000 in
theorem points_c (w : World) (mean : ExcName → Option Value) (mg mb : Str → Option Value) (x : Str) (t : Tok) (part : Int) (t2 : Tok) (hx : x.length = 10) (hp0 : 0 ≤ part) (hp2 : part ≤ 2) {dp un gd fr} {s : Shared}
   (hd : dp + 5 < recursionLimit) (hu : un + 50 < cLine)
   (X : (Mine.hd.heap_39 w.params).In s.heap) (T : Top Mine.hd.view_39 (looseW Mine.hd.view_39 [Str.ofString "_filemode_table"]) mean mg mb s.heap) {Q E : Value → Shared → Prop}
   (hQ : ∀ t h' tk', Keep s.heap h' → Q (.int (textPts (Txt.slice x (some (1 + 3 * part)) (some (4 + 3 * part))) (Txt.slice x (some (1 + 3 * part)) (some (4 + 3 * part))).cps.size) t) {s with heap := h', toks := tk'}) :
   wpAny (model PySem.Challenge.rw_oc0090_01.row.prog w) (AT dp un gd fr) (call (.ref 128) [.str x t, .int part t2]) Q E s := by
  w_on
  revert X
  k_fill
  intro X
  refine wpAny_call ?_
  k_dflt (refine' enter0 [(Str.ofString "row", .str x t), (Str.ofString "part", .int part t2)] _ (lookup2 _ _ _ _) X T.nolimit ?k6 ?k7 ?k8 ?k9 ?kB ?_ ?c2 ?c3 ?c4 ?c5; (case k6 => k_is); (case k7 => k_is); (case k8 => ktr_room); (case k9 => exact BindsTo.of_eq rfl); (case c5 => decide); (case kB => exact locs rfl); (case c2 => exact rfl); (case c3 => exact rfl); (case c4 => exact rfl); k_whole)
  intro h₁ F N
  k_steps
  refine For_invV s.heap rfl rfl ?_
  k_steps
  rename Fr _ _ _ _ => F'
  rename News _ _ _ _ => N'
  rw [ptMap_0] at F'
  refine str_loop rfl F' N' (fun i m₁ news₁ => news₁ = [] ∧ ∃ tn sg, m₁ = ptMap x t part t2 (textPts (Txt.slice x (some (1 + 3 * part)) (some (4 + 3 * part))) i) tn sg) ⟨rfl, _, _, rfl⟩ ?_ ?_
  · intro i c u m₁ news₁ h tk own hc hJ _ _ F₁ N₁
    obtain ⟨rfl, tn, sg, rfl⟩ := hJ
    rw [ptMap_s] at F₁
    replace F₁ : Fr s.heap s.heap.objs.size h _ := F₁
    replace N₁ : News s.heap s.heap.objs.size h own := N₁
    have close : ∀ (S : Shared) (h' : Heap) (tk' : Nat) (n' : Int) (tn : Tok) (sg : Option Value), n' = textPts (Txt.slice x (some (1 + 3 * part)) (some (4 + 3 * part))) i + signPts c → Fr s.heap s.heap.objs.size h' (ptMap x t part t2 n' tn sg) → News s.heap s.heap.objs.size h' own →
        PEnd s.heap s.heap.objs.size (fun m₂ news₂ => news₂.map (·.1) = ([] : List (Addr × Obj)).map (·.1) ∧ news₂ = [] ∧ ∃ tn sg, m₂ = ptMap x t part t2 (textPts (Txt.slice x (some (1 + 3 * part)) (some (4 + 3 * part))) (i + 1)) tn sg) own S { S with heap := h', toks := tk' } := by
      intro S h' tk' n' tn sg hn F₉ N₉
      refine ⟨h', tk', _, [], rfl, F₉, N₉, (fun q hq => (nomatch hq)), rfl, rfl, tn, sg, ?_⟩
      rw [textPts_succ hc, hn]
    have eD : ((⟨#[c]⟩ : Str) != Str.ofString "-") = !decide (c = 45) := by rw [bne, show Str.ofString "-" = ⟨#[45]⟩ from rfl, beq_one]
    have eS : ((⟨#[c]⟩ : Str) == Str.ofString "s") = decide (c = 115) := by rw [show Str.ofString "s" = ⟨#[115]⟩ from rfl, beq_one]
    have eT : ((⟨#[c]⟩ : Str) == Str.ofString "t") = decide (c = 116) := by rw [show Str.ofString "t" = ⟨#[116]⟩ from rfl, beq_one]
    generalize textPts (Txt.slice x (some (1 + 3 * part)) (some (4 + 3 * part))) i = n0 at *
    dsimp only
    k_steps
    all_goals (
      rename Fr _ _ _ _ => fE
      rename News _ _ _ _ => nE
      first
        | refine close _ _ _ _ _ _ ?_ (frEq fE (ptMap_pp _ _ _ _ _ _ _ _ _ _ _)) nE
        | refine close _ _ _ _ _ _ ?_ (frEq fE (ptMap_p _ _ _ _ _ _ _ _ _)) nE
        | refine close _ _ _ _ _ _ ?_ fE nE
      simp only [eD, eS, eT, Bool.not_eq_true', Bool.not_eq_false', decide_eq_true_eq, decide_eq_false_iff_not] at *
      unfold signPts
      repeat' split
      all_goals omega)
  · intro m₁ news₁ h tk hJ _ F₁ N₁
    obtain ⟨rfl, tn, sg, rfl⟩ := hJ
    replace F₁ : Fr s.heap s.heap.objs.size h _ := F₁
    replace N₁ : News s.heap s.heap.objs.size h [] := N₁
    dsimp only
    k_steps
    exact hQ _ _ _ F₁.keep
end Mine
end
section
open PySem PySem.W PyProof.Rows PySem.Calls
set_option Elab.async false
namespace Mine
/-- the files that the law builds -/
def lawFiles (ns : List Int) : List Int := ((ns.take 8).map (fun k => Int.fmod k 4096) ++ [2541, 1184]).take (if ns.length < 3 then 2 else if ns.length < 7 then 4 else 8)
theorem extend3 {prog : Program} {w : World} {A : Around} {E : Value → Shared → Prop} {s : Shared} {h₀ : Heap} {L : Addr} {m : Str → Option Value} {b D : Addr} {its2 : Array Value} {n2 n : Nat} {ys : List Value} {rest : List (Addr × Obj)} {Q : Value → Shared → Prop}
    (F : Fr h₀ L s.heap m) (N : News h₀ L s.heap ((b, W.listOf its2 n2) :: (D, W.listOf ys.toArray n) :: rest)) (hbD : b ≠ D) (hr : ∀ p ∈ rest, p.1 ≠ D) (hne : its2.toList.length ≠ 0) (hsz : ys.length + its2.size ≤ 100) {ns ms : List Int} (hi : IntsAre ys ns) (hj : IntsAre its2.toList ms)
    (h : ∀ h' zs n', IntsAre zs (ns ++ ms) → Fr h₀ L h' m → News h₀ L h' [(D, W.listOf (List.toArray zs) n')] → Q .none { s with heap := h' }) : wpAny (model prog w) A (call (.builtin "list.extend") [.ref D, .ref b]) Q E s := by
  refine kl_extend (its := ys.toArray) (l := ys ++ its2.toList) (n := n) (n2 := n2) F N (List.mem_cons_self ..) (by simp) hne (Upd.tail hbD (Upd.head hr)) (extend_door ?_) ?_ ?_ fun h' F' N' => h h' _ (n + 1) (IntsAre.append hi hj) F' (fun p hp => N' p ?_)
  · simp only [List.size_toArray, PySem.sizeLine_eq]; omega
  · simp only [PySem.sizeLine_eq]; omega
  · simp only [List.size_toArray, PySem.sizeLine_eq]; omega
  · rw [List.mem_singleton.mp hp]
    exact List.mem_cons_of_mem _ (List.mem_cons_self ..)
local macro_rules | `(tactic| walk_at "call builtin:list.extend") => `(tactic| refine hold ?_)
set_option maxRecDepth 100000 in
set_option maxHeartbeats 1600000 in
theorem files_c (w : World) (mean : ExcName → Option Value) (mg mb : Str → Option Value) (l : Addr) (vs : List Value) (ns : List Int) (hi : IntsAre vs ns) (hlen : ns.length ≤ 63) {dp un gd fr} {s : Shared}
   (hd : dp + 5 < recursionLimit) (hu : un + 50 < cLine) (hl : s.heap.IsList l vs.toArray)
   (X : (Mine.hd.heap_39 w.params).In s.heap) (T : Top Mine.hd.view_39 (looseW Mine.hd.view_39 [Str.ofString "_filemode_table"]) mean mg mb s.heap) {Q E : Value → Shared → Prop}
   (hQ : ∀ D vs' n' h' tk', Keep s.heap h' → s.heap.get? D = none → h'.get? D = some (W.listOf (List.toArray vs') n') → IntsAre vs' (lawFiles ns) → Q (.ref D) {s with heap := h', toks := tk'}) :
   wpAny (model PySem.Challenge.rw_oc0090_01.row.prog w) (AT dp un gd fr) (call (.ref 121) [.ref l]) Q E s := by
  w_on
  revert X
  k_fill
  intro X
  refine wpAny_call ?_
  k_dflt (refine' enter0 [(Str.ofString "script", .ref l)] _ (lookup1 _ _) X T.nolimit ?k6 ?k7 ?k8 ?k9 ?kB ?_ ?c2 ?c3 ?c4 ?c5; (case k6 => k_is); (case k7 => k_is); (case k8 => ktr_room); (case k9 => exact BindsTo.of_eq rfl); (case c5 => decide); (case kB => exact locs rfl); (case c2 => exact rfl); (case c3 => exact rfl); (case c4 => exact rfl); k_whole)
  intro h₁ F N
  k_steps
  all_goals (
    rename Fr _ _ _ _ => F'
    rename News _ _ _ _ => N'
    rename _ ∧ _ => hlt'
    rename IntsAre _ (List.map _ _) => hI'
    have hyl := hI'.length
    rw [List.length_map, List.length_take] at hyl
    refine extend3 F' N' (Nat.ne_of_gt hlt'.1) (fun p hp => by rw [List.mem_singleton.mp hp]; assumption) (by simp) (by simp only [List.size_toArray, List.length_cons, List.length_nil]; omega) hI' (.cons 2541 _ (.cons 1184 _ .nil)) ?_
    intro h2 zs n2 hZ F2 N2
    clear F' N'
    have hzl := hZ.length
    rw [List.length_append, List.length_map, List.length_take] at hzl
    generalize hfs : List.map (fun k' => Int.fmod k' 4096) (List.take 8 ns) ++ [2541, 1184] = fs at *
    have hfl : fs.length = min 8 ns.length + 2 := by rw [← hfs]; simp
    k_steps
    rename Fr _ _ _ _ => fE
    rename News _ _ _ _ => nE
    rename IntsAre _ (List.take _ fs) => iE
    rw [← hfs] at iE
    have hlm : ((List.map (fun k' => Int.fmod k' 4096) (List.take 8 ns)).length : Int) = (min 8 ns.length : Nat) := by simp
    refine hQ _ _ _ _ _ fE.keep (nE.fresh (List.mem_cons_self ..)) (nE.get (List.mem_cons_self ..)) ?_
    unfold lawFiles
    first
      | (rw [if_pos (by omega)]; exact iE)
      | (rw [if_neg (by omega), if_pos (by omega)]; exact iE)
      | (rw [if_neg (by omega), if_neg (by omega)]; exact iE))
end Mine
end
section
open PySem PySem.W PyProof.Rows PySem.Calls
set_option Elab.async false
namespace Mine
theorem enterC {prog : Program} {w : World} {A : Around} {s : Shared} {K : Frag}
    {R : Result → Shared → Prop} {name qual : Str} {params : Arguments} {body : List Stmt} {scope : Scope} {dV kV doc pm cdv ct oc : Value} {an od : Option Addr} {osl : Array (Option Value)} {f : Addr} {args : Args} (binds : List (Str × Value)) (cl : List (Str × Addr))
    (hcl : cellsFrom (s.heap.objs.size + 1) scope.names [] = cl) (m cm : Str → Option Value)
    (X : K.In s.heap) (hlim : s.heap.NoLimit)
    (ho : K.lookup f = some ⟨oc, od, .func (fnOf name qual params body scope dV kV doc pm an cdv ct), osl⟩) (hcd : codeIn K cdv qual = true) (hroom : A.depth < recursionLimit)
    (hbind : BindsTo s (fnOf name qual params body scope dV kV doc pm an cdv ct) args binds)
    (hkind : ∀ n, ∀ x ∈ binds, scope.names.lookup x.1 = some .local ∨ (scope.names.lookup x.1 = some .cell ∧ ((cellsFrom n scope.names []).lookup x.1).isSome = true))
    (hnd : ((cellsFrom 0 scope.names []).map (·.1)).Nodup)
    (hm : bindL (envX qual scope s.heap.objs.size f cdv cl).kindOf binds (fun _ => none) = m) (hcm : bindC (envX qual scope s.heap.objs.size f cdv cl).kindOf binds (fun _ => none) = cm)
    (h : ∀ h₁ tk cells, Fr s.heap s.heap.objs.size h₁ m → News s.heap s.heap.objs.size h₁ cells → CellsAre cm cl cells →
      wpAny (model prog w) (A.deeper (envX qual scope s.heap.objs.size f cdv cl)) (execs body (envX qual scope s.heap.objs.size f cdv cl))
        (fun fl s' => R (.ok (.ret (match fl with | .ret v => v | _ => .none))) s')
        (fun e s' => wpAny (model prog w) (A.deeper (envX qual scope s.heap.objs.size f cdv cl)) (leaving (envX qual scope s.heap.objs.size f cdv cl) e) (fun _ s'' => R (.error e) s'') (fun e' s'' => R (.error e') s'') s')
        { s with heap := h₁, toks := tk })
    (hco : scope.isCoroutine = false := by rfl) (hgen : scope.isGenerator = false := by rfl) (hk : scope.kind = .function := by rfl) : codeAny (model prog w) A (.call (.ref f) args) R s := by
  subst hcl hm hcm
  refine codeAny_call_function hroom (X _ _ ho) rfl hco hgen rfl (codeRec_of X hcd) (hbind _ _ _ _ ?_)
  refine wpAny_newFunctionEnv_cells hk (hkind _) fun env' he s' x => ?_
  subst he
  refine ⟨hlim.keeps x.toInCall.keep, codeAny_func ?_⟩
  obtain ⟨h₁, tk, rfl, _⟩ := x.done
  have hk₁ := x.toInCall.keep
  obtain ⟨cells, NC, Y⟩ := Cl.news (h₀ := s.heap) (Nat.le_refl _) fun n c hm => ⟨x.cell n c (lookup_of_mem_nodup (cellsFrom_names scope.names 0 (s.heap.objs.size + 1) [] [] rfl ▸ hnd) hm), x.above n c hm⟩
  exact h h₁ tk cells ⟨x.toInCall.ns, hk₁, Nat.le_refl _⟩ NC Y
end Mine
end
section
open PySem PySem.W PyProof.Rows PySem.Calls
set_option Elab.async false
namespace Mine
section
variable {prog : Program} {w : World} {A : Around} {s : Shared} {R : Result → Shared → Prop} {target : Expr} {it : Value} {body orelse : List Stmt} {env : Env}
/-- one turn of a for loop -/
theorem for_one (h : wpAny (model prog w) A (pyNext it) (fun r s₁ => match r with
      | none => wpAny (model prog w) A (execs orelse env) (fun f s₃ => R (.ok f) s₃) (notedBy (model prog w) A env fun e s' => R (.error e) s') s₁
      | some v => wpAny (model prog w) A (letOwnedTupleGo target it v) (fun _ s₁' =>
          wpAny (model prog w) A (assign target env v) (fun _ s₂ => wpAny (model prog w) A (execs body env) (fun f s₃ => match f with
            | .next | .cont => codeAny (model prog w) A (.forLoop target it body orelse env) R s₃
            | .brk => R (.ok .next) s₃
            | .ret v => R (.ok (.ret v)) s₃) (notedBy (model prog w) A env fun e s' => R (.error e) s') s₂) (notedBy (model prog w) A env fun e s' => R (.error e) s') s₁') (notedBy (model prog w) A env fun e s' => R (.error e) s') s₁) (notedBy (model prog w) A env fun e s' => R (.error e) s') s) :
    codeAny (model prog w) A (.forLoop target it body orelse env) R s := by
  refine codeAny_of_tree ?_
  rw [Around.under_of_weight (show (Code.forLoop target it body orelse env).weight = 0 from rfl)]
  show wpAny _ A ((forTurn target it body orelse env).onRaise (fun x => do noteFrame x env; theTreesLotGoes x)) _ _ s
  refine wpAny_noted ?_
  simp only [forTurn]
  refine wpAny_bind (wpAny_standAt (wpAny_bind (wpAny_onRaise (wpAny_mono h (fun r s₁ h₁ => ?_) fun _ _ h' => wpAny_standAt h'))))
  cases r with
  | none => exact wpAny_pure ⟨rfl, codeAny_block h₁⟩
  | some v =>
    refine wpAny_bind (wpAny_mono h₁ (fun _ s₁' h₁' => ?_) fun _ _ h' => h')
    refine wpAny_bind (wpAny_mono h₁' (fun _ s₂ h₂ => wpAny_bind (wpAny_mono h₂ (fun f s₃ h₃ => ?_) fun _ _ h' => h')) fun _ _ h' => h')
    cases f with
    | next => exact wpAny_pure ⟨rfl, h₃⟩
    | cont => exact wpAny_pure ⟨rfl, h₃⟩
    | brk => exact wpAny_pure h₃
    | ret v => exact wpAny_pure h₃

/-- the object of an iterator over the list la, at place i -/
def ItAt (o : Obj) (la : Addr) (i : Nat) : Prop := o.cls = .type "list_iterator" ∧ o.data = .fields #[.ref la, .int i 0]

theorem news_sub {h₀ h : Heap} {L : Addr} {a b : List (Addr × Obj)} (N : News h₀ L h b) (hs : ∀ p ∈ a, p ∈ b) : News h₀ L h a := fun p hp => N p (hs p hp)

variable {h₀ : Heap} {m : Str → Option Value} {news : List (Addr × Obj)}
theorem for_item {I la : Addr} {its : List Value} {nl i : Nat} {o : Obj} {v : Value} {x : Str} {px : Pos} (F : Fr h₀ env.locals s.heap m) (N : News h₀ env.locals s.heap ((I, o) :: news)) (ho : ItAt o la i) (hla : (la, W.listOf its.toArray nl) ∈ news) (hI : ∀ p ∈ news, p.1 ≠ I) (hv : its[i]? = some v)
    (step : ∀ h' o', ItAt o' la (i + 1) → Fr h₀ env.locals h' m → News h₀ env.locals h' ((I, o') :: news) → wpAny (model prog w) A (assign (.Name x px) env v) (fun _ s₂ => wpAny (model prog w) A (execs body env) (fun f s₃ => match f with
            | .next | .cont => codeAny (model prog w) A (.forLoop (.Name x px) (.ref I) body orelse env) R s₃
            | .brk => R (.ok .next) s₃
            | .ret v => R (.ok (.ret v)) s₃) (notedBy (model prog w) A env fun e s' => R (.error e) s') s₂) (notedBy (model prog w) A env fun e s' => R (.error e) s') { s with heap := h' }) :
    codeAny (model prog w) A (.forLoop (.Name x px) (.ref I) body orelse env) R s := by
  have hIo := N (I, o) (List.mem_cons_self ..)
  have hL : s.heap.IsList la its.toArray := ⟨_, (N _ (List.mem_cons_of_mem _ hla)).1, rfl, nl, rfl⟩
  refine for_one (wpAny_pyNext_list_item (x := v) (i := i) ⟨o, hIo.1, ho.1, ho.2⟩ hL (by simpa using hv) fun h' hit hs => ?_)
  obtain ⟨o', ho', hc', hd'⟩ := hit
  refine wpAny_pure (step h' o' ⟨hc', hd'⟩ (F.change hs hIo.2.1 hIo.2.2) fun p hp => ?_)
  rcases List.mem_cons.mp hp with rfl | hp
  · exact ⟨ho', hIo.2⟩
  · have := N p (List.mem_cons_of_mem _ hp)
    exact ⟨(hs.2 p.1 (hI p hp)).trans this.1, this.2⟩
theorem for_end {I la : Addr} {its : List Value} {nl i : Nat} {o : Obj} {x : Str} {px : Pos} (hh : A.handled = none) (F : Fr h₀ env.locals s.heap m) (N : News h₀ env.locals s.heap ((I, o) :: news)) (ho : ItAt o la i) (hla : (la, W.listOf its.toArray nl) ∈ news) (hI : ∀ p ∈ news, p.1 ≠ I) (hv : its[i]? = none)
    (done : ∀ h', Fr h₀ env.locals h' m → News h₀ env.locals h' news → wpAny (model prog w) A (execs orelse env) (fun f s₃ => R (.ok f) s₃) (notedBy (model prog w) A env fun e s' => R (.error e) s') { s with heap := h' }) :
    codeAny (model prog w) A (.forLoop (.Name x px) (.ref I) body orelse env) R s := by
  have hIo := N (I, o) (List.mem_cons_self ..)
  have hL : s.heap.IsList la its.toArray := ⟨_, (N _ (List.mem_cons_of_mem _ hla)).1, rfl, nl, rfl⟩
  refine for_one (wpAny_pyNext_list_end hh (i := i) ⟨o, hIo.1, ho.1, ho.2⟩ hL (by simpa using hv) fun h' he => ?_)
  refine done h' ⟨F.ns.at' fun o e => he _ o (Ne.symm hIo.2.1) e, fun b ob e => he b ob (fun q => by rw [q, hIo.2.2] at e; cases e) (F.keep b ob e), F.above⟩ fun p hp => ?_
  have := N p (List.mem_cons_of_mem _ hp)
  exact ⟨he p.1 _ (hI p hp) this.1, this.2⟩
/-- what stands behind i turns of a loop over the made list la -/
def MadeAt (h₀ : Heap) (L : Addr) (m : Str → Option Value) (I la : Addr) (lo : Obj) (J : Nat → List (Addr × Obj) → Prop) (s : Shared) (i : Nat) (s₃ : Shared) : Prop :=
  ∃ h tk o news₂, s₃ = { s with heap := h, toks := tk } ∧ ItAt o la i ∧ Fr h₀ L h m ∧ News h₀ L h ((I, o) :: (la, lo) :: news₂) ∧ (∀ p ∈ (la, lo) :: news₂, p.1 ≠ I) ∧ J i news₂
theorem for_made {I la : Addr} {its : List Value} {nl : Nat} {o : Obj} {x : Str} {px : Pos} (hh : A.handled = none) (J : Nat → List (Addr × Obj) → Prop) (F : Fr h₀ env.locals s.heap m) (N : News h₀ env.locals s.heap ((I, o) :: (la, W.listOf its.toArray nl) :: news)) (ho : ItAt o la 0)
    (hI : ∀ p ∈ (la, W.listOf its.toArray nl) :: news, p.1 ≠ I) (j0 : J 0 news)
    (step : ∀ i v h tk o news₁, its[i]? = some v → ItAt o la (i + 1) → J i news₁ → (∀ p ∈ (la, W.listOf its.toArray nl) :: news₁, p.1 ≠ I) → Fr h₀ env.locals h m → News h₀ env.locals h ((I, o) :: (la, W.listOf its.toArray nl) :: news₁) →
      wpAny (model prog w) A (assign (.Name x px) env v) (fun _ s₂ => wpAny (model prog w) A (execs body env) (TEnd R (MadeAt h₀ env.locals m I la (W.listOf its.toArray nl) J s (i + 1))) (notedBy (model prog w) A env fun e s' => R (.error e) s') s₂) (notedBy (model prog w) A env fun e s' => R (.error e) s') { s with heap := h, toks := tk })
    (done : ∀ h tk news₁, J its.length news₁ → Fr h₀ env.locals h m → News h₀ env.locals h ((la, W.listOf its.toArray nl) :: news₁) → wpAny (model prog w) A (execs orelse env) (fun f s₃ => R (.ok f) s₃) (notedBy (model prog w) A env fun e s' => R (.error e) s') { s with heap := h, toks := tk }) :
    codeAny (model prog w) A (.forLoop (.Name x px) (.ref I) body orelse env) R s := by
  have key : ∀ (k i : Nat) (s₁ : Shared), i + k = its.length → MadeAt h₀ env.locals m I la (W.listOf its.toArray nl) J s i s₁ → codeAny (model prog w) A (.forLoop (.Name x px) (.ref I) body orelse env) R s₁ := by
    intro k
    induction k with
    | zero =>
      rintro i s₁ hi ⟨h, tk, o₁, news₁, rfl, ho₁, F₁, N₁, hI₁, hJ⟩
      have e : i = its.length := by omega
      subst e
      exact for_end hh F₁ N₁ ho₁ (List.mem_cons_self ..) hI₁ (by simp) fun h' F' N' => done h' tk news₁ hJ F' N'
    | succ k ih =>
      rintro i s₁ hi ⟨h, tk, o₁, news₁, rfl, ho₁, F₁, N₁, hI₁, hJ⟩
      have hlt : i < its.length := by omega
      refine for_item F₁ N₁ ho₁ (List.mem_cons_self ..) hI₁ (List.getElem?_eq_getElem hlt) fun h' o' ho' F' N' => ?_
      refine wpAny_mono (step i _ h' tk o' news₁ (List.getElem?_eq_getElem hlt) ho' hJ hI₁ F' N') (fun _ s₂ h₂ => wpAny_mono h₂ (fun f s₃ hf => ?_) fun _ _ e => e) fun _ _ e => e
      cases f with
      | next => exact ih (i + 1) s₃ (by omega) hf
      | cont => exact ih (i + 1) s₃ (by omega) hf
      | brk => exact hf
      | ret v => exact hf
  exact key its.length 0 s (by omega) ⟨s.heap, s.toks, o, news, rfl, ho, F, N, hI, j0⟩
theorem store_cell {M : Model} {L a c : Addr} {cn : Str} {cs : Scope} {ccd : Value} {cl : List (Str × Addr)} {x : Str} {v : Value} {v₀ : Option Value} {o : Obj} {E : Value → Shared → Prop} {Q : Unit → Shared → Prop} {rest : List (Addr × Obj)} (F : Fr h₀ L s.heap m) (N : News h₀ L s.heap ((c, o) :: rest)) (hr : ∀ p ∈ rest, p.1 ≠ c)
    (hc : cl.lookup x = some c) (hd : o.data = .cell v₀) (h : ∀ h' o', o'.data = .cell (some v) → Fr h₀ L h' m → News h₀ L h' ((c, o') :: rest) → Q () { s with heap := h' })
    (hk : cs.kind = .function := by rfl) (hx : (envX cn cs L a ccd cl).kindOf x = some .cell := by rfl) : wpAny M A (storeName (envX cn cs L a ccd cl) x v) Q E s := by
  have hmem := N (c, o) (List.mem_cons_self ..)
  refine wpAny_storeName_cell hk hx hc ⟨o, hmem.1, hd⟩ fun h' hv hs => ?_
  obtain ⟨o', ho', hd'⟩ := hv
  refine h h' o' hd' (F.change hs hmem.2.1 hmem.2.2) fun p hp => ?_
  rcases List.mem_cons.mp hp with rfl | hp
  · exact ⟨ho', hmem.2⟩
  · have := N p (List.mem_cons_of_mem _ hp)
    exact ⟨(hs.2 p.1 (hr p hp)).trans this.1, this.2⟩
theorem iter_made {la L : Addr} {its : List Value} {nl : Nat} {E : Value → Shared → Prop} {Q : Value → Shared → Prop} (F : Fr h₀ L s.heap m) (N : News h₀ L s.heap news) (hla : (la, W.listOf its.toArray nl) ∈ news)
    (h : ∀ I h' o, ItAt o la 0 → (∀ p ∈ news, p.1 < I) → Fr h₀ L h' m → News h₀ L h' ((I, o) :: news) → Q (.ref I) { s with heap := h' }) : wpAny (model prog w) A (pyIter (.ref la)) Q E s := by
  have hL : s.heap.IsList la its.toArray := ⟨_, (N _ hla).1, rfl, nl, rfl⟩
  refine wpAny_pyIter_list hL (h _ _ _ ⟨rfl, rfl⟩ (fun p hp => Heap.lt_size (N p hp).1) (F.push _) (News.push F N _))
theorem iter_madeI {la L : Addr} {its : List Value} {nl : Nat} {ks : List Int} {rest : List (Addr × Obj)} {E : Value → Shared → Prop} {Q : Value → Shared → Prop} (F : Fr h₀ L s.heap m) (N : News h₀ L s.heap ((la, W.listOf its.toArray nl) :: rest)) (hi : IntsAre its ks)
    (h : ∀ its, IntsAre its ks → ∀ I h' o, ItAt o la 0 → (∀ p ∈ (la, W.listOf its.toArray nl) :: rest, p.1 < I) → Fr h₀ L h' m → News h₀ L h' ((I, o) :: (la, W.listOf its.toArray nl) :: rest) → Q (.ref I) { s with heap := h' }) : wpAny (model prog w) A (pyIter (.ref la)) Q E s :=
  iter_made F N (List.mem_cons_self ..) (h its hi)
end
end Mine
end
section
open PySem PySem.W PyProof.Rows PySem.Calls
set_option Elab.async false
namespace Mine
/-- is bit b of x on (as the text asks it) -/
def bitOn (x b : Int) : Bool := decide (Builtin.bitAnd (x.fdiv (2 ^ b.toNat)) 1 ≠ 0)
/-- the places whose int has bit b -/
def bitStep (ns : List Int) (b : Int) (l : List Int) (k : Int) : List Int := if bitOn (ns.getD k.toNat 0) b = true then l ++ [k] else l
def bitIdx (ns : List Int) (b : Int) : List Int := (rangeKs 0 ns.length).foldl (bitStep ns b) []
theorem bitStep_grows (ns : List Int) (b : Int) : KPfGrows (bitStep ns b) := by
  intro l k
  unfold bitStep
  split <;> simp
inductive BitLists (ns : List Int) : List Int → List Addr → List (Addr × Obj) → Prop
  | nil : BitLists ns [] [] []
  | cons {b : Int} {bs : List Int} {d : Addr} {ds : List Addr} {ys : List Value} {qs : List (Addr × Obj)} : IntsAre ys (bitIdx ns b) → BitLists ns bs ds qs → BitLists ns (b :: bs) (d :: ds) ((d, LCg.lst ys) :: qs)
theorem BitLists.snoc {ns : List Int} {b : Int} {d : Addr} {ys : List Value} (hy : IntsAre ys (bitIdx ns b)) {bs : List Int} {ds : List Addr} {qs : List (Addr × Obj)} (h : BitLists ns bs ds qs) : BitLists ns (bs ++ [b]) (ds ++ [d]) (qs ++ [(d, LCg.lst ys)]) := by
  induction h with
  | nil => exact .cons hy .nil
  | cons hz _ ih => exact .cons hz ih
theorem BitLists.len {ns : List Int} {bs : List Int} {ds : List Addr} {qs : List (Addr × Obj)} (h : BitLists ns bs ds qs) : ds.length = bs.length := by
  induction h with
  | nil => rfl
  | cons _ _ ih => rw [List.length_cons, List.length_cons, ih]
def partBits (part : Int) : List Int := [8 - 3 * part, 7 - 3 * part, 6 - 3 * part, 11 - part]
theorem partBits_range {part : Int} (h0 : 0 ≤ part) (h2 : part ≤ 2) : ∀ b ∈ partBits part, 0 ≤ b ∧ b ≤ 11 := by
  intro b hb
  simp only [partBits, List.mem_cons, List.not_mem_nil, or_false] at hb
  rcases hb with rfl | rfl | rfl | rfl <;> omega

local macro_rules | `(tactic| walk_at "exec For Name List cons nil") => `(tactic| refine hold ?_)
local macro_rules | `(tactic| walk_at "pyIter ref") => `(tactic| refine hold ?_)
local macro_rules | `(tactic| walk_at "eval ListComp") => `(tactic| refine hold ?_)
local macro_rules | `(tactic| walk_at "CompSrcT") => `(tactic| refine hold ?_)
local macro_rules | `(tactic| walk_at "CompEnd") => `(tactic| refine hold ?_)
local macro_rules | `(tactic| walk_at "call builtin:list.append") => `(tactic| refine hold ?_)
set_option maxRecDepth 100000 in
set_option maxHeartbeats 1600000 in
theorem lists_c (w : World) (mean : ExcName → Option Value) (mg mb : Str → Option Value) (l : Addr) (vs : List Value) (ns : List Int) (hi : IntsAre vs ns) (hlen : ns.length ≤ 8) (part : Int) (t : Tok) (hp0 : 0 ≤ part) (hp2 : part ≤ 2) {dp un gd fr} {s : Shared}
   (hd : dp + 5 < recursionLimit) (hu : un + 50 < cLine) (hl : s.heap.IsList l vs.toArray)
   (X : (Mine.hd.heap_39 w.params).In s.heap) (T : TopRead Mine.hd.view_39 (looseW Mine.hd.view_39 [Str.ofString "_filemode_table"]) mg mb s.heap) {Q E : Value → Shared → Prop}
   (hQ : ∀ D n' ds made h' tk', Keep s.heap h' → s.heap.get? D = none → h'.get? D = some (W.listOf (List.toArray (List.map Value.ref ds)) n') → BitLists ns (partBits part) ds made → (∀ q ∈ made, h'.get? q.1 = some q.2 ∧ s.heap.get? q.1 = none) → Q (.ref D) {s with heap := h', toks := tk'}) :
   wpAny (model PySem.Challenge.rw_oc0090_01.row.prog w) (AT dp un gd fr) (call (.ref 133) [.ref l, .int part t]) Q E s := by
  w_on
  revert X
  k_fill
  intro X
  refine wpAny_call ?_
  k_dflt (refine' enterC [(Str.ofString "files", .ref l), (Str.ofString "part", .int part t)] [(Str.ofString "bit", s.heap.objs.size + 2), (Str.ofString "files", s.heap.objs.size + 1)] ?hcl (fun y => if y = Str.ofString "part" then some (.int part t) else none) (fun y => if y = Str.ofString "files" then some (.ref l) else none) X T.nolimit ?k6 ?k7 ?k8 ?k9 ?kB ?hnd ?hm ?hcm ?_ ?c2 ?c3 ?c4; (case k6 => k_is); (case hcl => exact rfl); (case k7 => k_is); (case k8 => ktr_room); (case k9 => exact BindsTo.of_eq rfl); (case kB => (intro n x hx; rcases List.mem_cons.mp hx with rfl | hx; exact Or.inr ⟨rfl, rfl⟩; rw [List.mem_singleton.mp hx]; exact Or.inl rfl)); (case hnd => decide); (case hm => exact rfl); (case hcm => exact rfl); (case c2 => exact rfl); (case c3 => exact rfl); (case c4 => exact rfl); k_whole)
  intro h₁ tk₁ cells F N Y
  obtain ⟨ob, of, rfl, hob, hof⟩ := Y.two
  clear Y
  k_steps
  rename Fr _ _ _ _ => F'
  rename News _ _ _ _ => N'
  rename _ ∧ _ => hlt0
  rename_i p _ _
  refine wpAny_For (wpAny_mono (Q := fun xv s₁ => Hold (∃ la its h' tk, xv = .ref la ∧ s₁ = { s with heap := h', toks := tk } ∧ IntsAre its (partBits part) ∧ @LT.lt Nat _ p la ∧
    Fr s.heap s.heap.objs.size h' (fun y => if y = Str.ofString "lists" then some (Value.ref p) else if y = Str.ofString "part" then some (Value.int part t) else none) ∧
    News s.heap s.heap.objs.size h' [(la, W.listOf its.toArray 0), (p, W.listOf #[] 0), (s.heap.objs.size + 2, ob), (s.heap.objs.size + 1, of)])) ?_ ?_ fun _ _ e => e)
  · k_steps
    rename Fr _ _ _ _ => fE
    rename News _ _ _ _ => nE
    rename _ ∧ _ => hlt1
    exact ⟨_, [_, _, _, _], _, _, rfl, rfl, .cons _ _ (.cons _ _ (.cons _ _ (.cons _ _ .nil))), hlt1.1, fE, nE⟩
  · rintro _ _ ⟨la, its, h2, tk2, rfl, rfl, hits, hpl, F2, N2⟩
    clear F' N'
    obtain ⟨hlt1, hlt2⟩ := hlt0
    refine iter_made F2 N2 (List.mem_cons_self ..) ?_
    intro I h3 oI hoI hI F3 N3
    have hIla : @LT.lt Nat _ la I := hI (la, _) (List.mem_cons_self ..)
    have hof' : of.data = .cell (some (.ref l)) := hof
    refine for_made rfl (fun i news₁ => ∃ ob n ds made v₀, news₁ = (p, W.listOf (List.toArray (List.map Value.ref ds)) n) :: (s.heap.objs.size + 2, ob) :: (s.heap.objs.size + 1, of) :: made ∧ ob.data = .cell v₀ ∧ BitLists ns ((partBits part).take i) ds made ∧ (∀ q ∈ made, @Ne Nat q.1 p ∧ @Ne Nat q.1 (s.heap.objs.size + 2)) ∧ i ≤ 4)
      F3 N3 hoI (fun q hq => Nat.ne_of_lt (hI q hq)) ⟨ob, 0, [], [], _, rfl, hob, .nil, fun q hq => (nomatch hq), Nat.zero_le _⟩ ?_ ?_
    · clear F2 N2 F3 N3 hoI hI hob
      rintro i v h4 tk4 o4 news₁ hv ho4 ⟨ob4, n4, ds, made, v₀, rfl, hob4, hBL, hne, hi4⟩ hIe F4 N4
      obtain ⟨b, tb, rfl, hb⟩ := hits.at i v hv
      obtain ⟨hb0, hb11⟩ := partBits_range hp0 hp2 b (List.mem_of_getElem? hb)
      have hds : ds.length ≤ 4 := by
        have := hBL.len
        rw [this, List.length_take]
        omega
      obtain ⟨tail, htail⟩ : ∃ tail, tail = (I, o4) :: (la, W.listOf its.toArray 0) :: made := ⟨_, rfl⟩
      have htp : ∀ q ∈ (s.heap.objs.size + 1, of) :: tail, q.1 ≠ p := by
        rw [htail]
        intro q hq e
        simp only [List.mem_cons] at hq
        rcases hq with rfl | rfl | rfl | hq
        · exact absurd e (by refine neN ?_; dsimp only; omega)
        · exact absurd e (by refine neN ?_; dsimp only; omega)
        · exact absurd e (by refine neN ?_; dsimp only; omega)
        · exact (hne q hq).1 e
      have htc : ∀ q ∈ (s.heap.objs.size + 1, of) :: tail, q.1 ≠ s.heap.objs.size + 2 := by
        rw [htail]
        intro q hq e
        simp only [List.mem_cons] at hq
        rcases hq with rfl | rfl | rfl | hq
        · exact absurd e (by refine neN ?_; dsimp only; omega)
        · exact absurd e (by refine neN ?_; dsimp only; omega)
        · exact absurd e (by refine neN ?_; dsimp only; omega)
        · exact (hne q hq).2 e
      replace N4 : News s.heap s.heap.objs.size h4 ((s.heap.objs.size + 2, ob4) :: (p, W.listOf (List.toArray (List.map Value.ref ds)) n4) :: (s.heap.objs.size + 1, of) :: tail) := by
        rw [htail]
        refine news_sub N4 ?_
        intro q hq
        simp only [List.mem_cons] at hq ⊢
        rcases hq with h | h | h | h | h | h
        · exact Or.inr (Or.inr (Or.inr (Or.inl h)))
        · exact Or.inr (Or.inr (Or.inl h))
        · exact Or.inr (Or.inr (Or.inr (Or.inr (Or.inl h))))
        · exact Or.inl h
        · exact Or.inr (Or.inl h)
        · exact Or.inr (Or.inr (Or.inr (Or.inr (Or.inr h))))
      refine wpAny_assign_Name ?_
      refine store_cell F4 N4 ?_ rfl hob4 ?_
      · intro q hq
        rcases List.mem_cons.mp hq with rfl | hq
        · refine neN ?_; dsimp only; omega
        · exact htc q hq
      clear F4 N4 hob4
      intro h5 ob5 hob5 F5 N5
      k_steps
      refine LCt.ListComp_T (F₀ := F5) (by rfl) (by decide) (by rfl) (by decide) (by rfl) ?_
      k_steps
      refine LCt.CompSrcT.range rfl (by assumption) (by assumption) (by assumption) (small_one (by decide) (by decide) (by omega) (by omega)) (rangeSize_nat _ _) (by rw [PySem.sizeLine_eq]; omega) ?_
      intro g6
      refine kci_range (bitStep ns b) (fun k' t' I' oI' C' oC' D' m' ys' l' h' tk' E' hlo' hhi' hI' hC' hx' F' N' off' ne' mk' => ?_) ?_ (bitStep_grows ns b)
      · have hkk : ns[k'.toNat]? = some (ns.getD k'.toNat 0) := by
          have hlt : k'.toNat < ns.length := by omega
          rw [List.getD_eq_getElem?_getD, List.getElem?_eq_getElem hlt]
          rfl
        k_steps
        · refine LCg.CompEnd.intro F' N' _ (fun p hp => hp) off' trivial ⟨rfl, k', t', rfl, ?_⟩
          unfold bitStep
          exact if_pos (show bitOn _ _ = true from decide_eq_true (by assumption))
        · refine LCg.CompEnd.intro F' N' _ (fun p hp => hp) off' trivial ⟨rfl, ?_⟩
          unfold bitStep
          refine if_neg (fun hn => ?_)
          exact absurd (of_decide_eq_true (show decide (Builtin.bitAnd ((ns.getD k'.toNat 0).fdiv (2 ^ b.toNat)) 1 ≠ 0) = true from hn)) (fun hq => hq (by assumption))
      · intro ys hys hyl
        intro D h7 tk7 F7 N7 o7
        simp only [LCg.Off1] at o7
        dsimp only
        k_steps
        refine append_K F7 N7 (Upd.tail (by refine neN ?_; dsimp only; omega) (Upd.tail (by refine neN ?_; dsimp only; omega) (Upd.head htp))) ?_ (by simp only [List.size_toArray, List.length_map, PySem.sizeLine_eq]; omega)
        intro h8 F8 N8
        k_steps
        refine ⟨_, _, o4, (p, W.listOf (List.toArray (List.map Value.ref (ds ++ [D]))) (n4 + 1)) :: (s.heap.objs.size + 2, ob5) :: (s.heap.objs.size + 1, of) :: (made ++ [(D, LCg.lst ys)]), rfl, ho4, F8, ?_, ?_, ob5, n4 + 1, ds ++ [D], made ++ [(D, LCg.lst ys)], _, rfl, hob5, ?_, ?_, ?_⟩
        · rw [htail] at N8
          rw [List.push_toArray] at N8
          refine news_sub N8 ?_
          intro q hq
          rw [List.map_append, List.map_singleton] at hq
          simp only [List.mem_cons, List.mem_append, List.not_mem_nil, or_false] at hq ⊢
          rcases hq with h | h | h | h | h | h | h
          · exact Or.inr (Or.inr (Or.inr (Or.inr (Or.inl h))))
          · exact Or.inr (Or.inr (Or.inr (Or.inr (Or.inr (Or.inl h)))))
          · exact Or.inr (Or.inr (Or.inl h))
          · exact Or.inr (Or.inl h)
          · exact Or.inr (Or.inr (Or.inr (Or.inl h)))
          · exact Or.inr (Or.inr (Or.inr (Or.inr (Or.inr (Or.inr h)))))
          · exact Or.inl h
        · have hDI : D ≠ I := by
            have := o7.2.2.2
            rw [htail] at this
            exact fun e => this.1 e.symm
          intro q hq
          simp only [List.mem_cons, List.mem_append, List.not_mem_nil, or_false] at hq
          rcases hq with rfl | rfl | rfl | rfl | h | rfl
          · exact hIe (la, _) (by simp)
          · exact hIe (p, W.listOf (List.toArray (List.map Value.ref ds)) n4) (by simp)
          · exact hIe (s.heap.objs.size + 2, ob4) (by simp)
          · exact hIe (s.heap.objs.size + 1, of) (by simp)
          · exact hIe q (by simp [h])
          · exact hDI
        · have e : (partBits part).take (i + 1) = (partBits part).take i ++ [b] := by rw [List.take_add_one, hb]; rfl
          rw [e]
          exact hBL.snoc hys
        · intro q hq
          rcases List.mem_append.mp hq with hq | hq
          · exact hne q hq
          · rw [List.mem_singleton.mp hq]
            exact ⟨Ne.symm o7.2.1, Ne.symm o7.1⟩
        · have : i < (partBits part).length := (List.getElem?_eq_some_iff.mp hb).1
          simp only [partBits, List.length_cons, List.length_nil] at this
          omega
    · rintro h4 tk4 news₁ ⟨ob4, n4, ds, made, v₀, rfl, hob4, hBL, hne, hi4⟩ F4 N4
      clear F2 N2 F3 N3 hoI hI hob
      have hil : its.length = 4 := hits.length
      replace hBL : BitLists ns (partBits part) ds made := by rw [hil] at hBL; exact hBL
      replace F4 : Fr s.heap s.heap.objs.size h4 _ := F4
      dsimp only
      k_steps
      exact hQ _ _ ds made _ _ F4.keep (N4.fresh (a := p) (List.mem_cons_of_mem _ (List.mem_cons_self ..))) (N4.get (List.mem_cons_of_mem _ (List.mem_cons_self ..))) hBL fun q hq => by
        have := N4 q (by simp [hq])
        exact ⟨this.1, this.2.2⟩
end Mine
end
section
open PySem PySem.W PyProof.Rows PySem.Calls
open PyProof.Rows.TI (Frs SameUp gone gone_get gone_none gone_some frames_at sameUp_of)
set_option Elab.async false
namespace Mine
/-- an IndexError just made, whatever its context -/
structure NewX (h h' : Heap) (e : Addr) (c : Value) : Prop where
  keeps : Keep h h'
  new : h.get? e = none
  there : ∃ ob vs, h'.get? e = some ob ∧ ob.cls = .type "IndexError" ∧ ob.data = .fields vs ∧ vs[1]? = some .none ∧ vs[2]? = some c
theorem NewX.of {h h' : Heap} {e : Addr} (x : Heap.NewExc h h' e "IndexError") : NewX h h' e .none :=
  ⟨x.keeps, x.new, let ⟨ob, _, h1, h2, h3⟩ := x.there; ⟨ob, _, h1, h2, h3, rfl, rfl⟩⟩

/-- an IndexError noted in the frame L, its objects in the ledger -/
def Hd (hb : Heap) (L : Addr) (h : Heap) (m : Str → Option Value) (e : Addr) (fl c : Value) (news : List (Addr × Obj)) : Prop :=
  Fr hb L h m ∧ ∃ ob vs tb otb tvs, News hb L h ((e, ob) :: (tb, otb) :: news) ∧ ob.cls = .type "IndexError" ∧ ob.data = .fields vs ∧ vs[1]? = some (.ref tb) ∧ vs[2]? = some c ∧ otb.data = .fields tvs ∧ tvs[3]? = some fl ∧ tb ≠ e ∧ ∀ p ∈ news, p.1 ≠ e ∧ p.1 ≠ tb
theorem Hd.held {hb h : Heap} {L e : Addr} {m : Str → Option Value} {fl c : Value} {news : List (Addr × Obj)} (H : Hd hb L h m e fl c news) : TT.HeldNA hb L h m e "IndexError" news fl := by
  obtain ⟨F, ob, vs, tb, otb, tvs, N, hc, hd, h1, h2, htd, h3, hte, hne⟩ := H
  have he := N (e, ob) (List.mem_cons_self ..)
  have ht := N (tb, otb) (List.mem_cons_of_mem _ (List.mem_cons_self ..))
  refine ⟨⟨F, ⟨ob, vs, tb, otb, tvs, he.1, hc, hd, h1, ht.1, htd, h3, ht.2.1, hte, ht.2.2⟩, he.2.2⟩, fun p hp => N p (List.mem_cons_of_mem _ (List.mem_cons_of_mem _ hp)), ?_⟩
  intro ob' vs' tb' e1 e2 e3 p hp
  rw [he.1] at e1
  obtain rfl := Option.some.inj e1
  rw [hd] at e2
  injection e2 with e2
  subst e2
  rw [h1] at e3
  injection e3 with e3
  injection e3 with e3
  subst e3
  exact (hne p hp).2

section
variable {M : Model} {A : Around} {E : Value → Shared → Prop} {s : Shared} {hb : Heap} {L a e : Addr} {m : Str → Option Value} {name : Str} {scope : Scope} {cd : Value} {news : List (Addr × Obj)} {fl c : Value}

theorem Hd.again {Q : Unit → Shared → Prop} (H : Hd hb L s.heap m e (rawInt L) c news) (k : Q () s) : wpAny M A (noteFrame (.ref e) (envOf name scope L a cd)) Q E s :=
  noted_again H.held.held fun _ _ => k

theorem Hd.flight {fl' : Value} (H : Hd hb L s.heap m e fl c news) {Q : Unit → Shared → Prop} (fr : Option Addr) (hfl : (fr.elim Value.none fun f => rawInt f) = fl') (k : ∀ h', Hd hb L h' m e fl' c news → Q () { s with heap := h' }) :
    wpAny M A (setFlight (.ref e) fr) Q E s := by
  obtain ⟨F, ob, vs, tb, otb, tvs, N, hc, hd, h1, h2, htd, h3, hte, hne⟩ := H
  have he := N (e, ob) (List.mem_cons_self ..)
  have ht := N (tb, otb) (List.mem_cons_of_mem _ (List.mem_cons_self ..))
  unfold setFlight
  refine wpAny_bind (wpAny_field he.1 hd h1 ?_)
  rw [if_pos (show (Value.ref tb != Value.none) = true from by simp), hfl]
  have hsz : 3 < tvs.size := (Array.getElem?_eq_some_iff.mp h3).1
  have hs : Heap.SameBut tb s.heap (s.heap.update tb (Obj.mapFields (·.setIfInBounds 3 fl'))) := Heap.SameBut.update ..
  refine wpAny_setField ht.1 htd hsz (k _ ⟨F.change hs ht.2.1 ht.2.2, ob, vs, tb, Obj.mapFields (·.setIfInBounds 3 fl') otb, tvs.setIfInBounds 3 fl', ?_, hc, hd, h1, h2, Obj.data_mapFields htd _, by simp [Array.getElem?_setIfInBounds, hsz], hte, hne⟩)
  intro p hp
  rcases List.mem_cons.mp hp with rfl | hp
  · exact ⟨(hs.2 _ (Ne.symm hte)).trans he.1, he.2⟩
  · rcases List.mem_cons.mp hp with rfl | hp
    · exact ⟨Heap.get?_update_self _ ht.1 (Obj.isFreed_of_fields (Obj.data_mapFields htd _)), ht.2⟩
    · have := N p (List.mem_cons_of_mem _ (List.mem_cons_of_mem _ hp))
      exact ⟨(hs.2 _ (hne p hp).2).trans this.1, this.2⟩
theorem Hd.came (H : Hd hb L s.heap m e fl c news) {E' : Value → Shared → Prop} (k : ∀ h', Hd hb L h' m e (rawInt L) c news → E' (.ref e) { s with heap := h' }) : cameBackBy M A (envOf name scope L a cd) E' (.ref e) s := by
  obtain ⟨F, ob, vs, tb, otb, tvs, N, hc, hd, h1, h2, htd, h3, hte, hne⟩ := id H
  have he := N (e, ob) (List.mem_cons_self ..)
  unfold cameBackBy
  refine wpAny_bind (wpAny_field he.1 hd h1 ?_)
  rw [if_neg (show ¬ ((Value.ref tb == Value.none) = true) from by simp)]
  exact H.flight (some L) rfl k

theorem note_new {l : List Env} {frs : List (Addr × Obj)} {h : Heap} {Q : Unit → Shared → Prop} (hfr : A.frames = some (envOf name scope L a cd :: l)) (Fs : Frs l frs) (hx : NewX h s.heap e c) (F : Fr hb L h m) (N : News hb L h (news ++ frs)) (hap : ∀ p ∈ news, p.1 ∉ L :: frs.map (·.1))
    (k : ∀ h' frs', SameUp frs frs' → Frs l frs' → Hd hb L h' m e (rawInt L) c (news ++ frs') → Q () { s with heap := h' }) (hk : scope.kind = .function) : wpAny M A (noteFrame (.ref e) (envOf name scope L a cd)) Q E s := by
  obtain ⟨ob, vs, he, hc, hd, h1, h2⟩ := hx.there
  have hsz : 1 < vs.size := (Array.getElem?_eq_some_iff.mp h1).1
  obtain ⟨hff, hNs, _, _, _⟩ := frames_at (name := name) (a := a) (cd := cd) (h' := s.heap) (base := gone h (L :: frs.map (·.1))) hk Fs F N (fun _ hp => List.mem_append_right _ hp) (fun b o e => ⟨o.slots, hx.keeps b o e⟩) fun b hm => gone_none hm
  have hS : (envOf name scope L a cd :: l).filterMap (·.frame) = L :: frs.map (·.1) := by
    rw [List.filterMap_cons]
    show L :: l.filterMap (·.frame) = _
    rw [Fs.addrs]
  obtain ⟨oL, es, ep, hL, hLd, hLr⟩ := F.ns
  have hLs := hx.keeps _ _ hL
  have heL : e ≠ L := fun q => by
    rw [q, hLs] at he
    cases he
    rw [hLd] at hd
    cases hd
  have heS : e ∉ L :: frs.map (·.1) := fun hm => by
    rcases List.mem_cons.mp hm with q | hm
    · exact heL q
    · obtain ⟨p, hp, q⟩ := List.mem_map.mp hm
      have := (N p (List.mem_append_right _ hp)).1
      rw [show p.1 = e from q, hx.new] at this
      cases this
  unfold noteFrame
  simp only [show (envOf name scope L a cd).frame = some L from rfl]
  refine wpAny_bind (wpAny_field he hd h1 ?_)
  rw [if_neg (by decide)]
  refine wpAny_bind (wpAny_frameOf_fun hfr hff rfl fun h₁ hs₁ => ?_)
  rw [hS] at hs₁
  refine wpAny_bind (wpAny_entryPlaceOf fun pl hpl => ?_)
  unfold EntryCells.newEntry newFields
  refine wpAny_bind (wpAny_newObj_type ?_ (hpl.sizeOk5 _ _ _ _ _))
  dsimp only
  have he₁ : h₁.get? e = some ob := (hs₁.2.1 e heS).trans he
  generalize hto : ({ cls := .type "traceback", dict := none, data := .fields _ } : Obj) = to
  have htf : to.isFreed = false := by rw [← hto]; rfl
  have he₂ : (h₁.push to).get? e = some ob := Heap.get?_push_of_some _ he₁
  refine wpAny_setField he₂ hd hsz ?_
  have hs₂ : Heap.SameBut e (h₁.push to) ((h₁.push to).update e (Obj.mapFields (·.setIfInBounds 1 (Value.ref h₁.objs.size)))) := Heap.SameBut.update ..
  have up : ∀ b o, b ≠ e → b ∉ L :: frs.map (·.1) → s.heap.get? b = some o → ((h₁.push to).update e (Obj.mapFields (·.setIfInBounds 1 (Value.ref h₁.objs.size)))).get? b = some o := fun b o hbe hbS e' =>
    (hs₂.2 b hbe).trans (Heap.get?_push_of_some _ ((hs₁.2.1 b hbS).trans e'))
  have upF : ∀ b o, b ≠ e → s.heap.get? b = some o → ∃ sl, ((h₁.push to).update e (Obj.mapFields (·.setIfInBounds 1 (Value.ref h₁.objs.size)))).get? b = some { o with slots := sl } := fun b o hbe e' => by
    obtain ⟨sl, hsl⟩ := hs₁.2.2 b o e'
    exact ⟨sl, (hs₂.2 b hbe).trans (Heap.get?_push_of_some _ hsl)⟩
  obtain ⟨slL, hL₃⟩ := upF L oL (Ne.symm heL) hLs
  obtain ⟨frs', SU, hfrs'⟩ := sameUp_of (frs := frs) (h' := (h₁.push to).update e (Obj.mapFields (·.setIfInBounds 1 (Value.ref h₁.objs.size)))) fun p hp => upF p.1 p.2 (fun q => heS (List.mem_cons_of_mem _ (List.mem_map.mpr ⟨p, hp, q⟩))) (hx.keeps _ _ (N p (List.mem_append_right _ hp)).1)
  have hsize : h₁.objs.size = s.heap.objs.size := hs₁.1
  have hhs : ∀ b o, h.get? b = some o → b < h₁.objs.size := fun b o q => hsize ▸ Heap.lt_size (hx.keeps b o q)
  have hbT : hb.get? h₁.objs.size = none := Heap.get?_none_of_le (Nat.le_trans F.above (Nat.le_of_lt (hhs _ _ hL)))
  have hbe : hb.get? e = none := TI.none_of F.keep hx.new
  refine k _ frs' SU (Fs.up SU) ⟨⟨⟨_, es, ep, hL₃, hLd, hLr⟩, fun b o q => up b o (fun q' => by rw [q', hbe] at q; cases q) (TI.base_apart F N (fun _ hp => List.mem_append_right _ hp) q) (hx.keeps _ _ (F.keep b o q)), F.above⟩, Obj.mapFields (·.setIfInBounds 1 (Value.ref h₁.objs.size)) ob, vs.setIfInBounds 1 (.ref h₁.objs.size), h₁.objs.size, to, _, ?_, (Obj.cls_mapFields ..).trans hc, Obj.data_mapFields hd _, by simp [hsz], by rw [Array.getElem?_setIfInBounds_ne (by decide)]; exact h2, by rw [← hto], ?_, Nat.ne_of_gt (Heap.lt_size he₁), ?_⟩
  · intro p hp
    rcases List.mem_cons.mp hp with rfl | hp
    · exact ⟨Heap.get?_update_self _ he₂ (Obj.isFreed_of_fields (Obj.data_mapFields hd _)), heL, hbe⟩
    · rcases List.mem_cons.mp hp with rfl | hp
      · exact ⟨(hs₂.2 _ (Nat.ne_of_gt (Heap.lt_size he₁))).trans (Heap.get?_push_size _ htf), Nat.ne_of_gt (hhs _ _ hL), hbT⟩
      · rcases List.mem_append.mp hp with hp | hp
        · have := N p (List.mem_append_left _ hp)
          exact ⟨up _ _ (fun q => by have h9 := this.1; rw [q, hx.new] at h9; cases h9) (hap p hp) (hx.keeps _ _ this.1), this.2⟩
        · obtain ⟨x, hx', q⟩ := SU.fwd p hp
          have := N x (List.mem_append_right _ hx')
          exact ⟨hfrs' p hp, by rw [q]; exact this.2.1, by rw [q]; exact this.2.2⟩
  · rcases hpl with rfl | ⟨_, _, _, _, _, _, _, rfl⟩ <;> simp
  · intro p hp
    have key : ∃ o, h.get? p.1 = some o := by
      rcases List.mem_append.mp hp with hp | hp
      · exact ⟨_, (N p (List.mem_append_left _ hp)).1⟩
      · obtain ⟨x, hx', q⟩ := SU.fwd p hp
        exact ⟨x.2, by rw [q]; exact (N x (List.mem_append_right _ hx')).1⟩
    obtain ⟨o, ho⟩ := key
    exact ⟨(fun q => by rw [q, hx.new] at ho; cases ho), Nat.ne_of_lt (hhs _ _ ho)⟩
end
end Mine
end
section
open PySem PySem.W PyProof.Rows PySem.Calls
set_option Elab.async false
namespace Mine
theorem entry_unchain : entryFor table "proto.unchain" = some Builtin.«proto.unchain» := entryFor_of_fast (by kernel_rfl)
section
variable {prog : Program} {w : World} {A : Around} {E : Value → Shared → Prop} {s : Shared}
/-- an IndexError raised while another one (without a context) is handled -/
theorem raise_under {α : Type} {msg : String} {e₁ : Addr} {ob₁ : Obj} {vs₁ : Array Value} {Q : α → Shared → Prop} (hh : A.handled = some (.ref e₁)) (he₁ : s.heap.get? e₁ = some ob₁) (hd₁ : ob₁.data = .fields vs₁) (hc₁ : vs₁[2]? = some .none)
    (h : ∀ h' tk e, NewX s.heap h' e (.ref e₁) → E (.ref e) { s with heap := h', toks := tk }) : wpAny (model prog w) A (raiseErrorWords "IndexError" msg : Sem α) Q E s := by
  unfold raiseErrorWords
  refine wpAny_bind (wpAny_mkText (wpAny_bind ?_))
  unfold newExc newTuple
  refine wpAny_bind (wpAny_newObj_type ?_)
  refine wpAny_bind (m := firstArgMember _ _) (wpAny_of_eq (a := Value.none) (by simp only [firstArgMember, plainExc_IndexError.first]; rfl) ?_)
  rw [plainExc_IndexError.own]
  refine wpAny_newObj_type ?_
  unfold raiseNew
  refine wpAny_bind (wpAny_handled ?_)
  rw [hh]
  dsimp only
  have hlt : e₁ < s.heap.objs.size := Heap.lt_size he₁
  have hne : (Value.ref e₁ != Value.ref (s.heap.push { cls := .type "tuple", data := .seq #[Value.str (Str.ofString msg) s.toks] }).objs.size) = true := by
    rw [bne_iff_ne]
    intro q
    injection q with q
    rw [Heap.size_push] at q
    exact absurd hlt (by rw [q]; exact Nat.not_lt.mpr (Nat.le_succ _))
  let tp : Obj := { cls := .type "tuple", data := .seq #[Value.str (Str.ofString msg) s.toks] }
  let hp := s.heap.push tp
  have key : ∀ (x : Obj) (vs : Array Value), x.isFreed = false → x.cls = .type "IndexError" → x.data = .fields vs → 2 < vs.size → vs[1]? = some .none →
      NewX s.heap ((hp.push x).update hp.objs.size (Obj.mapFields (·.setIfInBounds 2 (.ref e₁)))) hp.objs.size (.ref e₁) := by
    intro x vs hf hc hd hz h1
    have hx : (hp.push x).get? hp.objs.size = some x := Heap.get?_push_size _ hf
    have hs : Heap.SameBut hp.objs.size (hp.push x) ((hp.push x).update hp.objs.size (Obj.mapFields (·.setIfInBounds 2 (.ref e₁)))) := Heap.SameBut.update ..
    have hge : s.heap.objs.size < hp.objs.size := by show _ < (s.heap.push tp).objs.size; rw [Heap.size_push]; exact Nat.lt_succ_self _
    refine ⟨fun b o q => (hs.2 b (Nat.ne_of_lt (Nat.lt_trans (Heap.lt_size q) hge))).trans (Heap.get?_push_of_some _ (Heap.get?_push_of_some _ q)), Heap.get?_none_of_le (Nat.le_of_lt hge), ?_⟩
    refine ⟨Obj.mapFields (·.setIfInBounds 2 (.ref e₁)) x, _, Heap.get?_update_self _ hx (Obj.isFreed_of_fields (Obj.data_mapFields hd _)), (Obj.cls_mapFields ..).trans hc, Obj.data_mapFields hd _, ?_, ?_⟩
    · rw [Array.getElem?_setIfInBounds_ne (by decide)]; exact h1
    · simp [hz]
  have he₃ : ∀ x : Obj, (hp.push x).get? e₁ = some ob₁ := fun x => Heap.get?_push_of_some _ (Heap.get?_push_of_some _ he₁)
  rw [if_pos hne]
  refine wpAny_bind (wpAny_holding (wpAny_runValue (codeAny_builtin entry_unchain ?_)))
  unfold Builtin.«proto.unchain»
  dsimp only
  refine wpAny_bind (wpAny_field (he₃ _) hd₁ hc₁ ?_)
  rw [if_pos (by rfl)]
  refine wpAny_bind (wpAny_pure ?_)
  refine wpAny_pure ?_
  dsimp only
  refine wpAny_bind (wpAny_setField (Heap.get?_push_size _ rfl) rfl (by simp) ?_)
  refine wpAny_throw ?_
  exact h _ _ _ (key _ _ rfl rfl rfl (by simp) rfl)
end
end Mine
end
section
open PySem PySem.W PyProof.Rows PySem.Calls
set_option Elab.async false
namespace Mine
/-- nothing is handled, or one exception without a context of its own -/
def Ctx (A : Around) (h : Heap) : Prop := A.handled = none ∨ ∃ e₁ ob₁ vs₁, A.handled = some (.ref e₁) ∧ h.get? e₁ = some ob₁ ∧ ob₁.data = .fields vs₁ ∧ vs₁[2]? = some .none
section
variable {prog : Program} {w : World} {A : Around} {E : Value → Shared → Prop} {s : Shared}
theorem raise_ctx {α : Type} {msg : String} {Q : α → Shared → Prop} (hA : Ctx A s.heap)
    (h : ∀ h' tk e c, (A.handled = none → c = .none) → NewX s.heap h' e c → E (.ref e) { s with heap := h', toks := tk }) : wpAny (model prog w) A (raiseErrorWords "IndexError" msg : Sem α) Q E s := by
  rcases hA with hA | ⟨e₁, ob₁, vs₁, h1, h2, h3, h4⟩
  · exact wpAny_raiseErrorWords plainExc_IndexError hA fun h' tk e x => h h' tk e .none (fun _ => rfl) (NewX.of x)
  · exact raise_under h1 h2 h3 h4 fun h' tk e x => h h' tk e _ (fun q => by rw [h1] at q; cases q) x
theorem getItem_out {l : Addr} {items : Array Value} {k : Int} {t : Tok} {Q : Value → Shared → Prop} (hA : ∀ B : Around, B.handled = A.handled → Ctx B s.heap) (hl : s.heap.IsList l items)
    (hout : (items.size : Int) ≤ k) (hhi : k < 2 ^ 63)
    (hE : ∀ h' tk e c, (A.handled = none → c = .none) → NewX s.heap h' e c → E (.ref e) { s with heap := h', toks := tk }) :
    wpAny (model prog w) A (getItem (.ref l) (.int k t)) Q E s := by
  have hlo : -(2 ^ 63) ≤ k := by omega
  obtain ⟨o, ho, hc, ne, hd⟩ := id hl
  unfold getItem
  try with_reducible refine wpAny_holding ?_
  first | refine wpAny_bind (wpAny_pure ?_) | skip
  refine wpAny_bind (wpAny_sequenceKey hl.typeIs (by decide) ?_)
  refine wpAny_bind (wpAny_callSpecial?_slot (name := Str.ofString "__getitem__") hl.typeIs slot_list_getitem
    (wpAny_call_entry slot_list_getitem hl.typeIs entry_list_getitem ?_ (args_list_getitem _ _)))
  show wpAny _ _ (Builtin.List.listSubscript? (.int k t) >>= _) _ _ s
  refine wpAny_bind (wpAny_listSubscript_int (fitsIndex_both hlo hhi) ?_)
  clear hlo hhi
  cases k with
  | ofNat j =>
    have hx : items[j]? = none := Array.getElem?_eq_none (by have : (items.size : Int) ≤ (j : Int) := hout; omega)
    show wpAny _ _ ((seqItemAt l j >>= fun r => pure (r.map (j, ·))) >>= _) _ _ s
    refine wpAny_bind (wpAny_bind (wpAny_seqItemAt ho hd (wpAny_pure ?_)))
    rw [hx]
    first
      | exact wpAny_bind (wpAny_rule (raise_ctx (hA _ rfl) hE))
      | exact wpAny_bind (wpAny_rule (wpAny_bind (raise_ctx (hA _ rfl) hE)))
  | negSucc j => exact absurd hout (by have := Int.negSucc_lt_zero j; omega)
theorem item_out {value slice : PySem.Expr} {l : Addr} {items : Array Value} {k : Int} {u : Tok} {Q : Value → Shared → Prop} (hA : Ctx A s.heap) (hl : s.heap.IsList l items)
    (hout : (items.size : Int) ≤ k) (hhi : k < 2 ^ 63)
    (hE : ∀ h' tk e c, (A.handled = none → c = .none) → NewX s.heap h' e c → E (.ref e) { s with heap := h', toks := tk })
    (hs : subscripted slice false (.ref l) (.int k u) = operate [.ref l, .int k u] (getItem (.ref l) (.int k u)) := by with_unfolding_all rfl) :
    wpAny (model prog w) A (subscriptTail value slice (.ref l) (.int k u)) Q E s :=
  tail_any hl.typeIs slot_list_getitem.lookup (getItem_out (fun B hB => by unfold Ctx at hA ⊢; rw [hB]; exact hA) hl hout hhi hE) hs
theorem item_in {value slice : PySem.Expr} {l : Addr} {items : Array Value} {k : Int} {u : Tok} {v : Value} {Q : Value → Shared → Prop} (hl : s.heap.IsList l items)
    (h0 : 0 ≤ k) (hhi : k < 2 ^ 63) (hx : items[k.toNat]? = some v) (h : Q v s)
    (hs : subscripted slice false (.ref l) (.int k u) = operate [.ref l, .int k u] (getItem (.ref l) (.int k u)) := by with_unfolding_all rfl) :
    wpAny (model prog w) A (subscriptTail value slice (.ref l) (.int k u)) Q E s :=
  tail_any hl.typeIs slot_list_getitem.lookup (wpAny_getItem_list hl h0 hhi hx h) hs
/-- a while loop that takes no turn, or raises at its first test -/
theorem wh_once {test : Expr} {body : List Stmt} {pos : Pos} {env : Env} {Q : Flow → Shared → Prop}
    (h : wpAny (model prog w) A (isTrue test env (eval test env)) (fun b s₂ => Hold (b = false) ∧ Q .next s₂) (notedBy (model prog w) A env (cameBackBy (model prog w) A env E)) s) : wpAny (model prog w) A (exec (.While test body [] pos) env) Q E s := by
  refine wpAny_While (codeAny_whileLoop (fun _ s' => s' = s) (fun n s' hs' => ?_) 0 rfl)
  subst hs'
  refine wpAny_mono h (fun b s₂ hb => ?_) fun _ _ x => x
  obtain ⟨hb, hq⟩ := hb
  rw [show b = false from hb, if_neg (by decide)]
  exact wpAny_execs_nil hq
theorem Hd.sub {hb h : Heap} {L e : Addr} {m : Str → Option Value} {fl c : Value} {news news' : List (Addr × Obj)} (H : Hd hb L h m e fl c news) (hs : ∀ p ∈ news', p ∈ news) : Hd hb L h m e fl c news' := by
  obtain ⟨F, ob, vs, tb, otb, tvs, N, hc, hd, h1, h2, htd, h3, hte, hne⟩ := H
  refine ⟨F, ob, vs, tb, otb, tvs, fun p hp => N p ?_, hc, hd, h1, h2, htd, h3, hte, fun p hp => hne p (hs p hp)⟩
  rcases List.mem_cons.mp hp with rfl | hp
  · exact List.mem_cons_self ..
  · rcases List.mem_cons.mp hp with rfl | hp
    · exact List.mem_cons_of_mem _ (List.mem_cons_self ..)
    · exact List.mem_cons_of_mem _ (List.mem_cons_of_mem _ (hs p hp))
theorem Hd.pass {α : Type} {M : Model} {what : String} {hb : Heap} {L e a : Addr} {m : Str → Option Value} {fl c cd : Value} {name : Str} {scope : Scope} {news : List (Addr × Obj)} {Q : α → Shared → Prop} (H : Hd hb L s.heap m e fl c news) (k : ∀ h', Hd hb L h' m e (rawInt L) c news → E (.ref e) { s with heap := h' }) : wpAny M A (PySem.passOn what (.ref e) (envOf name scope L a cd) : Sem α) Q E s := by
  obtain ⟨F, ob, vs, tb, otb, tvs, N, hc, hd, h1, h2, htd, h3, hte, hne⟩ := id H
  have he := N (e, ob) (List.mem_cons_self ..)
  unfold PySem.passOn
  refine wpAny_bind (wpAny_field he.1 hd h1 ?_)
  rw [if_neg (show ¬ ((Value.ref tb == Value.none) = true) from by simp)]
  exact wpAny_bind (H.flight (some L) rfl fun h' H' => wpAny_throw (k h' H'))
end
/-- what sorted_list_difference tells of two growing lists -/
def sdiff : List Int → List Int → List Int × List Int
  | [], ys => ([], ys)
  | x :: xs, [] => (x :: xs, [])
  | x :: xs, y :: ys => if x < y then (x :: (sdiff xs (y :: ys)).1, (sdiff xs (y :: ys)).2) else if y < x then ((sdiff (x :: xs) ys).1, y :: (sdiff (x :: xs) ys).2) else sdiff xs ys
termination_by xs ys => xs.length + ys.length
theorem sdiff_nil1 (ys : List Int) : sdiff [] ys = ([], ys) := by rw [sdiff]
theorem sdiff_nil2 (xs : List Int) : sdiff xs [] = (xs, []) := by cases xs <;> rw [sdiff]
theorem sdiff_lt {x y : Int} (h : x < y) (xs ys : List Int) : sdiff (x :: xs) (y :: ys) = (x :: (sdiff xs (y :: ys)).1, (sdiff xs (y :: ys)).2) := by rw [sdiff, if_pos h]
theorem sdiff_gt {x y : Int} (h : y < x) (xs ys : List Int) : sdiff (x :: xs) (y :: ys) = ((sdiff (x :: xs) ys).1, y :: (sdiff (x :: xs) ys).2) := by rw [sdiff, if_neg (by omega), if_pos h]
theorem sdiff_eq (x : Int) (xs ys : List Int) : sdiff (x :: xs) (x :: ys) = sdiff xs ys := by rw [sdiff, if_neg (by omega), if_neg (by omega)]
end Mine
end
section
open PySem PySem.W PyProof.Rows PySem.Calls
open PyProof.Rows.TI (Frs SameUp gone gone_get gone_none gone_some)
set_option Elab.async false
namespace Mine
/-- enter0 over a base that leaves the frames out -/
theorem enterB {prog : Program} {w : World} {A : Around} {s : Shared} {K : Frag} {hb : Heap} {frs : List (Addr × Obj)}
    {R : Result → Shared → Prop} {name qual : Str} {params : Arguments} {body : List Stmt} {scope : Scope} {dV kV doc pm cdv ct oc : Value} {an od : Option Addr} {osl : Array (Option Value)} {f : Addr} {args : Args} (binds : List (Str × Value)) (m : Str → Option Value) (hm : (fun y => binds.reverse.lookup y) = m)
    (X : K.In hb) (hlim : s.heap.NoLimit) (hsub : Keep hb s.heap) (hsz : hb.objs.size ≤ s.heap.objs.size) (hfrs : ∀ p ∈ frs, s.heap.get? p.1 = some p.2 ∧ hb.get? p.1 = none)
    (ho : K.lookup f = some ⟨oc, od, .func (fnOf name qual params body scope dV kV doc pm an cdv ct), osl⟩) (hcd : codeIn K cdv qual = true) (hroom : A.depth < recursionLimit)
    (hbind : BindsTo s (fnOf name qual params body scope dV kV doc pm an cdv ct) args binds) (hloc : ∀ y ∈ binds, scope.names.lookup y.1 = some .local)
    (h : ∀ h₁ L, s.heap.objs.size = L → (∀ p ∈ frs, p.1 < L) → Fr hb L h₁ m → News hb L h₁ frs →
      wpAny (model prog w) (A.deeper (envOf qual scope L f cdv)) (execs body (envOf qual scope L f cdv))
        (fun fl s' => R (.ok (.ret (match fl with | .ret v => v | _ => .none))) s')
        (fun e s' => wpAny (model prog w) (A.deeper (envOf qual scope L f cdv)) (leaving (envOf qual scope L f cdv) e) (fun _ s'' => R (.error e) s'') (fun e' s'' => R (.error e') s'') s')
        { s with heap := h₁, toks := s.toks + binds.length })
    (hco : scope.isCoroutine = false := by rfl) (hgen : scope.isGenerator = false := by rfl) (hk : scope.kind = .function := by rfl)
    (hcell : ∀ x ∈ scope.names, x.2 ≠ .cell := by decide) : codeAny (model prog w) A (.call (.ref f) args) R s := by
  have X' : K.In s.heap := fun a o e => hsub _ _ (X a o e)
  refine codeAny_call_def (fd := fnOf name qual params body scope dV kV doc pm an cdv ct) (body := body) (binds := binds) hroom (X' _ _ ho) rfl hlim (codeRec_of X' hcd) rfl hbind hcell hloc (fun h₁ hns hk₁ => ?_) hco hgen hk
  exact h h₁ _ rfl (fun p hp => Heap.lt_size (hfrs p hp).1) ⟨hm ▸ hns, fun b o e => hk₁ b o (hsub b o e), hsz⟩ fun p hp => ⟨hk₁ _ _ (hfrs p hp).1, Nat.ne_of_lt (Heap.lt_size (hfrs p hp).1), (hfrs p hp).2⟩

abbrev sldMap (l1 l2 pM pU : Addr) (i j : Int) (ti tj : Tok) (oe oa : Option Value) : Str → Option Value := fun y =>
  if y = Str.ofString "i" then some (.int i ti) else if y = Str.ofString "j" then some (.int j tj) else if y = Str.ofString "e" then oe else if y = Str.ofString "a" then oa
  else if y = Str.ofString "missing" then some (.ref pM) else if y = Str.ofString "unexpected" then some (.ref pU) else if y = Str.ofString "actual" then some (.ref l2) else if y = Str.ofString "expected" then some (.ref l1) else none


section
variable (hb : Heap) (L l1 l2 pM pU : Addr) (frs : List (Addr × Obj))
/-- the frame of sorted_list_difference between two statements -/
def SldS (h : Heap) (i j : Nat) (M U : List Int) (oe oa : Option Value) : Prop :=
  ∃ ti tj ms us nM nU frs', SameUp frs frs' ∧ IntsAre ms M ∧ IntsAre us U ∧ Fr hb L h (sldMap l1 l2 pM pU i j ti tj oe oa) ∧ News hb L h ((pU, W.listOf us.toArray nU) :: (pM, W.listOf ms.toArray nM) :: frs')
def SldH (fl c : Value) (e : Addr) (h : Heap) (i j : Nat) (M U : List Int) : Prop :=
  ∃ ti tj oe oa ms us nM nU frs', SameUp frs frs' ∧ IntsAre ms M ∧ IntsAre us U ∧ Hd hb L h (sldMap l1 l2 pM pU i j ti tj oe oa) e fl c ((pU, W.listOf us.toArray nU) :: (pM, W.listOf ms.toArray nM) :: frs')
def SldE (c : Value) (e : Addr) (h : Heap) (i j : Nat) (M U : List Int) : Prop :=
  (∃ h0 oe oa, NewX h0 h e c ∧ SldS hb L l1 l2 pM pU frs h0 i j M U oe oa) ∨ SldH hb L l1 l2 pM pU frs (rawInt L) c e h i j M U
end
section
variable {M : Model} {A : Around} {E : Value → Shared → Prop} {s : Shared} {hb : Heap} {L l1 l2 pM pU : Addr} {frs : List (Addr × Obj)} {name : Str} {scope : Scope} {a e : Addr} {cd c : Value} {i j : Nat} {ns us : List Int}
theorem SldE.note {l : List Env} {Q : Unit → Shared → Prop} (H : SldE hb L l1 l2 pM pU frs c e s.heap i j ns us) (hfr : A.frames = some (envOf name scope L a cd :: l)) (Fs : Frs l frs) (hp : ∀ p ∈ frs, p.1 ≠ pM ∧ p.1 ≠ pU) (hk : scope.kind = .function)
    (k : ∀ h', SldH hb L l1 l2 pM pU frs (rawInt L) c e h' i j ns us → Q () { s with heap := h' }) : wpAny M A (noteFrame (.ref e) (envOf name scope L a cd)) Q E s := by
  rcases H with ⟨h0, oe, oa, hx, ti, tj, ms, us, nM, nU, frs', SU, hi, hj, F, N⟩ | ⟨ti, tj, oe, oa, ms, us, nM, nU, frs', SU, hi, hj, H⟩
  · refine note_new (news := [(pU, W.listOf us.toArray nU), (pM, W.listOf ms.toArray nM)]) hfr (Fs.up SU) hx F N ?_ (fun h' frs'' SU' Fs' H => k h' ⟨ti, tj, oe, oa, ms, us, nM, nU, frs'', SU.trans SU', hi, hj, H⟩) hk
    intro p hp' hm
    rcases List.mem_cons.mp hm with q | hm
    · have := (N p (by rcases List.mem_cons.mp hp' with rfl | hp'; exact List.mem_cons_self ..; rw [List.mem_singleton.mp hp']; exact List.mem_cons_of_mem _ (List.mem_cons_self ..))).2.1
      exact this q
    · obtain ⟨q, hq, e'⟩ := List.mem_map.mp hm
      obtain ⟨r, hr, e''⟩ := SU.fwd q hq
      have h9 := hp r hr
      rcases List.mem_cons.mp hp' with rfl | hp'
      · exact h9.2 (e''.symm.trans e')
      · rw [List.mem_singleton.mp hp'] at e'
        exact h9.1 (e''.symm.trans e')
  · exact H.again (k _ ⟨ti, tj, oe, oa, ms, us, nM, nU, frs', SU, hi, hj, H⟩)
theorem SldH.came {fl : Value} (H : SldH hb L l1 l2 pM pU frs fl c e s.heap i j ns us) {E' : Value → Shared → Prop} (k : ∀ h', SldE hb L l1 l2 pM pU frs c e h' i j ns us → E' (.ref e) { s with heap := h' }) : cameBackBy M A (envOf name scope L a cd) E' (.ref e) s := by
  obtain ⟨ti, tj, oe, oa, ms, us, nM, nU, frs', SU, hi, hj, H⟩ := H
  exact H.came fun h' H' => k h' (Or.inr ⟨ti, tj, oe, oa, ms, us, nM, nU, frs', SU, hi, hj, H'⟩)
end
end Mine
end
section
open PySem PySem.W PyProof.Rows PySem.Calls
open PyProof.Rows.TI (Frs SameUp gone gone_get gone_none gone_some)
set_option Elab.async false
set_option linter.unusedSimpArgs false
namespace Mine
theorem sldMap_ext {l1 l2 pM pU : Addr} {i j : Int} {ti tj : Tok} {oe oa : Option Value} {m : Str → Option Value} (h1 : m (Str.ofString "i") = some (.int i ti)) (h2 : m (Str.ofString "j") = some (.int j tj)) (h3 : m (Str.ofString "e") = oe) (h4 : m (Str.ofString "a") = oa)
    (h5 : m (Str.ofString "missing") = some (.ref pM)) (h6 : m (Str.ofString "unexpected") = some (.ref pU)) (h7 : m (Str.ofString "actual") = some (.ref l2)) (h8 : m (Str.ofString "expected") = some (.ref l1))
    (hr : ∀ y, y ≠ Str.ofString "i" → y ≠ Str.ofString "j" → y ≠ Str.ofString "e" → y ≠ Str.ofString "a" → y ≠ Str.ofString "missing" → y ≠ Str.ofString "unexpected" → y ≠ Str.ofString "actual" → y ≠ Str.ofString "expected" → m y = none) : m = sldMap l1 l2 pM pU i j ti tj oe oa := by
  funext y
  by_cases e1 : y = Str.ofString "i"; · subst e1; exact h1
  by_cases e2 : y = Str.ofString "j"; · subst e2; exact h2
  by_cases e3 : y = Str.ofString "e"; · subst e3; exact h3
  by_cases e4 : y = Str.ofString "a"; · subst e4; exact h4
  by_cases e5 : y = Str.ofString "missing"; · subst e5; exact h5
  by_cases e6 : y = Str.ofString "unexpected"; · subst e6; exact h6
  by_cases e7 : y = Str.ofString "actual"; · subst e7; exact h7
  by_cases e8 : y = Str.ofString "expected"; · subst e8; exact h8
  rw [hr y e1 e2 e3 e4 e5 e6 e7 e8]
  simp only [sldMap, if_neg e1, if_neg e2, if_neg e3, if_neg e4, if_neg e5, if_neg e6, if_neg e7, if_neg e8]
theorem intsVal {vs : List Value} {ns : List Int} (h : IntsAre vs ns) {i : Nat} (hi : i < ns.length) : ∃ x t, ns[i]? = some x ∧ vs[i]? = some (.int x t) := by
  have hl : i < vs.length := by rw [h.length]; exact hi
  obtain ⟨x, t, e, hx⟩ := h.at i vs[i] (List.getElem?_eq_getElem hl)
  exact ⟨x, t, hx, by rw [List.getElem?_eq_getElem hl, e]⟩

theorem incr {ns : List Int} (hs : ns.Pairwise (· < ·)) {i : Nat} (h : i + 1 < ns.length) : ns.getD (i : Int).toNat 0 < ns.getD ((i : Int) + 1).toNat 0 := by
  have e1 : ((i : Int) + 1).toNat = i + 1 := by omega
  rw [e1, Int.toNat_natCast, List.getD_eq_getElem?_getD, List.getD_eq_getElem?_getD, List.getElem?_eq_getElem h, List.getElem?_eq_getElem (Nat.lt_of_succ_lt h)]
  exact List.pairwise_iff_getElem.mp hs i (i + 1) _ _ (Nat.lt_succ_self _)
theorem sd_lt {x z : Int} {xs ys M U T1 T2 : List Int} (h : x < z) (hM : M ++ (sdiff (x :: xs) (z :: ys)).1 = T1) (hU : U ++ (sdiff (x :: xs) (z :: ys)).2 = T2) : (M ++ [x]) ++ (sdiff xs (z :: ys)).1 = T1 ∧ U ++ (sdiff xs (z :: ys)).2 = T2 := by
  rw [sdiff_lt h] at hM hU
  exact ⟨by rw [List.append_assoc]; exact hM, hU⟩
theorem sd_gt {x z : Int} {xs ys M U T1 T2 : List Int} (h : z < x) (hM : M ++ (sdiff (x :: xs) (z :: ys)).1 = T1) (hU : U ++ (sdiff (x :: xs) (z :: ys)).2 = T2) : M ++ (sdiff (x :: xs) ys).1 = T1 ∧ (U ++ [z]) ++ (sdiff (x :: xs) ys).2 = T2 := by
  rw [sdiff_gt h] at hM hU
  exact ⟨hM, by rw [List.append_assoc]; exact hU⟩
theorem sd_eq {x z : Int} {xs ys M U T1 T2 : List Int} (h : x = z) (hM : M ++ (sdiff (x :: xs) (z :: ys)).1 = T1) (hU : U ++ (sdiff (x :: xs) (z :: ys)).2 = T2) : M ++ (sdiff xs ys).1 = T1 ∧ U ++ (sdiff xs ys).2 = T2 := by
  subst h
  rw [sdiff_eq] at hM hU
  exact ⟨hM, hU⟩
theorem sd_out1 {xs ys M U T1 T2 : List Int} (h : xs = []) (hs : M ++ (sdiff xs ys).1 = T1 ∧ U ++ (sdiff xs ys).2 = T2) : M ++ xs = T1 ∧ U ++ ys = T2 := by
  subst h
  rw [sdiff_nil1] at hs
  exact hs
theorem sd_out2 {xs ys M U T1 T2 : List Int} (h : ys = []) (hs : M ++ (sdiff xs ys).1 = T1 ∧ U ++ (sdiff xs ys).2 = T2) : M ++ xs = T1 ∧ U ++ ys = T2 := by
  subst h
  rw [sdiff_nil2] at hs
  exact hs
/-- an error on its way to the except clause -/
def SldX (s : Shared) (hb : Heap) (L l1 l2 pM pU : Addr) (frs : List (Addr × Obj)) (n1 n2 : List Int) (e : Value) (s' : Shared) : Prop :=
  ∃ ea h tk i j M U c, e = .ref ea ∧ s' = { s with heap := h, toks := tk } ∧ SldE hb L l1 l2 pM pU frs c ea h i j M U ∧ M ++ n1.drop i = (sdiff n1 n2).1 ∧ U ++ n2.drop j = (sdiff n1 n2).2 ∧ i ≤ n1.length ∧ j ≤ n2.length ∧ M.length ≤ i ∧ U.length ≤ j
/-- the loop's state between two turns -/
def SldI (s : Shared) (hb : Heap) (L l1 l2 pM pU : Addr) (frs : List (Addr × Obj)) (n1 n2 : List Int) (n : Nat) (s' : Shared) : Prop :=
  ∃ h tk i j M U oe oa, s' = { s with heap := h, toks := tk } ∧ SldS hb L l1 l2 pM pU frs h i j M U oe oa ∧ n + i + j = n1.length + n2.length ∧ M ++ (sdiff (n1.drop i) (n2.drop j)).1 = (sdiff n1 n2).1 ∧ U ++ (sdiff (n1.drop i) (n2.drop j)).2 = (sdiff n1 n2).2 ∧ i ≤ n1.length ∧ j ≤ n2.length ∧ M.length ≤ i ∧ U.length ≤ j
theorem SldX.pass {M : Model} {A A' : Around} {s s' : Shared} {hb : Heap} {L l1 l2 pM pU : Addr} {frs : List (Addr × Obj)} {n1 n2 : List Int} {e : Value} {name : Str} {scope : Scope} {a : Addr} {cd : Value} {l : List Env} (hfr : A.frames = some (envOf name scope L a cd :: l)) (Fs : Frs l frs) (hp : ∀ p ∈ frs, p.1 ≠ pM ∧ p.1 ≠ pU) (hk : scope.kind = .function)
    {E' : Value → Shared → Prop} (hE : ∀ e s', SldX s hb L l1 l2 pM pU frs n1 n2 e s' → E' e s') (H : SldX s hb L l1 l2 pM pU frs n1 n2 e s') : notedBy M A (envOf name scope L a cd) (cameBackBy M A' (envOf name scope L a cd) E') e s' := by
  obtain ⟨ea, h, tk, i, j, m, u, c, rfl, rfl, H, r⟩ := H
  refine SldE.note (s := { s with heap := h, toks := tk }) H hfr Fs hp hk fun h' H' => ?_
  exact SldH.came (s := { s with heap := h', toks := tk }) H' fun h'' H'' => hE _ _ ⟨ea, h'', tk, i, j, m, u, c, rfl, rfl, H'', r⟩

theorem allLt_mem {D : Addr} : ∀ {l : List (Addr × Obj)}, AllLt D l → ∀ p ∈ l, @LT.lt Nat _ p.1 D
  | [], _, _, h => nomatch h
  | _ :: _, x, p, h => by
    rcases List.mem_cons.mp h with rfl | h
    · exact x.1
    · exact allLt_mem x.2 p h
theorem updPre {D : Addr} {a b : Obj} {rest : List (Addr × Obj)} (hr : ∀ p ∈ rest, p.1 ≠ D) : ∀ {pre : List (Addr × Obj)}, (∀ p ∈ pre, p.1 ≠ D) → Upd D a b (pre ++ (D, a) :: rest) (pre ++ (D, b) :: rest)
  | [], _ => Upd.head hr
  | p :: pre, h => Upd.tail (h p (List.mem_cons_self ..)) (updPre hr fun q hq => h q (List.mem_cons_of_mem _ hq))
theorem extG {prog : Program} {w : World} {A : Around} {E : Value → Shared → Prop} {s : Shared} {h₀ : Heap} {L : Addr} {m : Str → Option Value} {b D : Addr} {n nb : Nat} {ys ws : List Value} {rest : List (Addr × Obj)} {Q : Value → Shared → Prop} (pre : List (Addr × Obj))
    (F : Fr h₀ L s.heap m) (N : News h₀ L s.heap ((b, W.listOf ws.toArray nb) :: (pre ++ (D, W.listOf ys.toArray n) :: rest))) (hbD : b ≠ D) (hp : ∀ p ∈ pre, p.1 ≠ D) (hr : ∀ p ∈ rest, p.1 ≠ D) (hsz : ys.length + ws.length ≤ 100)
    (h : ∀ h' n', Fr h₀ L h' m → News h₀ L h' (pre ++ (D, W.listOf (List.toArray (ys ++ ws)) n') :: rest) → Q .none { s with heap := h' }) : wpAny (model prog w) A (call (.builtin "list.extend") [.ref D, .ref b]) Q E s := by
  by_cases hne : ws = []
  · subst hne
    refine kxn_extend (its := ys.toArray) (n := n) (its2 := #[]) (n2 := nb) F N (List.mem_cons_self ..) rfl (Upd.tail hbD (updPre hr hp)) (extend_door ?_) ?_ ?_ fun h' F' N' => h h' n F' ?_
    · simp only [List.size_toArray, PySem.sizeLine_eq]; simp; omega
    · simp only [PySem.sizeLine_eq]; simp at hsz ⊢; omega
    · simp only [List.size_toArray, PySem.sizeLine_eq]; simp at hsz ⊢; omega
    · rw [List.append_nil]
      exact news_sub N' fun p hp => List.mem_cons_of_mem _ hp
  · refine kl_extend (its := ys.toArray) (its2 := ws.toArray) (l := ys ++ ws) (n := n) (n2 := nb) F N (List.mem_cons_self ..) rfl (fun q => hne (List.eq_nil_of_length_eq_zero q)) (Upd.tail hbD (updPre hr hp)) (extend_door ?_) ?_ ?_ fun h' F' N' => h h' (n + 1) F' (news_sub N' fun p hp => List.mem_cons_of_mem _ hp)
    · simp only [List.size_toArray, PySem.sizeLine_eq]; omega
    · simp only [PySem.sizeLine_eq]; omega
    · simp only [List.size_toArray, PySem.sizeLine_eq]; omega
local macro_rules | `(tactic| walk_at "exec While") => `(tactic| refine hold ?_)
local macro_rules | `(tactic| walk_at "exec Try") => `(tactic| refine hold ?_)
local macro_rules | `(tactic| walk_at "subscriptTail Name Slice ref ref") => `(tactic| refine hold ?_)
local macro_rules | `(tactic| walk_at "subscriptTail") => `(tactic| refine hold ?_)
local macro_rules | `(tactic| walk_at "call builtin:list.append") => `(tactic| refine hold ?_)
local macro_rules | `(tactic| walk_at "call builtin:list.extend") => `(tactic| refine hold ?_)
/-- a held IndexError lands in the suite of «except IndexError:»; of the top no more is asked than that it can be read -/
theorem index_caught {prog : Program} {w : World} {B : Around} {E : Value → Shared → Prop} {Q : Flow → Shared → Prop} {st : Shared} {hb : Heap} {L f e : Addr} {m : Str → Option Value} {fn : Str} {sc : Scope} {code fl : Value} {led : List (Addr × Obj)} {one : Stmt} {more : List Stmt} {pos np : Pos} {others : List ExceptHandler} {p : Program} {loose : List Str} {mg mb : Str → Option Value} {K : Frag}
    (H : TT.HeldNA hb L st.heap m e "IndexError" led fl) (KX : K.In hb) (T : TopRead p loose mg mb hb) (hns : nsIn K mainGlobals (Str.ofString "IndexError") = some none)
    (hk : sc.kind = .function) (hx : (envOf fn sc L f code).kindOf (Str.ofString "IndexError") = some .globalImplicit)
    (hE : PassesOwnAt (model prog w) ((B.deeper (envOf fn sc L f code)).mark (some (.ref e))) (B.deeper (envOf fn sc L f code)) (envOf fn sc L f code) E)
    (suite : ∀ h', Fr hb L h' m → News hb L h' led → wpAny (model prog w) ((B.deeper (envOf fn sc L f code)).mark (some (.ref e))) (execs (one :: more) (envOf fn sc L f code)) Q E { st with heap := h' }) :
    wpAny (model prog w) (B.deeper (envOf fn sc L f code)) (handleBy (.ref e) (envOf fn sc L f code) (.ExceptHandler (some (.Name (Str.ofString "IndexError") np)) none (one :: more) pos :: others)) Q E st := by
  have h1 : subB "IndexError" (.type "BaseException") = some true := by decide +kernel
  have h2 : subB ((Manifest.find? "IndexError").elim "type" fun y => y.metatype) (.type "tuple") = some false := by decide +kernel
  have h3 : subB "IndexError" (.type "IndexError") = some true := by decide +kernel
  have hv : bootBuiltins (Str.ofString "IndexError") = some (.type "IndexError") := by decide +kernel
  refine wpAny_handleBy_builtin (X := "IndexError") (T := "IndexError") (b := true) (isSubtype_of_subB h1) (isSubtype_of_subB h2) (isSubtype_of_subB h3) (wpAny_passesOwnAt hE (name_B H.held.fr KX T hns hv (by decide) ?_ hk hx (by decide)))
  refine ⟨rfl, H.isA, ?_⟩
  rw [if_pos rfl]
  exact H.lands fun h' F' N' => wpAny_passesOwnAt hE (suite h' F' N')
set_option maxRecDepth 100000 in
set_option maxHeartbeats 1600000 in
theorem sld_c (w : World) (mean : ExcName → Option Value) (mg mb : Str → Option Value) (hb : Heap) (frs : List (Addr × Obj)) (l1 l2 : Addr) (v1 v2 : List Value) (n1 n2 : List Int) (hi1 : IntsAre v1 n1) (hi2 : IntsAre v2 n2) (hlen1 : n1.length ≤ 8) (hlen2 : n2.length ≤ 8) (hs1 : n1.Pairwise (· < ·)) (hs2 : n2.Pairwise (· < ·)) {dp un gd fr} {s : Shared}
   (hd : dp + 5 < recursionLimit) (hu : un + 50 < cLine) (hl1 : hb.IsList l1 v1.toArray) (hl2 : hb.IsList l2 v2.toArray)
   (hsub : Keep hb s.heap) (hsz : hb.objs.size ≤ s.heap.objs.size) (hfrs : ∀ p ∈ frs, s.heap.get? p.1 = some p.2 ∧ hb.get? p.1 = none) (Fs : Frs fr frs) (hlim : s.heap.NoLimit)
   (X : (Mine.hd.heap_39 w.params).In hb) (T : TopRead Mine.hd.view_39 (looseW Mine.hd.view_39 [Str.ofString "_filemode_table"]) mg mb hb) {Q E : Value → Shared → Prop}
   (hQ : ∀ pT pM pU ms us nM nU frs' h' tk', Keep hb h' → h'.get? pT = some { cls := Value.type "tuple", data := Data.seq #[Value.ref pM, Value.ref pU] } → h'.get? pM = some (W.listOf (List.toArray ms) nM) → h'.get? pU = some (W.listOf (List.toArray us) nU) →
     IntsAre ms (sdiff n1 n2).1 → IntsAre us (sdiff n1 n2).2 → (hb.get? pT = none ∧ hb.get? pM = none ∧ hb.get? pU = none) → (∀ p ∈ frs, @Ne Nat p.1 pT ∧ @Ne Nat p.1 pM ∧ @Ne Nat p.1 pU) → (@Ne Nat pT pM ∧ @Ne Nat pT pU ∧ @Ne Nat pM pU) → SameUp frs frs' → (∀ p ∈ frs', h'.get? p.1 = some p.2) → Q (.ref pT) {s with heap := h', toks := tk'}) :
   wpAny (model PySem.Challenge.rw_oc0090_01.row.prog w) (AT dp un gd fr) (call (.ref 116) [.ref l1, .ref l2]) Q E s := by
  w_on
  revert X
  k_fill
  intro X
  refine wpAny_call ?_
  k_dflt (refine' enterB (hb := hb) (frs := frs) [(Str.ofString "expected", .ref l1), (Str.ofString "actual", .ref l2)] _ (lookup2 _ _ _ _) X hlim hsub hsz hfrs ?k6 ?k7 ?k8 ?k9 ?kB ?_ ?c2 ?c3 ?c4 ?c5; (case k6 => k_is); (case k7 => k_is); (case k8 => ktr_room); (case k9 => exact BindsTo.of_eq rfl); (case c5 => decide); (case kB => exact locs rfl); (case c2 => exact rfl); (case c3 => exact rfl); (case c4 => exact rfl); k_whole)
  intro h₁ L hLe hfL F N
  clear hfrs hsub hsz hlim
  k_steps
  rename Fr _ _ _ _ => F'
  rename News _ _ _ _ => N'
  rename _ ∧ AllLt _ _ => hlt'
  rename ∀ p ∈ frs, p.1 < _ => hltM

  rename_i pM _ _ _ pU _ _
  have hpp : ∀ p ∈ frs, p.1 ≠ pM ∧ p.1 ≠ pU := fun p hp => ⟨Nat.ne_of_lt (hltM p hp), Nat.ne_of_lt (Nat.lt_trans (hltM p hp) hlt'.1)⟩
  have F₀ := frEq F' (sldMap_ext (oe := none) (oa := none) rfl rfl rfl rfl rfl rfl rfl rfl (fun y e1 e2 e3 e4 e5 e6 e7 e8 => by simp only [if_neg e1, if_neg e2, if_neg e3, if_neg e4, if_neg e5, if_neg e6, if_neg e7, if_neg e8]))
  clear F'
  refine wpAny_While (codeAny_whileLoop (SldI s hb L l1 l2 pM pU frs n1 n2) ?_ (n1.length + n2.length) ⟨_, _, 0, 0, [], [], none, none, rfl, ⟨_, _, [], [], 0, 0, frs, SameUp.refl _, .nil, .nil, F₀, N'⟩, rfl, rfl, rfl, Nat.zero_le _, Nat.zero_le _, Nat.le_refl _, Nat.le_refl _⟩)
  clear F₀ N'
  rintro n _ ⟨h, tk, i, j, M, U, oe, oa, rfl, ⟨ti, tj, ms, us, nM, nU, frs', SU, hiM, hiU, F, N⟩, hn, hM, hU, hi, hj, hMi, hUj⟩
  dsimp only
  k_steps
  refine wpAny_Try_except (wpAny_mono (Q := fun f s₁ => Hold (f = .next ∧ ∃ m, m < n ∧ SldI s hb L l1 l2 pM pU frs n1 n2 m s₁)) (E := SldX s hb L l1 l2 pM pU frs n1 n2) ?body ?nx ?er)
  case nx =>
    rintro _ s₁ ⟨rfl, hI⟩
    exact wpAny_execs_nil (wpAny_execs_nil hI)
  case er =>
    clear F N hM hU hi hj hMi hUj hn SU hiM hiU
    rintro _ _ ⟨ea, h', tk', i', j', M', U', c, rfl, rfl, H, hM', hU', hi', hj', hMi', hUj'⟩
    refine SldE.note (s := { s with heap := h', toks := tk' }) H rfl Fs hpp rfl fun h2 H2 => ?_
    obtain ⟨ti', tj', oe', oa', ms', us', nM', nU', frs₂, SU₂, hiM', hiU', H2⟩ := H2
    refine H2.flight (s := { s with heap := h2, toks := tk' }) none rfl fun h3 H3 => ?_
    refine index_caught (st := { s with heap := h3, toks := tk' }) H3.held X T (by k_is) rfl rfl (by passes_own) (fun h4 F4 N4 => ?_)
    clear H H2 H3
    have hpp₂ : ∀ p ∈ frs₂, p.1 ≠ pM ∧ p.1 ≠ pU := fun p hp => by
      obtain ⟨q, hq, e⟩ := SU₂.fwd p hp
      rw [e]
      exact hpp q hq
    have hml : ms'.length ≤ 8 := by rw [hiM'.length]; omega
    have hul : us'.length ≤ 8 := by rw [hiU'.length]; omega
    k_steps
    refine kmk_slice_ints F4 N4 (hl1.at fun o e => F4.keep _ _ e) (IsPart.int _ _) IsPart.none hi1 (kmk_from hi1 (by omega)) rfl ?_ (by with_unfolding_all rfl) (by intro _; with_unfolding_all rfl) (by rw [List.size_toArray, hi1.length, PySem.sizeLine_eq]; omega)
    clear F4 N4
    intro D ws h5 F5 N5 hlt5 hI5 _ hL5
    have hwl : ws.length ≤ 8 := by rw [hI5.length]; omega
    k_steps
    refine extG [(pU, W.listOf us'.toArray nU')] F5 N5 (Nat.ne_of_gt (hlt5 (pM, W.listOf ms'.toArray nM') (List.mem_cons_of_mem _ (List.mem_cons_self ..)))) (fun p hp => by rw [List.mem_singleton.mp hp]; exact Nat.ne_of_gt hlt'.1) (fun p hp => (hpp₂ p hp).1) (by omega) ?_
    clear F5 N5 hlt5
    intro h6 n6 F6 N6
    replace N6 : News hb L h6 ((pU, W.listOf us'.toArray nU') :: (pM, W.listOf (List.toArray (ms' ++ ws)) n6) :: frs₂) := N6
    k_steps
    refine kmk_slice_ints F6 N6 (hl2.at fun o e => F6.keep _ _ e) (IsPart.int _ _) IsPart.none hi2 (kmk_from hi2 (by omega)) rfl ?_ (by with_unfolding_all rfl) (by intro _; with_unfolding_all rfl) (by rw [List.size_toArray, hi2.length, PySem.sizeLine_eq]; omega)
    clear F6 N6
    intro D2 ws2 h7 F7 N7 hlt7 hI7 _ hL7
    have hwl2 : ws2.length ≤ 8 := by rw [hI7.length]; omega
    k_steps
    refine extG [] F7 N7 (Nat.ne_of_gt (hlt7 (pU, W.listOf us'.toArray nU') (List.mem_cons_self ..))) (fun p hp => nomatch hp) (fun p hp => by
      rcases List.mem_cons.mp hp with rfl | hp
      · exact Nat.ne_of_lt hlt'.1
      · exact (hpp₂ p hp).2) (by omega) ?_
    clear F7 N7 hlt7
    intro h8 n8 F8 N8
    replace N8 : News hb L h8 ((pU, W.listOf (List.toArray (us' ++ ws2)) n8) :: (pM, W.listOf (List.toArray (ms' ++ ws)) n6) :: frs₂) := N8
    k_steps
    rename Fr _ _ _ _ => F9
    rename News _ _ _ _ => N9
    rename _ ∧ _ ∧ AllLt _ _ => hltT
    obtain ⟨hT1, hT2, hT3⟩ := hltT
    rw [Int.toNat_natCast] at hI5 hI7
    have eM := hiM'.append hI5
    have eU := hiU'.append hI7
    rw [hM'] at eM
    rw [hU'] at eU
    have g1 := N9 _ (List.mem_cons_self ..)
    have g2 := N9 _ (List.mem_cons_of_mem _ (List.mem_cons_self ..))
    have g3 := N9 _ (List.mem_cons_of_mem _ (List.mem_cons_of_mem _ (List.mem_cons_self ..)))
    refine hQ _ pM pU _ _ _ _ frs₂ _ _ F9.keep g1.1 g3.1 g2.1 eM eU ⟨g1.2.2, g3.2.2, g2.2.2⟩ (fun p hp => ?_) ⟨Nat.ne_of_gt hT2, Nat.ne_of_gt hT1, Nat.ne_of_lt hlt'.1⟩ SU₂ fun p hp => (N9 p (List.mem_cons_of_mem _ (List.mem_cons_of_mem _ (List.mem_cons_of_mem _ hp)))).1
    obtain ⟨sl, hb'⟩ := SU₂.back p hp
    have hq := allLt_mem hT3 _ hb'
    exact ⟨Nat.ne_of_lt hq, (hpp p hp).1, (hpp p hp).2⟩
  case body =>
    have hpp' : ∀ p ∈ frs', p.1 ≠ pM ∧ p.1 ≠ pU := fun p hp => by
      obtain ⟨q, hq, e⟩ := SU.fwd p hp
      rw [e]
      exact hpp q hq
    have fin : ∀ h' tk' i' j' M' U' ms' us' nM' nU' ti' tj' oe' oa', Fr hb L h' (sldMap l1 l2 pM pU ((i' : Nat) : Int) ((j' : Nat) : Int) ti' tj' oe' oa') → News hb L h' ((pU, W.listOf (List.toArray us') nU') :: (pM, W.listOf (List.toArray ms') nM') :: frs') → IntsAre ms' M' → IntsAre us' U' →
        (M' ++ (sdiff (n1.drop i') (n2.drop j')).1 = (sdiff n1 n2).1 ∧ U' ++ (sdiff (n1.drop i') (n2.drop j')).2 = (sdiff n1 n2).2) → i' ≤ n1.length → j' ≤ n2.length → M'.length ≤ i' → U'.length ≤ j' → i + j < i' + j' →
        Hold (Flow.next = .next ∧ ∃ m, m < n ∧ SldI s hb L l1 l2 pM pU frs n1 n2 m { s with heap := h', toks := tk' }) := by
      intro h' tk' i' j' M' U' ms' us' nM' nU' ti' tj' oe' oa' F' N' hm hu' hs hi' hj' hm' hu'' hlt
      exact ⟨rfl, n1.length + n2.length - (i' + j'), by omega, h', tk', i', j', M', U', oe', oa', rfl, ⟨ti', tj', ms', us', nM', nU', frs', SU, hm, hu', F', N'⟩, by omega, hs.1, hs.2, hi', hj', hm', hu''⟩
    have bad : ∀ h0 h' e c tk' i' j' M' U' ms' us' nM' nU' ti' tj' oe' oa', NewX h0 h' e c → Fr hb L h0 (sldMap l1 l2 pM pU ((i' : Nat) : Int) ((j' : Nat) : Int) ti' tj' oe' oa') → News hb L h0 ((pU, W.listOf (List.toArray us') nU') :: (pM, W.listOf (List.toArray ms') nM') :: frs') → IntsAre ms' M' → IntsAre us' U' →
        (M' ++ n1.drop i' = (sdiff n1 n2).1 ∧ U' ++ n2.drop j' = (sdiff n1 n2).2) → i' ≤ n1.length → j' ≤ n2.length → M'.length ≤ i' → U'.length ≤ j' →
        SldX s hb L l1 l2 pM pU frs n1 n2 (.ref e) { s with heap := h', toks := tk' } := by
      intro h0 h' e c tk' i' j' M' U' ms' us' nM' nU' ti' tj' oe' oa' hx F' N' hm hu' hs hi' hj' hm' hu''
      exact ⟨e, h', tk', i', j', M', U', c, rfl, rfl, Or.inl ⟨h0, oe', oa', hx, ti', tj', ms', us', nM', nU', frs', SU, hm, hu', F', N'⟩, hs.1, hs.2, hi', hj', hm', hu''⟩
    by_cases hin1 : i < n1.length
    case neg =>
      have hd1 : n1.drop i = [] := List.drop_eq_nil_of_le (by omega)
      k_steps
      refine item_out (Or.inl rfl) (hl1.at fun o e => F.keep _ _ e) (by rw [List.size_toArray, hi1.length]; omega) (by omega) ?_
      intro h' tk' e c hc hx
      exact bad _ _ _ _ _ _ _ _ _ _ _ _ _ _ _ _ _ hx F N hiM hiU (sd_out1 hd1 ⟨hM, hU⟩) hi hj hMi hUj
    obtain ⟨x, tx, hx, hvx⟩ := intsVal hi1 hin1
    have hd1 : n1.drop i = x :: n1.drop (i + 1) := by rw [List.drop_eq_getElem_cons hin1]; rw [List.getElem?_eq_getElem hin1] at hx; rw [Option.some.inj hx]
    have hgx : n1.getD (i : Int).toNat 0 = x := by rw [Int.toNat_natCast, List.getD_eq_getElem?_getD, hx]; rfl
    by_cases hin2 : j < n2.length
    case neg =>
      have hd2 : n2.drop j = [] := List.drop_eq_nil_of_le (by omega)
      k_steps
      rename Fr _ _ _ _ => F'
      rename News _ _ _ _ => N'
      refine item_out (Or.inl rfl) (hl2.at fun o e => F'.keep _ _ e) (by rw [List.size_toArray, hi2.length]; omega) (by omega) ?_
      intro h' tk' e c hc hx
      exact bad _ _ _ _ _ _ _ _ _ _ _ _ _ _ _ _ _ hx (frEq F' (sldMap_ext (oa := oa) rfl rfl rfl rfl rfl rfl rfl rfl (fun y e1 e2 e3 e4 e5 e6 e7 e8 => by simp only [sldMap, if_neg e1, if_neg e2, if_neg e3, if_neg e4, if_neg e5, if_neg e6, if_neg e7, if_neg e8]))) N' hiM hiU (sd_out2 hd2 ⟨hM, hU⟩) hi hj hMi hUj
    obtain ⟨z, tz, hz, hvz⟩ := intsVal hi2 hin2
    have hd2 : n2.drop j = z :: n2.drop (j + 1) := by rw [List.drop_eq_getElem_cons hin2]; rw [List.getElem?_eq_getElem hin2] at hz; rw [Option.some.inj hz]
    have hgz : n2.getD (j : Int).toNat 0 = z := by rw [Int.toNat_natCast, List.getD_eq_getElem?_getD, hz]; rfl
    have hMc := hM
    have hUc := hU
    rw [hd1, hd2] at hMc hUc
    subst hgx hgz
    k_steps
    · rename Fr _ _ _ _ => F'
      rename News _ _ _ _ => N'
      rename _ < _ => hcmp
      refine append_K F' N' (Upd.tail (Nat.ne_of_gt hlt'.1) (Upd.head fun p hp => (hpp' p hp).1)) ?_ (by rw [List.size_toArray, hiM.length, PySem.sizeLine_eq]; omega)
      clear F' N'
      intro h8 F8 N8
      rw [List.push_toArray] at N8
      have hs := sd_lt hcmp hMc hUc
      rw [← hd2] at hs
      by_cases hin1' : i + 1 < n1.length
      · have hinc := incr hs1 hin1'
        k_steps
        refine wh_once ?_
        k_steps
        · show _ = _
          exact beq_eq_false_iff_ne.mpr (by omega)
        · rename Fr _ _ _ _ => F'
          rename News _ _ _ _ => N'
          exact fin _ _ (i + 1) j _ _ _ _ _ _ _ _ _ _ (frEq F' (sldMap_ext rfl rfl rfl rfl rfl rfl rfl rfl (fun y e1 e2 e3 e4 e5 e6 e7 e8 => by simp only [sldMap, if_neg e1, if_neg e2, if_neg e3, if_neg e4, if_neg e5, if_neg e6, if_neg e7, if_neg e8]))) N' (IntsAre.append hiM (.cons _ _ .nil)) hiU hs (by omega) (by omega) (by simp; omega) hUj (by omega)
      · k_steps
        refine wh_once ?_
        k_steps
        rename Fr _ _ _ _ => F'
        rename News _ _ _ _ => N'
        refine item_out (Or.inl rfl) (hl1.at fun o e => F'.keep _ _ e) (by rw [List.size_toArray, hi1.length]; omega) (by omega) ?_
        intro h' tk' e c hc hx
        refine SldX.pass rfl Fs hpp rfl (fun _ _ h => h) ?_
        exact bad _ _ _ _ _ (i + 1) j _ _ _ _ _ _ _ _ _ _ hx (frEq F' (sldMap_ext rfl rfl rfl rfl rfl rfl rfl rfl (fun y e1 e2 e3 e4 e5 e6 e7 e8 => by simp only [sldMap, if_neg e1, if_neg e2, if_neg e3, if_neg e4, if_neg e5, if_neg e6, if_neg e7, if_neg e8]))) N' (IntsAre.append hiM (.cons _ _ .nil)) hiU (sd_out1 (List.drop_eq_nil_of_le (by omega)) hs) (by omega) (by omega) (by simp; omega) hUj
    · rename Fr _ _ _ _ => F'
      rename News _ _ _ _ => N'
      rename _ < _ => hcmp
      refine append_K F' N' (Upd.head fun p hp => by
        rcases List.mem_cons.mp hp with rfl | hp
        · exact Nat.ne_of_lt hlt'.1
        · exact (hpp' p hp).2) ?_ (by rw [List.size_toArray, hiU.length, PySem.sizeLine_eq]; omega)
      clear F' N'
      intro h8 F8 N8
      rw [List.push_toArray] at N8
      have hs := sd_gt hcmp hMc hUc
      rw [← hd1] at hs
      by_cases hin2' : j + 1 < n2.length
      · have hinc := incr hs2 hin2'
        k_steps
        refine wh_once ?_
        k_steps
        · show _ = _
          exact beq_eq_false_iff_ne.mpr (by omega)
        · rename Fr _ _ _ _ => F'
          rename News _ _ _ _ => N'
          exact fin _ _ i (j + 1) _ _ _ _ _ _ _ _ _ _ (frEq F' (sldMap_ext rfl rfl rfl rfl rfl rfl rfl rfl (fun y e1 e2 e3 e4 e5 e6 e7 e8 => by simp only [sldMap, if_neg e1, if_neg e2, if_neg e3, if_neg e4, if_neg e5, if_neg e6, if_neg e7, if_neg e8]))) N' hiM (IntsAre.append hiU (.cons _ _ .nil)) hs (by omega) (by omega) hMi (by simp; omega) (by omega)
      · k_steps
        refine wh_once ?_
        k_steps
        rename Fr _ _ _ _ => F'
        rename News _ _ _ _ => N'
        refine item_out (Or.inl rfl) (hl2.at fun o e => F'.keep _ _ e) (by rw [List.size_toArray, hi2.length]; omega) (by omega) ?_
        intro h' tk' e c hc hx
        refine SldX.pass rfl Fs hpp rfl (fun _ _ h => h) ?_
        exact bad _ _ _ _ _ i (j + 1) _ _ _ _ _ _ _ _ _ _ hx (frEq F' (sldMap_ext rfl rfl rfl rfl rfl rfl rfl rfl (fun y e1 e2 e3 e4 e5 e6 e7 e8 => by simp only [sldMap, if_neg e1, if_neg e2, if_neg e3, if_neg e4, if_neg e5, if_neg e6, if_neg e7, if_neg e8]))) N' hiM (IntsAre.append hiU (.cons _ _ .nil)) (sd_out2 (List.drop_eq_nil_of_le (by omega)) hs) (by omega) (by omega) hMi (by simp; omega)
    · rename Fr _ _ _ _ => F'
      rename News _ _ _ _ => N'
      have hs := sd_eq (by omega) hMc hUc
      refine wh_once ?_
      by_cases hin1' : i + 1 < n1.length
      · have hinc := incr hs1 hin1'
        k_steps
        · show _ = _
          exact beq_eq_false_iff_ne.mpr (by omega)
        · refine wh_once ?_
          by_cases hin2' : j + 1 < n2.length
          · have hinc2 := incr hs2 hin2'
            k_steps
            · show _ = _
              exact beq_eq_false_iff_ne.mpr (by omega)
            · rename Fr _ _ _ _ => F''
              rename News _ _ _ _ => N''
              exact fin _ _ (i + 1) (j + 1) _ _ _ _ _ _ _ _ _ _ (frEq F'' (sldMap_ext rfl rfl rfl rfl rfl rfl rfl rfl (fun y e1 e2 e3 e4 e5 e6 e7 e8 => by simp only [sldMap, if_neg e1, if_neg e2, if_neg e3, if_neg e4, if_neg e5, if_neg e6, if_neg e7, if_neg e8]))) N'' hiM hiU hs (by omega) (by omega) (by omega) (by omega) (by omega)
          · k_steps
            rename Fr _ _ _ _ => F''
            rename News _ _ _ _ => N''
            refine item_out (Or.inl rfl) (hl2.at fun o e => F''.keep _ _ e) (by rw [List.size_toArray, hi2.length]; omega) (by omega) ?_
            intro h' tk' e c hc hx
            refine SldX.pass rfl Fs hpp rfl (fun _ _ h => SldX.pass rfl Fs hpp rfl (fun _ _ h => h) h) ?_
            exact bad _ _ _ _ _ (i + 1) (j + 1) _ _ _ _ _ _ _ _ _ _ hx (frEq F'' (sldMap_ext rfl rfl rfl rfl rfl rfl rfl rfl (fun y e1 e2 e3 e4 e5 e6 e7 e8 => by simp only [sldMap, if_neg e1, if_neg e2, if_neg e3, if_neg e4, if_neg e5, if_neg e6, if_neg e7, if_neg e8]))) N'' hiM hiU (sd_out2 (List.drop_eq_nil_of_le (by omega)) hs) (by omega) (by omega) (by omega) (by omega)
      · k_steps
        refine item_out (Or.inl rfl) (hl1.at fun o e => F'.keep _ _ e) (by rw [List.size_toArray, hi1.length]; omega) (by omega) ?_
        intro h' tk' e c hc hx
        have hcn := hc rfl
        subst hcn
        have Fx := frEq F' (sldMap_ext (i := ((i + 1 : Nat) : Int)) (j := (j : Int)) rfl rfl rfl rfl rfl rfl rfl rfl (fun y e1 e2 e3 e4 e5 e6 e7 e8 => by simp only [sldMap, if_neg e1, if_neg e2, if_neg e3, if_neg e4, if_neg e5, if_neg e6, if_neg e7, if_neg e8]))
        have hap : ∀ p ∈ [(pU, W.listOf us.toArray nU), (pM, W.listOf ms.toArray nM)], p.1 ∉ L :: frs'.map (·.1) := by
          intro p hp hm
          have h9 : p.1 ≠ L := (N' p (by rcases List.mem_cons.mp hp with rfl | hp; exact List.mem_cons_self ..; rw [List.mem_singleton.mp hp]; exact List.mem_cons_of_mem _ (List.mem_cons_self ..))).2.1
          rcases List.mem_cons.mp hm with q | hm
          · exact h9 q
          · obtain ⟨q, hq, e'⟩ := List.mem_map.mp hm
            rcases List.mem_cons.mp hp with rfl | hp
            · exact (hpp' q hq).2 e'
            · rw [List.mem_singleton.mp hp] at e'
              exact (hpp' q hq).1 e'
        refine note_new (s := { s with heap := h', toks := tk' }) (news := [(pU, W.listOf us.toArray nU), (pM, W.listOf ms.toArray nM)]) rfl (Fs.up SU) hx Fx N' hap (fun h2 frs₂ SU₂ Fs₂ H2 => ?_) rfl
        clear F' N' Fx hap hx
        refine Hd.came (s := { s with heap := h2, toks := tk' }) H2 fun h3 H3 => ?_
        refine Hd.again (s := { s with heap := h3, toks := tk' }) H3 ?_
        refine ⟨ref_ne_byPass _, Hd.again (s := { s with heap := h3, toks := tk' }) H3 ?_⟩
        refine H3.flight (s := { s with heap := h3, toks := tk' }) none rfl fun h6 H6 => ?_
        clear H2 H3
        obtain ⟨F6, ob, vs, tb, otb, tvs, N6, hc6, hd6, h16, h26, htd, h36, hte, hne⟩ := H6
        replace N6 : News hb L h6 ((e, ob) :: (tb, otb) :: (pU, W.listOf us.toArray nU) :: (pM, W.listOf ms.toArray nM) :: frs₂) := N6
        by_cases hin2' : j + 1 < n2.length
        · have hinc2 := incr hs2 hin2'
          k_steps
          refine wh_once ?_
          k_steps
          · show _ = _
            exact beq_eq_false_iff_ne.mpr (by omega)
          · rename Fr _ _ _ _ => F''
            rename News _ _ _ _ => N''
            dsimp only
            refine Hd.pass (c := .none) (fl := .none) (news := (pU, W.listOf us.toArray nU) :: (pM, W.listOf ms.toArray nM) :: frs₂) ⟨frEq F'' (sldMap_ext (i := ((i + 1 : Nat) : Int)) (j := ((j + 1 : Nat) : Int)) rfl rfl rfl rfl rfl rfl rfl rfl (fun y e1 e2 e3 e4 e5 e6 e7 e8 => by simp only [sldMap, if_neg e1, if_neg e2, if_neg e3, if_neg e4, if_neg e5, if_neg e6, if_neg e7, if_neg e8])), ob, vs, tb, otb, tvs, N'', hc6, hd6, h16, h26, htd, h36, hte, hne⟩ fun h9 H9 => ?_
            have ho := sd_out1 (List.drop_eq_nil_of_le (by omega)) hs
            exact ⟨e, h9, _, i + 1, j + 1, M, U, .none, rfl, rfl, Or.inr ⟨_, _, _, _, ms, us, nM, nU, frs₂, SU.trans SU₂, hiM, hiU, H9⟩, ho.1, ho.2, by omega, by omega, by omega, by omega⟩
        · k_steps
          refine wh_once ?_
          k_steps
          rename Fr _ _ _ _ => F''
          rename News _ _ _ _ => N''
          refine item_out (Or.inr ⟨e, ob, vs, rfl, (N'' _ (List.mem_cons_self ..)).1, hd6, h26⟩) (hl2.at fun o e => F''.keep _ _ e) (by rw [List.size_toArray, hi2.length]; omega) (by omega) ?_
          intro h' tk' e' c' hc' hx'
          refine SldX.pass rfl Fs hpp rfl (fun _ _ h => SldX.pass rfl Fs hpp rfl (fun _ _ h => h) h) ?_
          have ho := sd_out1 (List.drop_eq_nil_of_le (by omega)) hs
          exact ⟨e', h', tk', i + 1, j + 1, M, U, c', rfl, rfl, Or.inl ⟨_, _, _, hx', _, _, ms, us, nM, nU, frs₂, SU.trans SU₂, hiM, hiU, frEq F'' (sldMap_ext rfl rfl rfl rfl rfl rfl rfl rfl (fun y e1 e2 e3 e4 e5 e6 e7 e8 => by simp only [sldMap, if_neg e1, if_neg e2, if_neg e3, if_neg e4, if_neg e5, if_neg e6, if_neg e7, if_neg e8])), news_sub N'' fun p hp => List.mem_cons_of_mem _ (List.mem_cons_of_mem _ hp)⟩, ho.1, ho.2, by omega, by omega, by omega, by omega⟩
end Mine
end
section
open PySem PySem.W PyProof.Rows PySem.Calls
open PyProof.Rows.TI (Frs SameUp gone gone_get gone_none gone_some none_of base_apart)
set_option Elab.async false
namespace Mine
section
variable {prog : Program} {w : World} {A : Around} {s : Shared} {R : Result → Shared → Prop} {body orelse : List Stmt} {env : Env} {h₀ : Heap} {m : Str → Option Value} {news : List (Addr × Obj)}
def MadeM (h₀ : Heap) (L I la : Addr) (ola : Obj) (J : Nat → (Str → Option Value) → List (Addr × Obj) → Prop) (s : Shared) (i : Nat) (s₁ : Shared) : Prop :=
  ∃ h tk o m news₁, s₁ = { s with heap := h, toks := tk } ∧ ItAt o la i ∧ Fr h₀ L h m ∧ News h₀ L h ((I, o) :: (la, ola) :: news₁) ∧ (∀ p ∈ (la, ola) :: news₁, p.1 ≠ I) ∧ J i m news₁
/-- for x in a list of the ledger; names and ledger by an invariant -/
theorem for_madeM {I la : Addr} {its : List Value} {nl : Nat} {o : Obj} {x : Str} {px : Pos} (hh : A.handled = none) (J : Nat → (Str → Option Value) → List (Addr × Obj) → Prop) (F : Fr h₀ env.locals s.heap m) (N : News h₀ env.locals s.heap ((I, o) :: (la, W.listOf its.toArray nl) :: news)) (ho : ItAt o la 0)
    (hI : ∀ p ∈ (la, W.listOf its.toArray nl) :: news, p.1 ≠ I) (j0 : J 0 m news)
    (step : ∀ i v h tk o m news₁, its[i]? = some v → ItAt o la (i + 1) → J i m news₁ → (∀ p ∈ (la, W.listOf its.toArray nl) :: news₁, p.1 ≠ I) → Fr h₀ env.locals h m → News h₀ env.locals h ((I, o) :: (la, W.listOf its.toArray nl) :: news₁) →
      wpAny (model prog w) A (assign (.Name x px) env v) (fun _ s₂ => wpAny (model prog w) A (execs body env) (TEnd R (MadeM h₀ env.locals I la (W.listOf its.toArray nl) J s (i + 1))) (notedBy (model prog w) A env fun e s' => R (.error e) s') s₂) (notedBy (model prog w) A env fun e s' => R (.error e) s') { s with heap := h, toks := tk })
    (done : ∀ h tk m news₁, J its.length m news₁ → Fr h₀ env.locals h m → News h₀ env.locals h ((la, W.listOf its.toArray nl) :: news₁) → wpAny (model prog w) A (execs orelse env) (fun f s₃ => R (.ok f) s₃) (notedBy (model prog w) A env fun e s' => R (.error e) s') { s with heap := h, toks := tk }) :
    codeAny (model prog w) A (.forLoop (.Name x px) (.ref I) body orelse env) R s := by
  have key : ∀ (k i : Nat) (s₁ : Shared), i + k = its.length → MadeM h₀ env.locals I la (W.listOf its.toArray nl) J s i s₁ → codeAny (model prog w) A (.forLoop (.Name x px) (.ref I) body orelse env) R s₁ := by
    intro k
    induction k with
    | zero =>
      rintro i s₁ hi ⟨h, tk, o₁, m₁, news₁, rfl, ho₁, F₁, N₁, hI₁, hJ⟩
      have e : i = its.length := by omega
      subst e
      exact for_end hh F₁ N₁ ho₁ (List.mem_cons_self ..) hI₁ (by simp) fun h' F' N' => done h' tk m₁ news₁ hJ F' N'
    | succ k ih =>
      rintro i s₁ hi ⟨h, tk, o₁, m₁, news₁, rfl, ho₁, F₁, N₁, hI₁, hJ⟩
      have hlt : i < its.length := by omega
      refine for_item F₁ N₁ ho₁ (List.mem_cons_self ..) hI₁ (List.getElem?_eq_getElem hlt) fun h' o' ho' F' N' => ?_
      refine wpAny_mono (step i _ h' tk o' m₁ news₁ (List.getElem?_eq_getElem hlt) ho' hJ hI₁ F' N') (fun _ s₂ h₂ => wpAny_mono h₂ (fun f s₃ hf => ?_) fun _ _ e => e) fun _ _ e => e
      cases f with
      | next => exact ih (i + 1) s₃ (by omega) hf
      | cont => exact ih (i + 1) s₃ (by omega) hf
      | brk => exact hf
      | ret v => exact hf
  exact key its.length 0 s (by omega) ⟨s.heap, s.toks, o, m, news, rfl, ho, F, N, hI, j0⟩
end
theorem gone_size (h : Heap) : ∀ l, (gone h l).objs.size = h.objs.size
  | [] => rfl
  | a :: l => by
    show ((gone h l).update a _).objs.size = _
    rw [Heap.size_update]
    exact gone_size h l
/-- sorted_list_difference called from a frame whose ledger is at hand -/
theorem sld_in (w : World) (mean : ExcName → Option Value) (mg mb : Str → Option Value) {hb : Heap} {L a : Addr} {m : Str → Option Value} {name : Str} {scope : Scope} {cd : Value} {news frs : List (Addr × Obj)} {d1 d2 : Addr} {v1 v2 : List Value} {k1 k2 : Nat} {n1 n2 : List Int} {dp un gd fr} {s : Shared} {Q E : Value → Shared → Prop}
    (X : (Mine.hd.heap_39 w.params).In hb) (T : TopRead Mine.hd.view_39 (looseW Mine.hd.view_39 [Str.ofString "_filemode_table"]) mg mb hb)
    (F : Fr hb L s.heap m) (N : News hb L s.heap (news ++ frs)) (hap : ∀ p ∈ news, p.1 ∉ frs.map (·.1)) (Fs : Frs fr frs) (hd : dp + 6 < recursionLimit) (hu : un + 53 < cLine)
    (h1 : (d1, W.listOf v1.toArray k1) ∈ news) (h2 : (d2, W.listOf v2.toArray k2) ∈ news) (hi1 : IntsAre v1 n1) (hi2 : IntsAre v2 n2) (hlen1 : n1.length ≤ 8) (hlen2 : n2.length ≤ 8) (hs1 : n1.Pairwise (· < ·)) (hs2 : n2.Pairwise (· < ·))
    (hQ : ∀ pT pM pU ms us nM nU frs' h' tk', Fr hb L h' m → News hb L h' ((pT, { cls := Value.type "tuple", data := Data.seq #[Value.ref pM, Value.ref pU] }) :: (pM, W.listOf (List.toArray ms) nM) :: (pU, W.listOf (List.toArray us) nU) :: (news ++ frs')) → IntsAre ms (sdiff n1 n2).1 → IntsAre us (sdiff n1 n2).2 → SameUp frs frs' → Q (.ref pT) { s with heap := h', toks := tk' })
    (hk : scope.kind = .function := by rfl) :
    wpAny (model PySem.Challenge.rw_oc0090_01.row.prog w) ((AT dp un gd fr).deeper (envOf name scope L a cd)) (call (.ref 116) [.ref d1, .ref d2]) Q E s := by
  obtain ⟨oL, es, ep, hL, hLd, hLr⟩ := id F.ns
  have hapL : ∀ p ∈ news, p.1 ∉ L :: frs.map (·.1) := fun p hp hm => by
    rcases List.mem_cons.mp hm with q | hm
    · exact (N p (List.mem_append_left _ hp)).2.1 q
    · exact hap p hp hm
  have hkb : Keep hb (gone s.heap (L :: frs.map (·.1))) := fun b o e => (gone_get (base_apart F N (fun _ hp => List.mem_append_right _ hp) e)).trans (F.keep b o e)
  have hat : ∀ p ∈ news, (gone s.heap (L :: frs.map (·.1))).get? p.1 = some p.2 := fun p hp => (gone_get (hapL p hp)).trans (N p (List.mem_append_left _ hp)).1
  have hfr : Frs (envOf name scope L a cd :: fr) ((L, oL) :: frs) := ⟨by show scope.kind ≠ _; rw [hk]; decide, rfl, ⟨es, ep, hLd⟩, Fs⟩
  refine sld_c w mean mg mb (gone s.heap (L :: frs.map (·.1))) ((L, oL) :: frs) d1 d2 v1 v2 n1 n2 hi1 hi2 hlen1 hlen2 hs1 hs2 (dp := dp + 1) (un := un + 3) (gd := gd) (fr := envOf name scope L a cd :: fr) (by omega) (by omega) ⟨_, hat _ h1, rfl, k1, rfl⟩ ⟨_, hat _ h2, rfl, k2, rfl⟩ (fun b o e => (gone_some e).2) (Nat.le_of_eq (gone_size _ _)) ?_ hfr (T.nolimit.keeps F.keep) (X.keeps hkb) (T.keeps hkb) ?_
  · intro p hp
    rcases List.mem_cons.mp hp with rfl | hp
    · exact ⟨hL, gone_none (List.mem_cons_self ..)⟩
    · exact ⟨(N p (List.mem_append_right _ hp)).1, gone_none (List.mem_cons_of_mem _ (List.mem_map_of_mem hp))⟩
  · intro pT pM pU ms us nM nU frs' h' tk' hkeep hT hM hU iM iU hfresh hne hdist SU hfr'
    cases frs' with
    | nil => exact False.elim SU
    | cons q frs₂ =>
      obtain ⟨hq1, ⟨sl, hq2⟩, SU'⟩ := SU
      have hL' := hfr' q (List.mem_cons_self ..)
      rw [hq1, hq2] at hL'
      have hnL := hne (L, oL) (List.mem_cons_self ..)
      refine hQ pT pM pU ms us nM nU frs₂ h' tk' ⟨⟨_, es, ep, hL', hLd, hLr⟩, fun b o e => hkeep b o (hkb b o e), F.above⟩ ?_ iM iU SU'
      intro p hp
      simp only [List.mem_cons, List.mem_append] at hp
      rcases hp with rfl | rfl | rfl | hp | hp
      · exact ⟨hT, Ne.symm hnL.1, none_of hkb hfresh.1⟩
      · exact ⟨hM, Ne.symm hnL.2.1, none_of hkb hfresh.2.1⟩
      · exact ⟨hU, Ne.symm hnL.2.2, none_of hkb hfresh.2.2⟩
      · exact ⟨hkeep _ _ (hat p hp), (N p (List.mem_append_left _ hp)).2⟩
      · obtain ⟨r, hr, e⟩ := SU'.fwd p hp
        have := N r (List.mem_append_right _ hr)
        exact ⟨hfr' p (List.mem_cons_of_mem _ hp), by rw [e]; exact this.2.1, by rw [e]; exact this.2.2⟩
end Mine
end
section
open PySem PySem.W PyProof.Rows PySem.Calls
open PyProof.Rows.TI (Frs SameUp gone gone_get gone_none gone_some none_of base_apart)
set_option Elab.async false
namespace Mine
theorem BitLists.at {ns : List Int} {bs : List Int} {ds : List Addr} {qs : List (Addr × Obj)} (h : BitLists ns bs ds qs) : ∀ {i : Nat} {d : Addr}, ds[i]? = some d → ∃ b ys, bs[i]? = some b ∧ IntsAre ys (bitIdx ns b) ∧ (d, LCg.lst ys) ∈ qs := by
  induction h with
  | nil => intro i d e; simp at e
  | @cons b bs d' ds ys qs hy _ ih =>
    intro i d e
    cases i with
    | zero =>
      simp only [List.getElem?_cons_zero, Option.some.injEq] at e
      subst e
      exact ⟨b, ys, rfl, hy, List.mem_cons_self ..⟩
    | succ i =>
      simp only [List.getElem?_cons_succ] at e
      obtain ⟨b', ys', e1, e2, e3⟩ := ih e
      exact ⟨b', ys', by simpa using e1, e2, List.mem_cons_of_mem _ e3⟩
theorem bitIdx_eq (ns : List Int) (b : Int) : bitIdx ns b = (rangeKs 0 ns.length).filter fun k => bitOn (ns.getD k.toNat 0) b := by
  have key : ∀ (ks l : List Int), ks.foldl (bitStep ns b) l = l ++ ks.filter fun k => bitOn (ns.getD k.toNat 0) b := by
    intro ks
    induction ks with
    | nil => intro l; simp
    | cons k ks ih =>
      intro l
      rw [List.foldl_cons, ih]
      unfold bitStep
      by_cases h : bitOn (ns.getD k.toNat 0) b = true
      · rw [if_pos h, List.filter_cons, if_pos h, List.append_assoc]; rfl
      · rw [if_neg h, List.filter_cons, if_neg h]
  unfold bitIdx
  rw [key, List.nil_append]
theorem bitIdx_grows (ns : List Int) (b : Int) : (bitIdx ns b).Pairwise (· < ·) := by
  rw [bitIdx_eq]
  refine List.Pairwise.filter _ ?_
  unfold rangeKs
  rw [List.pairwise_map]
  refine List.Pairwise.imp ?_ List.pairwise_lt_range
  intro a b h
  omega
theorem bitIdx_len (ns : List Int) (b : Int) : (bitIdx ns b).length ≤ ns.length := by
  rw [bitIdx_eq]
  refine Nat.le_trans (List.length_filter_le _ _) ?_
  rw [rangeKs_length]
  exact Nat.le_refl _
def pairM (ns : List Int) (b1 b2 : Int) : Int := (ns.length : Int) * ((bitIdx ns b1).length - (sdiff (bitIdx ns b1) (bitIdx ns b2)).1.length) - (bitIdx ns b1).length * (bitIdx ns b2).length
def pairU (ns : List Int) (b1 b2 : Int) : Int := (ns.length : Int) * ((bitIdx ns b2).length - (sdiff (bitIdx ns b1) (bitIdx ns b2)).2.length) - (bitIdx ns b1).length * (bitIdx ns b2).length
def rowM (ns : List Int) (bs : List Int) (b1 : Int) : Int := (bs.map (pairM ns b1)).sum
def rowU (ns : List Int) (bs : List Int) (b1 : Int) : Int := (bs.map (pairU ns b1)).sum
abbrev smMap (l : Addr) (part other : Int) (tp tq : Tok) (a b : Int) (ta tb : Tok) (fi se mi un : Option Value) : Str → Option Value := fun y =>
  if y = Str.ofString "by_missing" then some (.int a ta) else if y = Str.ofString "by_unexpected" then some (.int b tb) else if y = Str.ofString "first" then fi else if y = Str.ofString "second" then se
  else if y = Str.ofString "missing" then mi else if y = Str.ofString "unexpected" then un else if y = Str.ofString "other" then some (.int other tq) else if y = Str.ofString "part" then some (.int part tp) else if y = Str.ofString "files" then some (.ref l) else none
theorem smMap_ext {l : Addr} {part other : Int} {tp tq : Tok} {a b : Int} {ta tb : Tok} {fi se mi un : Option Value} {m : Str → Option Value} (h1 : m (Str.ofString "by_missing") = some (.int a ta)) (h2 : m (Str.ofString "by_unexpected") = some (.int b tb)) (h3 : m (Str.ofString "first") = fi) (h4 : m (Str.ofString "second") = se)
    (h5 : m (Str.ofString "missing") = mi) (h6 : m (Str.ofString "unexpected") = un) (h7 : m (Str.ofString "other") = some (.int other tq)) (h8 : m (Str.ofString "part") = some (.int part tp)) (h9 : m (Str.ofString "files") = some (.ref l))
    (hr : ∀ y, y ≠ Str.ofString "by_missing" → y ≠ Str.ofString "by_unexpected" → y ≠ Str.ofString "first" → y ≠ Str.ofString "second" → y ≠ Str.ofString "missing" → y ≠ Str.ofString "unexpected" → y ≠ Str.ofString "other" → y ≠ Str.ofString "part" → y ≠ Str.ofString "files" → m y = none) : m = smMap l part other tp tq a b ta tb fi se mi un := by
  funext y
  by_cases e1 : y = Str.ofString "by_missing"; · subst e1; exact h1
  by_cases e2 : y = Str.ofString "by_unexpected"; · subst e2; exact h2
  by_cases e3 : y = Str.ofString "first"; · subst e3; exact h3
  by_cases e4 : y = Str.ofString "second"; · subst e4; exact h4
  by_cases e5 : y = Str.ofString "missing"; · subst e5; exact h5
  by_cases e6 : y = Str.ofString "unexpected"; · subst e6; exact h6
  by_cases e7 : y = Str.ofString "other"; · subst e7; exact h7
  by_cases e8 : y = Str.ofString "part"; · subst e8; exact h8
  by_cases e9 : y = Str.ofString "files"; · subst e9; exact h9
  rw [hr y e1 e2 e3 e4 e5 e6 e7 e8 e9]
  simp only [smMap, if_neg e1, if_neg e2, if_neg e3, if_neg e4, if_neg e5, if_neg e6, if_neg e7, if_neg e8, if_neg e9]
theorem lists_in (w : World) (mean : ExcName → Option Value) (mg mb : Str → Option Value) {hb : Heap} {L : Addr} {m : Str → Option Value} {env : Env} {nw : List (Addr × Obj)} {l : Addr} {vs : List Value} {ns : List Int} {part : Int} {t : Tok} {dp un gd fr} {s : Shared} {Q E : Value → Shared → Prop}
    (X : (Mine.hd.heap_39 w.params).In hb) (T : TopRead Mine.hd.view_39 (looseW Mine.hd.view_39 [Str.ofString "_filemode_table"]) mg mb hb) (hi : IntsAre vs ns) (hlen : ns.length ≤ 8) (hp0 : 0 ≤ part) (hp2 : part ≤ 2) (hl : hb.IsList l vs.toArray)
    (F : Fr hb L s.heap m) (N : News hb L s.heap nw) (hd : dp + 6 < recursionLimit) (hu : un + 53 < cLine)
    (hQ : ∀ D nD ds made h' tk', Fr hb L h' m → News hb L h' ((D, W.listOf (List.toArray (List.map Value.ref ds)) nD) :: (made ++ nw)) → BitLists ns (partBits part) ds made → (∀ p ∈ (D, W.listOf (List.toArray (List.map Value.ref ds)) nD) :: made, p.1 ∉ nw.map (·.1)) → Q (.ref D) { s with heap := h', toks := tk' }) :
    wpAny (model PySem.Challenge.rw_oc0090_01.row.prog w) ((AT dp un gd fr).deeper env) (call (.ref 133) [.ref l, .int part t]) Q E s := by
  refine lists_c w mean mg mb l vs ns hi hlen part t hp0 hp2 (dp := dp + 1) (un := un + 3) (gd := gd) (fr := env :: fr) (by omega) (by omega) (hl.at fun o e => F.keep _ _ e) (X.keeps F.keep) (T.keeps F.keep) ?_
  intro D nD ds made h2 tk2 hk2 hDf hD hBL hmade
  have fresh : ∀ {d : Addr}, s.heap.get? d = none → d ≠ L ∧ hb.get? d = none := by
    intro d hn
    refine ⟨fun e => ?_, none_of F.keep hn⟩
    obtain ⟨oL, _, _, hL, _⟩ := F.ns
    rw [e, hL] at hn
    cases hn
  have off : ∀ {d : Addr}, s.heap.get? d = none → d ∉ nw.map (·.1) := by
    intro d hn hm
    obtain ⟨q, hq, e⟩ := List.mem_map.mp hm
    have := (N q hq).1
    rw [show q.1 = d from e, hn] at this
    cases this
  refine hQ D nD ds made h2 tk2 (frKeep F hk2) ?_ hBL ?_
  · intro p hp
    rcases List.mem_cons.mp hp with rfl | hp
    · exact ⟨hD, fresh hDf⟩
    · rcases List.mem_append.mp hp with hp | hp
      · exact ⟨(hmade p hp).1, fresh (hmade p hp).2⟩
      · exact newsKeep N hk2 p hp
  · intro p hp
    rcases List.mem_cons.mp hp with rfl | hp
    · exact off hDf
    · exact off (hmade p hp).2
theorem sameAddr : ∀ {a b : List (Addr × Obj)}, SameUp a b → b.map (·.1) = a.map (·.1)
  | [], [], _ => rfl
  | p :: a, q :: b, h => by
    rw [List.map_cons, List.map_cons, sameAddr h.2.2, show q.1 = p.1 from h.1]
  | [], _ :: _, h => False.elim h
  | _ :: _, [], h => False.elim h
theorem sdiff_len (xs ys : List Int) : (sdiff xs ys).1.length ≤ xs.length ∧ (sdiff xs ys).2.length ≤ ys.length := by
  induction xs, ys using sdiff.induct with
  | case1 ys => rw [sdiff_nil1]; exact ⟨Nat.le_refl _, Nat.le_refl _⟩
  | case2 x xs => rw [sdiff_nil2]; exact ⟨Nat.le_refl _, Nat.le_refl _⟩
  | case3 x xs y ys h ih => rw [sdiff_lt h]; exact ⟨Nat.succ_le_succ ih.1, ih.2⟩
  | case4 x xs y ys h h' ih => rw [sdiff_gt h']; exact ⟨ih.1, Nat.succ_le_succ ih.2⟩
  | case5 x xs y ys h h' ih =>
    have e : x = y := by omega
    subst e
    rw [sdiff_eq]
    exact ⟨Nat.le_trans ih.1 (Nat.le_succ _), Nat.le_trans ih.2 (Nat.le_succ _)⟩
theorem rowM_succ {ns bs : List Int} {k : Nat} {b1 b2 : Int} (h : bs[k]? = some b2) : rowM ns (bs.take (k + 1)) b1 = rowM ns (bs.take k) b1 + pairM ns b1 b2 := by
  unfold rowM
  rw [List.take_add_one, h, List.map_append, List.sum_append]
  simp
theorem rowU_succ {ns bs : List Int} {k : Nat} {b1 b2 : Int} (h : bs[k]? = some b2) : rowU ns (bs.take (k + 1)) b1 = rowU ns (bs.take k) b1 + pairU ns b1 b2 := by
  unfold rowU
  rw [List.take_add_one, h, List.map_append, List.sum_append]
  simp
theorem sum_succ {f : Int → Int} {bs : List Int} {k : Nat} {b : Int} (h : bs[k]? = some b) : ((bs.take (k + 1)).map f).sum = ((bs.take k).map f).sum + f b := by
  rw [List.take_add_one, h, List.map_append, List.sum_append]
  simp
end Mine
end
section
open PySem PySem.W PyProof.Rows PySem.Calls
open PyProof.Rows.TI (Frs SameUp gone gone_get gone_none gone_some none_of base_apart)
set_option Elab.async false
set_option linter.unusedSimpArgs false
namespace Mine
local macro_rules | `(tactic| walk_at "exec For") => `(tactic| refine hold ?_)
local macro_rules | `(tactic| walk_at "exec For Name Call cons nil") => `(tactic| refine hold ?_)
local macro_rules | `(tactic| walk_at "call ref") => `(tactic| refine hold ?_)
local macro_rules | `(tactic| walk_at "pyIter ref") => `(tactic| refine hold ?_)
set_option maxRecDepth 100000 in
set_option maxHeartbeats 1600000 in
theorem sums_c (w : World) (mean : ExcName → Option Value) (mg mb : Str → Option Value) (hb : Heap) (frs : List (Addr × Obj)) (l : Addr) (vs : List Value) (ns : List Int) (hi : IntsAre vs ns) (hlen : ns.length ≤ 8) (part other : Int) (tp tq : Tok) (hp0 : 0 ≤ part) (hp2 : part ≤ 2) (hq0 : 0 ≤ other) (hq2 : other ≤ 2) {dp un gd fr} {s : Shared}
   (hd : dp + 8 < recursionLimit) (hu : un + 60 < cLine) (hl : hb.IsList l vs.toArray)
   (hsub : Keep hb s.heap) (hsz : hb.objs.size ≤ s.heap.objs.size) (hfrs : ∀ p ∈ frs, s.heap.get? p.1 = some p.2 ∧ hb.get? p.1 = none) (Fs : Frs fr frs) (hlim : s.heap.NoLimit)
   (X : (Mine.hd.heap_39 w.params).In hb) (T : TopRead Mine.hd.view_39 (looseW Mine.hd.view_39 [Str.ofString "_filemode_table"]) mg mb hb) {Q E : Value → Shared → Prop}
   (hQ : ∀ pT t1 t2 frs' h' tk', Keep hb h' → h'.get? pT = some { cls := Value.type "tuple", data := Data.seq #[.int (((partBits part).map (rowM ns (partBits other))).sum) t1, .int (((partBits part).map (rowU ns (partBits other))).sum) t2] } → hb.get? pT = none → (∀ p ∈ frs, @Ne Nat p.1 pT) → SameUp frs frs' → (∀ p ∈ frs', h'.get? p.1 = some p.2) → Q (.ref pT) {s with heap := h', toks := tk'}) :
   wpAny (model PySem.Challenge.rw_oc0090_01.row.prog w) (AT dp un gd fr) (call (.ref 140) [.ref l, .int part tp, .int other tq]) Q E s := by
  w_on
  revert X
  k_fill
  intro X
  refine wpAny_call ?_
  k_dflt (refine' enterB (hb := hb) (frs := frs) [(Str.ofString "files", .ref l), (Str.ofString "part", .int part tp), (Str.ofString "other", .int other tq)] _ (lookup3 _ _ _ _ _ _) X hlim hsub hsz hfrs ?k6 ?k7 ?k8 ?k9 ?kB ?_ ?c2 ?c3 ?c4 ?c5; (case k6 => k_is); (case k7 => k_is); (case k8 => ktr_room); (case k9 => exact BindsTo.of_eq rfl); (case c5 => decide); (case kB => exact locs rfl); (case c2 => exact rfl); (case c3 => exact rfl); (case c4 => exact rfl); k_whole)
  intro h₁ L hLe hfL F N
  clear hfrs hsub hsz hlim
  k_steps
  rename Fr _ _ _ _ => F'
  rename News _ _ _ _ => N'
  have F₀ := frEq F' (smMap_ext (fi := none) (se := none) (mi := none) (un := none) rfl rfl rfl rfl rfl rfl rfl rfl rfl (fun y e1 e2 e3 e4 e5 e6 e7 e8 e9 => by simp only [smMap, if_neg e1, if_neg e2, if_neg e3, if_neg e4, if_neg e5, if_neg e6, if_neg e7, if_neg e8, if_neg e9]))
  clear F'
  refine wpAny_For ?_
  k_steps
  refine lists_in w mean mg mb X T hi hlen hp0 hp2 hl F₀ N' (by omega) (by omega) ?_
  clear F₀ N'
  intro D nD ds made h2 tk2 F2 N2 hBL hoff
  dsimp only
  refine iter_made F2 N2 (List.mem_cons_self ..) ?_
  intro I h3 oI hoI hI F3 N3
  clear F2 N2
  refine for_madeM rfl (fun i m₁ news₁ => ∃ fi se mi un a b ta tb frs', m₁ = smMap l part other tp tq a b ta tb fi se mi un ∧ a = (((partBits part).take i).map (rowM ns (partBits other))).sum ∧ b = (((partBits part).take i).map (rowU ns (partBits other))).sum ∧ news₁ = made ++ frs' ∧ SameUp frs frs')
    F3 N3 hoI (fun q hq => Nat.ne_of_lt (hI q hq)) ⟨none, none, none, none, 0, 0, _, _, frs, rfl, rfl, rfl, rfl, SameUp.refl _⟩ ?_ ?_
  · clear F3 N3 hoI
    rintro i v h4 tk4 o4 m₁ news₁ hv ho4 ⟨fi, se, mi, un₁, a, b, ta, tb, frs', rfl, ha, hb₁, rfl, SU⟩ hIe F4 N4
    obtain ⟨d1, hd1, rfl⟩ : ∃ d, ds[i]? = some d ∧ v = .ref d := by
      rw [List.getElem?_map] at hv
      cases hq : ds[i]? with
      | none => rw [hq] at hv; cases hv
      | some d => rw [hq] at hv; exact ⟨d, rfl, (Option.some.inj hv).symm⟩
    obtain ⟨b1, ys1, hb1, hy1, hm1⟩ := hBL.at hd1
    replace F4 : Fr hb L h4 _ := F4
    replace N4 : News hb L h4 ((I, o4) :: (D, W.listOf (List.toArray (List.map Value.ref ds)) nD) :: (made ++ frs')) := N4
    dsimp only
    k_steps
    rename Fr _ _ _ _ => F'
    rename News _ _ _ _ => N'
    have F5 := frEq F' (smMap_ext (fi := some (.ref d1)) (se := se) (mi := mi) (un := un₁) rfl rfl rfl rfl rfl rfl rfl rfl rfl (fun y e1 e2 e3 e4 e5 e6 e7 e8 e9 => by simp only [smMap, if_neg e1, if_neg e2, if_neg e3, if_neg e4, if_neg e5, if_neg e6, if_neg e7, if_neg e8, if_neg e9]))
    clear F'
    refine wpAny_For ?_
    k_steps
    refine lists_in w mean mg mb X T hi hlen hq0 hq2 hl F5 N' (by omega) (by omega) ?_
    clear F5 N'
    intro D2 nD2 ds2 made2 h6 tk6 F6 N6 hBL2 hoff2
    dsimp only
    refine iter_made F6 N6 (List.mem_cons_self ..) ?_
    intro I2 h7 oI2 hoI2 hI2 F7 N7
    clear F6 N6
    refine for_madeM rfl (fun k m₁ news₁ => ∃ se mi un a' b' ta tb frs'', m₁ = smMap l part other tp tq a' b' ta tb (some (.ref d1)) se mi un ∧ a' = a + rowM ns ((partBits other).take k) b1 ∧ b' = b + rowU ns ((partBits other).take k) b1 ∧ news₁ = made2 ++ (I, o4) :: (D, W.listOf (List.toArray (List.map Value.ref ds)) nD) :: (made ++ frs'') ∧ SameUp frs frs'')
      F7 N7 hoI2 (fun q hq => Nat.ne_of_lt (hI2 q hq)) ⟨se, mi, un₁, a, b, _, _, frs', rfl, (Int.add_zero _).symm, (Int.add_zero _).symm, rfl, SU⟩ ?_ ?_
    · have hS' := sameAddr SU
      clear F7 N7 hoI2
      rintro k v h8 tk8 o8 m₁ news₁ hv2 ho8 ⟨se', mi', un', a', b', ta', tb', frs'', rfl, ha', hb', rfl, SU'⟩ hIe2 F8 N8
      obtain ⟨d2, hd2, rfl⟩ : ∃ d, ds2[k]? = some d ∧ v = .ref d := by
        rw [List.getElem?_map] at hv2
        cases hq : ds2[k]? with
        | none => rw [hq] at hv2; cases hv2
        | some d => rw [hq] at hv2; exact ⟨d, rfl, (Option.some.inj hv2).symm⟩
      obtain ⟨b2, ys2, hb2, hy2, hm2⟩ := hBL2.at hd2
      have hS'' := sameAddr SU'
      have hb1l := bitIdx_len ns b1
      have hb2l := bitIdx_len ns b2
      have hy1l := hy1.length
      have hy2l := hy2.length
      obtain ⟨rest, hrest⟩ : ∃ rest, rest = (I2, o8) :: (D2, W.listOf (List.toArray (List.map Value.ref ds2)) nD2) :: (made2 ++ (I, o4) :: (D, W.listOf (List.toArray (List.map Value.ref ds)) nD) :: made) := ⟨_, rfl⟩
      have hall : ∀ p ∈ rest, p.1 ∉ frs''.map (·.1) := by
        rw [hrest, hS'']
        intro p hp
        simp only [List.mem_cons, List.mem_append] at hp
        rcases hp with rfl | rfl | hp | rfl | rfl | hp
        · intro hm
          rw [← hS'] at hm
          obtain ⟨q, hq, e⟩ := List.mem_map.mp hm
          have := hI2 q (by simp [hq])
          rw [show q.1 = I2 from e] at this
          exact Nat.lt_irrefl _ this
        · intro hm
          refine hoff2 _ (List.mem_cons_self ..) ?_
          rw [← hS'] at hm
          simp only [List.map_cons, List.map_append, List.mem_cons, List.mem_append]
          exact Or.inr (Or.inr (Or.inr hm))
        · intro hm
          refine hoff2 _ (List.mem_cons_of_mem _ hp) ?_
          rw [← hS'] at hm
          simp only [List.map_cons, List.map_append, List.mem_cons, List.mem_append]
          exact Or.inr (Or.inr (Or.inr hm))
        · intro hm
          obtain ⟨q, hq, e⟩ := List.mem_map.mp hm
          have := hI q (by simp [hq])
          rw [show q.1 = I from e] at this
          exact Nat.lt_irrefl _ this
        · exact hoff _ (List.mem_cons_self ..)
        · exact hoff _ (List.mem_cons_of_mem _ hp)
      have hr1 : (d1, LCg.lst ys1) ∈ rest := by rw [hrest]; simp [hm1]
      have hr2 : (d2, LCg.lst ys2) ∈ rest := by rw [hrest]; simp [hm2]
      replace F8 : Fr hb L h8 _ := F8
      replace N8 : News hb L h8 ((d1, LCg.lst ys1) :: (d2, LCg.lst ys2) :: (rest ++ frs'')) := by
        have N9 : News hb L h8 (rest ++ frs'') := by
          rw [hrest]
          refine news_sub N8 ?_
          intro q hq
          simp only [List.cons_append, List.append_assoc, List.mem_cons, List.mem_append] at hq ⊢
          rcases hq with h | h | h | h | h | h | h <;> simp [h]
        intro q hq
        rcases List.mem_cons.mp hq with rfl | hq
        · exact N9 _ (List.mem_append_left _ hr1)
        · rcases List.mem_cons.mp hq with rfl | hq
          · exact N9 _ (List.mem_append_left _ hr2)
          · exact N9 _ hq
      dsimp only
      k_steps
      rename Fr _ _ _ _ => F'
      rename News _ _ _ _ => N'
      have F9 := frEq F' (smMap_ext (fi := some (.ref d1)) (se := some (.ref d2)) (mi := mi') (un := un') rfl rfl rfl rfl rfl rfl rfl rfl rfl (fun y e1 e2 e3 e4 e5 e6 e7 e8 e9 => by simp only [smMap, if_neg e1, if_neg e2, if_neg e3, if_neg e4, if_neg e5, if_neg e6, if_neg e7, if_neg e8, if_neg e9]))
      clear F'
      refine sld_in w mean mg mb (news := (d1, LCg.lst ys1) :: (d2, LCg.lst ys2) :: rest) (frs := frs'') X T F9 N' ?_ (Fs.up SU') (by omega) (by omega) (List.mem_cons_self ..) (List.mem_cons_of_mem _ (List.mem_cons_self ..)) hy1 hy2 (by omega) (by omega) (bitIdx_grows ..) (bitIdx_grows ..) ?_
      · intro p hp
        rcases List.mem_cons.mp hp with rfl | hp
        · exact hall _ hr1
        · rcases List.mem_cons.mp hp with rfl | hp
          · exact hall _ hr2
          · exact hall _ hp
      clear F9 N'
      intro pT pM pU ms us nM nU frs3 h10 tk10 F10 N10 iM iU SU3
      replace N10 : News hb L h10 ((pT, { cls := Value.type "tuple", data := Data.seq #[Value.ref pM, Value.ref pU] }) :: (pM, W.listOf (List.toArray ms) nM) :: (pU, W.listOf (List.toArray us) nU) :: (d1, LCg.lst ys1) :: (d2, LCg.lst ys2) :: (rest ++ frs3)) := N10
      have hsl := sdiff_len (bitIdx ns b1) (bitIdx ns b2)
      obtain ⟨hsl1, hsl2⟩ := hsl
      have hml : (sdiff (bitIdx ns b1) (bitIdx ns b2)).1.length ≤ 8 := by omega
      have hul : (sdiff (bitIdx ns b1) (bitIdx ns b2)).2.length ≤ 8 := by omega
      have hml' := iM.length
      have hul' := iU.length
      dsimp only
      k_steps
      rename Fr _ _ _ _ => F'
      rename News _ _ _ _ => N'
      have F11 := frEq F' (smMap_ext rfl rfl rfl rfl rfl rfl rfl rfl rfl (fun y e1 e2 e3 e4 e5 e6 e7 e8 e9 => by simp only [smMap, if_neg e1, if_neg e2, if_neg e3, if_neg e4, if_neg e5, if_neg e6, if_neg e7, if_neg e8, if_neg e9]))
      clear F'
      refine ⟨_, _, o8, _, made2 ++ (I, o4) :: (D, W.listOf (List.toArray (List.map Value.ref ds)) nD) :: (made ++ frs3), rfl, ho8, F11, ?_, ?_, some (.ref d2), some (.ref pM), some (.ref pU), _, _, _, _, frs3, rfl, ?_, ?_, rfl, SU'.trans SU3⟩
      · rw [hrest] at N'
        refine news_sub N' ?_
        intro q hq
        simp only [List.cons_append, List.append_assoc, List.mem_cons, List.mem_append] at hq ⊢
        rcases hq with h | h | h | h | h | h | h <;> simp [h]
      · intro q hq
        simp only [List.mem_cons, List.mem_append] at hq
        rcases hq with h | h | h | h | h | h
        · exact hIe2 q (by simp [h])
        · exact hIe2 q (by simp [h])
        · exact hIe2 q (by simp [h])
        · exact hIe2 q (by simp [h])
        · exact hIe2 q (by simp [h])
        · obtain ⟨r, hr, e⟩ := SU3.fwd q h
          rw [e]
          exact hIe2 r (by simp [hr])
      · rw [ha', rowM_succ hb2, ← Int.add_assoc]; rfl
      · rw [hb', rowU_succ hb2, ← Int.add_assoc]; rfl
    · clear F7 N7 hoI2
      rintro h8 tk8 m₁ news₁ ⟨se', mi', un', a', b', ta', tb', frs'', rfl, ha', hb', rfl, SU'⟩ F8 N8
      have hl2 : (List.map Value.ref ds2).length = 4 := by rw [List.length_map, hBL2.len]; rfl
      rw [hl2] at ha' hb'
      replace ha' : a' = a + rowM ns (partBits other) b1 := ha'
      replace hb' : b' = b + rowU ns (partBits other) b1 := hb'
      replace F8 : Fr hb L h8 _ := F8
      replace N8 : News hb L h8 ((I, o4) :: (D, W.listOf (List.toArray (List.map Value.ref ds)) nD) :: (made ++ frs'')) := news_sub N8 fun q hq => by
        simp only [List.mem_cons, List.mem_append] at hq ⊢
        rcases hq with h | h | h | h <;> simp [h]
      dsimp only
      k_steps
      refine ⟨_, _, o4, _, made ++ frs'', rfl, ho4, F8, N8, ?_, some (.ref d1), se', mi', un', a', b', ta', tb', frs'', rfl, ?_, ?_, rfl, SU'⟩
      · intro q hq
        simp only [List.mem_cons, List.mem_append] at hq
        rcases hq with h | h | h
        · exact hIe q (by simp [h])
        · exact hIe q (by simp [h])
        · obtain ⟨r, hr, e⟩ := SU'.fwd q h
          obtain ⟨sl, hr'⟩ := SU.back r hr
          rw [e]
          have h9 := hIe (r.1, { r.2 with slots := sl }) (by simp [hr'])
          exact h9
      · rw [ha', ha, sum_succ hb1]
      · rw [hb', hb₁, sum_succ hb1]
  · clear F3 N3 hoI
    rintro h8 tk8 m₁ news₁ ⟨fi', se', mi', un', a', b', ta', tb', frs'', rfl, ha', hb', rfl, SU'⟩ F8 N8
    have hl1 : (List.map Value.ref ds).length = 4 := by rw [List.length_map, hBL.len]; rfl
    rw [hl1] at ha' hb'
    replace ha' : a' = ((partBits part).map (rowM ns (partBits other))).sum := ha'
    replace hb' : b' = ((partBits part).map (rowU ns (partBits other))).sum := hb'
    replace F8 : Fr hb L h8 _ := F8
    replace N8 : News hb L h8 frs'' := news_sub N8 fun q hq => List.mem_cons_of_mem _ (List.mem_append_right _ hq)
    dsimp only
    k_steps
    rename Fr _ _ _ _ => F9
    rename News _ _ _ _ => N9
    rename ∀ p ∈ frs'', p.1 < _ => hltT
    subst ha' hb'
    have g1 := N9 _ (List.mem_cons_self ..)
    refine hQ _ _ _ frs'' _ _ F9.keep g1.1 g1.2.2 (fun p hp => ?_) SU' fun p hp => (N9 p (List.mem_cons_of_mem _ hp)).1
    obtain ⟨sl, hq⟩ := SU'.back p hp
    have h9 := hltT _ hq
    exact Nat.ne_of_lt h9
end Mine
end
section
open PySem PySem.Float64
set_option Elab.async false
set_option exponentiation.threshold 3000
namespace Mine
theorem rep {j : Nat} (hj : j < 2 ^ 53) : ∃ t, V t = j * 2 ^ 1068 := by
  by_cases h0 : j = 0
  · subst h0
    exact ⟨0, by rw [V_zero, Nat.zero_mul]⟩
  · have hl : j.log2 < 53 := (Nat.log2_lt h0).mpr hj
    have h1 : 2 ^ j.log2 ≤ j := Nat.log2_self_le h0
    have h2 : j < 2 ^ (j.log2 + 1) := Nat.lt_log2_self
    refine ⟨(1068 - (52 - j.log2)) * 2 ^ 52 + j * 2 ^ (52 - j.log2), ?_⟩
    have e1 : 2 ^ 52 ≤ j * 2 ^ (52 - j.log2) := by
      have : 2 ^ 52 = 2 ^ j.log2 * 2 ^ (52 - j.log2) := by rw [← Nat.pow_add]; congr 1; omega
      rw [this]
      exact Nat.mul_le_mul_right _ h1
    have e2 : j * 2 ^ (52 - j.log2) ≤ 2 ^ 53 := by
      have : 2 ^ 53 = 2 ^ (j.log2 + 1) * 2 ^ (52 - j.log2) := by rw [← Nat.pow_add]; congr 1; omega
      rw [this]
      exact Nat.mul_le_mul_right _ (Nat.le_of_lt h2)
    rw [V_at e2 (Or.inl e1), Nat.mul_assoc, ← Nat.pow_add]
    congr 2
    omega
theorem notOver {j D : Nat} (hj : j < 2 ^ 53) (hD : 0 < D) : ¬ D * ((2 ^ 54 - 1) * 2 ^ 2045) ≤ 2 * (D * (j * 2 ^ 1068)) := by
  intro h
  have h1 : j * 2 ^ 1068 ≤ 2 ^ 53 * 2 ^ 1068 := Nat.mul_le_mul_right _ (Nat.le_of_lt hj)
  have h2 : 2 * (2 ^ 53 * 2 ^ 1068) < (2 ^ 54 - 1) * 2 ^ 2045 := by decide +kernel
  have h3 : 2 * (D * (j * 2 ^ 1068)) = D * (2 * (j * 2 ^ 1068)) := by rw [Nat.mul_left_comm]
  rw [h3] at h
  have h4 := Nat.le_of_mul_le_mul_left h hD
  have h5 := Nat.lt_of_lt_of_le h2 h4
  have h6 := Nat.lt_of_mul_lt_mul_left h5
  have h7 := Nat.lt_of_lt_of_le h6 h1
  exact Nat.lt_irrefl _ h7
/-- a rounded value that is representable is exact -/
theorem exact_of {r : UInt64} {neg : Bool} {W D j : Nat} (h : Right r neg W D) (hW : W = D * (j * 2 ^ 1068)) (hD : 0 < D) (hj : j < 2 ^ 53) : (∃ m e, decode r = .fin neg m e) ∧ val r = sgn neg (j * 2 ^ 1068) := by
  obtain ⟨t, rfl, hle, hiff, hn⟩ := h
  subst hW
  have hlt : t < infMag := Nat.lt_of_le_of_ne hle fun e => notOver hj hD (hiff.mp e)
  obtain ⟨t', ht'⟩ := rep hj
  have h1 := (hn hlt t').1
  rw [ht'] at h1
  have h2 : dist (D * (j * 2 ^ 1068)) (D * (j * 2 ^ 1068)) = 0 := by unfold dist; omega
  rw [h2] at h1
  have h3 : D * (j * 2 ^ 1068) = D * V t := by unfold dist at h1; omega
  have h4 : j * 2 ^ 1068 = V t := Nat.eq_of_mul_eq_mul_left hD h3
  obtain ⟨m, e, hd, _⟩ := decode_pack neg hlt
  exact ⟨⟨m, e, hd⟩, by rw [val_pack neg hlt, h4]⟩
theorem p1074 : (2 : Nat) ^ 1074 = 64 * 2 ^ 1068 := by decide +kernel
/-- a float that is k / 64 -/
def Ex (x : UInt64) (k : Int) : Prop := (∃ a m e, decode x = .fin a m e) ∧ val x = k * 2 ^ 1068
theorem sgn_of (z : Int) : sgn (decide (z < 0)) z.natAbs = z := by
  unfold sgn
  by_cases h : z < 0
  · rw [decide_eq_true h]; simp; omega
  · rw [decide_eq_false h]; simp; omega
theorem natAbs_sc (k : Int) : (k * 2 ^ 1068).natAbs = k.natAbs * 2 ^ 1068 := by
  rw [Int.natAbs_mul]
  congr 1
theorem Ex.zero (b : Bool) : Ex (Float64.zero b) 0 := by
  obtain ⟨m, e, hd, hv⟩ := decode_pack b (t := 0) (by decide)
  refine ⟨⟨b, m, e, hd⟩, ?_⟩
  rw [show Float64.zero b = pack b 0 from rfl, val_pack b (by decide), V_zero, Int.zero_mul]
  cases b <;> rfl
theorem Ex.neg {x : UInt64} {a : Int} (hx : Ex x a) : Ex (Float64.neg x) (-a) := by
  obtain ⟨⟨s, m, e, hd⟩, hv⟩ := hx
  exact ⟨⟨_, _, _, neg_decode hd⟩, by rw [neg_val hd, hv, Int.neg_mul]⟩
theorem Ex.add {x y : UInt64} {a b : Int} (hx : Ex x a) (hy : Ex y b) (h : (a + b).natAbs < 2 ^ 53) : Ex (Float64.add x y) (a + b) := by
  obtain ⟨⟨s, m, e, hd⟩, hv⟩ := hx
  obtain ⟨⟨s', m', e', hd'⟩, hv'⟩ := hy
  have hs : val x + val y = (a + b) * 2 ^ 1068 := by rw [hv, hv', Int.add_mul]
  obtain ⟨h0, h1⟩ := add_right hd hd'
  rw [hs] at h0 h1
  by_cases hz : (a + b) * 2 ^ 1068 = 0
  · rw [h0 hz]
    have := Ex.zero (s && s')
    have e : a + b = 0 := by
      rcases Int.mul_eq_zero.mp hz with h | h
      · exact h
      · exact absurd h (by decide +kernel)
    rw [e]
    exact this
  · obtain ⟨hd2, hv2⟩ := exact_of (h1 hz) (by rw [natAbs_sc, Nat.one_mul]) (by decide) h
    refine ⟨⟨_, hd2⟩, ?_⟩
    rw [hv2, ← natAbs_sc, sgn_of]
theorem Ex.sub {x y : UInt64} {a b : Int} (hx : Ex x a) (hy : Ex y b) (h : (a - b).natAbs < 2 ^ 53) : Ex (Float64.sub x y) (a - b) := by
  rw [Int.sub_eq_add_neg] at h ⊢
  unfold Float64.sub
  exact hx.add hy.neg h
theorem Ex.ofInt {i : Int} (h : i.natAbs < 2 ^ 40) : Ex (Float64.ofInt i) (i * 64) := by
  obtain ⟨hd, hv⟩ := exact_of (j := i.natAbs * 64) (ofInt_right i) (by rw [Nat.one_mul, Nat.mul_assoc, ← p1074]) (by decide) (by omega)
  refine ⟨⟨_, hd⟩, ?_⟩
  rw [hv, show i.natAbs * 64 = (i * 64).natAbs from by rw [Int.natAbs_mul]; rfl, ← natAbs_sc]
  have e : decide (i < 0) = decide (i * 64 * 2 ^ 1068 < 0) := by
    have hp : (0 : Int) < 64 * 2 ^ 1068 := by decide +kernel
    rw [Int.mul_assoc]
    by_cases h : i < 0
    · rw [decide_eq_true h, decide_eq_true (Int.mul_neg_of_neg_of_pos h hp)]
    · rw [decide_eq_false h, decide_eq_false (Int.not_lt.mpr (Int.mul_nonneg (Int.not_lt.mp h) (Int.le_of_lt hp)))]
  rw [e, sgn_of]
theorem sgn_val {x : UInt64} {s : Bool} {m : Nat} {e : Int} (h : decode x = .fin s m e) : val x = sgn s (val x).natAbs := by
  rw [val_natAbs h, val_eq h]
theorem sgn_xor (a b : Bool) (m k : Nat) : sgn (a != b) (m * k) = sgn a m * sgn b k := by
  unfold sgn
  cases a <;> cases b <;> simp [Int.neg_mul, Int.mul_neg]
theorem pMul : (2 : Int) ^ 1068 * 2 ^ 1068 * 64 = 2 ^ 1068 * 2 ^ 1074 := by decide +kernel
/-- a / 8 by b / 8 -/
theorem Ex.mul {x y : UInt64} {a b : Int} (hx : Ex x (8 * a)) (hy : Ex y (8 * b)) (h : (a * b).natAbs < 2 ^ 53) : Ex (Float64.mul x y) (a * b) := by
  obtain ⟨⟨s, m, e, hd⟩, hv⟩ := hx
  obtain ⟨⟨s', m', e', hd'⟩, hv'⟩ := hy
  have hp : val x * val y = a * b * 2 ^ 1068 * 2 ^ 1074 := by
    rw [hv, hv']
    have : 8 * a * 2 ^ 1068 * (8 * b * 2 ^ 1068) = a * b * (2 ^ 1068 * 2 ^ 1068 * 64) := by
      generalize (2 : Int) ^ 1068 = P
      rw [show (64 : Int) = 8 * 8 from rfl]
      simp only [Int.mul_assoc, Int.mul_comm, Int.mul_left_comm]
    rw [this, pMul, ← Int.mul_assoc]
  have hn : (val x).natAbs * (val y).natAbs = 2 ^ 1074 * ((a * b).natAbs * 2 ^ 1068) := by
    rw [← Int.natAbs_mul, hp, Int.natAbs_mul, natAbs_sc, Nat.mul_comm]
    congr 1
  obtain ⟨hd2, hv2⟩ := exact_of (mul_right hd hd') hn (Nat.two_pow_pos _) h
  refine ⟨⟨_, hd2⟩, ?_⟩
  have h1 : sgn (s != s') ((val x).natAbs * (val y).natAbs) = val x * val y := by rw [sgn_xor, ← sgn_val hd, ← sgn_val hd']
  rw [hn, hp, Nat.mul_comm, sgn_mul] at h1
  rw [hv2]
  refine Int.eq_of_mul_eq_mul_right (a := ((2 ^ 1074 : Nat) : Int)) (by decide +kernel) ?_
  rw [h1]
  congr 1
theorem sgn_pow (a : Bool) (m j k : Nat) : sgn a (m * 2 ^ j) * ((2 ^ k : Nat) : Int) = sgn a (m * 2 ^ (j + k)) := by
  rw [← sgn_mul, Nat.mul_assoc, ← Nat.pow_add]
/-- the error of an exact product -/
theorem fma_exact {x y z : UInt64} {s s' c : Bool} {m k n : Nat} {e f g : Int} (hx : decode x = .fin s m e) (hy : decode y = .fin s' k f) (hz : decode z = .fin c n g) (h : val x * val y + val z * ((2 ^ 1074 : Nat) : Int) = 0) : Ex (Float64.fma x y z) 0 := by
  have he := decode_ge hx
  have hf := decode_ge hy
  have hg := decode_ge hz
  have h1 : (sgn (s != s') (m * k * 2 ^ (e + f - min (e + f) g).toNat) + sgn c (n * 2 ^ (g - min (e + f) g).toNat)) * ((2 ^ (min (e + f) g + 2148).toNat : Nat) : Int) = 0 := by
    rw [← h, Int.add_mul, sgn_pow, sgn_pow]
    congr 1
    · rw [val_eq hx, val_eq hy, ← sgn_xor]
      congr 1
      rw [show (e + f - min (e + f) g).toNat + (min (e + f) g + 2148).toNat = (e + 1074).toNat + (f + 1074).toNat from by omega, Nat.pow_add]
      simp only [Nat.mul_assoc, Nat.mul_comm, Nat.mul_left_comm]
    · rw [val_eq hz, sgn_pow]
      congr 3
      omega
  have h2 : sgn (s != s') (m * k * 2 ^ (e + f - min (e + f) g).toNat) + sgn c (n * 2 ^ (g - min (e + f) g).toNat) = 0 := by
    rcases Int.mul_eq_zero.mp h1 with h | h
    · exact h
    · exact absurd h (by have := Nat.two_pow_pos (min (e + f) g + 2148).toNat; omega)
  unfold Float64.fma
  rw [hx, hy, hz]
  have hc : ((align (s != s') (m * k) (e + f) c n g).1 + (align (s != s') (m * k) (e + f) c n g).2.1 == 0) = true := beq_iff_eq.mpr h2
  dsimp only
  rw [if_pos hc]
  exact Ex.zero _
theorem Ex.cast {x : UInt64} {a b : Int} (hx : Ex x a) (h : a = b) : Ex x b := h ▸ hx
theorem dlMul_ex {x y : UInt64} {a b : Int} (hx : Ex x (8 * a)) (hy : Ex y (8 * b)) (h : (a * b).natAbs < 2 ^ 53) : Ex (Builtin.Math.dlMul x y).1 (a * b) ∧ Ex (Builtin.Math.dlMul x y).2 0 := by
  have hm := Ex.mul hx hy h
  refine ⟨hm, ?_⟩
  obtain ⟨⟨s, m, e, hd⟩, hv⟩ := hx
  obtain ⟨⟨s', m', e', hd'⟩, hv'⟩ := hy
  have hn := hm.neg
  obtain ⟨⟨s2, m2, e2, hd2⟩, hv2⟩ := hn
  refine fma_exact hd hd' hd2 ?_
  rw [hv2, hv, hv']
  have : 8 * a * 2 ^ 1068 * (8 * b * 2 ^ 1068) = a * b * (2 ^ 1068 * 2 ^ 1068 * 64) := by
    generalize (2 : Int) ^ 1068 = P
    rw [show (64 : Int) = 8 * 8 from rfl]
    simp only [Int.mul_assoc, Int.mul_comm, Int.mul_left_comm]
  rw [this, pMul, Int.neg_mul, Int.neg_mul, Int.mul_assoc (a * b)]
  exact Int.add_right_neg _
theorem dlSum_ex {x y : UInt64} {a b : Int} (hx : Ex x a) (hy : Ex y b) (ha : a.natAbs < 2 ^ 50) (hb : b.natAbs < 2 ^ 50) : Ex (Builtin.Math.dlSum x y).1 (a + b) ∧ Ex (Builtin.Math.dlSum x y).2 0 := by
  have h1 := hx.add hy (by omega)
  have h2 := (h1.sub hx (by omega)).cast (b := b) (by omega)
  have h3 := (h1.sub h2 (by omega)).cast (b := a) (by omega)
  have h4 := (hx.sub h3 (by omega)).cast (b := 0) (by omega)
  have h5 := (hy.sub h2 (by omega)).cast (b := 0) (by omega)
  exact ⟨h1, (h4.add h5 (by decide)).cast (by decide)⟩
/-- the triple of sumprod holds S / 64 -/
def Tri (t : UInt64 × UInt64 × UInt64) (S : Int) : Prop := Ex t.1 S ∧ Ex t.2.1 0 ∧ Ex t.2.2 0
theorem tlFma_ex {x y : UInt64} {a b S : Int} {t : UInt64 × UInt64 × UInt64} (hx : Ex x (8 * a)) (hy : Ex y (8 * b)) (ht : Tri t S) (h : (a * b).natAbs < 2 ^ 50) (hS : S.natAbs < 2 ^ 50) : Tri (Builtin.Math.tlFma x y t) (S + a * b) := by
  obtain ⟨p1, p2⟩ := dlMul_ex hx hy (by omega)
  obtain ⟨s1, s2⟩ := dlSum_ex ht.1 p1 hS h
  obtain ⟨r1, r2⟩ := dlSum_ex ht.2.1 p2 (by decide) (by decide)
  obtain ⟨q1, q2⟩ := dlSum_ex (r1.cast (b := 0) (by decide)) s2 (by decide) (by decide)
  exact ⟨s1, q1.cast (by decide), (((ht.2.2.add r2 (by decide)).cast (b := 0) (by decide)).add q2 (by decide)).cast (by decide)⟩
theorem tlTo_ex {S : Int} {t : UInt64 × UInt64 × UInt64} (ht : Tri t S) (hS : S.natAbs < 2 ^ 50) : Ex (Builtin.Math.tlToFloat t) S := by
  obtain ⟨s1, s2⟩ := dlSum_ex ht.2.1 ht.1 (by decide) hS
  exact (((ht.2.2.add s2 (by decide)).cast (b := 0) (by decide)).add (s1.cast (b := S) (by omega)) (by omega)).cast (by omega)
theorem Ex.isZero {x : UInt64} {a : Int} (hx : Ex x a) : Float64.isZero x = decide (a = 0) := by
  obtain ⟨⟨s, m, e, hd⟩, hv⟩ := hx
  rw [PySem.Flt.isZero_eq, cmpInt_right hd, hv, Int.zero_mul]
  by_cases h : a = 0
  · subst h
    rw [Int.zero_mul]
    rfl
  · have hn : a * 2 ^ 1068 ≠ 0 := fun q => by
      rcases Int.mul_eq_zero.mp q with q | q
      · exact h q
      · exact absurd q (by decide +kernel)
    rw [decide_eq_false h]
    rcases Int.lt_trichotomy (a * 2 ^ 1068) 0 with q | q | q
    · rw [Int.compare_eq_lt.mpr q]; rfl
    · exact absurd q hn
    · rw [Int.compare_eq_gt.mpr q]; rfl
theorem Ex.finite {x : UInt64} {a : Int} (hx : Ex x a) : Float64.isFinite x = true := by
  obtain ⟨⟨s, m, e, hd⟩, _⟩ := hx
  unfold Float64.isFinite
  rw [hd]
/-- the partials of fsum, here never more than one -/
def Ps (ps : List UInt64) (S : Int) : Prop := (ps = [] ∧ S = 0) ∨ ∃ p, ps = [p] ∧ Ex p S
theorem fsumAdd_ex {ps : List UInt64} {x : UInt64} {S k : Int} (h : Ps ps S) (hx : Ex x k) (hS : S.natAbs < 2 ^ 50) (hk : k.natAbs < 2 ^ 50) : ∃ top, Float64.fsumAdd ps x = ([], top) ∧ Ex top (S + k) := by
  rcases h with ⟨rfl, rfl⟩ | ⟨p, rfl, hp⟩
  · exact ⟨x, rfl, hx.cast (by omega)⟩
  · have key : ∀ {u v : UInt64} {a b : Int}, Ex u a → Ex v b → a.natAbs < 2 ^ 50 → b.natAbs < 2 ^ 50 → a + b = S + k → ∃ top, (if Float64.isZero (Float64.sub v (Float64.sub (Float64.add u v) u)) then ([] : List UInt64) else [Float64.sub v (Float64.sub (Float64.add u v) u)], Float64.add u v) = ([], top) ∧ Ex top (S + k) := by
      intro u v a b hu hv ha hb hab
      have h1 := hu.add hv (by omega)
      have h2 := (h1.sub hu (by omega)).cast (b := b) (by omega)
      have h3 := (hv.sub h2 (by omega)).cast (b := 0) (by omega)
      refine ⟨_, ?_, h1.cast hab⟩
      rw [h3.isZero]
      rfl
    by_cases hc : Float64.lt (Float64.abs x) (Float64.abs p) = true
    · have := key hp hx hS hk rfl
      simp only [Float64.fsumAdd, if_pos hc]
      exact this
    · have := key hx hp hk hS (by omega)
      simp only [Float64.fsumAdd, if_neg hc]
      exact this
theorem fsum_next {top : UInt64} {S : Int} (h : Ex top S) : Ps (if Float64.isZero top then [] else [] ++ [top]) S := by
  rw [h.isZero]
  by_cases hz : S = 0
  · subst hz
    exact Or.inl ⟨rfl, rfl⟩
  · rw [decide_eq_false hz]
    exact Or.inr ⟨top, rfl, h⟩
theorem fsumEnd_ex {ps : List UInt64} {S : Int} (h : Ps ps S) : Ex (Float64.fsumEnd ps) S := by
  rcases h with ⟨rfl, rfl⟩ | ⟨p, rfl, hp⟩
  · exact Ex.zero false
  · exact hp
theorem p1074i : (64 : Int) * 2 ^ 1068 = ((2 ^ 1074 : Nat) : Int) := by decide +kernel
/-- (n q / 64) by n -/
theorem Ex.div {x y : UInt64} {n : Nat} {q : Int} (hx : Ex x (n * q)) (hy : Ex y (n * 64)) (hn : 0 < n) (h : q.natAbs < 2 ^ 53) : Ex (Float64.div x y) q := by
  obtain ⟨⟨s, m, e, hd⟩, hv⟩ := hx
  obtain ⟨⟨s', m', e', hd'⟩, hv'⟩ := hy
  have hvy : val y = ((n * 2 ^ 1074 : Nat) : Int) := by
    rw [hv', Int.natCast_mul, Int.mul_assoc, p1074i]
  have hm' : m' ≠ 0 := by
    intro q
    have := val_natAbs hd'
    rw [q, Nat.zero_mul, hvy, Int.natAbs_natCast] at this
    have h9 := Nat.mul_pos hn (Nat.two_pow_pos 1074)
    omega
  have hs' : s' = false := by
    cases s' with
    | false => rfl
    | true =>
      have h1 := val_eq hd'
      rw [hvy] at h1
      have h9 := Nat.mul_pos hn (Nat.two_pow_pos 1074)
      unfold sgn at h1
      simp only [if_true] at h1
      omega
  have hW : (val x).natAbs * 2 ^ 1074 = (val y).natAbs * (q.natAbs * 2 ^ 1068) := by
    rw [hv, hvy, natAbs_sc, Int.natAbs_mul, Int.natAbs_natCast, Int.natAbs_natCast]
    generalize 2 ^ 1074 = P
    generalize 2 ^ 1068 = R
    simp only [Nat.mul_assoc, Nat.mul_comm, Nat.mul_left_comm]
  obtain ⟨hd2, hv2⟩ := exact_of (div_right hd hd' hm') hW (by rw [hvy, Int.natAbs_natCast]; exact Nat.mul_pos hn (Nat.two_pow_pos _)) h
  refine ⟨⟨_, hd2⟩, ?_⟩
  rw [hv2, hs']
  have h1 := sgn_val hd
  rw [hv, natAbs_sc, Int.natAbs_mul, Int.natAbs_natCast, Nat.mul_assoc, Nat.mul_comm n, sgn_mul] at h1
  have h2 : (s != false) = s := by cases s <;> rfl
  rw [h2]
  refine Int.eq_of_mul_eq_mul_right (a := (n : Int)) (by omega) ?_
  rw [← h1]
  generalize (2 : Int) ^ 1068 = R
  simp only [Int.mul_assoc, Int.mul_comm, Int.mul_left_comm]
theorem dist_between {D W u v z : Nat} (hD : 0 < D) (h1 : u < v) (h2 : v < z) (e : dist W (D * u) = dist W (D * z)) : dist W (D * v) < dist W (D * u) := by
  have a1 : D * u < D * v := Nat.mul_lt_mul_of_pos_left h1 hD
  have a2 : D * v < D * z := Nat.mul_lt_mul_of_pos_left h2 hD
  unfold dist at e ⊢
  omega
theorem near_unique {W D t1 t2 : Nat} (hD : 0 < D) (h1 : ∀ t', dist W (D * V t1) ≤ dist W (D * V t') ∧ (V t' ≠ V t1 → dist W (D * V t1) = dist W (D * V t') → t1 % 2 = 0)) (h2 : ∀ t', dist W (D * V t2) ≤ dist W (D * V t') ∧ (V t' ≠ V t2 → dist W (D * V t2) = dist W (D * V t') → t2 % 2 = 0)) (hlt : t1 < t2) : False := by
  have hV := V_lt hlt
  have e : dist W (D * V t1) = dist W (D * V t2) := Nat.le_antisymm (h1 t2).1 (h2 t1).1
  have p1 := (h1 t2).2 (Nat.ne_of_gt hV) e
  have p2 := (h2 t1).2 (Nat.ne_of_lt hV) e.symm
  have hne : t1 + 1 < t2 := by omega
  have q := dist_between hD (V_succ t1) (V_lt hne) e
  exact absurd (h1 (t1 + 1)).1 (Nat.not_le.mpr q)
theorem right_same {r1 r2 : UInt64} {s1 s2 : Bool} {W D : Nat} (hD : 0 < D) (h1 : Right r1 s1 W D) (h2 : Right r2 s2 W D) (hfin : ¬ D * ((2 ^ 54 - 1) * 2 ^ 2045) ≤ 2 * W) : ∃ t, t < infMag ∧ r1 = pack s1 t ∧ r2 = pack s2 t := by
  obtain ⟨t1, rfl, hle1, hi1, hn1⟩ := h1
  obtain ⟨t2, rfl, hle2, hi2, hn2⟩ := h2
  have l1 : t1 < infMag := Nat.lt_of_le_of_ne hle1 fun e => hfin (hi1.mp e)
  have l2 : t2 < infMag := Nat.lt_of_le_of_ne hle2 fun e => hfin (hi2.mp e)
  have e : t1 = t2 := by
    rcases Nat.lt_trichotomy t1 t2 with h | h | h
    · exact (near_unique hD (hn1 l1) (hn2 l2) h).elim
    · exact h
    · exact (near_unique hD (hn2 l2) (hn1 l1) h).elim
  subst e
  exact ⟨t1, l1, rfl, rfl⟩
theorem val_nat {y : UInt64} {s : Bool} {m : Nat} {e : Int} {w : Nat} (hd : decode y = .fin s m e) (hv : val y = (w : Int)) (hw : 0 < w) : s = false ∧ m ≠ 0 := by
  refine ⟨?_, fun q => ?_⟩
  · cases s with
    | false => rfl
    | true =>
      have h1 := val_eq hd
      rw [hv] at h1
      unfold sgn at h1
      simp only [if_true] at h1
      omega
  · have := val_natAbs hd
    rw [q, Nat.zero_mul, hv, Int.natAbs_natCast] at this
    omega
/-- a float quotient and the quotient of two ints that mean the same number are equal -/
theorem quot_eq {x y : UInt64} {k c : Int} {n d : Nat} {neg : Bool} (hx : Ex x k) (hy : Ex y (d * 64)) (hd : 0 < d) (hn : 0 < n) (hkc : k * n = c * 64) (hk : k.natAbs < 2 ^ 50) (hneg : neg = decide (c < 0)) :
    Float64.cmp (Float64.div x y) (Float64.ofFrac neg c.natAbs (n * d)) = some .eq := by
  obtain ⟨⟨s, m, e, hdx⟩, hvx⟩ := hx
  obtain ⟨⟨s', m', e', hdy⟩, hvy0⟩ := hy
  have hvy : val y = ((d * 2 ^ 1074 : Nat) : Int) := by
    rw [hvy0, Int.natCast_mul, Int.mul_assoc, p1074i]
  have hpos := Nat.mul_pos hd (Nat.two_pow_pos 1074)
  obtain ⟨rfl, hm'⟩ := val_nat hdy hvy hpos
  have hvyn : (val y).natAbs = d * 2 ^ 1074 := by rw [hvy, Int.natAbs_natCast]
  have hvxn : (val x).natAbs = k.natAbs * 2 ^ 1068 := by rw [hvx, natAbs_sc]
  have hkn : k.natAbs * n = c.natAbs * 64 := by
    have := congrArg Int.natAbs hkc
    rw [Int.natAbs_mul, Int.natAbs_mul, Int.natAbs_natCast] at this
    exact this
  have R1 := div_right hdx hdy hm'
  have hW : c.natAbs * 2 ^ 1074 * (val y).natAbs = (val x).natAbs * 2 ^ 1074 * (n * d) := by
    rw [hvyn, hvxn]
    have e1 : c.natAbs * 2 ^ 1074 = k.natAbs * n * 2 ^ 1068 := by rw [hkn, p1074, Nat.mul_assoc]
    rw [e1]
    generalize 2 ^ 1074 = P
    generalize 2 ^ 1068 = R
    simp only [Nat.mul_assoc, Nat.mul_comm, Nat.mul_left_comm]
  have R2 := ofFrac_right (neg := neg) (Nat.mul_pos hn hd) hW (by rw [hvyn]; exact hpos)
  have hnov : ¬ (val y).natAbs * ((2 ^ 54 - 1) * 2 ^ 2045) ≤ 2 * ((val x).natAbs * 2 ^ 1074) := by
    intro h
    have h1 := notOver (j := k.natAbs) (D := (val y).natAbs) (by omega) (by rw [hvyn]; exact hpos)
    refine h1 (Nat.le_trans h (Nat.mul_le_mul_left 2 ?_))
    rw [hvyn, hvxn, Nat.mul_comm]
    refine Nat.mul_le_mul_right _ ?_
    exact Nat.le_mul_of_pos_left _ hd
  obtain ⟨t, ht, e1, e2⟩ := right_same (by rw [hvyn]; exact hpos) R1 R2 hnov
  obtain ⟨m1, f1, g1, _⟩ := decode_pack (s != false) ht
  obtain ⟨m2, f2, g2, _⟩ := decode_pack neg ht
  rw [e1, e2, cmp_right g1 g2, val_pack _ ht, val_pack _ ht]
  have hs : sgn (s != false) (V t) = sgn neg (V t) := by
    by_cases hz : V t = 0
    · rw [hz]
      unfold sgn
      cases s <;> cases neg <;> rfl
    · have hk0 : k ≠ 0 := by
        intro q
        subst q
        have hc0 : c.natAbs = 0 := by omega
        rw [hc0, show Float64.ofFrac neg 0 (n * d) = pack neg 0 from by unfold Float64.ofFrac Float64.roundMag; rfl] at e2
        have h9 := congrArg UInt64.toNat e2
        rw [pack_toNat neg (by decide), pack_toNat neg (Nat.lt_trans ht (by decide))] at h9
        have ht0 : t = 0 := by omega
        rw [ht0] at hz
        exact hz V_zero
      have hP : (0 : Int) < 2 ^ 1068 := by decide +kernel
      have h5 := sgn_val hdx
      rw [hvx] at h5
      have hn' : (0 : Int) < n := by omega
      have h2 : (s != false) = s := by cases s <;> rfl
      rw [h2]
      congr 1
      rw [hneg]
      cases s with
      | false =>
        have h6 : (0 : Int) ≤ k * 2 ^ 1068 := by rw [h5]; unfold sgn; simp only [Bool.false_eq_true, if_false]; exact Int.natCast_nonneg _
        have h7 : 0 ≤ k := by
          by_cases hq : k < 0
          · exact absurd h6 (Int.not_le.mpr (Int.mul_neg_of_neg_of_pos hq hP))
          · omega
        have h8 : (0 : Int) ≤ k * n := Int.mul_nonneg h7 (Int.le_of_lt hn')
        rw [hkc] at h8
        exact (decide_eq_false (by omega)).symm
      | true =>
        have h6 : k * 2 ^ 1068 ≤ (0 : Int) := by rw [h5]; unfold sgn; simp only [if_true]; exact Int.neg_nonpos_of_nonneg (Int.natCast_nonneg _)
        have h7 : k < 0 := by
          by_cases hq : 0 < k
          · exact absurd h6 (Int.not_le.mpr (Int.mul_pos hq hP))
          · omega
        have h8 : k * (n : Int) < 0 := Int.mul_neg_of_neg_of_pos h7 hn'
        rw [hkc] at h8
        exact (decide_eq_true (by omega)).symm
  rw [hs]
  exact congrArg some (Int.compare_eq_eq.mpr rfl)
end Mine
end
section
open PySem PySem.W PyProof.Rows PySem.Calls
set_option Elab.async false
namespace Mine
def inter (xs ys : List Int) : Nat := (xs.filter fun x => decide (x ∈ ys)).length
theorem inter_congr {xs ys zs : List Int} (h : ∀ x ∈ xs, (x ∈ ys ↔ x ∈ zs)) : inter xs ys = inter xs zs := by
  unfold inter
  congr 1
  refine List.filter_congr fun x hx => ?_
  exact decide_eq_decide.mpr (h x hx)
theorem sdiff_count (xs ys : List Int) : xs.Pairwise (· < ·) → ys.Pairwise (· < ·) → (sdiff xs ys).1.length + inter xs ys = xs.length ∧ (sdiff xs ys).2.length + inter xs ys = ys.length := by
  induction xs, ys using sdiff.induct with
  | case1 ys => intro _ _; rw [sdiff_nil1]; exact ⟨rfl, rfl⟩
  | case2 x xs =>
    intro _ _
    rw [sdiff_nil2]
    have : inter (x :: xs) [] = 0 := by
      unfold inter
      rw [List.filter_eq_nil_iff.mpr]
      · rfl
      · intro a _; simp
    rw [this]
    exact ⟨rfl, rfl⟩
  | case3 x xs y ys h ih =>
    intro h1 h2
    have ih' := ih (List.pairwise_cons.mp h1).2 h2
    have hx : x ∉ y :: ys := fun hm => by
      rcases List.mem_cons.mp hm with e | hm
      · omega
      · have := (List.pairwise_cons.mp h2).1 x hm
        omega
    have e : inter (x :: xs) (y :: ys) = inter xs (y :: ys) := by
      unfold inter
      rw [List.filter_cons, if_neg (by simpa using hx)]
    rw [sdiff_lt h, e]
    simp only [List.length_cons] at ih' ⊢
    omega
  | case4 x xs y ys h h' ih =>
    intro h1 h2
    have ih' := ih h1 (List.pairwise_cons.mp h2).2
    have e : inter (x :: xs) (y :: ys) = inter (x :: xs) ys := by
      refine inter_congr fun z hz => ?_
      rw [List.mem_cons]
      refine ⟨fun q => q.resolve_left fun e => ?_, Or.inr⟩
      rcases List.mem_cons.mp hz with q | q
      · omega
      · have := (List.pairwise_cons.mp h1).1 z q
        omega
    rw [sdiff_gt h', e]
    simp only [List.length_cons] at ih' ⊢
    omega
  | case5 x xs y ys h h' ih =>
    intro h1 h2
    have exy : x = y := by omega
    subst exy
    have ih' := ih (List.pairwise_cons.mp h1).2 (List.pairwise_cons.mp h2).2
    have e : inter (x :: xs) (x :: ys) = inter xs ys + 1 := by
      have e1 : inter (x :: xs) (x :: ys) = inter xs (x :: ys) + 1 := by
        unfold inter
        rw [List.filter_cons, if_pos (by simp), List.length_cons]
      rw [e1]
      congr 1
      refine inter_congr fun z hz => ?_
      rw [List.mem_cons]
      refine ⟨fun q => q.resolve_left fun e => ?_, Or.inr⟩
      have := (List.pairwise_cons.mp h1).1 z hz
      omega
    rw [sdiff_eq, e]
    simp only [List.length_cons]
    omega
/-- one when the bit is on -/
def on (x b : Int) : Int := if bitOn x b = true then 1 else 0
def sumOf (ns : List Int) (f : Int → Int) : Int := (ns.map f).sum
theorem range_getD (ns : List Int) : (List.range ns.length).map (fun i => ns.getD i 0) = ns := by
  apply List.ext_getElem
  · simp
  · intro i h1 h2
    simp [List.getD_eq_getElem?_getD, List.getElem?_eq_getElem h2]
theorem filter_sum (q : Int → Bool) : ∀ ns : List Int, ((ns.filter q).length : Int) = (ns.map fun x => if q x = true then (1 : Int) else 0).sum
  | [] => rfl
  | x :: ns => by
    rw [List.map_cons, List.sum_cons, ← filter_sum q ns, List.filter_cons]
    by_cases h : q x = true
    · rw [if_pos h, if_pos h, List.length_cons]; omega
    · rw [if_neg h, if_neg h]; omega
theorem cnt (ns : List Int) (q : Int → Bool) : (((rangeKs 0 ns.length).filter fun k => q (ns.getD k.toNat 0)).length : Int) = (ns.map fun x => if q x = true then (1 : Int) else 0).sum := by
  rw [← filter_sum]
  congr 1
  unfold rangeKs
  rw [List.filter_map, List.length_map]
  conv => rhs; rw [← range_getD ns, List.filter_map, List.length_map]
  congr 2
  funext i
  show q (ns.getD ((0 : Int) + (i : Int)).toNat 0) = q (ns.getD i 0)
  rw [Int.zero_add, Int.toNat_natCast]
theorem bit_len (ns : List Int) (b : Int) : ((bitIdx ns b).length : Int) = sumOf ns fun x => on x b := by
  rw [bitIdx_eq]
  exact cnt ns fun x => bitOn x b
theorem bit_inter (ns : List Int) (b1 b2 : Int) : (inter (bitIdx ns b1) (bitIdx ns b2) : Int) = sumOf ns fun x => on x b1 * on x b2 := by
  have e : inter (bitIdx ns b1) (bitIdx ns b2) = ((rangeKs 0 ns.length).filter fun k => (fun x => bitOn x b1 && bitOn x b2) (ns.getD k.toNat 0)).length := by
    unfold inter
    rw [bitIdx_eq ns b1, bitIdx_eq ns b2, List.filter_filter]
    congr 1
    refine List.filter_congr fun k hk => ?_
    simp only [List.mem_filter, hk, true_and]
    by_cases h : bitOn (ns.getD k.toNat 0) b2 = true <;> simp [h, Bool.and_comm]
  rw [e, cnt ns fun x => bitOn x b1 && bitOn x b2]
  unfold sumOf
  congr 2
  funext x
  unfold on
  by_cases h1 : bitOn x b1 = true <;> by_cases h2 : bitOn x b2 = true <;> simp [h1, h2]
theorem pairM_eq (ns : List Int) (b1 b2 : Int) : pairM ns b1 b2 = ns.length * (sumOf ns fun x => on x b1 * on x b2) - (sumOf ns fun x => on x b1) * (sumOf ns fun x => on x b2) := by
  have h := (sdiff_count _ _ (bitIdx_grows ns b1) (bitIdx_grows ns b2)).1
  unfold pairM
  rw [← bit_inter, ← bit_len, ← bit_len]
  congr 2
  omega
theorem pairU_eq (ns : List Int) (b1 b2 : Int) : pairU ns b1 b2 = ns.length * (sumOf ns fun x => on x b1 * on x b2) - (sumOf ns fun x => on x b1) * (sumOf ns fun x => on x b2) := by
  have h := (sdiff_count _ _ (bitIdx_grows ns b1) (bitIdx_grows ns b2)).2
  unfold pairU
  rw [← bit_inter, ← bit_len, ← bit_len]
  congr 2
  omega
/-- how many of the bits are on -/
def pts (bs : List Int) (x : Int) : Int := (bs.map (on x)).sum
theorem sumOf_add (ns : List Int) (f g : Int → Int) : sumOf ns (fun x => f x + g x) = sumOf ns f + sumOf ns g := by
  unfold sumOf
  induction ns with
  | nil => rfl
  | cons x ns ih => simp only [List.map_cons, List.sum_cons, ih]; omega
theorem sumOf_zero (ns : List Int) : sumOf ns (fun _ => 0) = 0 := by
  unfold sumOf
  induction ns with
  | nil => rfl
  | cons x ns ih => simp only [List.map_cons, List.sum_cons, ih]; rfl
theorem row_eq (ns : List Int) (b1 : Int) (g : Int → Int → Int) (hg : ∀ b2, g b1 b2 = ns.length * (sumOf ns fun x => on x b1 * on x b2) - (sumOf ns fun x => on x b1) * (sumOf ns fun x => on x b2)) (bs : List Int) :
    (bs.map (g b1)).sum = ns.length * (sumOf ns fun x => on x b1 * pts bs x) - (sumOf ns fun x => on x b1) * (sumOf ns (pts bs)) := by
  induction bs with
  | nil =>
    have e : sumOf ns (fun x => on x b1 * pts [] x) = 0 := by
      rw [← sumOf_zero ns]
      congr 1
      funext x
      exact Int.mul_zero _
    rw [e, show sumOf ns (pts []) = 0 from sumOf_zero ns, Int.mul_zero, Int.mul_zero]
    rfl
  | cons b bs ih =>
    have e1 : sumOf ns (fun x => on x b1 * pts (b :: bs) x) = sumOf ns (fun x => on x b1 * on x b) + sumOf ns (fun x => on x b1 * pts bs x) := by
      rw [← sumOf_add]
      congr 1
      funext x
      rw [← Int.mul_add]
      rfl
    have e2 : sumOf ns (pts (b :: bs)) = sumOf ns (fun x => on x b) + sumOf ns (pts bs) := by
      rw [← sumOf_add]
      rfl
    rw [List.map_cons, List.sum_cons, ih, hg, e1, e2, Int.mul_add, Int.mul_add]
    omega
theorem rows_eq (ns bs : List Int) (h : Int → Int) (hh : ∀ b1, h b1 = ns.length * (sumOf ns fun x => on x b1 * pts bs x) - (sumOf ns fun x => on x b1) * (sumOf ns (pts bs))) (as : List Int) :
    (as.map h).sum = ns.length * (sumOf ns fun x => pts as x * pts bs x) - (sumOf ns (pts as)) * (sumOf ns (pts bs)) := by
  induction as with
  | nil =>
    have e : sumOf ns (fun x => pts [] x * pts bs x) = 0 := by
      rw [← sumOf_zero ns]
      congr 1
      funext x
      exact Int.zero_mul _
    rw [e, show sumOf ns (pts []) = 0 from sumOf_zero ns, Int.mul_zero, Int.zero_mul]
    rfl
  | cons a as ih =>
    have e1 : sumOf ns (fun x => pts (a :: as) x * pts bs x) = sumOf ns (fun x => on x a * pts bs x) + sumOf ns (fun x => pts as x * pts bs x) := by
      rw [← sumOf_add]
      congr 1
      funext x
      rw [← Int.add_mul]
      rfl
    have e2 : sumOf ns (pts (a :: as)) = sumOf ns (fun x => on x a) + sumOf ns (pts as) := by
      rw [← sumOf_add]
      rfl
    rw [List.map_cons, List.sum_cons, ih, hh, e1, e2, Int.mul_add, Int.add_mul]
    omega
theorem sumsM_eq (ns as bs : List Int) : (as.map (rowM ns bs)).sum = ns.length * (sumOf ns fun x => pts as x * pts bs x) - (sumOf ns (pts as)) * (sumOf ns (pts bs)) :=
  rows_eq ns bs _ (fun b1 => row_eq ns b1 (pairM ns) (fun b2 => pairM_eq ns b1 b2) bs) as
theorem sumsU_eq (ns as bs : List Int) : (as.map (rowU ns bs)).sum = ns.length * (sumOf ns fun x => pts as x * pts bs x) - (sumOf ns (pts as)) * (sumOf ns (pts bs)) :=
  rows_eq ns bs _ (fun b1 => row_eq ns b1 (pairU ns) (fun b2 => pairU_eq ns b1 b2) bs) as
theorem dev_sum (f g : Int → Int) (u v : Int) : ∀ ns : List Int, sumOf ns (fun x => (8 * f x - u) * (8 * g x - v)) = 64 * sumOf ns (fun x => f x * g x) - 8 * v * sumOf ns f - 8 * u * sumOf ns g + ns.length * (u * v)
  | [] => by simp [sumOf]
  | x :: ns => by
    have ih := dev_sum f g u v ns
    unfold sumOf at ih ⊢
    simp only [List.map_cons, List.sum_cons, ih, List.length_cons]
    rw [Int.natCast_succ, Int.add_mul, Int.one_mul, Int.mul_add, Int.mul_add, Int.mul_add]
    have e : (8 * f x - u) * (8 * g x - v) = 64 * (f x * g x) - 8 * v * f x - 8 * u * g x + u * v := by
      rw [Int.sub_mul, Int.mul_sub, Int.mul_sub]
      have e1 : 8 * f x * (8 * g x) = 64 * (f x * g x) := by rw [Int.mul_assoc, Int.mul_left_comm (f x), ← Int.mul_assoc]; rfl
      have e2 : 8 * f x * v = 8 * v * f x := by rw [Int.mul_assoc, Int.mul_comm (f x), ← Int.mul_assoc]
      have e3 : u * (8 * g x) = 8 * u * g x := by rw [Int.mul_left_comm, ← Int.mul_assoc]
      rw [e1, e2, e3]
      omega
    rw [e]
    omega
/-- the covariance's sum, in sixty-fourths -/
theorem dev_law (f g : Int → Int) (ns : List Int) (q : Int) (hq : q * ns.length = 8) :
    sumOf ns (fun x => (8 * f x - q * sumOf ns f) * (8 * g x - q * sumOf ns g)) * ns.length = (ns.length * sumOf ns (fun x => f x * g x) - sumOf ns f * sumOf ns g) * 64 := by
  rw [dev_sum]
  generalize sumOf ns f = A
  generalize sumOf ns g = B
  generalize sumOf ns (fun x => f x * g x) = C
  generalize (ns.length : Int) = n at *
  have e1 : 8 * (q * B) * A = 8 * q * (A * B) := by simp only [Int.mul_assoc, Int.mul_comm, Int.mul_left_comm]
  have e2 : 8 * (q * A) * B = 8 * q * (A * B) := by simp only [Int.mul_assoc, Int.mul_comm, Int.mul_left_comm]
  have e3 : n * (q * A * (q * B)) = 8 * q * (A * B) := by
    rw [← hq]
    simp only [Int.mul_assoc, Int.mul_comm, Int.mul_left_comm]
  rw [e1, e2, e3]
  have e4 : (64 * C - 8 * q * (A * B) - 8 * q * (A * B) + 8 * q * (A * B)) = 64 * C - 8 * q * (A * B) := by omega
  rw [e4, Int.sub_mul, Int.sub_mul]
  have e5 : 64 * C * n = n * C * 64 := by simp only [Int.mul_assoc, Int.mul_comm, Int.mul_left_comm]
  have e6 : 8 * q * (A * B) * n = A * B * 64 := by
    rw [show (64 : Int) = 8 * 8 from rfl]
    conv => rhs; rw [show (8 : Int) * 8 = 8 * (q * n) from by rw [hq]]
    simp only [Int.mul_assoc, Int.mul_comm, Int.mul_left_comm]
  rw [e5, e6]
end Mine
end
section
open PySem PySem.W PyProof.Rows PySem.Calls
set_option Elab.async false
namespace Mine
def rowPts (v : Int) (part : Int) : Int :=
  textPts (Txt.slice (Txt.join (Str.ofString "") (fmChars v)) (some (1 + 3 * part)) (some (4 + 3 * part))) (Txt.slice (Txt.join (Str.ofString "") (fmChars v)) (some (1 + 3 * part)) (some (4 + 3 * part))).cps.size
theorem one_of {x : Str} (h : x.length = 1) : ∃ c, x = ⟨#[c]⟩ := by
  obtain ⟨⟨l⟩⟩ := x
  match l, h with
  | [c], _ => exact ⟨c, rfl⟩
def sp (v : Int) (i : Nat) : Int := signPts ((fmPick i v (fmT.getD i [])).cps.getD 0 0)
theorem join10 (c0 c1 c2 c3 c4 c5 c6 c7 c8 c9 : Nat) : Txt.join (Str.ofString "") [⟨#[c0]⟩, ⟨#[c1]⟩, ⟨#[c2]⟩, ⟨#[c3]⟩, ⟨#[c4]⟩, ⟨#[c5]⟩, ⟨#[c6]⟩, ⟨#[c7]⟩, ⟨#[c8]⟩, ⟨#[c9]⟩] = ⟨#[c0, c1, c2, c3, c4, c5, c6, c7, c8, c9]⟩ := rfl
theorem row0 (c0 c1 c2 c3 c4 c5 c6 c7 c8 c9 : Nat) : Txt.slice ⟨#[c0, c1, c2, c3, c4, c5, c6, c7, c8, c9]⟩ (some 1) (some 4) = ⟨#[c1, c2, c3]⟩ := rfl
theorem row1 (c0 c1 c2 c3 c4 c5 c6 c7 c8 c9 : Nat) : Txt.slice ⟨#[c0, c1, c2, c3, c4, c5, c6, c7, c8, c9]⟩ (some 4) (some 7) = ⟨#[c4, c5, c6]⟩ := rfl
theorem row2 (c0 c1 c2 c3 c4 c5 c6 c7 c8 c9 : Nat) : Txt.slice ⟨#[c0, c1, c2, c3, c4, c5, c6, c7, c8, c9]⟩ (some 7) (some 10) = ⟨#[c7, c8, c9]⟩ := rfl
theorem textPts3 (a b c : Nat) : textPts ⟨#[a, b, c]⟩ 3 = signPts a + signPts b + signPts c := by
  unfold textPts
  simp [List.take]
  omega
theorem chars10 (v : Int) : ∃ c0 c1 c2 c3 c4 c5 c6 c7 c8 c9, fmChars v = [⟨#[c0]⟩, ⟨#[c1]⟩, ⟨#[c2]⟩, ⟨#[c3]⟩, ⟨#[c4]⟩, ⟨#[c5]⟩, ⟨#[c6]⟩, ⟨#[c7]⟩, ⟨#[c8]⟩, ⟨#[c9]⟩] ∧
    sp v 1 = signPts c1 ∧ sp v 2 = signPts c2 ∧ sp v 3 = signPts c3 ∧ sp v 4 = signPts c4 ∧ sp v 5 = signPts c5 ∧ sp v 6 = signPts c6 ∧ sp v 7 = signPts c7 ∧ sp v 8 = signPts c8 ∧ sp v 9 = signPts c9 := by
  have h : ∀ i, i < 10 → ∃ c, fmPick i v (fmT.getD i []) = ⟨#[c]⟩ := fun i hi => one_of (fmPick_len v hi)
  obtain ⟨c0, h0⟩ := h 0 (by decide)
  obtain ⟨c1, h1⟩ := h 1 (by decide)
  obtain ⟨c2, h2⟩ := h 2 (by decide)
  obtain ⟨c3, h3⟩ := h 3 (by decide)
  obtain ⟨c4, h4⟩ := h 4 (by decide)
  obtain ⟨c5, h5⟩ := h 5 (by decide)
  obtain ⟨c6, h6⟩ := h 6 (by decide)
  obtain ⟨c7, h7⟩ := h 7 (by decide)
  obtain ⟨c8, h8⟩ := h 8 (by decide)
  obtain ⟨c9, h9⟩ := h 9 (by decide)
  refine ⟨c0, c1, c2, c3, c4, c5, c6, c7, c8, c9, ?_, ?_, ?_, ?_, ?_, ?_, ?_, ?_, ?_, ?_⟩
  · show [fmPick 0 v (fmT.getD 0 []), fmPick 1 v (fmT.getD 1 []), fmPick 2 v (fmT.getD 2 []), fmPick 3 v (fmT.getD 3 []), fmPick 4 v (fmT.getD 4 []), fmPick 5 v (fmT.getD 5 []), fmPick 6 v (fmT.getD 6 []), fmPick 7 v (fmT.getD 7 []), fmPick 8 v (fmT.getD 8 []), fmPick 9 v (fmT.getD 9 [])] = _
    rw [h0, h1, h2, h3, h4, h5, h6, h7, h8, h9]
  · unfold sp; rw [h1]; rfl
  · unfold sp; rw [h2]; rfl
  · unfold sp; rw [h3]; rfl
  · unfold sp; rw [h4]; rfl
  · unfold sp; rw [h5]; rfl
  · unfold sp; rw [h6]; rfl
  · unfold sp; rw [h7]; rfl
  · unfold sp; rw [h8]; rfl
  · unfold sp; rw [h9]; rfl
theorem rowPts_eq (v : Int) : rowPts v 0 = sp v 1 + sp v 2 + sp v 3 ∧ rowPts v 1 = sp v 4 + sp v 5 + sp v 6 ∧ rowPts v 2 = sp v 7 + sp v 8 + sp v 9 := by
  obtain ⟨c0, c1, c2, c3, c4, c5, c6, c7, c8, c9, hc, e1, e2, e3, e4, e5, e6, e7, e8, e9⟩ := chars10 v
  unfold rowPts
  rw [hc, join10, e1, e2, e3, e4, e5, e6, e7, e8, e9]
  refine ⟨?_, ?_, ?_⟩
  · show textPts (Txt.slice _ (some 1) (some 4)) (Txt.slice _ (some 1) (some 4)).cps.size = _
    rw [row0]
    exact textPts3 ..
  · show textPts (Txt.slice _ (some 4) (some 7)) (Txt.slice _ (some 4) (some 7)).cps.size = _
    rw [row1]
    exact textPts3 ..
  · show textPts (Txt.slice _ (some 7) (some 10)) (Txt.slice _ (some 7) (some 10)).cps.size = _
    rw [row2]
    exact textPts3 ..
theorem bitAnd_nat (v m : Nat) : Builtin.bitAnd (v : Int) (m : Int) = ((v &&& m : Nat) : Int) := by
  unfold Builtin.bitAnd
  rw [decide_eq_true (Int.natCast_nonneg v), decide_eq_true (Int.natCast_nonneg m)]
  simp
theorem on_nat (v b : Nat) : on (v : Int) (b : Int) = if v.testBit b then 1 else 0 := by
  unfold on bitOn
  have e : Int.fdiv (v : Int) (2 ^ (b : Int).toNat) = ((v / 2 ^ b : Nat) : Int) := by
    rw [Int.toNat_natCast, Int.fdiv_eq_ediv_of_nonneg _ (Int.le_of_lt (by exact_mod_cast Nat.two_pow_pos b))]
    norm_cast
  rw [e, show (1 : Int) = ((1 : Nat) : Int) from rfl, bitAnd_nat]
  rw [Nat.testBit_eq_decide_div_mod_eq, Nat.and_one_is_mod]
  generalize v / 2 ^ b = q
  have h : q % 2 = 0 ∨ q % 2 = 1 := by omega
  rcases h with h | h <;> rw [h] <;> rfl
theorem and_pow (v b : Nat) : v &&& 2 ^ b = if v.testBit b then 2 ^ b else 0 := by
  apply Nat.eq_of_testBit_eq
  intro i
  rw [Nat.testBit_and, Nat.testBit_two_pow]
  by_cases e : b = i
  · subst e
    cases h : v.testBit b <;> simp
  · cases h : v.testBit b <;> simp [e, Nat.testBit_two_pow]
/-- a sign that one bit decides -/
theorem sp1 {v i b ta tc : Nat} {c : Str} (hi : i ≠ 0) (hrow : fmT.getD i [] = [(((2 ^ b : Nat) : Int), ta, c, tc)]) (hc : signPts (c.cps.getD 0 0) = 1) : sp (v : Int) i = on (v : Int) (b : Int) := by
  unfold sp fmPick
  rw [hrow, on_nat]
  have hp : 2 ^ b ≠ 0 := Nat.ne_of_gt (Nat.two_pow_pos b)
  by_cases h : v.testBit b = true
  · have e : fmHit i (v : Int) ((2 ^ b : Nat) : Int) = true := by
      unfold fmHit
      rw [if_neg hi, bitAnd_nat, and_pow, if_pos h]
      exact decide_eq_true rfl
    simp only [List.find?, e, h, if_true]
    exact hc
  · have e : fmHit i (v : Int) ((2 ^ b : Nat) : Int) = false := by
      unfold fmHit
      rw [if_neg hi, bitAnd_nat, and_pow, if_neg h]
      exact decide_eq_false (by omega)
    simp only [List.find?, e, h, if_neg hi]
    rfl
theorem and_two (v a b : Nat) (e : 2 ^ a + 2 ^ b = 2 ^ a ||| 2 ^ b) : (v &&& (2 ^ a + 2 ^ b) = 2 ^ a + 2 ^ b) ↔ (v.testBit a = true ∧ v.testBit b = true) := by
  rw [e]
  constructor
  · intro h
    have ha := congrArg (Nat.testBit · a) h
    have hb := congrArg (Nat.testBit · b) h
    simp only [Nat.testBit_and, Nat.testBit_or, Nat.testBit_two_pow_self, Bool.true_or, Bool.or_true, Bool.and_true] at ha hb
    exact ⟨ha, hb⟩
  · intro ⟨ha, hb⟩
    apply Nat.eq_of_testBit_eq
    intro i
    simp only [Nat.testBit_and, Nat.testBit_or, Nat.testBit_two_pow]
    by_cases e1 : a = i
    · subst e1; simp [ha]
    · by_cases e2 : b = i
      · subst e2; simp [hb]
      · simp [e1, e2]
/-- a sign that two bits decide -/
theorem sp2 {v i a b t1 t2 t3 t4 t5 t6 : Nat} {c1 c2 c3 : Str} (hi : i ≠ 0) (hab : 2 ^ a + 2 ^ b = 2 ^ a ||| 2 ^ b) (hrow : fmT.getD i [] = [(((2 ^ a + 2 ^ b : Nat) : Int), t1, c1, t2), (((2 ^ a : Nat) : Int), t3, c2, t4), (((2 ^ b : Nat) : Int), t5, c3, t6)])
    (h1 : signPts (c1.cps.getD 0 0) = 2) (h2 : signPts (c2.cps.getD 0 0) = 1) (h3 : signPts (c3.cps.getD 0 0) = 1) : sp (v : Int) i = on (v : Int) (b : Int) + on (v : Int) (a : Int) := by
  unfold sp fmPick
  rw [hrow, on_nat, on_nat]
  have hpa : 2 ^ a ≠ 0 := Nat.ne_of_gt (Nat.two_pow_pos a)
  have hpb : 2 ^ b ≠ 0 := Nat.ne_of_gt (Nat.two_pow_pos b)
  have e1 : fmHit i (v : Int) ((2 ^ a + 2 ^ b : Nat) : Int) = (v.testBit a && v.testBit b) := by
    unfold fmHit
    rw [if_neg hi, bitAnd_nat]
    have := and_two v a b hab
    by_cases q : v.testBit a = true ∧ v.testBit b = true
    · rw [this.mpr q, q.1, q.2]; exact decide_eq_true rfl
    · have q' : ¬ (v &&& (2 ^ a + 2 ^ b) = 2 ^ a + 2 ^ b) := fun z => q (this.mp z)
      rw [decide_eq_false (by omega)]
      cases ha : v.testBit a <;> cases hb : v.testBit b <;> simp_all
  have one : ∀ b, 2 ^ b ≠ 0 → fmHit i (v : Int) ((2 ^ b : Nat) : Int) = v.testBit b := by
    intro b hp
    unfold fmHit
    rw [if_neg hi, bitAnd_nat, and_pow]
    cases v.testBit b
    · exact decide_eq_false (fun q => hp (Int.ofNat.inj q).symm)
    · exact decide_eq_true rfl
  have e2 := one a hpa
  have e3 := one b hpb
  cases ha : v.testBit a <;> cases hb : v.testBit b <;> simp only [List.find?, e1, e2, e3, ha, hb, if_neg hi, Bool.and_self, Bool.and_false, Bool.and_true, if_true] <;> first | exact h1 | exact h2 | exact h3 | rfl
theorem pts_law (v : Nat) (part : Int) (h0 : 0 ≤ part) (h2 : part ≤ 2) : rowPts (v : Int) part = pts (partBits part) (v : Int) := by
  obtain ⟨r0, r1, r2⟩ := rowPts_eq (v : Int)
  have s1 : sp (v : Int) 1 = on v 8 := sp1 (b := 8) (by decide) rfl rfl
  have s2 : sp (v : Int) 2 = on v 7 := sp1 (b := 7) (by decide) rfl rfl
  have s3 : sp (v : Int) 3 = on v 6 + on v 11 := sp2 (a := 11) (b := 6) (by decide) (by decide) rfl rfl rfl rfl
  have s4 : sp (v : Int) 4 = on v 5 := sp1 (b := 5) (by decide) rfl rfl
  have s5 : sp (v : Int) 5 = on v 4 := sp1 (b := 4) (by decide) rfl rfl
  have s6 : sp (v : Int) 6 = on v 3 + on v 10 := sp2 (a := 10) (b := 3) (by decide) (by decide) rfl rfl rfl rfl
  have s7 : sp (v : Int) 7 = on v 2 := sp1 (b := 2) (by decide) rfl rfl
  have s8 : sp (v : Int) 8 = on v 1 := sp1 (b := 1) (by decide) rfl rfl
  have s9 : sp (v : Int) 9 = on v 0 + on v 9 := sp2 (a := 9) (b := 0) (by decide) (by decide) rfl rfl rfl rfl
  have hp : part = 0 ∨ part = 1 ∨ part = 2 := by omega
  rcases hp with rfl | rfl | rfl
  · rw [r0, s1, s2, s3]
    show _ = on v 8 + (on v 7 + (on v 6 + (on v 11 + 0)))
    omega
  · rw [r1, s4, s5, s6]
    show _ = on v 5 + (on v 4 + (on v 3 + (on v 10 + 0)))
    omega
  · rw [r2, s7, s8, s9]
    show _ = on v 2 + (on v 1 + (on v 0 + (on v 9 + 0)))
    omega
end Mine
end
section
open PySem PySem.W PyProof.Rows PySem.Calls PySem.Float64
set_option Elab.async false
set_option maxRecDepth 100000
namespace Mine
theorem kind_fsum : builtinKind "math.fsum" = none := by decide +kernel
theorem plain_fsum : plainId "math.fsum" = true := by decide +kernel
theorem entry_fsum : entryFor table "math.fsum" = some Builtin.«math.fsum» := entryFor_of_fast (by kernel_rfl)
theorem args_fsum (a : Value) : argsOk "math.fsum" ⟨[a], []⟩ := by unfold argsOk; kernel_rfl
theorem plain_fsum_loop : plainId "math.fsum.loop" = true := by decide +kernel
theorem entry_fsum_loop : entryFor table "math.fsum.loop" = some Builtin.«math.fsum.loop» := entryFor_of_fast (by kernel_rfl)
def tupOf (its : List Value) : Obj := { cls := .type "tuple", data := .seq its.toArray }
def bitsOf (ps : List UInt64) : List Value := ps.map fun x => rawInt x.toNat
theorem unbits (f : Value → UInt64) (ps : List UInt64) (hf : ∀ i t, f (.int i t) = i.toNat.toUInt64) : (bitsOf ps).map f = ps := by
  induction ps with
  | nil => rfl
  | cons p ps ih =>
    unfold bitsOf at ih ⊢
    rw [List.map_cons, List.map_cons, ih]
    congr 1
    show f (.int (p.toNat : Int) 0) = p
    rw [hf, Int.toNat_natCast]
    simp
def preS (ks : List Int) (i : Nat) : Int := (ks.take i).sum
theorem preS_succ {ks : List Int} {i : Nat} {k : Int} (h : ks[i]? = some k) : preS ks (i + 1) = preS ks i + k := by
  unfold preS
  rw [List.take_add_one, h, List.sum_append]
  simp
theorem preS_bound {ks : List Int} (hb : ∀ k ∈ ks, 0 ≤ k ∧ k ≤ 16) (i : Nat) : 0 ≤ preS ks i ∧ preS ks i ≤ 16 * i := by
  induction i with
  | zero => unfold preS; simp
  | succ i ih =>
    cases h : ks[i]? with
    | none =>
      have : preS ks (i + 1) = preS ks i := by
        unfold preS
        rw [List.take_add_one, h]
        simp
      omega
    | some k =>
      have := hb k (List.mem_of_getElem? h)
      rw [preS_succ h]
      omega
section
variable {prog : Program} {w : World} {A : Around}
theorem codeAny_fsum_loop {R : Result → Shared → Prop} (hh : A.handled = none) (I l : Addr) (hne : l ≠ I) (items : Array Value) (ks : List Int) (hi : IntsAre items.toList ks) (hb : ∀ k ∈ ks, 0 ≤ k ∧ k ≤ 16) (hlen : ks.length ≤ 100) (sA : Addr) (hsI : sA ≠ I) :
    ∀ (k i : Nat) (s : Shared) (pA : Addr) (ps : List UInt64), items.size - i = k → i ≤ items.size → (s.heap.IsListIter I l i ∧ s.heap.IsList l items) → pA ≠ I → s.heap.get? pA = some (tupOf (bitsOf ps)) → s.heap.get? sA = some (tupOf (bitsOf [Float64.zero false, Float64.zero false])) → Ps ps (64 * preS ks i) →
    (∀ r t h' tk', (∀ b o, b ≠ I → s.heap.get? b = some o → h'.get? b = some o) → Ex r (64 * ks.sum) → R (.ok (.ret (.float r t))) { s with heap := h', toks := tk' }) →
    codeAny (model prog w) A (.builtin "math.fsum.loop" ⟨[.ref I, .ref pA, .ref sA], []⟩) R s := by
  have hW := Walks.list (prog := prog) (w := w) (A := A.in1) hh I l hne items
  have hsz : items.size = ks.length := by have := hi.length; simpa using this
  intro k
  induction k with
  | zero =>
    intro i s pA ps hk hi' hst hpI hp hs hPs hR
    have hin : i = items.size := by omega
    subst hin
    refine codeAny_builtin entry_fsum_loop ?_
    rw [Around.under_plainId plain_fsum_loop _]
    unfold Builtin.«math.fsum.loop»
    refine wpAny_bind (wpAny_bind (wpAny_seqItems hp rfl ?_))
    refine wpAny_pure ?_
    refine wpAny_bind (wpAny_bind (wpAny_seqItems hs rfl ?_))
    refine wpAny_pure ?_
    dsimp only [Option.getD_some]
    rw [unbits, unbits]
    rotate_left
    · intro _ _; rfl
    · intro _ _; rfl
    dsimp only
    refine wpAny_bind (hW.done s _ _ hst fun h' tk' hk' => ?_)
    dsimp only
    rw [if_neg (by rw [(Ex.zero false).isZero]; simp)]
    refine wpAny_bind (wpAny_mkFloat (wpAny_pure ?_))
    refine hR _ _ _ _ (fun b o hb e => hk' b o (by simpa using hb) e) ((fsumEnd_ex hPs).cast ?_)
    rw [hsz, preS, List.take_length]
  | succ k ih =>
    intro i s pA ps hk hi' hst hpI hp hs hPs hR
    have hlt : i < items.size := by omega
    refine codeAny_builtin entry_fsum_loop ?_
    rw [Around.under_plainId plain_fsum_loop _]
    unfold Builtin.«math.fsum.loop»
    refine wpAny_bind (wpAny_bind (wpAny_seqItems hp rfl ?_))
    refine wpAny_pure ?_
    refine wpAny_bind (wpAny_bind (wpAny_seqItems hs rfl ?_))
    refine wpAny_pure ?_
    dsimp only [Option.getD_some]
    rw [unbits, unbits]
    rotate_left
    · intro _ _; rfl
    · intro _ _; rfl
    dsimp only
    refine wpAny_bind (hW.item i s _ _ hlt hst fun v h' tk' hv hst' hk' => ?_)
    obtain ⟨x, t, rfl, hx⟩ := hi.at i v (by simpa using hv)
    have hxb := hb x (List.mem_of_getElem? hx)
    have hpb := preS_bound hb i
    have hil : i < ks.length := by omega
    have hex := Ex.ofInt (i := x) (by omega)
    dsimp only
    refine wpAny_bind (wpAny_holding (PySem.Flt.realArg_int hh (fun ho => ?_) fun _ => ?_))
    · exact absurd (Nat.lt_of_lt_of_le (show 16 < 2 ^ 1024 - 2 ^ 970 by decide +kernel) ho) (by omega)
    obtain ⟨top, e1, e2⟩ := fsumAdd_ex hPs hex (by omega) (by omega)
    rw [e1]
    dsimp only
    rw [if_pos e2.finite]
    refine wpAny_bind (wpAny_newTuple ?_ ?_)
    · refine wpAny_pure ⟨plainId_quiet plain_fsum_loop _, ?_⟩
      refine ih (i + 1) _ _ (if Float64.isZero top then [] else [] ++ [top]) (by omega) (by omega) ?_ ?_ ?_ ?_ ?_ ?_
      · exact hW.frame _ _ _ hst' fun b _ o e => Heap.get?_push_of_some _ e
      · intro e
        have h1 : I < h'.objs.size := by obtain ⟨o, ho, _⟩ := hst'.1; exact Heap.lt_size ho
        exact absurd (e ▸ h1) (Nat.lt_irrefl _)
      · exact Heap.get?_push_size _ rfl
      · exact Heap.get?_push_of_some _ (hk' _ _ (by simpa using hsI) hs)
      · rw [preS_succ hx]
        have := fsum_next e2
        rw [show 64 * (preS ks i + x) = 64 * preS ks i + x * 64 by omega]
        exact this
      · intro r t2 h2 tk2 hk2 hr
        exact hR r t2 h2 tk2 (fun b o hb' e => hk2 b o hb' (Heap.get?_push_of_some _ (hk' b o (by simpa using hb') e))) hr
    · rw [List.length_map, sizeLine_eq]
      split <;> simp
theorem fsum_c {E : Value → Shared → Prop} {s : Shared} {Q : Value → Shared → Prop} (hh : A.handled = none) (l : Addr) (vs : List Value) (ks : List Int) (hi : IntsAre vs ks) (hb : ∀ k ∈ ks, 0 ≤ k ∧ k ≤ 16) (hlen : ks.length ≤ 100) (hl : s.heap.IsList l vs.toArray)
    (hQ : ∀ r t h' tk', Keep s.heap h' → Ex r (64 * ks.sum) → Q (.float r t) { s with heap := h', toks := tk' }) : wpAny (model prog w) A (call (.builtin "math.fsum") [.ref l]) Q E s := by
  refine call_function_tree kind_fsum plain_fsum entry_fsum (args_fsum _) ?_
  unfold Builtin.«math.fsum»
  refine wpAny_bind (wpAny_of_eq (a := Value.ref l) rfl ?_)
  refine wpAny_bind (wpAny_pyIter_list hl ?_)
  refine wpAny_bind (wpAny_newTuple ?_ (by simp))
  refine wpAny_bind (wpAny_newTuple ?_ (by simp [sizeLine_eq]))
  refine wpAny_pure ⟨plainId_quiet plain_fsum_loop _, ?_⟩
  have hlt : l < s.heap.objs.size := by obtain ⟨_, e, _⟩ := hl; exact Heap.lt_size e
  refine codeAny_fsum_loop hh _ l (Nat.ne_of_lt hlt) vs.toArray ks hi hb hlen _ ?_ _ 0 _ _ [] rfl (Nat.zero_le _) ?_ ?_ ?_ ?_ ?_ ?_
  · refine neN ?_; dsimp only; simp only [Heap.size_push]; omega
  · exact ⟨⟨_, Heap.get?_push_of_some _ (Heap.get?_push_of_some _ (Heap.get?_push_size _ rfl)), rfl, rfl⟩, ((hl.push _).push _).push _⟩
  · refine neN ?_; dsimp only; simp only [Heap.size_push]; omega
  · exact Heap.get?_push_of_some _ (Heap.get?_push_size _ rfl)
  · exact Heap.get?_push_size _ rfl
  · exact Or.inl ⟨rfl, by unfold preS; simp⟩
  · intro r t h' tk' hk hr
    exact hQ r t h' tk' (fun b o e => hk b o (Nat.ne_of_lt (Heap.lt_size e)) (Heap.get?_push_of_some _ (Heap.get?_push_of_some _ (Heap.get?_push_of_some _ e)))) hr
end
end Mine
end
section
open PySem PySem.W PyProof.Rows PySem.Calls PySem.Float64
set_option Elab.async false
set_option maxRecDepth 100000
namespace Mine
theorem kind_sumprod : builtinKind "math.sumprod" = none := by decide +kernel
theorem plain_sumprod : plainId "math.sumprod" = true := by decide +kernel
theorem entry_sumprod : entryFor table "math.sumprod" = some Builtin.«math.sumprod» := entryFor_of_fast (by kernel_rfl)
theorem args_sumprod (a b : Value) : argsOk "math.sumprod" ⟨[a, b], []⟩ := by unfold argsOk; kernel_rfl
theorem plain_sumprod_loop : plainId "math.sumprod.loop" = true := by decide +kernel
theorem entry_sumprod_loop : entryFor table "math.sumprod.loop" = some Builtin.«math.sumprod.loop» := entryFor_of_fast (by kernel_rfl)
theorem u64 (p : UInt64) : (Int.toNat (p.toNat : Int)).toUInt64 = p := by
  rw [Int.toNat_natCast]
  simp
def prePr (a b : Nat → Int) : Nat → Int
  | 0 => 0
  | i + 1 => prePr a b i + a i * b i
theorem prePr_bound {a b : Nat → Int} {n : Nat} (hb : ∀ j, j < n → (a j * b j).natAbs < 2 ^ 40) (i : Nat) (h : i ≤ n) : (prePr a b i).natAbs ≤ i * 2 ^ 40 := by
  induction i with
  | zero => simp [prePr]
  | succ i ih =>
    have h1 := ih (by omega)
    have h2 := hb i (by omega)
    unfold prePr
    generalize a i * b i = z at *
    omega
section
variable {prog : Program} {w : World} {A : Around}
theorem codeAny_sumprod_loop {R : Result → Shared → Prop} {I1 I2 : Addr} {fp1 fp2 wr1 wr2 : List Addr} {G1 G2 : Array GenState → Array GenState → Prop} {n : Nat} {P1 P2 : Nat → Value → Prop} {St1 St2 : Nat → Shared → Prop}
    (W1 : WalksS prog w A.in1 I1 fp1 wr1 G1 n P1 St1) (W2 : WalksS prog w A.in1 I2 fp2 wr2 G2 n P2 St2)
    (c1 : ∀ j s s', St2 j s → Moved wr1 G1 s s' → St2 j s') (c2 : ∀ j s s', St1 j s → Moved wr2 G2 s s' → St1 j s') (hsz : ∀ j s, St2 j s → I2 < s.heap.objs.size) (hw1 : ∀ b ∈ wr1, b < I2) (hw2 : ∀ b ∈ wr2, b < I2)
    (J : Array GenState → Prop) (j1 : ∀ a b, G1 a b → J a → J b) (j2 : ∀ a b, G2 a b → J a → J b)
    (a b : Nat → Int) (hP1 : ∀ i v, P1 i v → ∃ x t, v = .float x t ∧ Ex x (8 * a i)) (hP2 : ∀ i v, P2 i v → ∃ x t, v = .float x t ∧ Ex x (8 * b i)) (hb : ∀ j, j < n → (a j * b j).natAbs < 2 ^ 40) (hn : n ≤ 100) (hn0 : 0 < n) (hh : A.handled = none) (t0 : Tok) :
    ∀ (k i : Nat) (s : Shared) (fA : Addr) (hi lo ti : UInt64) (io fu : Bool), n - i = k → i ≤ n → (i = 0 ∨ (io = false ∧ fu = true)) → St1 i s → St2 i s → fA ∉ wr1 → fA ∉ wr2 → s.heap.get? fA = some (tupOf (bitsOf [hi, lo, ti])) → Tri (hi, lo, ti) (prePr a b i) →
    (∀ r t s', (∀ c o, c ∉ wr1 → c ∉ wr2 → s.heap.get? c = some o → s'.heap.get? c = some o) → (J s.gens → J s'.gens) → s'.drawn = s.drawn → s'.os = s.os → Ex r (prePr a b n) → R (.ok (.ret (.float r t))) s') →
    codeAny (model prog w) A (.builtin "math.sumprod.loop" ⟨[.ref I1, .ref I2, .int 0 t0, .bool io, rawInt 0, .bool false, .bool true, .ref fA, .bool fu], []⟩) R s := by
  intro k
  induction k with
  | zero =>
    intro i s fA hi lo ti io fu hk hi' hflag h1 h2 hf1 hf2 hf ht hR
    have hin : i = n := by omega
    subst hin
    obtain ⟨rfl, rfl⟩ : io = false ∧ fu = true := by rcases hflag with h | h; omega; exact h
    refine codeAny_builtin entry_sumprod_loop ?_
    rw [Around.under_plainId plain_sumprod_loop _]
    unfold Builtin.«math.sumprod.loop»
    refine wpAny_bind (wpAny_seqItems hf rfl ?_)
    dsimp only [Option.getD_some, bitsOf, List.map_cons, List.map_nil, rawInt]
    refine wpAny_bind (W1.done s _ _ h1 fun s1 m1 => ?_)
    refine wpAny_bind (wpAny_holding (W2.done s1 _ _ (c1 _ _ _ h2 m1) fun s2 m2 => ?_))
    rw [if_neg (by decide), if_neg Bool.false_ne_true, if_pos rfl]
    simp only [u64]
    refine wpAny_bind (wpAny_rule ?_)
    rw [if_pos trivial]
    refine wpAny_bind (wpAny_mkFloat ?_)
    have hpb := prePr_bound hb i (Nat.le_refl _)
    have hex := tlTo_ex ht (by omega)
    refine wpAny_bind (wpAny_holding (add_if_sharp hh (fun ho => ?_) fun _ => ?_))
    · exact absurd (Nat.lt_of_lt_of_le (show 16 < 2 ^ 1024 - 2 ^ 970 by decide +kernel) ho) (by decide)
    refine wpAny_pure (hR _ _ _ (fun c o q1 q2 e => m2.heap c o q2 (m1.heap c o q1 e)) (fun hj => j2 _ _ m2.gens (j1 _ _ m1.gens hj)) (m2.drawn.trans m1.drawn) (m2.os.trans m1.os) ?_)
    exact (((Ex.ofInt (i := 0) (by decide)).add hex (by omega)).cast (by omega))
  | succ k ih =>
    intro i s fA hi lo ti io fu hk hi' hflag h1 h2 hf1 hf2 hf ht hR
    have hlt : i < n := by omega
    refine codeAny_builtin entry_sumprod_loop ?_
    rw [Around.under_plainId plain_sumprod_loop _]
    unfold Builtin.«math.sumprod.loop»
    refine wpAny_bind (wpAny_seqItems hf rfl ?_)
    dsimp only [Option.getD_some, bitsOf, List.map_cons, List.map_nil, rawInt]
    refine wpAny_bind (W1.item i s _ _ hlt h1 fun v1 s1 hv1 h1' m1 => ?_)
    refine wpAny_bind (wpAny_holding (W2.item i s1 _ _ hlt (c1 _ _ _ h2 m1) fun v2 s2 hv2 h2' m2 => ?_))
    obtain ⟨x, tx, rfl, hx⟩ := hP1 _ _ hv1
    obtain ⟨y, ty, rfl, hy⟩ := hP2 _ _ hv2
    rw [if_neg (by simp)]
    simp only [u64]
    have hpb := prePr_bound hb i (by omega)
    have hbi := hb i hlt
    have hnext := tlFma_ex hx hy ht (by omega) (by omega)
    have key : ∀ (s3 : Shared), s3 = s2 → wpAny (model prog w) A.in1 (do
        let t ← newTuple [Value.int ((Builtin.Math.tlFma x y (hi, lo, ti)).1.toNat : Nat) 0, Value.int ((Builtin.Math.tlFma x y (hi, lo, ti)).2.1.toNat : Nat) 0, Value.int ((Builtin.Math.tlFma x y (hi, lo, ti)).2.2.toNat : Nat) 0]
        again (.builtin "math.sumprod.loop" ⟨[.ref I1, .ref I2, .int 0 t0, .bool false, .int 0 0, .bool false, .bool true, t, .bool true], []⟩))
        (fun fin s' => match fin with | .done f => R (.ok f) s' | .again c' => c'.quiet = true ∧ codeAny (model prog w) A c' R s') (fun e s' => R (.error e) s') s3 := by
      rintro s3 rfl
      refine wpAny_bind (wpAny_newTuple ?_ (by simp [sizeLine_eq]))
      refine wpAny_pure ⟨plainId_quiet plain_sumprod_loop _, ?_⟩
      have hup : ∀ c o, c ∉ wr1 → c ∉ wr2 → s.heap.get? c = some o → s3.heap.get? c = some o := fun c o q1 q2 e => m2.heap c o q2 (m1.heap c o q1 e)
      have hI2 := hsz _ _ h2'
      refine ih (i + 1) _ _ _ _ _ false true (by omega) (by omega) (Or.inr ⟨rfl, rfl⟩) (W1.frame _ s3 _ _ (c2 _ _ _ h1' m2) (Nat.le_refl _) fun c _ o e => Heap.get?_push_of_some _ e) (W2.frame _ s3 _ _ h2' (Nat.le_refl _) fun c _ o e => Heap.get?_push_of_some _ e) ?_ ?_ (Heap.get?_push_size _ rfl) ?_ ?_
      · intro q
        exact absurd (Nat.lt_trans hI2 (hw1 _ q)) (Nat.lt_irrefl _)
      · intro q
        exact absurd (Nat.lt_trans hI2 (hw2 _ q)) (Nat.lt_irrefl _)
      · exact hnext
      · intro r t s' hk hJ hd ho hr
        exact hR r t s' (fun c o q1 q2 e => hk c o q1 q2 (Heap.get?_push_of_some _ (hup c o q1 q2 e))) (fun hj => hJ (j2 _ _ m2.gens (j1 _ _ m1.gens hj))) (hd.trans (m2.drawn.trans m1.drawn)) (ho.trans (m2.os.trans m1.os)) hr
    cases io with
    | false =>
      rw [if_neg Bool.false_ne_true, if_pos trivial, if_pos (by rfl), if_pos hnext.1.finite]
      exact key s2 rfl
    | true =>
      rw [if_pos rfl]
      refine wpAny_bind (wpAny_rule ?_)
      simp only [Bool.false_eq_true, if_false]
      rw [if_pos trivial, if_pos (by rfl), if_pos hnext.1.finite]
      exact key s2 rfl
theorem Tri.zero : Tri (Float64.zero false, Float64.zero false, Float64.zero false) 0 := ⟨Ex.zero false, Ex.zero false, Ex.zero false⟩
theorem sumprod_c {E : Value → Shared → Prop} {s : Shared} {Q : Value → Shared → Prop} {I1 I2 : Addr} {fp1 fp2 wr1 wr2 : List Addr} {G1 G2 : Array GenState → Array GenState → Prop} {n : Nat} {P1 P2 : Nat → Value → Prop} {St1 St2 : Nat → Shared → Prop}
    (W1 : WalksS prog w A.in1 I1 fp1 wr1 G1 n P1 St1) (W2 : WalksS prog w A.in1 I2 fp2 wr2 G2 n P2 St2)
    (c1 : ∀ j s s', St2 j s → Moved wr1 G1 s s' → St2 j s') (c2 : ∀ j s s', St1 j s → Moved wr2 G2 s s' → St1 j s') (hsz : ∀ j s, St2 j s → I2 < s.heap.objs.size) (hw1 : ∀ b ∈ wr1, b < I2) (hw2 : ∀ b ∈ wr2, b < I2)
    (J : Array GenState → Prop) (j1 : ∀ a b, G1 a b → J a → J b) (j2 : ∀ a b, G2 a b → J a → J b)
    (a b : Nat → Int) (hP1 : ∀ i v, P1 i v → ∃ x t, v = .float x t ∧ Ex x (8 * a i)) (hP2 : ∀ i v, P2 i v → ∃ x t, v = .float x t ∧ Ex x (8 * b i)) (hb : ∀ j, j < n → (a j * b j).natAbs < 2 ^ 40) (hn : n ≤ 100) (hn0 : 0 < n) (hh : A.handled = none)
    (h1 : St1 0 s) (h2 : St2 0 s)
    (hQ : ∀ r t s', (∀ c o, c ∉ wr1 → c ∉ wr2 → s.heap.get? c = some o → s'.heap.get? c = some o) → (J s.gens → J s'.gens) → s'.drawn = s.drawn → s'.os = s.os → Ex r (prePr a b n) → Q (.float r t) s') :
    wpAny (model prog w) A (call (.builtin "math.sumprod") [.ref I1, .ref I2]) Q E s := by
  refine call_function_tree kind_sumprod plain_sumprod entry_sumprod (args_sumprod _ _) ?_
  unfold Builtin.«math.sumprod»
  refine wpAny_bind (wpAny_of_eq (a := [Value.ref I1, Value.ref I2]) rfl ?_)
  refine wpAny_bind (W1.self 0 s _ _ h1 ?_)
  refine wpAny_bind (wpAny_holding (W2.self 0 s _ _ h2 ?_))
  refine wpAny_bind (wpAny_mkInt ?_)
  refine wpAny_bind (wpAny_newTuple ?_ (by simp [sizeLine_eq]))
  refine wpAny_pure ⟨plainId_quiet plain_sumprod_loop _, ?_⟩
  have hI2 := hsz _ _ h2
  refine codeAny_sumprod_loop W1 W2 c1 c2 hsz hw1 hw2 J j1 j2 a b hP1 hP2 hb hn hn0 hh s.toks n 0 _ _ _ _ _ true false (Nat.sub_zero _) (Nat.zero_le _) (Or.inl rfl) (W1.frame 0 s _ _ h1 (Nat.le_succ _) fun c _ o e => Heap.get?_push_of_some _ e) (W2.frame 0 s _ _ h2 (Nat.le_succ _) fun c _ o e => Heap.get?_push_of_some _ e) ?_ ?_ (Heap.get?_push_size _ rfl) Tri.zero ?_
  · intro q
    exact absurd (Nat.lt_trans hI2 (hw1 _ q)) (Nat.lt_irrefl _)
  · intro q
    exact absurd (Nat.lt_trans hI2 (hw2 _ q)) (Nat.lt_irrefl _)
  · intro r t s' hk hJ hd ho hr
    exact hQ r t s' (fun c o q1 q2 e => hk c o q1 q2 (Heap.get?_push_of_some _ e)) hJ hd ho hr
end
end Mine
end
section
open PySem PySem.W PyProof.Rows PySem.Calls PySem.Float64
set_option Elab.async false
set_option maxRecDepth 100000
namespace Mine
section
variable {prog : Program} {w : World} {A : Around}
/-- what the generator over ks, less d / 8, gives at place i -/
def DevAt (ks : List Int) (d : Int) (i : Nat) (y : Value) : Prop := ∃ x t, y = .float x t ∧ Ex x (8 * (8 * ks.getD i 0 - d))
abbrev GenD (prog : Program) (w : World) (A : Around) (a : Addr) (g : Nat) (C I l cc : Addr) (ks : List Int) (d : Int) : Nat → Shared → Prop :=
  GenAt prog w A.in1 a g C [I, l, cc, cStatics] [I] (fun _ => true) ks.length (DevAt ks d)
theorem pass_all (n : Nat) : passing (fun _ => true) n 0 = List.range n := by
  unfold passing
  rw [List.drop_zero]
  exact List.filter_eq_self.mpr fun _ _ => rfl
theorem gen_elt {cenv : Env} {x cv : Str} {p1 p2 p3 : Pos} {fp wr : List Addr} {vs : List Value} {ks : List Int} {cc : Addr} {f : UInt64} {tf : Tok} {oc : Obj} {d : Int} {href : Heap} {D U : Nat} (hi : IntsAre vs ks) (hb : ∀ k ∈ ks, 0 ≤ k ∧ k ≤ 16) (hf : Ex f (8 * d)) (hd : d.natAbs ≤ 2 ^ 20)
    (hkind : cenv.scope.kind = .function) (hx : cenv.kindOf x = some .local) (hcv : cenv.kindOf cv = some .free) (hclv : cenv.cells.lookup cv = some cc) (hxd : (x == ("__debug__" : Str)) = false) (hcvd : (cv == ("__debug__" : Str)) = false) (hcvc : (cv == ("__classdict__" : Str)) = false)
    (hcc : href.get? cc = some oc) (hocd : oc.data = .cell (some (.float f tf))) (hcf : cc ∈ fp) (hcw : cc ∉ wr) :
    QuietGenD prog w cenv x [] (.BinOp (.Name x p1) .Sub (.Name cv p2) p3) fp wr (fun i v => vs.toArray[i]? = some v) (fun _ => true) (DevAt ks d) href D U where
  tests := fun A' E' i v s₂ m₂ _ _ _ _ _ _ _ => by
    simp only [List.forIn_nil]
    exact wpAny_pure ⟨rfl, s₂.heap, s₂.toks, rfl, fun _ _ e => e⟩
  elt := fun A' E' i v s₂ m₂ hA _ _ hv _ hn hm hk => by
    obtain ⟨k, t, rfl, hkk⟩ := hi.at i v (by simpa using hv)
    have hkb := hb k (List.mem_of_getElem? hkk)
    refine wpAny_BinOp (wpAny_Name (wpAny_loadName_local hkind hx hn hm ?_) hxd)
    refine wpAny_Name (wpAny_loadName_free hkind hcv hclv ⟨oc, hk cc hcf hcw oc hcc, hocd⟩ ?_ hcvc) hcvd
    refine sub_if_sharp hA (fun ho => ?_) fun _ => ?_
    · exact absurd (Nat.lt_of_lt_of_le (show 16 < 2 ^ 1024 - 2 ^ 970 by decide +kernel) ho) (by omega)
    · refine ⟨⟨_, _, rfl, ?_⟩, s₂.heap, _, rfl, fun _ _ e => e⟩
      have e : ks.getD i 0 = k := by rw [List.getD_eq_getElem?_getD, hkk]; rfl
      rw [e]
      exact ((Ex.ofInt (i := k) (by omega)).sub hf (by omega)).cast (by omega)
theorem gen_made {E : Value → Shared → Prop} {s : Shared} {Q : Value → Shared → Prop} {env : Env} {x cv : Str} {p1 p2 p3 px pos : Pos} {iter : Expr} {scope : Scope} {cl : List (Str × Addr)} {l cc c P : Addr} {ps : Array Value} {vs : List Value} {ks : List Int} {f : UInt64} {tf : Tok} {oc : Obj} {d : Int} {mg : Str → Option Value} {bm : Addr} {ob : Obj}
    (hh : A.handled = none) (hroom : A.depth < recursionLimit) (hiter : wpAny (model prog w) A (eval iter env) (fun v s₁ => v = .ref l ∧ s₁ = s) E s)
    (hl : s.heap.IsList l vs.toArray) (hi : IntsAre vs ks) (hb : ∀ k ∈ ks, 0 ≤ k ∧ k ≤ 16) (hcc : s.heap.get? cc = some oc) (hocd : oc.data = .cell (some (.float f tf))) (hf : Ex f (8 * d)) (hd : d.natAbs ≤ 2 ^ 20) (hlim : s.heap.NoLimit)
    (hcode : env.code = .ref c) (hic : s.heap.IsCode c P ps) (htab : s.heap.TableAt c P ps) (hnf : codeAmong pos ps.toList = none) (M : BMod s.heap env.globals mg bm ob)
    (hco : scope.isCoroutine = false) (hclos : closureFor scope env = pure cl) (hcell : ∀ y ∈ scope.names, y.2 ≠ .cell) (h0 : scope.names.lookup (".0" : Str) = some NameKind.local) (hx : scope.names.lookup x = some .local) (hkind : scope.kind = .function)
    (hcv : scope.names.lookup cv = some .free) (hclv : cl.lookup cv = some cc) (hxd : (x == ("__debug__" : Str)) = false) (hcvd : (cv == ("__debug__" : Str)) = false) (hcvc : (cv == ("__classdict__" : Str)) = false)
    (hs : ∀ x, genFold iter env x = pure x) (hPc : P ≠ cStatics) (hlP : l ≠ P) (hcP : cc ≠ P)
    (hQ : ∀ (c' I C a : Addr) h' tk gs, gs.bare = true → (∀ b o, b ≠ P → s.heap.get? b = some o → h'.get? b = some o) → h'.IsCode c P (ps ++ #[rawInt pos.line, rawInt pos.col, .ref c']) → h'.TableAt c P (ps ++ #[rawInt pos.line, rawInt pos.col, .ref c']) →
      @LE.le Nat _ s.heap.objs.size I → @LE.le Nat _ s.heap.objs.size C → @LT.lt Nat _ I C → @LT.lt Nat _ C a → @LT.lt Nat _ a h'.objs.size → 
      WalksS prog w A.in1 a [a, C, I, l, cc, cStatics] [C, I] (GenOnlyQ s.gens.size) ks.length (fun j y => ∃ i, (List.range ks.length)[j]? = some i ∧ DevAt ks d i y) (GenD prog w A a s.gens.size C I l cc ks d) →
      GenD prog w A a s.gens.size C I l cc ks d 0 { s with heap := h', gens := s.gens.push gs, toks := tk } → Q (.ref a) { s with heap := h', gens := s.gens.push gs, toks := tk }) :
    wpAny (model prog w) A (eval (.GeneratorExp (.BinOp (.Name x p1) .Sub (.Name cv p2) p3) [⟨.Name x px, iter, [], 0⟩] scope pos) env) Q E s := by
  refine wpAny_GeneratorExp_make hco hclos hcell h0 hkind hroom (wpAny_mono hiter (fun v s₁ h₁ => ?_) fun _ _ e => e) hs
  obtain ⟨rfl, rfl⟩ := h₁
  refine wpAny_pyIter_list hl ⟨hlim.push _, ?_⟩
  have kp : ∀ b o, s₁.heap.get? b = some o → (s₁.heap.push { cls := .type "list_iterator", data := .fields #[.ref l, .int 0 0] }).get? b = some o := fun b o e => Heap.get?_push_of_some _ e
  refine wpAny_genexprCodeX hcode (hic.keeps kp) (htab.keeps kp) hnf fun c' h₃ tk₃ hx₃ hge hlt hcode₃ _ htab₃ _ => ?_
  have M₃ : BMod h₃ env.globals mg bm ob := (M.keeps kp).extBut (htab.keeps kp) hx₃
  refine wpAny_builtinsFor M₃.ns M₃.name M₃.ne M₃.obj M₃.cls M₃.dict M₃.data ?_
  intro h' hn' hs'
  have hIlt : s₁.heap.objs.size < h₃.objs.size := by
    have h1 : (s₁.heap.push { cls := .type "list_iterator", data := .fields #[.ref l, .int 0 0] }).objs.size ≤ c' := hge
    rw [Heap.size_push] at h1
    omega
  have hs'' : Heap.SameBut h₃.objs.size (h₃.push { cls := .type "frame", data := .dict #[] }) h' := hs'
  have hsz : h'.objs.size = h₃.objs.size + 1 := by rw [hs''.1, Heap.size_push]
  have keep₃ : ∀ b o, h₃.get? b = some o → h'.get? b = some o := fun b o e => hs''.extBut b o (Nat.ne_of_lt (Heap.lt_size e)) (Heap.get?_push_of_some _ e)
  have keep₄ : ∀ (g : Obj) b o, h₃.get? b = some o → (h'.push g).get? b = some o := fun g b o e => Heap.get?_push_of_some _ (keep₃ b o e)
  have keepS : ∀ (g : Obj) b o, b ≠ P → s₁.heap.get? b = some o → (h'.push g).get? b = some o := fun g b o hb e => keep₄ g b o (hx₃ b o hb (kp b o e))
  have hllt : @LT.lt Nat _ l s₁.heap.objs.size := by obtain ⟨_, e, _⟩ := hl; exact Heap.lt_size e
  have hclt : @LT.lt Nat _ cc s₁.heap.objs.size := Heap.lt_size hcc
  have hPlt : @LT.lt Nat _ P s₁.heap.objs.size := Heap.lt_size htab.2
  have hslt : @LT.lt Nat _ cStatics s₁.heap.objs.size := let ⟨_, hn, _⟩ := hlim; hn.lt
  refine hQ c' s₁.heap.objs.size h₃.objs.size h'.objs.size _ _ _ rfl (keepS _) (hcode₃.keeps (keep₄ _)) (htab₃.keeps (keep₄ _)) (Nat.le_refl _) (Nat.le_of_lt hIlt) hIlt (by rw [hsz]; exact Nat.lt_succ_self _) (by rw [Heap.size_push]; exact Nat.lt_succ_self _) ?_ ?_
  · have W := WalksS.genexpQ (prog := prog) (w := w) (A := A.in1) hh h'.objs.size s₁.gens.size h₃.objs.size [s₁.heap.objs.size, l, cc, cStatics] [s₁.heap.objs.size] (fun _ => true) ks.length (DevAt ks d) ?_ ?_ ?_ hroom (by simp) ?_ ?_
    · rw [pass_all, List.length_range] at W
      exact W
    · refine neN ?_; omega
    · intro hm
      simp only [List.mem_cons, List.not_mem_nil, or_false] at hm
      rcases hm with e | e | e | e
      · exact absurd (hsz ▸ e : @Eq Nat _ _) (by omega)
      · exact absurd (hsz ▸ e : @Eq Nat _ _) (by omega)
      · exact absurd (hsz ▸ e : @Eq Nat _ _) (by omega)
      · exact absurd (hsz ▸ e : @Eq Nat _ _) (by omega)
    · intro b hb
      rw [List.mem_singleton.mp hb]
      simp
    · refine neN ?_; omega
    · intro hm
      exact absurd (List.mem_singleton.mp hm : @Eq Nat _ _) (by omega)
  · have hkk : ∀ (g : Obj) b o, b ≠ P → (s₁.heap.push { cls := .type "list_iterator", data := .fields #[.ref l, .int 0 0] }).get? b = some o → (h'.push g).get? b = some o := fun g b o hb e => keep₄ g b o (hx₃ b o hb e)
    have hlen : vs.toArray.size = ks.length := by have := hi.length; simpa using this
    refine GenAt.freshD (A := A.in1) (iter := iter) (px := px) (scope := scope) (pos := pos) (I := s₁.heap.objs.size) (cenv := genEnv scope cl h₃.objs.size (.ref c') builtinsNs env) (m := fun y => if y = ".0" then some (.ref s₁.heap.objs.size) else none) (P := fun i v => vs.toArray[i]? = some v) (St₀ := fun i h => h.IsListIter s₁.heap.objs.size l i ∧ h.IsList l vs.toArray) hh (fun A' hA => ?_) _ _ hx (by simp [genEnv, hkind]) hco ?_ ?_ ⟨_, _, _, Heap.get?_push_size _ rfl, rfl, rfl, rfl⟩ (Array.getElem?_push_size ..) ?_ (hn'.push _) ?_
    · rw [← hlen]
      exact (Walks.list hA _ l (Nat.ne_of_lt hllt) vs.toArray).mono_fp fun b hb => by
        simp only [List.mem_cons, List.not_mem_nil, or_false] at hb ⊢
        rcases hb with h | h
        · exact Or.inl h
        · exact Or.inr (Or.inl h)
    · intro hm
      simp only [List.mem_cons, List.not_mem_nil, or_false] at hm
      rcases hm with e | e | e | e
      · exact absurd (e : @Eq Nat _ _) (by show ¬ (h₃.objs.size = s₁.heap.objs.size); omega)
      · exact absurd (e : @Eq Nat _ _) (by show ¬ (h₃.objs.size = l); omega)
      · exact absurd (e : @Eq Nat _ _) (by show ¬ (h₃.objs.size = cc); omega)
      · exact absurd (e : @Eq Nat _ _) (by show ¬ (h₃.objs.size = cStatics); omega)
    · refine gen_elt hi hb hf hd hkind hx hcv hclv hxd hcvd hcvc (hkk _ _ _ hcP (kp _ _ hcc)) hocd (by simp) ?_
      intro hm
      exact absurd (List.mem_singleton.mp hm : @Eq Nat _ _) (by omega)
    · refine ⟨⟨_, hkk _ _ _ ?_ (Heap.get?_push_size _ rfl), rfl, rfl⟩, hl.at fun o e => hkk _ _ _ hlP (kp _ _ e)⟩
      refine neN ?_; omega
    · refine Heap.NoLimit.keeps (h := h₃) ?_ (keep₄ _)
      exact (hlim.push _).extBut hx₃ (Ne.symm hPc)
end
end Mine
end
section
open PySem PySem.W PyProof.Rows PySem.Calls
set_option Elab.async false
namespace Mine
local macro_rules | `(tactic| walk_at "ite") => `(tactic| refine hold ?_)
local macro_rules | `(tactic| walk_at "binaryOp Div float int") => `(tactic| refine hold ?_)
local macro_rules | `(tactic| walk_at "call builtin:math.fsum") => `(tactic| refine hold ?_)
local macro_rules | `(tactic| walk_at "call builtin:math.sumprod") => `(tactic| refine hold ?_)
local macro_rules | `(tactic| walk_at "eval GeneratorExp") => `(tactic| refine hold ?_)
theorem div_mean {prog : Program} {w : World} {A : Around} {E : Value → Shared → Prop} {s : Shared} {Q : Value → Shared → Prop} {r : UInt64} {t u : Tok} {S : Int} {q n : Nat} (hA : A.handled = none) (hr : Ex r (64 * S)) (hq : q * n = 8) (hS : S.natAbs ≤ 1000)
    (h : ∀ x, Ex x (8 * (q * S)) → Q (.float x s.toks) { s with toks := s.toks + 1 }) : wpAny (model prog w) A (binaryOp .Div (.float r t) (.int (n : Int) u)) Q E s := by
  have hn0 : 0 < n := by rcases Nat.eq_zero_or_pos n with h | h; subst h; omega; exact h
  have hn8 : n ≤ 8 := Nat.le_of_dvd (by decide) ⟨q, by rw [Nat.mul_comm]; exact hq.symm⟩
  have hq8 : q ≤ 8 := Nat.le_of_dvd (by decide) ⟨n, hq.symm⟩
  refine PySem.Flt.truediv_fi hA (fun ho => ?_) (fun hz => ?_) fun _ _ => h _ ?_
  · exact absurd (Nat.lt_of_lt_of_le (show 16 < 2 ^ 1024 - 2 ^ 970 by decide +kernel) ho) (by omega)
  · omega
  · have hqS : (q * S : Int).natAbs ≤ 8000 := by
      rw [Int.natAbs_mul, Int.natAbs_natCast]
      exact Nat.mul_le_mul hq8 hS
    refine Ex.div (n := n) (hr.cast ?_) (Ex.ofInt (i := (n : Int)) (by omega)) hn0 (by omega)
    have e : ((n : Int) * (q : Int)) = 8 := by
      have := congrArg (Nat.cast (R := Int)) hq
      rw [Int.natCast_mul] at this
      rw [Int.mul_comm]
      exact this
    rw [show (n : Int) * (8 * (q * S)) = (n * q) * (8 * S) by simp only [Int.mul_assoc, Int.mul_comm, Int.mul_left_comm], e]
    omega
theorem getD_bound {ks : List Int} (hb : ∀ k ∈ ks, 0 ≤ k ∧ k ≤ 16) (j : Nat) : 0 ≤ ks.getD j 0 ∧ ks.getD j 0 ≤ 16 := by
  rw [List.getD_eq_getElem?_getD]
  cases h : ks[j]? with
  | none => exact ⟨Int.le_refl _, by decide⟩
  | some k => exact hb k (List.mem_of_getElem? h)
theorem gen_frame {prog : Program} {w : World} {A : Around} {a : Addr} {g : Nat} {C : Addr} {fp wr : List Addr} {pz : Nat → Bool} {n : Nat} {F : Nat → Value → Prop} {j : Nat} {s s' : Shared} (G : GenAt prog w A a g C fp wr pz n F j s) (hcs : cStatics ∈ fp)
    (hk : ∀ b ∈ a :: C :: fp, ∀ o, s.heap.get? b = some o → s'.heap.get? b = some o) (hg : s'.gens[g]? = s.gens[g]?) : GenAt prog w A a g C fp wr pz n F j s' := by
  obtain ⟨h1, h2, gs, h3, h4⟩ := G
  refine ⟨?_, ?_, gs, hg.trans h3, fun s'' hal => h4 s'' fun b hb o e => hal b hb o (hk b (List.mem_cons_of_mem _ hb) o e)⟩
  · obtain ⟨o, nm, qn, ho, r⟩ := h1
    exact ⟨o, nm, qn, hk a (List.mem_cons_self ..) o ho, r⟩
  · obtain ⟨mc, hns, hnn⟩ := h2
    exact ⟨mc, hns.at' fun o e => hk cStatics (List.mem_cons_of_mem _ (List.mem_cons_of_mem _ hcs)) o e, hnn⟩
theorem onlyQ_other {g k : Nat} {a b : Array GenState} (h : GenOnlyQ g a b) (hk : k ≠ g) : b[k]? = a[k]? := by
  rcases h with h | h
  · rw [h]
  · exact h.1.2 k hk
theorem iter_name {prog : Program} {w : World} {A : Around} {E : Value → Shared → Prop} {s : Shared} {env : Env} {x : Str} {pos : Pos} {m : Str → Option Value} {v : Value} (hn : s.heap.Ns env.locals m) (hm : m x = some v) (hk : env.scope.kind = .function) (hx : env.kindOf x = some .local) (hxd : (x == ("__debug__" : Str)) = false) :
    wpAny (model prog w) A (eval (.Name x pos) env) (fun v' s₁ => v' = v ∧ s₁ = s) E s := wpAny_Name (wpAny_loadName_local hk hx hn hm ⟨rfl, rfl⟩) hxd
set_option maxRecDepth 100000 in
set_option maxHeartbeats 1600000 in
theorem cov_c (w : World) (mean : ExcName → Option Value) (mg mb : Str → Option Value) (lx ly : Addr) (vx vy : List Value) (xs ys : List Int) (hix : IntsAre vx xs) (hiy : IntsAre vy ys) (n q : Nat) (hxl : xs.length = n) (hyl : ys.length = n) (hn2 : 2 ≤ n) (hq : q * n = 8) (hbx : ∀ k ∈ xs, 0 ≤ k ∧ k ≤ 16) (hby : ∀ k ∈ ys, 0 ≤ k ∧ k ≤ 16) {dp un gd fr} {s : Shared}
   (hd : dp + 5 < recursionLimit) (hu : un + 50 < cLine) (hlx : s.heap.IsList lx vx.toArray) (hly : s.heap.IsList ly vy.toArray) (hic : s.heap.IsCode 61 57 #[]) (htab : s.heap.TableAt 61 57 #[])
   (X : (Mine.hd.heap_39 w.params).In s.heap) (T : Top Mine.hd.view_39 (looseW Mine.hd.view_39 [Str.ofString "_filemode_table"]) mean mg mb s.heap) {Q E : Value → Shared → Prop}
   (hQ : ∀ x t S' ps', (∀ b o, b ≠ 57 → s.heap.get? b = some o → S'.heap.get? b = some o) → S'.heap.get? 57 = some { cls := .none, data := .fields ps' } → ((∀ y ∈ s.gens, y.bare = true) → ∀ y ∈ S'.gens, y.bare = true) → S'.drawn = s.drawn → S'.os = s.os →
     Ex x (prePr (fun i => 8 * xs.getD i 0 - q * xs.sum) (fun i => 8 * ys.getD i 0 - q * ys.sum) n) → Q (.float (Float64.div x (Float64.ofInt ((n : Int) - 1))) t) S') :
   wpAny (model PySem.Challenge.rw_oc0090_01.row.prog w) (AT dp un gd fr) (call (.ref 62) [.ref lx, .ref ly]) Q E s := by
  have hn8 : n ≤ 8 := by
    have : 0 < q := by rcases Nat.eq_zero_or_pos q with h | h; subst h; omega; exact h
    exact Nat.le_of_dvd (by decide) ⟨q, by rw [Nat.mul_comm]; exact hq.symm⟩
  subst hxl
  have hSx : (xs.sum).natAbs ≤ 1000 := by
    have := preS_bound hbx xs.length
    rw [preS, List.take_length] at this
    omega
  have hSy : (ys.sum).natAbs ≤ 1000 := by
    have := preS_bound hby ys.length
    rw [preS, List.take_length] at this
    omega
  have hq8 : q ≤ 8 := Nat.le_of_dvd (by decide) ⟨_, hq.symm⟩
  have hqb : ∀ {S : Int}, S.natAbs ≤ 1000 → ((q : Int) * S).natAbs ≤ 8000 := by
    intro S hS
    rw [Int.natAbs_mul, Int.natAbs_natCast]
    exact Nat.mul_le_mul hq8 hS
  w_on
  revert X
  k_fill
  intro X
  refine wpAny_call ?_
  k_dflt (refine' enterC [(Str.ofString "x", .ref lx), (Str.ofString "y", .ref ly)] [(Str.ofString "ybar", s.heap.objs.size + 2), (Str.ofString "xbar", s.heap.objs.size + 1)] ?hcl (fun y => if y = Str.ofString "y" then some (.ref ly) else if y = Str.ofString "x" then some (.ref lx) else none) (fun _ => none) X T.nolimit ?k6 ?k7 ?k8 ?k9 ?kB ?hnd ?hm ?hcm ?_ ?c2 ?c3 ?c4; (case k6 => k_is); (case hcl => exact rfl); (case k7 => k_is); (case k8 => ktr_room); (case k9 => exact BindsTo.of_eq rfl); (case kB => (intro n x hx; rcases List.mem_cons.mp hx with rfl | hx; exact Or.inl rfl; rw [List.mem_singleton.mp hx]; exact Or.inl rfl)); (case hnd => decide); (case hm => exact rfl); (case hcm => exact rfl); (case c2 => exact rfl); (case c3 => exact rfl); (case c4 => exact rfl); k_whole)
  intro h₁ tk₁ cells F N Y
  obtain ⟨oy, ox, rfl, hoy, hox⟩ := Y.two
  clear Y
  have vlx := hix.length
  have vly := hiy.length
  k_steps
  unfold Hold
  rw [if_neg (by rw [hyl]; simp)]
  k_steps
  unfold Hold
  rw [if_neg (by rw [decide_eq_true_eq]; omega)]
  k_steps
  rename Fr _ _ _ _ => F1
  rename News _ _ _ _ => N1
  refine fsum_c rfl lx vx xs hix hbx (by omega) (hlx.at fun o e => F1.keep _ _ e) ?_
  intro r1 t1 h2 tk2 hk2 hr1
  replace F1 := frKeep F1 hk2
  replace N1 := newsKeep N1 hk2
  dsimp only at F1 N1 hk2 ⊢
  clear hk2
  k_steps
  refine div_mean rfl hr1 hq hSx ?_
  intro xb hxb
  k_steps

  rename Fr _ _ _ _ => F3
  rename News _ _ _ _ => N3
  obtain ⟨ox2, tx, hcx, N4⟩ : ∃ o t, o.data = .cell (some (.float xb t)) ∧ News _ _ _ [(s.heap.objs.size + 2, oy), (s.heap.objs.size + 1, o)] := ⟨_, _, by assumption, N3⟩
  clear N3
  refine fsum_c rfl ly vy ys hiy hby (by omega) (hly.at fun o e => F3.keep _ _ e) ?_
  intro r2 t2 h4 tk4 hk4 hr2
  replace F3 := frKeep F3 hk4
  replace N4 := newsKeep N4 hk4
  dsimp only at F3 N4 hk4 ⊢
  clear hk4
  k_steps
  refine div_mean rfl hr2 hq hSy ?_
  intro yb hyb
  k_steps
  rename Fr _ _ _ _ => F5
  rename News _ _ _ _ => N5
  obtain ⟨oy2, ty, hcy, N6⟩ : ∃ o t, o.data = .cell (some (.float yb t)) ∧ News _ _ _ [(s.heap.objs.size + 2, o), (s.heap.objs.size + 1, ox2)] := ⟨_, _, by assumption, N5⟩
  clear N5
  have h57 : @LT.lt Nat _ 57 s.heap.objs.size := Heap.lt_size htab.2
  have hl57 : ∀ {l : Addr} {v : Array Value}, s.heap.IsList l v → l ≠ 57 := by
    intro l v hl e
    obtain ⟨o, ho, hc, _⟩ := hl
    rw [e, htab.2] at ho
    cases ho
    cases hc
  obtain ⟨bm, ob, M⟩ := bmod_of_top T
  refine gen_made (l := lx) (cc := s.heap.objs.size + 1) (c := 61) (P := 57) (ps := #[]) (vs := vx) (ks := xs) (cl := [(Str.ofString "xbar", s.heap.objs.size + 1)]) (mg := mg) (bm := bm) (ob := ob) rfl (by show dp + 1 < _; omega) (iter_name F5.ns rfl rfl rfl rfl) (hlx.at fun o e => F5.keep _ _ e) hix hbx (N6 _ (List.mem_cons_of_mem _ (List.mem_cons_self ..))).1 hcx hxb ?_ (T.nolimit.keeps F5.keep) rfl (hic.keeps F5.keep) (htab.keeps F5.keep) rfl (M.keeps F5.keep) rfl rfl (by decide) rfl rfl rfl rfl rfl rfl rfl rfl (fun _ => rfl) (by decide) (hl57 hlx) (by refine neN ?_; omega) ?_
  · exact Nat.le_trans (hqb hSx) (by decide)
  intro c1 I1 C1 a1 h6 tk6 gs1 hb1 hk6 hic1 htab1 hI1 hC1 hIC1 hCa1 ha1 W1 G1
  dsimp only at hk6 hI1 hC1 W1 G1 ⊢
  have hL5 := F5.ns.lt
  have hx1 : @LT.lt Nat _ (s.heap.objs.size + 1) _ := Heap.lt_size (N6 _ (List.mem_cons_of_mem _ (List.mem_cons_self ..))).1
  have hy1 : @LT.lt Nat _ (s.heap.objs.size + 2) _ := Heap.lt_size (N6 _ (List.mem_cons_self ..)).1
  have ns6 := F5.ns.extBut hk6 (by refine neN ?_; omega)
  have hly6 : h6.IsList ly vy.toArray := hly.at fun o e => hk6 _ _ (hl57 hly) (F5.keep _ _ e)
  have hcy6 := hk6 _ _ (by refine neN ?_; dsimp only; omega) (N6 _ (List.mem_cons_self ..)).1
  have M6 : BMod h6 mainGlobals mg bm ob := (M.keeps F5.keep).extBut (htab.keeps F5.keep) hk6
  have lim6 : h6.NoLimit := (T.nolimit.keeps F5.keep).extBut hk6 (by decide)
  have keep6 : ∀ b o, b ≠ 57 → s.heap.get? b = some o → h6.get? b = some o := fun b o hb e => hk6 b o hb (F5.keep b o e)
  have hsz6 : @LT.lt Nat _ a1 h6.objs.size := ha1
  k_steps
  refine gen_made (l := ly) (cc := s.heap.objs.size + 2) (c := 61) (P := 57) (vs := vy) (ks := ys) (cl := [(Str.ofString "ybar", s.heap.objs.size + 2)]) (mg := mg) (bm := bm) (ob := ob) rfl (by show dp + 1 < _; omega) (iter_name ns6 rfl rfl rfl rfl) hly6 hiy hby hcy6 hcy hyb (Nat.le_trans (hqb hSy) (by decide)) lim6 rfl hic1 htab1 rfl M6 rfl rfl (by decide) rfl rfl rfl rfl rfl rfl rfl rfl (fun _ => rfl) (by decide) (hl57 hly) (by refine neN ?_; omega) ?_
  intro c2 I2 C2 a2 h7 tk7 gs2 hb2 hk7 hic2 htab2 hI2 hC2 hIC2 hCa2 ha2 W2 G2
  dsimp only at hk7 hI2 hC2 W2 G2 ⊢
  have hL5' : @LT.lt Nat _ s.heap.objs.size _ := hL5
  have hlxs : @LT.lt Nat _ lx s.heap.objs.size := by obtain ⟨_, e, _⟩ := hlx; exact Heap.lt_size e
  have hlys : @LT.lt Nat _ ly s.heap.objs.size := by obtain ⟨_, e, _⟩ := hly; exact Heap.lt_size e
  have hcs : @LT.lt Nat _ cStatics s.heap.objs.size := let ⟨_, hn, _⟩ := T.nolimit; hn.lt
  have ns7 := ns6.extBut hk7 (by refine neN ?_; omega)
  have keep7 : ∀ b o, b ≠ 57 → s.heap.get? b = some o → h7.get? b = some o := fun b o hb e => hk7 b o hb (keep6 b o hb e)
  rw [hyl] at W2
  k_steps
  clear hk6 F5 N6 keep6 ns6 hcy6 hly6 M6 lim6 hic1 htab1 hL5
  refine sumprod_c W1 W2 ?c1 ?c2 ?hsz ?hw1 ?hw2 (fun g => ∀ y ∈ g, y.bare = true) (fun _ _ h ha => h.bare ha) (fun _ _ h ha => h.bare ha) (fun i => 8 * xs.getD i 0 - q * xs.sum) (fun i => 8 * ys.getD i 0 - q * ys.sum) ?hP1 ?hP2 ?hbd (by omega) (by omega) rfl ?h1 G2 ?_
  case c1 =>
    intro j t t' G m
    refine gen_frame G (by simp) (fun b hb o e => m.heap b o ?_ e) (onlyQ_other m.gens (by simp))
    simp only [List.mem_cons, List.not_mem_nil, or_false, not_or] at hb ⊢
    rcases hb with rfl | rfl | rfl | rfl | rfl | rfl <;> exact ⟨by refine neN ?_; omega, by refine neN ?_; omega⟩
  case c2 =>
    intro j t t' G m
    refine gen_frame G (by simp) (fun b hb o e => m.heap b o ?_ e) (onlyQ_other m.gens (by simp))
    simp only [List.mem_cons, List.not_mem_nil, or_false, not_or] at hb ⊢
    rcases hb with rfl | rfl | rfl | rfl | rfl | rfl <;> exact ⟨by refine neN ?_; omega, by refine neN ?_; omega⟩
  case hsz =>
    intro j t G
    obtain ⟨⟨o, _, _, ho, _⟩, _⟩ := G
    exact Heap.lt_size ho
  case hw1 =>
    intro b hb
    simp only [List.mem_cons, List.not_mem_nil, or_false] at hb
    show @LT.lt Nat _ b a2
    rcases hb with rfl | rfl <;> omega
  case hw2 =>
    intro b hb
    simp only [List.mem_cons, List.not_mem_nil, or_false] at hb
    show @LT.lt Nat _ b a2
    rcases hb with rfl | rfl <;> omega
  case hP1 =>
    rintro i v ⟨k, hk, x, t, rfl, hx⟩
    obtain ⟨_, rfl⟩ := List.getElem?_eq_some_iff.mp hk
    rw [List.getElem_range] at hx
    exact ⟨x, t, rfl, hx⟩
  case hP2 =>
    rintro i v ⟨k, hk, x, t, rfl, hx⟩
    obtain ⟨_, rfl⟩ := List.getElem?_eq_some_iff.mp hk
    rw [List.getElem_range] at hx
    exact ⟨x, t, rfl, hx⟩
  case hbd =>
    intro j _
    have e1 := getD_bound hbx j
    have e2 := getD_bound hby j
    have e3 := hqb hSx
    have e4 := hqb hSy
    generalize (q : Int) * xs.sum = z1 at *
    generalize (q : Int) * ys.sum = z2 at *
    rw [Int.natAbs_mul]
    exact Nat.lt_of_le_of_lt (Nat.mul_le_mul (show _ ≤ 8200 by omega) (show _ ≤ 8200 by omega)) (by decide)
  case h1 =>
    refine gen_frame G1 (by simp) (fun b hb o e => hk7 b o ?_ e) ?_
    · simp only [List.mem_cons, List.not_mem_nil, or_false] at hb
      refine neN ?_
      rcases hb with rfl | rfl | rfl | rfl | rfl | rfl
      · omega
      · omega
      · omega
      · exact hl57 hlx
      · omega
      · decide
    · simp [Array.getElem?_push]
  intro r t s' hkeep hJ hdr hos hr
  dsimp only at hkeep hJ hdr hos
  obtain ⟨ps2, hps2⟩ : ∃ ps2, h7.get? 57 = some { cls := .none, data := .fields ps2 } := ⟨_, htab2.2⟩
  have hoff : ∀ {b : Addr}, @LE.le Nat _ b s.heap.objs.size → b ∉ [C1, I1] ∧ b ∉ [C2, I2] := by
    intro b hb
    simp only [List.mem_cons, List.not_mem_nil, or_false, not_or]
    exact ⟨⟨by refine neN ?_; omega, by refine neN ?_; omega⟩, by refine neN ?_; omega, by refine neN ?_; omega⟩
  have keep8 : ∀ b o, b ≠ 57 → s.heap.get? b = some o → s'.heap.get? b = some o := fun b o hb e =>
    hkeep b o (hoff (Nat.le_of_lt (Heap.lt_size e))).1 (hoff (Nat.le_of_lt (Heap.lt_size e))).2 (keep7 b o hb e)
  have h57' := hkeep 57 _ (hoff (Nat.le_of_lt h57)).1 (hoff (Nat.le_of_lt h57)).2 hps2
  have ns8 := ns7.at' fun o e => hkeep _ o (hoff (Nat.le_refl _)).1 (hoff (Nat.le_refl _)).2 e
  have rself : (regrown s.heap 57 ps2).get? 57 = some { cls := .none, data := .fields ps2 } := Heap.get?_update_self _ htab.2 rfl
  have roth : ∀ b, b ≠ 57 → (regrown s.heap 57 ps2).get? b = s.heap.get? b := fun b hb => Heap.get?_update_other _ _ (Ne.symm hb)
  have F8 : Fr (regrown s.heap 57 ps2) s.heap.objs.size s'.heap _ := ⟨ns8, fun b o e => by
    by_cases hb : b = 57
    · subst hb; rw [rself] at e; cases e; exact h57'
    · rw [roth b hb] at e; exact keep8 b o hb e, Nat.le_of_eq (Heap.size_update ..)⟩
  have N8 : News (regrown s.heap 57 ps2) s.heap.objs.size s'.heap [] := News.nil
  clear G1 G2 W1 W2 hic2 htab2 hkeep keep7 ns7 hk7 ns8 hps2 hoff
  k_steps
  refine PySem.Flt.truediv_fi rfl (fun ho => ?_) (fun hz => ?_) fun _ _ => ?_
  · exact absurd (Nat.lt_of_lt_of_le (show 16 < 2 ^ 1024 - 2 ^ 970 by decide +kernel) ho) (by omega)
  · omega
  k_steps
  rename Fr _ _ _ _ => F9
  refine hQ r _ _ ps2 (fun b o hb e => F9.keep b o ((roth b hb).trans e)) (F9.keep 57 _ rself) (fun hg => hJ ?_) hdr hos hr
  intro y hy
  rcases Array.mem_push.mp hy with hy | hy
  · rcases Array.mem_push.mp hy with hy | hy
    · exact hg y hy
    · rw [hy]; exact hb1
  · rw [hy]; exact hb2
end Mine
end
section
open PySem PySem.W PyProof.Rows PySem.Calls
set_option Elab.async false
namespace Mine
section
variable {prog : Program} {w : World} {A : Around} {h₀ : Heap} {L : Addr} {m : Str → Option Value} {env : Env} {elt : Expr} {x : Str} {scope : Scope} {cl : List (Str × Addr)} {s : Shared} {S : List (Addr × Obj) → Prop} {P : Nat → Value → Prop} {Fin : List Value → List (Addr × Obj) → Prop} {news : List (Addr × Obj)}
/-- the end of an element: all kept, the value as told -/
def CEnd (s : Shared) (h : Heap) (Rel : Value → Prop) (y : Value) (s₂ : Shared) : Prop := ∃ h' tk', s₂ = { s with heap := h', toks := tk' } ∧ Keep h h' ∧ Rel y
theorem CEnd.mk {s : Shared} {h h' : Heap} {Rel : Value → Prop} {y : Value} {tk' : Nat} (k : Keep h h') (r : Rel y) : CEnd s h Rel y { s with heap := h', toks := tk' } := ⟨h', tk', rfl, k, r⟩
theorem rest_rel {n : Nat} (Rel : Nat → Value → Prop) (hS : S news)
    (turn : ∀ i v I oI C oC D m₂ ys h tk (E' : Value → Shared → Prop), i < n → P i v → LCg.NsObj oC m₂ → m₂ x = some v → Fr h₀ L h m → News h₀ L h ((I, oI) :: (C, oC) :: (D, LCg.lst ys) :: news) → LCg.Off3 I C D news → ((@Ne Nat I C) ∧ (@Ne Nat I D) ∧ (@Ne Nat C D)) →
      wpAny (model prog w) A (eval elt (compEnvC scope cl C env)) (CEnd s h (Rel i)) E' { s with heap := h, toks := tk })
    (fin : ∀ ys, ys.length = n → (∀ i y, ys[i]? = some y → Rel i y) → Fin ys news) : LCg.CompRest prog w A h₀ L m env elt x scope cl s S P Fin n 0 [] news := by
  have key : ∀ (j i : Nat) (ys : List Value), i + j = n → ys.length = i → (∀ k y, ys[k]? = some y → Rel k y) → LCg.CompRest prog w A h₀ L m env elt x scope cl s S P Fin j i ys news := by
    intro j
    induction j with
    | zero =>
      intro i ys hi hl hy
      exact LCg.CompRest.zero (fin ys (by omega) hy)
    | succ j ih =>
      intro i ys hi hl hy
      refine LCg.CompRest.succ ?_
      intro v I oI C oC D m₂ h tk E' hv hC hx F N off ne
      refine wpAny_mono (turn i v I oI C oC D m₂ ys h tk E' (by omega) hv hC hx F N off ne) (fun y s₂ hq => ?_) fun _ _ e => e
      obtain ⟨h', tk', rfl, hk, hr⟩ := hq
      refine ⟨h', tk', news, rfl, frKeep F hk, newsKeep N hk, off, hS, ih (i + 1) _ (by omega) (by simp [hl]) ?_⟩
      intro k y' e
      rcases Nat.lt_trichotomy k ys.length with h1 | h1 | h1
      · rw [List.getElem?_append_left h1] at e
        exact hy k y' e
      · rw [h1, List.getElem?_append_right (Nat.le_refl _), Nat.sub_self] at e
        cases e
        rw [h1, hl]
        exact hr
      · rw [List.getElem?_eq_none (by simp; omega)] at e
        cases e
  exact key n 0 [] (by omega) rfl (fun k y e => by simp at e)
end
theorem news_add {h₀ h h2 : Heap} {L D : Addr} {m : Str → Option Value} {news : List (Addr × Obj)} {o : Obj} (F : Fr h₀ L h m) (N : News h₀ L h news) (hk : Keep h h2) (hn : h.get? D = none) (hD : h2.get? D = some o) : News h₀ L h2 ((D, o) :: news) ∧ ∀ p ∈ news, p.1 ≠ D := by
  refine ⟨fun p hp => ?_, fun p hp e => ?_⟩
  · rcases List.mem_cons.mp hp with rfl | hp
    · refine ⟨hD, fun e => ?_, PyProof.Rows.TI.none_of F.keep hn⟩
      obtain ⟨oL, _, _, hL, _⟩ := F.ns
      rw [show D = L from e, hL] at hn
      cases hn
    · exact newsKeep N hk p hp
  · have := (N p hp).1
    rw [e, hn] at this
    cases this
theorem lawFiles_len (ns : List Int) : ∃ q, q * (lawFiles ns).length = 8 ∧ 2 ≤ (lawFiles ns).length ∧ (lawFiles ns).length ≤ 8 := by
  have e : (lawFiles ns).length = if ns.length < 3 then 2 else if ns.length < 7 then 4 else 8 := by
    unfold lawFiles
    rw [List.length_take, List.length_append, List.length_map, List.length_take]
    simp only [List.length_cons, List.length_nil]
    split
    · omega
    · split <;> omega
  rw [e]
  split
  · exact ⟨4, by decide⟩
  · split
    · exact ⟨2, by decide⟩
    · exact ⟨1, by decide⟩
theorem lawFiles_range (ns : List Int) : ∀ k ∈ lawFiles ns, 0 ≤ k ∧ k < 4096 := by
  intro k hk
  have := List.mem_of_mem_take hk
  rcases List.mem_append.mp this with h | h
  · obtain ⟨x, _, rfl⟩ := List.mem_map.mp h
    rw [Int.fmod_eq_emod_of_nonneg _ (by decide)]
    omega
  · simp only [List.mem_cons, List.not_mem_nil, or_false] at h
    rcases h with rfl | rfl <;> decide
theorem ints_of {f : Int → Int} : ∀ {vs : List Value} {fs : List Int}, vs.length = fs.length → (∀ i y, vs[i]? = some y → ∃ t, y = Value.int (f (fs.getD i 0)) t) → IntsAre vs (fs.map f)
  | [], [], _, _ => .nil
  | v :: vs, k :: fs, hl, h => by
    obtain ⟨t, e⟩ := h 0 v rfl
    rw [e]
    exact .cons _ t (ints_of (by simpa using hl) fun i y hy => by
      obtain ⟨t, e⟩ := h (i + 1) y (by simpa using hy)
      exact ⟨t, by simpa using e⟩)
  | [], _ :: _, hl, _ => by simp at hl
  | _ :: _, [], hl, _ => by simp at hl
theorem on_range (x b : Int) : 0 ≤ on x b ∧ on x b ≤ 1 := by
  unfold on
  split <;> decide
theorem pts_range (part x : Int) : 0 ≤ pts (partBits part) x ∧ pts (partBits part) x ≤ 4 := by
  have e : pts (partBits part) x = on x (8 - 3 * part) + (on x (7 - 3 * part) + (on x (6 - 3 * part) + (on x (11 - part) + 0))) := rfl
  have h1 := on_range x (8 - 3 * part)
  have h2 := on_range x (7 - 3 * part)
  have h3 := on_range x (6 - 3 * part)
  have h4 := on_range x (11 - part)
  omega
theorem rowPts_int {k part : Int} (hk : 0 ≤ k) (h0 : 0 ≤ part) (h2 : part ≤ 2) : rowPts k part = pts (partBits part) k := by
  obtain ⟨n, rfl⟩ := Int.eq_ofNat_of_zero_le hk
  exact pts_law n part h0 h2
theorem row_len (v : Int) : (Txt.join (Str.ofString "") (fmChars v)).length = 10 := by
  obtain ⟨c0, c1, c2, c3, c4, c5, c6, c7, c8, c9, hc, _⟩ := chars10 v
  rw [hc, join10]
  rfl
open PyProof.Rows.TI (Frs SameUp gone gone_get gone_none gone_some none_of base_apart) in
theorem sums_in (w : World) (mean : ExcName → Option Value) (mg mb : Str → Option Value) {hb : Heap} {L a : Addr} {m : Str → Option Value} {name : Str} {scope : Scope} {cd : Value} {cl : List (Str × Addr)} {news : List (Addr × Obj)} {lf : Addr} {vf : List Value} {nf : Nat} {fs : List Int} {part other : Int} {tp tq : Tok} {dp un gd} {s : Shared} {Q E : Value → Shared → Prop}
    (X : (Mine.hd.heap_39 w.params).In hb) (T : TopRead Mine.hd.view_39 (looseW Mine.hd.view_39 [Str.ofString "_filemode_table"]) mg mb hb)
    (F : Fr hb L s.heap m) (N : News hb L s.heap news) (h1 : (lf, W.listOf vf.toArray nf) ∈ news) (hi : IntsAre vf fs) (hlen : fs.length ≤ 8) (hp0 : 0 ≤ part) (hp2 : part ≤ 2) (hq0 : 0 ≤ other) (hq2 : other ≤ 2) (hd : dp + 9 < recursionLimit) (hu : un + 63 < cLine)
    (hQ : ∀ pT t1 t2 h' tk', Fr hb L h' m → News hb L h' ((pT, { cls := Value.type "tuple", data := Data.seq #[.int (((partBits part).map (rowM fs (partBits other))).sum) t1, .int (((partBits part).map (rowU fs (partBits other))).sum) t2] }) :: news) → Q (.ref pT) { s with heap := h', toks := tk' })
    (hk : scope.kind = .function := by rfl) :
    wpAny (model PySem.Challenge.rw_oc0090_01.row.prog w) ((AT dp un gd []).deeper (envX name scope L a cd cl)) (call (.ref 140) [.ref lf, .int part tp, .int other tq]) Q E s := by
  obtain ⟨oL, es, ep, hL, hLd, hLr⟩ := id F.ns
  have hapL : ∀ p ∈ news, p.1 ∉ [L] := fun p hp hm => (N p hp).2.1 (List.mem_singleton.mp hm)
  have hkb : Keep hb (gone s.heap [L]) := fun b o e => (gone_get (fun hm => by
    have h1 := Heap.lt_size e
    rw [List.mem_singleton.mp hm] at h1
    exact Nat.lt_irrefl _ (Nat.lt_of_lt_of_le h1 F.above))).trans (F.keep b o e)
  have hat : ∀ p ∈ news, (gone s.heap [L]).get? p.1 = some p.2 := fun p hp => (gone_get (hapL p hp)).trans (N p hp).1
  have hfr : Frs [envX name scope L a cd cl] [(L, oL)] := ⟨by show scope.kind ≠ _; rw [hk]; decide, rfl, ⟨es, ep, hLd⟩, trivial⟩
  refine sums_c w mean mg mb (gone s.heap [L]) [(L, oL)] lf vf fs hi hlen part other tp tq hp0 hp2 hq0 hq2 (dp := dp + 1) (un := un + 3) (gd := gd) (fr := [envX name scope L a cd cl]) (by omega) (by omega) ⟨_, hat _ h1, rfl, nf, rfl⟩ (fun b o e => (gone_some e).2) (Nat.le_of_eq (gone_size _ _)) ?_ hfr (T.nolimit.keeps F.keep) (X.keeps hkb) (T.keeps hkb) ?_
  · intro p hp
    rw [List.mem_singleton.mp hp]
    exact ⟨hL, gone_none (List.mem_cons_self ..)⟩
  · intro pT t1 t2 frs' h' tk' hkeep hT hfresh hne SU hfr'
    cases frs' with
    | nil => exact False.elim SU
    | cons q frs₂ =>
      obtain ⟨hq1, ⟨sl, hq2⟩, SU'⟩ := SU
      have hL' := hfr' q (List.mem_cons_self ..)
      rw [hq1, hq2] at hL'
      have hnL := hne (L, oL) (List.mem_cons_self ..)
      refine hQ pT t1 t2 h' tk' ⟨⟨_, es, ep, hL', hLd, hLr⟩, fun b o e => hkeep b o (hkb b o e), F.above⟩ ?_
      intro p hp
      rcases List.mem_cons.mp hp with rfl | hp
      · exact ⟨hT, Ne.symm hnL, none_of hkb hfresh⟩
      · exact ⟨hkeep _ _ (hat p hp), (N p hp).2⟩
end Mine
end
section
open PySem PySem.W PyProof.Rows PySem.Calls
set_option Elab.async false
namespace Mine
set_option maxRecDepth 100000 in
theorem K_classed (p : Params) : kb_classed (Mine.hd.heap_39 p) = true := by
  with_unfolding_all rfl
end Mine
end
section
open PySem PySem.W PyProof.Rows PySem.Calls
set_option Elab.async false
namespace Mine
theorem prePr_sum {fs : List Int} (f g : Int → Int) (u v : Int) (i : Nat) (hi : i ≤ fs.length) :
    prePr (fun i => 8 * (fs.map f).getD i 0 - u) (fun i => 8 * (fs.map g).getD i 0 - v) i = sumOf (fs.take i) (fun x => (8 * f x - u) * (8 * g x - v)) := by
  induction i with
  | zero => rfl
  | succ i ih =>
    have hlt : i < fs.length := by omega
    have e1 : (fs.map f).getD i 0 = f fs[i] := by rw [List.getD_eq_getElem?_getD, List.getElem?_map, List.getElem?_eq_getElem hlt]; rfl
    have e2 : (fs.map g).getD i 0 = g fs[i] := by rw [List.getD_eq_getElem?_getD, List.getElem?_map, List.getElem?_eq_getElem hlt]; rfl
    show prePr _ _ i + (8 * (fs.map f).getD i 0 - u) * (8 * (fs.map g).getD i 0 - v) = _
    rw [ih (by omega), e1, e2]
    unfold sumOf
    rw [List.take_add_one, List.getElem?_eq_getElem hlt, List.map_append, List.sum_append]
    simp
theorem sumOf_eq (fs : List Int) (f : Int → Int) : sumOf fs f = (fs.map f).sum := rfl
theorem law_plain {fs : List Int} {q : Nat} (f g : Int → Int) (hq : q * fs.length = 8) (hf2 : 2 ≤ fs.length) (hf8 : fs.length ≤ 8) (hf : ∀ v, 0 ≤ f v ∧ f v ≤ 4) (hg : ∀ v, 0 ≤ g v ∧ g v ≤ 4) {x : UInt64}
    (hx : Ex x (prePr (fun i => 8 * (fs.map f).getD i 0 - q * (fs.map f).sum) (fun i => 8 * (fs.map g).getD i 0 - q * (fs.map g).sum) fs.length)) {c : Int} (hc : c = fs.length * sumOf fs (fun v => f v * g v) - sumOf fs f * sumOf fs g) :
    c.natAbs < 2 ^ 50 ∧ Float64.cmp (Float64.div x (Float64.ofInt ((fs.length : Int) - 1))) (Float64.ofFrac (decide (c < 0) != decide ((fs.length : Int) * ((fs.length : Int) - 1) < 0)) c.natAbs ((fs.length : Int) * ((fs.length : Int) - 1)).natAbs) = some .eq := by
  have hqi : (q : Int) * (fs.length : Int) = 8 := by
    have := congrArg (Nat.cast (R := Int)) hq
    rw [Int.natCast_mul] at this
    exact this
  have hq8 : q ≤ 8 := Nat.le_of_dvd (by decide) ⟨_, hq.symm⟩
  have hS : ∀ (h : Int → Int), (∀ v, 0 ≤ h v ∧ h v ≤ 4) → ((q : Int) * (fs.map h).sum).natAbs ≤ 8000 := by
    intro h hh
    have hb : ∀ k ∈ fs.map h, 0 ≤ k ∧ k ≤ 16 := by
      intro k hk
      obtain ⟨v, _, rfl⟩ := List.mem_map.mp hk
      have := hh v
      omega
    have h1 := preS_bound hb (fs.map h).length
    rw [preS, List.take_length, List.length_map] at h1
    rw [Int.natAbs_mul, Int.natAbs_natCast]
    exact Nat.mul_le_mul hq8 (show _ ≤ 1000 by omega)
  have hK := prePr_bound (n := fs.length) (a := fun i => 8 * (fs.map f).getD i 0 - q * (fs.map f).sum) (b := fun i => 8 * (fs.map g).getD i 0 - q * (fs.map g).sum) (by
    intro j _
    have hb : ∀ {h : Int → Int}, (∀ v, 0 ≤ h v ∧ h v ≤ 4) → 0 ≤ (fs.map h).getD j 0 ∧ (fs.map h).getD j 0 ≤ 16 := by
      intro h hh
      refine getD_bound ?_ j
      intro k hk
      obtain ⟨v, _, rfl⟩ := List.mem_map.mp hk
      have := hh v
      omega
    have e1 := hb hf
    have e2 := hb hg
    have e3 := hS f hf
    have e4 := hS g hg
    generalize (q : Int) * (fs.map f).sum = z1 at *
    generalize (q : Int) * (fs.map g).sum = z2 at *
    rw [Int.natAbs_mul]
    exact Nat.lt_of_le_of_lt (Nat.mul_le_mul (show _ ≤ 8200 by omega) (show _ ≤ 8200 by omega)) (by decide)) fs.length (Nat.le_refl _)
  have hsum := prePr_sum (fs := fs) f g (q * (fs.map f).sum) (q * (fs.map g).sum) fs.length (Nat.le_refl _)
  rw [List.take_length] at hsum
  have hdev := dev_law f g fs q hqi
  rw [← hc] at hdev
  have hsum' : prePr (fun i => 8 * (fs.map f).getD i 0 - q * (fs.map f).sum) (fun i => 8 * (fs.map g).getD i 0 - q * (fs.map g).sum) fs.length * (fs.length : Int) = c * 64 := by
    rw [hsum]
    exact hdev
  generalize prePr (fun i => 8 * (fs.map f).getD i 0 - q * (fs.map f).sum) (fun i => 8 * (fs.map g).getD i 0 - q * (fs.map g).sum) fs.length = K at *
  have hKb : K.natAbs ≤ 8 * 2 ^ 40 := Nat.le_trans hK (Nat.mul_le_mul_right _ hf8)
  have hcn : K.natAbs * fs.length = c.natAbs * 64 := by
    have := congrArg Int.natAbs hsum'
    rw [Int.natAbs_mul, Int.natAbs_mul, Int.natAbs_natCast] at this
    exact this
  have hcb : c.natAbs < 2 ^ 50 := by
    have h1 : K.natAbs * fs.length ≤ 8 * 2 ^ 40 * 8 := Nat.mul_le_mul hKb hf8
    omega
  refine ⟨hcb, ?_⟩
  obtain ⟨d, hd⟩ : ∃ d, fs.length = d + 1 := ⟨fs.length - 1, by omega⟩
  have ed : ((fs.length : Int) - 1) = (d : Int) := by omega
  have ep : ((fs.length : Int) * ((fs.length : Int) - 1)) = ((fs.length * d : Nat) : Int) := by rw [ed, Int.natCast_mul]
  rw [ep, ed, Int.natAbs_natCast]
  refine quot_eq hx (Ex.ofInt (i := (d : Int)) (by omega)) (by omega) (by omega) hsum' (by omega) ?_
  rw [decide_eq_false (show ¬ ((fs.length * d : Nat) : Int) < 0 by omega)]
  cases decide (c < 0) <;> rfl
theorem old_of {h₀ h : Heap} {L : Addr} {m : Str → Option Value} {ps : Array Value} (htab : h₀.TableAt 61 57 #[]) (F : Fr (regrown h₀ 57 ps) L h m) : OldK h₀ h := by
  have rself : (regrown h₀ 57 ps).get? 57 = some { cls := .none, data := .fields ps } := Heap.get?_update_self _ htab.2 rfl
  have roth : ∀ b, b ≠ 57 → (regrown h₀ 57 ps).get? b = h₀.get? b := fun b hb => Heap.get?_update_other _ _ (Ne.symm hb)
  have hfin : Heap.ExtBut 57 h₀ h := fun b o hb e => F.keep b o ((roth b hb).trans e)
  have h57f := F.keep 57 _ rself
  have hT' : h.TableAt 61 57 (#[] ++ ps) := by
    obtain ⟨⟨o, vs, e, r⟩, _⟩ := htab
    exact ⟨⟨o, vs, hfin 61 o (by decide) e, r⟩, by simpa using h57f⟩
  exact OldK.step_table (OldK.refl h₀) htab htab hT' hfin (by decide)
end Mine
end
section
open PySem PySem.W PyProof.Rows PySem.Calls
set_option Elab.async false
namespace Mine
local macro_rules | `(tactic| walk_at "binaryOp Div int int") => `(tactic| refine hold ?_)
local macro_rules | `(tactic| walk_at "ite") => `(tactic| refine hold ?_)
local macro_rules | `(tactic| walk_at "call ref") => `(tactic| refine hold ?_)
local macro_rules | `(tactic| walk_at "CompSrc") => `(tactic| refine hold ?_)
set_option maxRecDepth 100000 in
set_option maxHeartbeats 1600000 in
theorem law_c (w : World) (mean : ExcName → Option Value) (mg mb : Str → Option Value) (l : Addr) (vs : List Value) (ns : List Int) (hi : IntsAre vs ns) (hlen : ns.length ≤ 63) {dp un gd} {s : Shared}
   (hd : dp + 20 < recursionLimit) (hu : un + 100 < cLine) (hl : s.heap.IsList l vs.toArray) (hic : s.heap.IsCode 61 57 #[]) (htab : s.heap.TableAt 61 57 #[])
   (X : (Mine.hd.heap_39 w.params).In s.heap) (T : Top Mine.hd.view_39 (looseW Mine.hd.view_39 [Str.ofString "_filemode_table"]) mean mg mb s.heap) {R : Result → Shared → Prop} (hg : AllBare s.gens)
   (hR : ∀ s', OldK s.heap s'.heap → s'.os = s.os → AllBare s'.gens → R (.ok (.ret (.bool true))) s') :
   codeAny (model PySem.Challenge.rw_oc0090_01.row.prog w) (AT dp un gd []) (.call (.ref 145) ⟨[.ref l], []⟩) R s := by
  w_on
  revert X
  k_fill
  intro X
  k_dflt (refine' enterC [(Str.ofString "script", .ref l)] [(Str.ofString "turn", s.heap.objs.size + 1)] ?hcl (fun y => if y = Str.ofString "script" then some (.ref l) else none) (fun _ => none) X T.nolimit ?k6 ?k7 ?k8 ?k9 ?kB ?hnd ?hm ?hcm ?_ ?c2 ?c3 ?c4; (case k6 => k_is); (case hcl => exact rfl); (case k7 => k_is); (case k8 => ktr_room); (case k9 => exact BindsTo.of_eq rfl); (case kB => (intro n x hx; rw [List.mem_singleton.mp hx]; exact Or.inl rfl)); (case hnd => decide); (case hm => exact rfl); (case hcm => exact rfl); (case c2 => exact rfl); (case c3 => exact rfl); (case c4 => exact rfl); k_whole)
  intro h₁ tk₁ cells F N Y
  obtain ⟨oc, rfl, hoc⟩ := Y.one
  clear Y
  k_steps
  refine files_c w mean mg mb l vs ns hi hlen (dp := dp + 1) (un := un + 3) (gd := gd) (by omega) (by omega) (hl.at fun o e => F.keep _ _ e) (X.keeps F.keep) (T.keeps F.keep) ?_
  intro D vf nf h2 tk2 hk2 hDn hD hif
  obtain ⟨q, hq, hf2, hf8⟩ := lawFiles_len ns
  have hfr := lawFiles_range ns
  generalize lawFiles ns = fs at hif hq hf2 hf8 hfr
  dsimp only at hk2 hDn ⊢
  obtain ⟨N2, hND⟩ := news_add F N hk2 hDn hD
  replace F := frKeep F hk2
  have hvl := hif.length
  clear N hk2 hDn hD hl hi hlen
  k_steps
  rename Fr _ _ _ _ => F3
  rename News _ _ _ _ => N3
  have htv0 : 0 ≤ fs.sum.fmod 9 ∧ fs.sum.fmod 9 < 9 := by
    rw [Int.fmod_eq_emod_of_nonneg _ (by decide)]
    omega
  refine store_cell (rest := [(D, W.listOf vf.toArray nf)]) F3 (news_sub N3 (by intro p hp; simp only [List.mem_cons, List.not_mem_nil, or_false] at hp ⊢; exact hp.symm)) (by intro p hp; rw [List.mem_singleton.mp hp]; exact fun e => hND _ (List.mem_singleton.mpr rfl) e.symm) rfl hoc ?_
  clear F3 N3
  generalize fs.sum.fmod 9 = tv at htv0
  obtain ⟨htv0, htv9⟩ := htv0
  have hp0 : 0 ≤ tv.fdiv 3 := by rw [Int.fdiv_eq_ediv_of_nonneg _ (by decide)]; omega
  have hp2 : tv.fdiv 3 ≤ 2 := by rw [Int.fdiv_eq_ediv_of_nonneg _ (by decide)]; omega
  have hr0 : 0 ≤ tv.fmod 3 := by rw [Int.fmod_eq_emod_of_nonneg _ (by decide)]; omega
  have hr2 : tv.fmod 3 ≤ 2 := by rw [Int.fmod_eq_emod_of_nonneg _ (by decide)]; omega
  have hfd : ∀ i, 0 ≤ fs.getD i 0 := by
    intro i
    rw [List.getD_eq_getElem?_getD]
    cases h : fs[i]? with
    | none => exact Int.le_refl _
    | some k => exact (hfr k (List.mem_of_getElem? h)).1
  intro h4 oc4 hoc4 F4 N4
  dsimp only at hoc4 ⊢
  obtain ⟨tc, hoc5⟩ : ∃ t, oc4.data = .cell (some (.int tv t)) := ⟨_, hoc4⟩
  clear hoc4 hoc
  k_steps
  refine LCg.CompSrc.ledger (k := nf) rfl F4 N4 (List.mem_cons_of_mem _ (List.mem_cons_self ..)) (by simp [sizeLine_eq]; omega) ?_
  intro g5
  refine rest_rel (fun i y => ∃ t, y = .str (Txt.join (Str.ofString "") (fmChars (fs.getD i 0))) t) (.inr ⟨_, List.mem_cons_of_mem _ (List.mem_cons_self ..), rfl, _, rfl⟩) ?_ ?_
  · intro i v I oI C oC D2 m₂ ys h tk E' hlt hv hC hx F5 N5 off ne
    obtain ⟨k, t, rfl, hk⟩ := hif.at i v (by simpa using hv)
    k_steps
    refine filemode_c w mean mg mb k t (dp := dp + 1) (un := un + 3) (gd := gd) (by omega) (by omega) (X.keeps F5.keep) (T.keeps F5.keep) ?_
    intro t' h' tk' hk'
    have e : fs.getD i 0 = k := by rw [List.getD_eq_getElem?_getD, hk]; rfl
    exact ⟨h', tk', rfl, hk', t', by rw [e]⟩
  · intro ys hyl hys
    intro D5 h5 tk5 F5 N5 o5
    rw [List.size_toArray] at hyl
    clear F4 N4
    k_steps
    refine LCg.CompSrc.ledger (its := ys.toArray) (k := ys.length) rfl F5 N5 (List.mem_cons_self ..) (by simp [sizeLine_eq]; omega) ?_
    intro g6
    refine rest_rel (fun i y => ∃ t, y = .int (pts (partBits (tv.fdiv 3)) (fs.getD i 0)) t) (.inr ⟨_, List.mem_cons_self .., rfl, _, rfl⟩) ?_ ?_
    · intro i v I oI C oC D2 m₂ ys2 h tk E' hlt hv hC hx F6 N6 off ne
      obtain ⟨t, rfl⟩ := hys i v (by simpa using hv)
      k_steps
      refine points_c w mean mg mb _ t (tv.fdiv 3) _ (row_len _) hp0 hp2 (dp := dp + 1) (un := un + 3) (gd := gd) (by omega) (by omega) (X.keeps F6.keep) (T.keeps F6.keep) ?_
      intro t' h' tk' hk'
      exact ⟨h', tk', rfl, hk', t', congrArg (fun z => Value.int z t') (rowPts_int (hfd i) hp0 hp2)⟩
    · intro xs hxl hxs
      intro D6 h6 tk6 F6 N6 o6
      rw [List.size_toArray] at hxl
      clear F5 N5
      k_steps
      refine LCg.CompSrc.ledger (its := ys.toArray) (k := ys.length) rfl F6 N6 (List.mem_cons_of_mem _ (List.mem_cons_self ..)) (by simp [sizeLine_eq]; omega) ?_
      intro g7
      refine rest_rel (fun i y => ∃ t, y = .int (pts (partBits (tv.fmod 3)) (fs.getD i 0)) t) (.inr ⟨_, List.mem_cons_of_mem _ (List.mem_cons_self ..), rfl, _, rfl⟩) ?_ ?_
      · intro i v I oI C oC D2 m₂ ys2 h tk E' hlt hv hC hx F7 N7 off ne
        obtain ⟨t, rfl⟩ := hys i v (by simpa using hv)
        k_steps
        refine points_c w mean mg mb _ t (tv.fmod 3) _ (row_len _) hr0 hr2 (dp := dp + 1) (un := un + 3) (gd := gd) (by omega) (by omega) (X.keeps F7.keep) (T.keeps F7.keep) ?_
        intro t' h' tk' hk'
        exact ⟨h', tk', rfl, hk', t', congrArg (fun z => Value.int z t') (rowPts_int (hfd i) hr0 hr2)⟩
      · intro zs hzl hzs
        intro D7 h7 tk7 F7 N7 o7
        rw [List.size_toArray] at hzl
        clear F6 N6
        k_steps
        refine cov_c w mean mg mb D6 D7 xs zs (fs.map (pts (partBits (tv.fdiv 3)))) (fs.map (pts (partBits (tv.fmod 3)))) (ints_of (by omega) hxs) (ints_of (by omega) hzs) fs.length q (by simp) (by simp) hf2 hq ?_ ?_ (dp := dp + 1) (un := un + 3) (gd := gd) (by omega) (by omega) ⟨_, (N7 _ (List.mem_cons_of_mem _ (List.mem_cons_self ..))).1, rfl, _, rfl⟩ ⟨_, (N7 _ (List.mem_cons_self ..)).1, rfl, _, rfl⟩ (hic.keeps F7.keep) (htab.keeps F7.keep) (X.keeps F7.keep) (T.keeps F7.keep) ?_
        · intro k hk
          obtain ⟨v, _, rfl⟩ := List.mem_map.mp hk
          have := pts_range (tv.fdiv 3) v
          omega
        · intro k hk
          obtain ⟨v, _, rfl⟩ := List.mem_map.mp hk
          have := pts_range (tv.fmod 3) v
          omega
        intro x tx S' ps' hkeep h57 hJ hdr hos hx
        dsimp only at hkeep hJ hdr hos
        have rself : (regrown s.heap 57 ps').get? 57 = some { cls := .none, data := .fields ps' } := Heap.get?_update_self _ htab.2 rfl
        have roth : ∀ b, b ≠ 57 → (regrown s.heap 57 ps').get? b = s.heap.get? b := fun b hb => Heap.get?_update_other _ _ (Ne.symm hb)
        have h57s : @LT.lt Nat _ 57 s.heap.objs.size := Heap.lt_size htab.2
        have F8 : Fr (regrown s.heap 57 ps') s.heap.objs.size S'.heap _ := ⟨F7.ns.at' fun o e => hkeep _ o (by refine neN ?_; omega) e, fun b o e => by
          by_cases hb : b = 57
          · subst hb; rw [rself] at e; cases e; exact h57
          · rw [roth b hb] at e; exact hkeep b o hb (F7.keep b o e), Nat.le_of_eq (Heap.size_update ..)⟩
        have N8 : News (regrown s.heap 57 ps') s.heap.objs.size S'.heap _ := fun p hp => by
          have h1 := N7 p hp
          have hne : p.1 ≠ 57 := fun e => by
            have h2 := h1.2.2
            rw [e, htab.2] at h2
            cases h2
          exact ⟨hkeep _ _ hne h1.1, h1.2.1, (roth _ hne).trans h1.2.2⟩
        have B : Based s.heap s.heap 61 57 #[] := Based.start hic htab (by decide)
        have X8 : (Mine.hd.heap_39 w.params).In (regrown s.heap 57 ps') := kb_in_regrown B X T.g (K_classed _)
        have T8 := LGe.top_regrown F8 (topRead_of T) B
        clear F7 N7 hkeep
        k_steps
        rename Fr _ _ _ _ => F9
        rename News _ _ _ _ => N9
        refine sums_in w mean mg mb X8 T8 F9 N9 (List.mem_cons_of_mem _ (List.mem_cons_of_mem _ (List.mem_cons_of_mem _ (List.mem_cons_of_mem _ (List.mem_cons_self ..))))) hif hf8 hp0 hp2 hr0 hr2 (by omega) (by omega) ?_
        intro pT t1 t2 h10 tk10 F10 N10
        clear F9 N9
        dsimp only
        have hcM := sumsM_eq fs (partBits (tv.fdiv 3)) (partBits (tv.fmod 3))
        have hcU := sumsU_eq fs (partBits (tv.fdiv 3)) (partBits (tv.fmod 3))
        generalize ((partBits (tv.fdiv 3)).map (rowM fs (partBits (tv.fmod 3)))).sum = cM at *
        generalize ((partBits (tv.fdiv 3)).map (rowU fs (partBits (tv.fmod 3)))).sum = cU at *
        obtain ⟨hcMb, hcMe⟩ := law_plain (pts (partBits (tv.fdiv 3))) (pts (partBits (tv.fmod 3))) hq hf2 hf8 (pts_range _) (pts_range _) hx hcM
        obtain ⟨hcUb, hcUe⟩ := law_plain (pts (partBits (tv.fdiv 3))) (pts (partBits (tv.fmod 3))) hq hf2 hf8 (pts_range _) (pts_range _) hx hcU
        have hpn : ((fs.length : Int) * ((fs.length : Int) - 1)) ≠ 0 := by
          refine Int.mul_ne_zero ?_ ?_ <;> omega
        clear hcM hcU hx
        k_steps
        unfold Hold
        rw [if_pos rfl]
        k_steps
        refine PySem.Flt.div_ii_fits rfl (Nat.lt_trans hcMb (by decide +kernel)) (fun hz => absurd hz hpn) fun _ _ => ?_
        k_steps
        unfold Hold
        rw [hcMe, if_pos (show (some Ordering.eq == some Ordering.eq) = true from rfl)]
        k_steps
        refine PySem.Flt.div_ii_fits rfl (Nat.lt_trans hcUb (by decide +kernel)) (fun hz => absurd hz hpn) fun _ _ => ?_
        k_steps
        rename Fr _ _ _ _ => F11
        have hold := old_of htab F11
        dsimp only
        rw [hcUe]
        exact hR _ hold hos (hJ hg)
end Mine
end
section
open PySem PySem.W PyProof.Rows PySem.Calls
set_option Elab.async false
namespace Mine
set_option maxRecDepth 100000 in
theorem K62 (p : Params) : ∃ o fd, (Mine.hd.heap_39 p).lookup 62 = some o ∧ o.data = .func fd ∧ fd.code = .ref 61 := ⟨_, _, by with_unfolding_all rfl, by with_unfolding_all rfl, by with_unfolding_all rfl⟩
set_option maxRecDepth 100000 in
theorem K61 (p : Params) : ∃ o vs, (Mine.hd.heap_39 p).lookup 61 = some o ∧ o.data = .fields vs ∧ vs.getD 11 .none = .ref 57 := ⟨_, _, by with_unfolding_all rfl, by with_unfolding_all rfl, by with_unfolding_all rfl⟩
set_option maxRecDepth 100000 in
theorem Kcov (p : Params) : nsIn (Mine.hd.heap_39 p) mainGlobals (Str.ofString "covariance") = some (some (.ref 62)) := by with_unfolding_all rfl
set_option maxRecDepth 100000 in
theorem Klaw (p : Params) : nsIn (Mine.hd.heap_39 p) mainGlobals (Str.ofString "law") = some (some (.ref 145)) := by with_unfolding_all rfl
set_option maxRecDepth 100000 in
theorem recs_cov : ∃ d ∈ recsOf Mine.hd.view_39, d.name = Str.ofString "covariance" := by
  have h : (recsOf Mine.hd.view_39).any (fun d => decide (d.name = Str.ofString "covariance")) = true := by decide +kernel
  obtain ⟨d, hd, e⟩ := List.any_eq_true.mp h
  exact ⟨d, hd, of_decide_eq_true e⟩
theorem cov_table {p : Params} {mean : ExcName → Option Value} {mg mb : Str → Option Value} {h : Heap} (X : (Mine.hd.heap_39 p).In h) (T : Top Mine.hd.view_39 (looseW Mine.hd.view_39 [Str.ofString "_filemode_table"]) mean mg mb h) : h.IsCode 61 57 #[] ∧ h.TableAt 61 57 #[] := by
  obtain ⟨d, hd, hn⟩ := recs_cov
  obtain ⟨a, o, fd, c, P, hm, ho, hod, hfc, hc, ht⟩ := T.tab d hd
  have h1 := mg_of X T.g (Kcov p)
  rw [hn, h1] at hm
  cases hm
  obtain ⟨o2, fd2, h2, h3, h4⟩ := K62 p
  rw [X _ _ h2] at ho
  cases ho
  rw [h3] at hod
  cases hod
  rw [h4] at hfc
  cases hfc
  obtain ⟨o3, vs3, h5, h6, h7⟩ := K61 p
  have hP : P = 57 := by
    obtain ⟨o, vs, _, _, _, _, _, _, _, _, ho, hd, h11, _⟩ := hc
    rw [X _ _ h5] at ho
    cases ho
    rw [h6] at hd
    cases hd
    rw [h7] at h11
    cases h11
    rfl
  subst hP
  exact ⟨hc, ht⟩
set_option maxRecDepth 100000 in
set_option maxHeartbeats 1600000 in
theorem law_t : PySem.Challenge.rw_oc0090_01.Holds := Mine.hd (by
  w_on
  k_fill
  intro w s₀ s₁ mg mb G Y fa o pm cd doc dV kV ho hd hcd hD hmg hg args vals as hpre hlay hrd hwl hlo
  have KX := kIn_of Y
  refine Ground.open G ?_
  intro T B D TE TW
  try (refine guard_noD D (by decide +kernel) ?_; clear D)
  clear TE TW B
  wrow_args hpre hlay hrd hwl hlo
  refine enter_call ?_
  rename IntsAre _ _ => hI
  rename Heap.IsList _ _ _ => hL
  rename ¬ _ < _ => hcond
  have e145 : fa = 145 := by
    have h1 := mg_of KX T.g (Klaw _)
    have h2 : mg (Str.ofString "law") = some (.ref fa) := hmg
    rw [h1] at h2
    cases h2
    rfl
  subst e145
  obtain ⟨hic, htab⟩ := cov_table KX T
  refine law_c w _ mg mb _ _ _ hI (by omega) (by decide) (by decide) hL hic htab KX T (by rw [hg]; intro y hy; simp at hy) ?_
  intro s' hold hos hbare
  exact ⟨.inl ⟨.bool true, .bool true, [], rfl, fun _ => rfl, .bool true, by with_unfolding_all rfl, fun _ => ⟨List.nodup_nil, fun _ h => nomatch h⟩⟩, hold, hos, hbare⟩)
end Mine
end
theorem PySem.Challenge.cw_oc0090_01_holds : PySem.Challenge.rw_oc0090_01.Holds :=
  Mine.law_t
