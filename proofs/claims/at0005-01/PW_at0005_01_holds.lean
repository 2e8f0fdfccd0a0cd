import PyProof.Rows.All
import Wide.All
import OpenK.AllK
import Wide.FinOn
import PySem.Challenge.RW_at0005_01
set_option Elab.async false
section
open PySem PySem.W PyProof.Rows
namespace Mine
set_option maxRecDepth 100000 in
set_option maxHeartbeats 8000000 in
open_top hd for PySem.Challenge.rw_at0005_01
end Mine
end
section
open PySem PySem.W PyProof.Rows
namespace Mine
/-- what a call of the def at f gives back, whoever calls it: a value of R, nothing else turned -/
def Ctr (w : World) (mean : ExcName → Option Value) (mg mb : Str → Option Value) (D U : Nat) (f : Addr) (news : List (Addr × Obj)) (vs : List Value) (R : Value → Prop) : Prop :=
  ∀ (dp un : Nat) (gd : Option (List Code)) (cn : Str) (cs : Scope) (a : Addr) (ccd : Value) (cl : List (Str × Addr)) (outer : List Env) (A₀ : Around) (base h₀ : Heap) (L : Addr) (m : Str → Option Value) (s : Shared) (Q E : Value → Shared → Prop),
    Below A₀ base outer h₀ → Fr h₀ L s.heap m → (Mine.hd.heap_39 w.params).In h₀ → News h₀ L s.heap news → Top Mine.hd.view_39 (looseW Mine.hd.view_39 [Str.ofString "_filemode_table"]) mean mg mb h₀ → cs.kind = .function →
    dp + D < recursionLimit → un + U < cLine →
    (∀ (r : Value) (h' : Heap) (tk' : Nat), R r → Fr h₀ L h' m → News h₀ L h' news → Q r { s with heap := h', toks := tk' }) →
    wpAny (model PySem.Challenge.rw_at0005_01.row.prog w) (ktrTop dp un gd cn cs L a ccd cl outer) (call (.ref f) vs) Q E s
theorem Ctr.use {w : World} {mean : ExcName → Option Value} {mg mb : Str → Option Value} {D U : Nat} {f : Addr} {news : List (Addr × Obj)} {vs : List Value} {R : Value → Prop} {dp un : Nat} {gd : Option (List Code)} {cn : Str} {cs : Scope} {a : Addr} {ccd : Value} {cl : List (Str × Addr)} {outer : List Env} {A₀ : Around} {base h₀ : Heap} {L : Addr} {m : Str → Option Value} {s : Shared} {Q E : Value → Shared → Prop}
    (C : Ctr w mean mg mb D U f news vs R) (B : Below A₀ base outer h₀) (F : Fr h₀ L s.heap m) (X : (Mine.hd.heap_39 w.params).In h₀) (N : News h₀ L s.heap news) (T : Top Mine.hd.view_39 (looseW Mine.hd.view_39 [Str.ofString "_filemode_table"]) mean mg mb h₀) (hk : cs.kind = .function)
    (hd : dp + D < recursionLimit) (hu : un + U < cLine) (h : ∀ (r : Value) (h' : Heap) (tk' : Nat), R r → Fr h₀ L h' m → News h₀ L h' news → Q r { s with heap := h', toks := tk' }) :
    wpAny (model PySem.Challenge.rw_at0005_01.row.prog w) (ktrTop dp un gd cn cs L a ccd cl outer) (call (.ref f) vs) Q E s := C dp un gd cn cs a ccd cl outer A₀ base h₀ L m s Q E B F X N T hk hd hu h
/-- a frame's names, some of them at will -/
def offN (ns : List Str) (u m : Str → Option Value) : Str → Option Value := fun y => if ns.contains y then u y else m y
def Off (ns : List Str) (m m' : Str → Option Value) : Prop := ∀ y, ns.contains y = false → m' y = m y
theorem Off.refl {ns : List Str} {m : Str → Option Value} : Off ns m m := fun _ _ => rfl
theorem Off.set {ns : List Str} {m m' : Str → Option Value} {x : Str} {v : Option Value} (hx : ns.contains x = true) (h : Off ns m m') : Off ns m (fun y => if y = x then v else m' y) := fun y hy => by
  have hne : y ≠ x := fun e => by rw [e, hx] at hy; cases hy
  simp only [if_neg hne]
  exact h y hy
theorem Off.offN {ns : List Str} {u m : Str → Option Value} : Off ns m (Mine.offN ns u m) := fun y hy => by
  unfold Mine.offN
  rw [hy]
  rfl
theorem Off.eq {ns : List Str} {m m' : Str → Option Value} (h : Off ns m m') : m' = Mine.offN ns m' m := by
  funext y
  unfold Mine.offN
  cases hc : ns.contains y with
  | true => rfl
  | false => exact h y hc
end Mine
end
section
open PySem PySem.W PyProof.Rows PySem.Spec
namespace Mine
open PySem.Sem (wp)
open PySem.AutoSeq1 (wpAny_loadPart')
section
variable {prog : Program} {w : World} {A : Around} {E : Value → Shared → Prop} {s : Shared}
theorem nextOf_tuple_item {it t : Addr} {i : Nat} {items : Array Value} {x : Value} {Q : Value → Shared → Prop} (hit : s.heap.IsTupleIter it t i) (ht : s.heap.IsTuple t items) (hx : items[i]? = some x)
    (hQ : ∀ h', h'.IsTupleIter it t (i + 1) → Heap.SameBut it s.heap h' → Q x { s with heap := h' }) : wpAny (model prog w) A (Builtin.SmallTypes.nextOf (.ref it)) Q E s := by
  obtain ⟨o, ho, hc, hd⟩ := id hit
  obtain ⟨ol, hol, _, nl, hdl⟩ := ht
  unfold Builtin.SmallTypes.nextOf
  refine wpAny_bind (wpAny_callSpecial?_slot (name := Str.ofString "__next__") hit.typeIs F.slot_tuple_iterator_next
    (wpAny_call_entry F.slot_tuple_iterator_next hit.typeIs F.entry_tuple_iterator_next ?_ (F.args_tuple_iterator_next_1 _)))
  show wpAny _ _ (field (.ref it) 0 >>= _) _ _ s
  refine wpAny_bind (wpAny_field ho hd (x := .ref t) rfl ?_)
  show wpAny _ _ (if (Value.ref t == Value.none) = true then _ else _) _ _ s
  rw [if_neg (show ¬ ((Value.ref t == Value.none) = true) from Bool.false_ne_true)]
  show wpAny _ _ (field (.ref it) 1 >>= _) _ _ s
  refine wpAny_bind (wpAny_field ho hd (x := .int i 0) rfl ?_)
  show wpAny _ _ (seqItems? (.ref t) >>= _) _ _ s
  refine wpAny_bind (wpAny_seqItems hol hdl ?_)
  simp only [Int.toNat_natCast, hx]
  refine wpAny_bind (wpAny_setField ho hd (by simp) (wpAny_pure ⟨x, rfl, wpAny_pure (hQ _ ?_ (Heap.SameBut.update ..))⟩))
  exact ⟨_, Heap.get?_update_self _ ho (Obj.isFreed_of_fields (Obj.data_mapFields hd _)), (Obj.cls_mapFields ..).trans hc, by
    rw [Obj.data_mapFields hd]; simp [rawInt]⟩
theorem nextOf_tuple_end {it t : Addr} {i : Nat} {items : Array Value} {Q : Value → Shared → Prop} (hh : A.handled = none) (hit : s.heap.IsTupleIter it t i) (ht : s.heap.IsTuple t items) (hx : items[i]? = none)
    (hE : ∀ h' e, Heap.ExtBut it s.heap h' → (∃ o, h'.get? e = some o ∧ o.cls = .type "StopIteration") → E (.ref e) { s with heap := h' }) : wpAny (model prog w) A (Builtin.SmallTypes.nextOf (.ref it)) Q E s := by
  obtain ⟨o, ho, hc, hd⟩ := id hit
  obtain ⟨ol, hol, _, nl, hdl⟩ := ht
  unfold Builtin.SmallTypes.nextOf
  refine wpAny_bind (wpAny_callSpecial?_slot (name := Str.ofString "__next__") hit.typeIs F.slot_tuple_iterator_next
    (wpAny_call_entry F.slot_tuple_iterator_next hit.typeIs F.entry_tuple_iterator_next ?_ (F.args_tuple_iterator_next_1 _)))
  show wpAny _ _ (field (.ref it) 0 >>= _) _ _ s
  refine wpAny_bind (wpAny_field ho hd (x := .ref t) rfl ?_)
  show wpAny _ _ (if (Value.ref t == Value.none) = true then _ else _) _ _ s
  rw [if_neg (show ¬ ((Value.ref t == Value.none) = true) from Bool.false_ne_true)]
  show wpAny _ _ (field (.ref it) 1 >>= _) _ _ s
  refine wpAny_bind (wpAny_field ho hd (x := .int i 0) rfl ?_)
  show wpAny _ _ (seqItems? (.ref t) >>= _) _ _ s
  refine wpAny_bind (wpAny_seqItems hol hdl ?_)
  simp only [Int.toNat_natCast, hx]
  refine wpAny_bind (wpAny_rule (wpAny_bind (wpAny_setField ho hd (by simp) ?_)))
  show wpAny _ _ (newExc (.type "StopIteration") [] >>= _) _ _ _
  refine wpAny_bind ?_
  simp only [newExc, newTuple]
  refine wpAny_bind (wpAny_newObj_type ?_ (by size_fits))
  refine wpAny_bind (m := firstArgMember _ _) (wpAny_of_eq (a := Value.none) (by first | rfl | (simp only [firstArgMember]; rfl)) ?_)
  refine wpAny_newObj_type ?_ (by size_fits)
  simp only [raiseNew]
  refine wpAny_bind (wpAny_handled ?_)
  first | rw [show A.in1.handled = none from hh] | rw [hh]
  refine wpAny_bind (wpAny_pure (wpAny_throw ?_))
  exact hE _ _ (((Heap.SameBut.update ..).extBut.push _).push _) ⟨_, Heap.get?_push_size _ rfl, rfl⟩
end
theorem drawsTuple {prog : Program} {w : World} {A : Around} (hh : A.handled = none) (it l : Addr) (hne : l ≠ it) (items : Array Value) :
    Draws prog w A it [it, l] items.size (fun i v => items[i]? = some v) (fun i h => h.IsTupleIter it l i ∧ h.IsTuple l items) where
  live := fun _ _ st => let ⟨o, ho, _⟩ := st.1; ⟨o, ho⟩
  frame := fun _ _ _ st hk => ⟨st.1.at fun o e => hk it (by simp) o e, st.2.at fun o e => hk l (by simp) o e⟩
  item := fun i s Q E hi st hQ => by
    refine nextOf_tuple_item st.1 st.2 (x := items[i]) (by simp [hi]) fun h' hit' hs' => ?_
    exact hQ _ h' s.toks (by simp [hi]) ⟨hit', st.2.extBut hs'.extBut hne⟩ hs'
  done := fun s Q E st hE => nextOf_tuple_end hh st.1 st.2 (by simp) hE
set_option maxRecDepth 100000 in
set_option maxHeartbeats 1000000 in
theorem meets_enumerate_newT (l : Addr) (items : Array Value) (n : Nat) (dct : Option Addr) (sl : Array (Option Value)) :
    Meets (Builtin.«enumerate.__new__» ⟨[.type "enumerate", .ref l], []⟩) (fun _ R s => s.heap.get? l = some { cls := .type "tuple", dict := dct, data := .seq items n, slots := sl } ∧
      R (.ok (.ret (.ref (s.heap.push { cls := .type "tuple_iterator", data := .fields #[.ref l, .int 0 0] }).objs.size)))
        { s with heap := (s.heap.push { cls := .type "tuple_iterator", data := .fields #[.ref l, .int 0 0] }).push { cls := .type "enumerate", data := .fields #[.none, .bool false, .ref s.heap.objs.size, rawInt 0, .none, .none] } }) :=
  .of_wp fun prog w A R s h => by
    obtain ⟨hp, g, d, tk, os⟩ := s; obtain ⟨hl, h⟩ := h
    have hsub := sub_enumerate
    have hL : Heap.IsTuple (Shared.heap ⟨hp, g, d, tk, os⟩) l items := ⟨_, hl, rfl, n, rfl⟩
    wp_walk using wpAny_loadPart' hl
    refine wpAny_stack_any fun st => wpAny_pure ?_
    split
    · rename_i c _ _ _ _ _
      cases (c == Value.type "enumerate")
      · wp_walk using wpAny_loadPart' hl, wpAny_pyIter_tuple hL
        exact ⟨_, rfl, h⟩
      · wp_walk using wpAny_loadPart' hl, wpAny_pyIter_tuple hL
        exact ⟨_, rfl, h⟩
    · wp_walk using wpAny_loadPart' hl, wpAny_pyIter_tuple hL
      exact ⟨_, rfl, h⟩
section
variable {prog : Program} {w : World} {A : Around} {E : Value → Shared → Prop} {s : Shared}
theorem call_enumerate_tuple {l : Addr} {items : Array Value} {Q : Value → Shared → Prop} (hL : s.heap.IsTuple l items)
    (h : ∀ h', IsEnum h' (s.heap.objs.size + 1) s.heap.objs.size 0 .none → h'.IsTupleIter s.heap.objs.size l 0 → h'.objs.size = s.heap.objs.size + 2 →
      (∀ b o, s.heap.get? b = some o → h'.get? b = some o) → Q (.ref (s.heap.objs.size + 1)) { s with heap := h' }) :
    wpAny (model prog w) A (call (.type "enumerate") [.ref l]) Q E s := by
  obtain ⟨⟨c, dct, dt, sl⟩, hl, hc, n, hd⟩ := hL
  replace hc : c = .type "tuple" := hc
  replace hd : dt = .seq items n := hd
  subst hc hd
  refine callType_new F.called_enumerate (by decide) (F.typeCall_enumerate_1 _) (F.newCall_enumerate_1 _) (fun obj => F.args_object_init_2 obj _) F.entry_enumerate_new
    (meets_enumerate_newT l items n dct sl) ⟨hl, ?_⟩
  have hz : (s.heap.push { cls := .type "tuple_iterator", data := .fields #[.ref l, .int 0 0] }).objs.size = s.heap.objs.size + 1 := Heap.size_push ..
  show _ ∧ _
  rw [hz]
  have he : IsEnum ((s.heap.push { cls := .type "tuple_iterator", data := .fields #[.ref l, .int 0 0] }).push
      { cls := .type "enumerate", data := .fields #[.none, .bool false, .ref s.heap.objs.size, rawInt 0, .none, .none] }) (s.heap.objs.size + 1) s.heap.objs.size 0 .none := by
    have := Heap.get?_push_size (s.heap.push { cls := .type "tuple_iterator", data := .fields #[.ref l, .int 0 0] })
      (o := { cls := .type "enumerate", data := .fields #[.none, .bool false, .ref s.heap.objs.size, rawInt 0, .none, .none] }) rfl
    rw [hz] at this; exact this
  refine ⟨⟨_, he, rfl⟩, h _ he ⟨_, Heap.get?_push_of_some _ (Heap.get?_push_size _ rfl), rfl, rfl⟩ (by rw [Heap.size_push, hz]) fun b o x => Heap.get?_push_of_some _ (Heap.get?_push_of_some _ x)⟩
end
/-- the end of a loop's turn, the ledger at will -/
def EndG (h₀ : Heap) (L : Addr) (J : (Str → Option Value) → List (Addr × Obj) → Prop) (own : List (Addr × Obj)) (s₁ s₂ : Shared) : Prop :=
  ∃ h' tk m' nx, s₂ = { s₁ with heap := h', toks := tk } ∧ Fr h₀ L h' m' ∧ News h₀ L h' (nx ++ own) ∧ (∀ p ∈ nx, ∀ q ∈ own, p.1 ≠ q.1) ∧ J m' nx
def PostG (h₀ : Heap) (L : Addr) (J : (Str → Option Value) → List (Addr × Obj) → Prop) (own : List (Addr × Obj)) (s₁ : Shared) (Q : Flow → Shared → Prop) (f : Flow) (s₂ : Shared) : Prop :=
  match f with
  | .ret v => Q (.ret v) s₂
  | .brk => Q .next s₂
  | _ => EndG h₀ L J own s₁ s₂
section
variable {prog : Program} {w : World} {A : Around} {E : Value → Shared → Prop} {s : Shared} {env : Env} {h₀ : Heap} {body : List Stmt} {Q : Flow → Shared → Prop}
theorem enum_tup_inv {elts : List Expr} {k : Nat} {pos : Pos} {l : Addr} {vs : List Value} {m₀ : Str → Option Value} {news : List (Addr × Obj)} (J : Nat → (Str → Option Value) → List (Addr × Obj) → Prop)
    (hh : A.handled = none) (hg : h₀.IsTuple l vs.toArray) (F : Fr h₀ env.locals s.heap m₀) (N : News h₀ env.locals s.heap news) (hj : J 0 m₀ news)
    (turn : ∀ (i : Nat) x T t m₁ news₁ h₁ tk₁ own, vs[i]? = some x → IsTup h₁ T #[.int i t, x] → J i m₁ news₁ → (∀ p ∈ news₁, ∀ q ∈ own, p.1 ≠ q.1) → Fr h₀ env.locals h₁ m₁ → News h₀ env.locals h₁ (news₁ ++ own) →
      wpAny (model prog w) A (assign (.Tuple elts k pos) env (.ref T)) (fun _ s₃ => wpAny (model prog w) A (execs body env) (PostG h₀ env.locals (J (i + 1)) own { s with heap := h₁, toks := tk₁ } Q) E s₃) E { s with heap := h₁, toks := tk₁ })
    (done : ∀ m₁ news₁ h tk, J vs.length m₁ news₁ → Fr h₀ env.locals h m₁ → News h₀ env.locals h news₁ → Q .next { s with heap := h, toks := tk }) :
    wpAny (model prog w) A (call (.type "enumerate") [.ref l]) (fun xv s₁ => wpAny (model prog w) A (pyIter xv) (fun it s₂ => TurnsAt prog w A h₀ env (.Tuple elts k pos) body Q E it s₂) E s₁) E s := by
  have hl : s.heap.IsTuple l vs.toArray := hg.at fun o e => F.keep l o e
  obtain ⟨ol, hol, _⟩ := id hl
  have hg0 : ∃ o, h₀.get? l = some o := let ⟨o, ho, _⟩ := hg; ⟨o, ho⟩
  have hlt : l < s.heap.objs.size := Heap.lt_size hol
  have hLs : env.locals < s.heap.objs.size := F.ns.lt
  refine call_enumerate_tuple hl fun h' hE hI hsz hk => ?_
  refine wpAny_pyIter_enum hE ?_
  have D := drawsTuple (prog := prog) (w := w) (A := A.in1) hh s.heap.objs.size l (Nat.ne_of_lt hlt) vs.toArray
  have W := WalksT.enumerateD D (s.heap.objs.size + 1) (Nat.succ_ne_self _) (by
    intro hm
    rcases List.mem_cons.mp hm with e | hm
    · exact Nat.succ_ne_self _ e
    · exact ktu_ne 1 hlt (List.mem_singleton.mp hm).symm) (by simp)
  have hsz' : vs.toArray.size = vs.length := by simp
  rw [hsz'] at W
  refine ⟨_, _, _, _, _, _, _, m₀, news, J, rfl, KTurns.ofWalksU W.toU, ?_, ?_, ?_, ⟨⟨.none, hE⟩, hI, hl.at fun o e => hk l o e⟩, F.keeps hk, N.grown hk, hj, ?_, ?_⟩
  · intro hm
    have hb' : env.locals = s.heap.objs.size + 1 ∨ env.locals = s.heap.objs.size ∨ env.locals = l := by simpa using hm
    rcases hb' with e | e | e
    · exact ktu_ne 1 hLs e
    · exact Nat.ne_of_lt hLs e
    · obtain ⟨o, ho⟩ := hg0
      exact absurd (Heap.lt_size ho) (Nat.not_lt.mpr (e ▸ F.above))
  · intro b hb
    have hb' : b = s.heap.objs.size + 1 ∨ b = s.heap.objs.size := by simpa using hb
    rcases hb' with rfl | rfl
    · exact ktu_new F (Nat.le_add_right _ _)
    · exact ktu_new F (Nat.le_refl _)
  · intro p hp hI'
    have hb' : p.1 = s.heap.objs.size + 1 ∨ p.1 = s.heap.objs.size := by simpa using hI'
    have hlp := Heap.lt_size (N p hp).1
    rcases hb' with e | e
    · exact ktu_ne 1 hlp e
    · exact Nat.ne_of_lt hlp e
  · rintro i v m₁ news₁ h₁ tk₁ own hi ⟨T, vals, rfl, ⟨t, x, hx, rfl⟩, hT⟩ hJ hoff hown hget hall hst₁ F₁ N₁
    have hwr : ∀ q ∈ own, q.1 ∈ [s.heap.objs.size + 1, s.heap.objs.size] := fun q hq => by
      have hb' : q.1 = s.heap.objs.size + 1 ∨ q.1 = s.heap.objs.size ∨ q.1 = l := by simpa using hown q hq
      rcases hb' with e | e | e
      · simp [e]
      · simp [e]
      · obtain ⟨o, ho⟩ := hg0
        have := (N₁ q (List.mem_append_left _ hq)).2.2
        rw [e, ho] at this; cases this
    have hsep : ∀ p ∈ news₁, ∀ q ∈ own, p.1 ≠ q.1 := fun p hp q hq e => hoff p hp (e ▸ hwr q hq)
    have hx' : vs[i]? = some x := by simpa using hx
    have N₂ : News h₀ env.locals h₁ (news₁ ++ own) := fun p hp => N₁ p ((List.mem_append.mp hp).elim (fun h => List.mem_append.mpr (.inr h)) fun h => List.mem_append.mpr (.inl h))
    have live : ∀ b ∈ [s.heap.objs.size + 1, s.heap.objs.size], h₀.get? b = none := by
      intro b hb
      have hb' : b = s.heap.objs.size + 1 ∨ b = s.heap.objs.size := by simpa using hb
      rcases hb' with rfl | rfl
      · exact ktu_new F (Nat.le_add_right _ _)
      · exact ktu_new F (Nat.le_refl _)
    refine wpAny_mono (turn i x T t m₁ news₁ h₁ tk₁ own hx' hT hJ hsep F₁ N₂) (fun _ s₂ h₂ => wpAny_mono h₂ (fun f s₃ p => ?_) fun _ _ e => e) fun _ _ e => e
    have hlive : ∀ b ∈ [s.heap.objs.size + 1, s.heap.objs.size], ∃ o, h₁.get? b = some o := by
      obtain ⟨⟨old, he⟩, ⟨oi, hoi, _⟩, _⟩ := hst₁
      intro b hb
      have hb' : b = s.heap.objs.size + 1 ∨ b = s.heap.objs.size := by simpa using hb
      rcases hb' with rfl | rfl
      · exact ⟨_, he⟩
      · exact ⟨_, hoi⟩
    have fin : EndG h₀ env.locals (J (i + 1)) own { s with heap := h₁, toks := tk₁ } s₃ → LoopStepU h₀ env.locals [s.heap.objs.size + 1, s.heap.objs.size] own (J (i + 1)) { s with heap := h₁, toks := tk₁ } .next s₃ := by
      rintro ⟨h', tk, m', nx, e, F', N', ho, hj'⟩
      refine ⟨rfl, h', tk, m', nx, e, F', fun p hp => N' p ((List.mem_append.mp hp).elim (fun h => List.mem_append.mpr (.inr h)) fun h => List.mem_append.mpr (.inl h)), fun p hp hb => ?_, hj'⟩
      obtain ⟨o, hlo⟩ := hlive _ hb
      exact ho p hp (p.1, o) (hall _ (List.mem_append_left [l] hb |> fun z => by simpa using z) (live _ hb) o hlo) rfl
    cases f with
    | ret v => exact .ret p
    | brk => exact .brk p
    | next => exact .next (fin p)
    | cont => exact .cont (fin p)
  · rintro h' tk m' news' F' N' _ hJ
    exact done m' news' h' tk hJ F' N'
end
end Mine
end
section
open PySem PySem.W PyProof.Rows PySem.Spec
namespace Mine
section
variable {prog : Program} {w : World} {A : Around} {E : Value → Shared → Prop} {s : Shared} {env : Env} {h₀ : Heap} {target : Expr} {body orelse : List Stmt} {Q : Flow → Shared → Prop}
/-- a for with an else, over what turns by turns gives -/
theorem loopElse {R : Result → Shared → Prop} {I : Addr} {fp wr : List Addr} {n : Nat} {P Md : Nat → Value → Heap → Prop} {St : Nat → Heap → Prop} {m : Str → Option Value} {news : List (Addr × Obj)} (W : KTurns prog w A target I fp wr n P Md St)
    (hLf : env.locals ∉ fp) (hwr : ∀ b ∈ wr, h₀.get? b = none) (hnw : ∀ p ∈ news, p.1 ∉ wr) (hst : St 0 s.heap) (F : Fr h₀ env.locals s.heap m) (N : News h₀ env.locals s.heap news)
    (J : Nat → (Str → Option Value) → List (Addr × Obj) → Prop) (h0 : J 0 m news)
    (step : ∀ i v m₁ news₁ h₁ tk₁ own, i < n → P i v h₁ → J i m₁ news₁ → (∀ p ∈ news₁, p.1 ∉ wr) → (∀ p ∈ own, p.1 ∈ fp) → (∀ p ∈ own, h₁.get? p.1 = some p.2) → (∀ b ∈ fp, h₀.get? b = none → ∀ o, h₁.get? b = some o → (b, o) ∈ own) → St (i + 1) h₁ →
      Fr h₀ env.locals h₁ m₁ → News h₀ env.locals h₁ (own ++ news₁) →
      wpAny (model prog w) A (assign target env v) (fun _ s₂ => wpAny (model prog w) A (execs body env)
        (LoopStepV h₀ env.locals wr own (J (i + 1)) { s with heap := h₁, toks := tk₁ } (fun v s' => R (.ok (.ret v)) s') fun s' => R (.ok .next) s') (notedBy (model prog w) A env fun e s' => R (.error e) s') s₂) (notedBy (model prog w) A env fun e s' => R (.error e) s') { s with heap := h₁, toks := tk₁ })
    (hR : ∀ h' tk m' news', Fr h₀ env.locals h' m' → News h₀ env.locals h' news' → (∀ p ∈ news', p.1 ∉ wr) → J n m' news' →
      wpAny (model prog w) A (execs orelse env) (fun f s₃ => R (.ok f) s₃) (notedBy (model prog w) A env fun e s' => R (.error e) s') { s with heap := h', toks := tk }) :
    codeAny (model prog w) A (.forLoop target (.ref I) body orelse env) R s := by
  have hLw : env.locals ∉ wr := fun h => hLf (W.sub _ h)
  have old : ∀ b o, h₀.get? b = some o → b ∉ wr := fun b o e hb => by rw [hwr b hb] at e; cases e
  refine codeAny_forLoop_any
    (fun k s' => ∃ h' tk m' news' i, s' = { s with heap := h', toks := tk } ∧ St i h' ∧ Fr h₀ env.locals h' m' ∧ News h₀ env.locals h' news' ∧ (∀ p ∈ news', p.1 ∉ wr) ∧ J i m' news' ∧ i ≤ n ∧ k = n + 1 - i) ?_ (n + 1)
    ⟨s.heap, s.toks, m, news, 0, rfl, hst, F, N, hnw, h0, Nat.zero_le _, rfl⟩
  rintro k s' ⟨h', tk, m', news', i, rfl, hst', F', N', hnw', hJ, hi, rfl⟩
  have next : ∀ h₁ : Heap, (∀ b o, b ∉ wr → h'.get? b = some o → h₁.get? b = some o) → Fr h₀ env.locals h₁ m' ∧ News h₀ env.locals h₁ news' := fun h₁ hk₁ =>
    ⟨⟨F'.ns.at' fun o e => hk₁ _ o hLw e, fun b o e => hk₁ b o (old b o e) (F'.keep b o e), F'.above⟩, fun p hp => ⟨hk₁ _ _ (hnw' p hp) (N' p hp).1, (N' p hp).2⟩⟩
  by_cases hlt : i < n
  · refine W.item i _ _ _ hlt hst' fun v h₁ tk₁ hMd hk₁ => ?_
    refine W.go i v _ _ _ hMd fun h₂ hP hst₂ hk₂ => ?_
    obtain ⟨F₂, N₂⟩ := next h₂ fun b o hb x => hk₂ b o hb (hk₁ b o hb x)
    have Nown : News h₀ env.locals h₂ (PyProof.Rows.ownOf h₀ fp h₂) := news_ownOf hLf
    have back : ∀ s₃ : Shared, (∃ h' tk m₂ news₂, s₃ = { s with heap := h', toks := tk } ∧ Fr h₀ env.locals h' m₂ ∧ News h₀ env.locals h' (PyProof.Rows.ownOf h₀ fp h₂ ++ news₂) ∧ (∀ p ∈ news₂, p.1 ∉ wr) ∧ J (i + 1) m₂ news₂) →
        ∃ mm, mm < n + 1 - i ∧ ∃ h' tk m' news' i, s₃ = { s with heap := h', toks := tk } ∧ St i h' ∧ Fr h₀ env.locals h' m' ∧ News h₀ env.locals h' news' ∧ (∀ p ∈ news', p.1 ∉ wr) ∧ J i m' news' ∧ i ≤ n ∧ mm = n + 1 - i := by
      rintro s₃ ⟨h₃', tk₃, m₂, news₂, rfl, F₃, N₃, ha₃, hJ₃⟩
      refine ⟨n + 1 - (i + 1), by omega, h₃', tk₃, m₂, news₂, i + 1, rfl, ?_, F₃, N₃.right, ha₃, hJ₃, hlt, rfl⟩
      refine W.frame _ _ _ hst₂ fun b hb o e => ?_
      cases hn : h₀.get? b with
      | some o₀ =>
        have : o₀ = o := by have q := F₂.keep b o₀ hn; rw [e] at q; exact (Option.some.inj q).symm
        exact this ▸ F₃.keep b o₀ hn
      | none => exact (N₃ _ (List.mem_append_left _ (mem_ownOf hb hn e))).1
    refine wpAny_mono (step i v m' news' h₂ tk₁ (PyProof.Rows.ownOf h₀ fp h₂) hlt hP hJ hnw' ownOf_sub (fun p hp => (Nown p hp).1) (fun b hb hn o e => mem_ownOf hb hn e) hst₂ F₂ (Nown.append N₂)) (fun _ s₂ h₂' => wpAny_mono h₂' (fun f s₃ h₃ => ?_) fun _ _ e => e) fun _ _ e => e
    cases f with
    | ret v => exact h₃
    | brk => exact h₃
    | cont =>
      obtain ⟨_, h₃', tk₃, m₂, news₂, e, r⟩ := h₃
      exact back s₃ ⟨h₃', tk₃, m₂, news₂, e, r⟩
    | next =>
      obtain ⟨_, h₃', tk₃, m₂, news₂, e, r⟩ := h₃
      exact back s₃ ⟨h₃', tk₃, m₂, news₂, e, r⟩
  · have hin : i = n := by omega
    subst hin
    refine W.done _ _ _ hst' fun h₁ tk₁ hk₁ => ?_
    obtain ⟨F₁, N₁⟩ := next h₁ hk₁
    exact hR h₁ tk₁ m' news' F₁ N₁ hnw' hJ
theorem For_tup_else {iter : Expr} {pos : Pos} {l : Addr} {vs : List Value} {m₀ : Str → Option Value} {news : List (Addr × Obj)} (J : Nat → (Str → Option Value) → List (Addr × Obj) → Prop)
    (hev : ∀ Q' : Value → Shared → Prop, Q' (.ref l) s → wpAny (model prog w) A (eval iter env) Q' E s)
    (hh : A.handled = none) (hg : h₀.IsTuple l vs.toArray) (F : Fr h₀ env.locals s.heap m₀) (N : News h₀ env.locals s.heap news) (hj : J 0 m₀ news)
    (turn : ∀ (i : Nat) x m₁ news₁ h₁ tk₁ own, vs[i]? = some x → J i m₁ news₁ → (∀ p ∈ news₁, ∀ q ∈ own, p.1 ≠ q.1) → Fr h₀ env.locals h₁ m₁ → News h₀ env.locals h₁ (news₁ ++ own) →
      wpAny (model prog w) A (assign target env x) (fun _ s₃ => wpAny (model prog w) A (execs body env) (PostG h₀ env.locals (J (i + 1)) own { s with heap := h₁, toks := tk₁ } Q) E s₃) E { s with heap := h₁, toks := tk₁ })
    (done : ∀ m₁ news₁ h tk, J vs.length m₁ news₁ → Fr h₀ env.locals h m₁ → News h₀ env.locals h news₁ → wpAny (model prog w) A (execs orelse env) Q E { s with heap := h, toks := tk })
    (hs : ∀ x, foldedSetIterable iter env x = pure x) (hE : PassesOwn (model prog w) A env E) :
    wpAny (model prog w) A (exec (.For target iter body orelse pos) env) Q E s := by
  refine wpAny_For (hev _ ?_) hs
  have hl : s.heap.IsTuple l vs.toArray := hg.at fun o e => F.keep l o e
  obtain ⟨ol, hol, _⟩ := id hl
  have hg0 : ∃ o, h₀.get? l = some o := let ⟨o, ho, _⟩ := hg; ⟨o, ho⟩
  have hlt : l < s.heap.objs.size := Heap.lt_size hol
  have hne : l ≠ s.heap.objs.size := Nat.ne_of_lt hlt
  have hLs : env.locals < s.heap.objs.size := F.ns.lt
  refine wpAny_pyIter_tuple hl ?_
  have hsz' : vs.toArray.size = vs.length := by simp
  have W0 := Walks.tuple (prog := prog) (w := w) hh s.heap.objs.size l hne vs.toArray
  rw [hsz'] at W0
  have W := KTurns.ofWalks (target := target) W0 fun i v s Q E st q => letGo_tupleiter st.1 q
  refine loopElse (R := fun r s' => match r with | .ok f => Q f s' | .error e => cameBackBy (model prog w) A env E e s') W ?_ ?_ ?_ ⟨⟨_, Heap.get?_push_size _ rfl, rfl, rfl⟩, hl.at fun o e => Heap.get?_push_of_some _ e⟩ (F.push _) (fun p hp => ⟨Heap.get?_push_of_some _ (N p hp).1, (N p hp).2⟩) J hj ?_ ?_
  · intro hm
    rcases List.mem_cons.mp hm with e | hm
    · exact Nat.ne_of_lt hLs e
    · obtain ⟨o, ho⟩ := hg0
      exact absurd (Heap.lt_size ho) (Nat.not_lt.mpr (List.mem_singleton.mp hm ▸ F.above))
  · intro b hb
    rw [List.mem_singleton.mp hb]
    exact next_is_new F
  · intro p hp hI
    exact absurd (Heap.lt_size (N p hp).1) ((List.mem_singleton.mp hI) ▸ Nat.lt_irrefl _)
  · intro i v m₁ news₁ h₁ tk₁ own hi hx hJ hoff hown hget hall hst₁ F₁ N₁
    have hwr : ∀ q ∈ own, q.1 ∈ [s.heap.objs.size] := fun q hq => by
      have hb' : q.1 = s.heap.objs.size ∨ q.1 = l := by simpa using hown q hq
      rcases hb' with e | e
      · simp [e]
      · obtain ⟨o, ho⟩ := hg0
        have := (N₁ q (List.mem_append_left _ hq)).2.2
        rw [e, ho] at this; cases this
    have hsep : ∀ p ∈ news₁, ∀ q ∈ own, p.1 ≠ q.1 := fun p hp q hq e => hoff p hp (e ▸ hwr q hq)
    have hx' : vs[i]? = some v := by
      have hx2 : vs.toArray[i]? = some v := hx
      simpa using hx2
    have N₂ : News h₀ env.locals h₁ (news₁ ++ own) := fun p hp => N₁ p ((List.mem_append.mp hp).elim (fun h => List.mem_append.mpr (.inr h)) fun h => List.mem_append.mpr (.inl h))
    obtain ⟨it, hit, _⟩ := hst₁.1
    have hIn : (s.heap.objs.size, it) ∈ own := hall _ (by simp) (next_is_new F) it hit
    have fin : ∀ s₃, EndG h₀ env.locals (J (i + 1)) own { s with heap := h₁, toks := tk₁ } s₃ → LoopStepU h₀ env.locals [s.heap.objs.size] own (J (i + 1)) { s with heap := h₁, toks := tk₁ } .next s₃ := by
      rintro s₃ ⟨h', tk, m', nx, e, F', N', ho, hj'⟩
      refine ⟨rfl, h', tk, m', nx, e, F', fun p hp => N' p ((List.mem_append.mp hp).elim (fun h => List.mem_append.mpr (.inr h)) fun h => List.mem_append.mpr (.inl h)), fun p hp hb => ?_, hj'⟩
      exact ho p hp _ hIn (List.mem_singleton.mp hb)
    refine wpAny_mono (turn i v m₁ news₁ h₁ tk₁ own hx' hJ hsep F₁ N₂) (fun _ s₂ h₂ => wpAny_passesOwn hE (wpAny_mono h₂ (fun f s₃ p => ?_) fun _ _ e => e)) hE
    cases f with
    | ret v => exact .ret p
    | brk => exact .brk p
    | next => exact .next (fin _ p)
    | cont => exact .cont (fin _ p)
  · rintro h' tk m' news' F' N' _ hJ
    exact wpAny_passesOwn hE (done m' news' h' tk hJ F' N')
end
end Mine
end
section
open PySem PySem.W PyProof.Rows
namespace Mine
set_option maxRecDepth 100000 in
set_option maxHeartbeats 8000000 in
theorem imode_call (w : World) (mean : ExcName → Option Value) (mg mb : Str → Option Value) (mode : Int) (tm : Tok) (news : List (Addr × Obj)) :
    Ctr w mean mg mb 1 8 21 news [.int mode tm] (fun r => ∃ t, r = .int (Builtin.bitAnd mode 4095) t) := by
  w_top off
  unfold Ctr
  k_fill
  intro dp un gd cn cs a ccd cl outer A₀ base h₀ L m s Q E B F X N T hk hd hu hret
  refine wpAny_call ?_
  k_dflt cell_enter
  k_steps
  all_goals exact hret _ _ _ ⟨_, rfl⟩ (by k_asm) (by k_asm)
set_option maxRecDepth 100000 in
set_option maxHeartbeats 8000000 in
theorem ifmt_call (w : World) (mean : ExcName → Option Value) (mg mb : Str → Option Value) (mode : Int) (tm : Tok) (news : List (Addr × Obj)) :
    Ctr w mean mg mb 1 8 28 news [.int mode tm] (fun r => ∃ t, r = .int (Builtin.bitAnd mode 61440) t) := by
  w_top off
  unfold Ctr
  k_fill
  intro dp un gd cn cs a ccd cl outer A₀ base h₀ L m s Q E B F X N T hk hd hu hret
  refine wpAny_call ?_
  k_dflt cell_enter
  k_steps
  all_goals exact hret _ _ _ ⟨_, rfl⟩ (by k_asm) (by k_asm)
/-- a call by a contract -/
local macro_rules | `(tactic| walk_at "call ref") => `(tactic| (k_here; k_dflt (refine' Ctr.use (ifmt_call _ _ _ _ _ _ _) ?B ?F ?X ?N ?T ?hk ?hd ?hu ?_; (case B => k_asm); (case F => k_asm); (case X => k_asm); (case N => k_asm); (case T => k_asm); (case hk => first | exact rfl | assumption); (case hd => ktr_room); (case hu => ktr_units); k_whole); (intro r9 h9 tk9 hr9 F9 N9); (obtain ⟨t9, e9⟩ := hr9); (subst e9); (try dsimp only); (try k_fold)))
set_option maxRecDepth 100000 in
set_option maxHeartbeats 8000000 in
theorem isdir_call (w : World) (mean : ExcName → Option Value) (mg mb : Str → Option Value) (mode : Int) (tm : Tok) (news : List (Addr × Obj)) :
    Ctr w mean mg mb 3 20 35 news [.int mode tm] (fun r => r = .bool (Builtin.bitAnd mode 61440 == 16384)) := by
  w_top off
  unfold Ctr
  k_fill
  intro dp un gd cn cs a ccd cl outer A₀ base h₀ L m s Q E B F X N T hk hd hu hret
  refine wpAny_call ?_
  k_dflt cell_enter
  k_steps
  all_goals exact hret _ _ _ rfl (by k_asm) (by k_asm)
set_option maxRecDepth 100000 in
set_option maxHeartbeats 8000000 in
theorem ischr_call (w : World) (mean : ExcName → Option Value) (mg mb : Str → Option Value) (mode : Int) (tm : Tok) (news : List (Addr × Obj)) :
    Ctr w mean mg mb 3 20 42 news [.int mode tm] (fun r => r = .bool (Builtin.bitAnd mode 61440 == 8192)) := by
  w_top off
  unfold Ctr
  k_fill
  intro dp un gd cn cs a ccd cl outer A₀ base h₀ L m s Q E B F X N T hk hd hu hret
  refine wpAny_call ?_
  k_dflt cell_enter
  k_steps
  all_goals exact hret _ _ _ rfl (by k_asm) (by k_asm)
set_option maxRecDepth 100000 in
set_option maxHeartbeats 8000000 in
theorem isblk_call (w : World) (mean : ExcName → Option Value) (mg mb : Str → Option Value) (mode : Int) (tm : Tok) (news : List (Addr × Obj)) :
    Ctr w mean mg mb 3 20 49 news [.int mode tm] (fun r => r = .bool (Builtin.bitAnd mode 61440 == 24576)) := by
  w_top off
  unfold Ctr
  k_fill
  intro dp un gd cn cs a ccd cl outer A₀ base h₀ L m s Q E B F X N T hk hd hu hret
  refine wpAny_call ?_
  k_dflt cell_enter
  k_steps
  all_goals exact hret _ _ _ rfl (by k_asm) (by k_asm)
set_option maxRecDepth 100000 in
set_option maxHeartbeats 8000000 in
theorem isreg_call (w : World) (mean : ExcName → Option Value) (mg mb : Str → Option Value) (mode : Int) (tm : Tok) (news : List (Addr × Obj)) :
    Ctr w mean mg mb 3 20 56 news [.int mode tm] (fun r => r = .bool (Builtin.bitAnd mode 61440 == 32768)) := by
  w_top off
  unfold Ctr
  k_fill
  intro dp un gd cn cs a ccd cl outer A₀ base h₀ L m s Q E B F X N T hk hd hu hret
  refine wpAny_call ?_
  k_dflt cell_enter
  k_steps
  all_goals exact hret _ _ _ rfl (by k_asm) (by k_asm)
set_option maxRecDepth 100000 in
set_option maxHeartbeats 8000000 in
theorem isfifo_call (w : World) (mean : ExcName → Option Value) (mg mb : Str → Option Value) (mode : Int) (tm : Tok) (news : List (Addr × Obj)) :
    Ctr w mean mg mb 3 20 63 news [.int mode tm] (fun r => r = .bool (Builtin.bitAnd mode 61440 == 4096)) := by
  w_top off
  unfold Ctr
  k_fill
  intro dp un gd cn cs a ccd cl outer A₀ base h₀ L m s Q E B F X N T hk hd hu hret
  refine wpAny_call ?_
  k_dflt cell_enter
  k_steps
  all_goals exact hret _ _ _ rfl (by k_asm) (by k_asm)
set_option maxRecDepth 100000 in
set_option maxHeartbeats 8000000 in
theorem islnk_call (w : World) (mean : ExcName → Option Value) (mg mb : Str → Option Value) (mode : Int) (tm : Tok) (news : List (Addr × Obj)) :
    Ctr w mean mg mb 3 20 70 news [.int mode tm] (fun r => r = .bool (Builtin.bitAnd mode 61440 == 40960)) := by
  w_top off
  unfold Ctr
  k_fill
  intro dp un gd cn cs a ccd cl outer A₀ base h₀ L m s Q E B F X N T hk hd hu hret
  refine wpAny_call ?_
  k_dflt cell_enter
  k_steps
  all_goals exact hret _ _ _ rfl (by k_asm) (by k_asm)
set_option maxRecDepth 100000 in
set_option maxHeartbeats 8000000 in
theorem issock_call (w : World) (mean : ExcName → Option Value) (mg mb : Str → Option Value) (mode : Int) (tm : Tok) (news : List (Addr × Obj)) :
    Ctr w mean mg mb 3 20 77 news [.int mode tm] (fun r => r = .bool (Builtin.bitAnd mode 61440 == 49152)) := by
  w_top off
  unfold Ctr
  k_fill
  intro dp un gd cn cs a ccd cl outer A₀ base h₀ L m s Q E B F X N T hk hd hu hret
  refine wpAny_call ?_
  k_dflt cell_enter
  k_steps
  all_goals exact hret _ _ _ rfl (by k_asm) (by k_asm)
set_option maxRecDepth 100000 in
set_option maxHeartbeats 8000000 in
theorem isdoor_call (w : World) (mean : ExcName → Option Value) (mg mb : Str → Option Value) (mode : Int) (tm : Tok) (news : List (Addr × Obj)) :
    Ctr w mean mg mb 1 8 84 news [.int mode tm] (fun r => r = .bool false) := by
  w_top off
  unfold Ctr
  k_fill
  intro dp un gd cn cs a ccd cl outer A₀ base h₀ L m s Q E B F X N T hk hd hu hret
  refine wpAny_call ?_
  k_dflt cell_enter
  k_steps
  all_goals exact hret _ _ _ rfl (by k_asm) (by k_asm)
set_option maxRecDepth 100000 in
set_option maxHeartbeats 8000000 in
theorem isport_call (w : World) (mean : ExcName → Option Value) (mg mb : Str → Option Value) (mode : Int) (tm : Tok) (news : List (Addr × Obj)) :
    Ctr w mean mg mb 1 8 91 news [.int mode tm] (fun r => r = .bool false) := by
  w_top off
  unfold Ctr
  k_fill
  intro dp un gd cn cs a ccd cl outer A₀ base h₀ L m s Q E B F X N T hk hd hu hret
  refine wpAny_call ?_
  k_dflt cell_enter
  k_steps
  all_goals exact hret _ _ _ rfl (by k_asm) (by k_asm)
set_option maxRecDepth 100000 in
set_option maxHeartbeats 8000000 in
theorem iswht_call (w : World) (mean : ExcName → Option Value) (mg mb : Str → Option Value) (mode : Int) (tm : Tok) (news : List (Addr × Obj)) :
    Ctr w mean mg mb 1 8 98 news [.int mode tm] (fun r => r = .bool false) := by
  w_top off
  unfold Ctr
  k_fill
  intro dp un gd cn cs a ccd cl outer A₀ base h₀ L m s Q E B F X N T hk hd hu hret
  refine wpAny_call ?_
  k_dflt cell_enter
  k_steps
  all_goals exact hret _ _ _ rfl (by k_asm) (by k_asm)
end Mine
end
section
open PySem PySem.W PyProof.Rows
namespace Mine
abbrev Row := Addr × Int × Tok × Str × Tok
def RowsAt (h₀ : Heap) (tb : Addr) (rows : List Row) : Prop :=
  h₀.IsTuple tb (rows.map fun r => Value.ref r.1).toArray ∧ ∀ r ∈ rows, IsTup h₀ r.1 #[.int r.2.1 r.2.2.1, .str r.2.2.2.1 r.2.2.2.2]
def hit (mode : Int) (i : Nat) (b : Int) : Bool := if i = 0 then Builtin.bitAnd mode 61440 == b else Builtin.bitAnd mode b == b
def sgn (mode : Int) (i : Nat) (rows : List Row) : Str := ((rows.find? fun r => hit mode i r.2.1).map (·.2.2.2.1)).getD (if i = 0 then Str.ofString "?" else Str.ofString "-")
def fmTabs : List (Addr × List Row) := [
  (106, [(99, 40960, 213, Str.ofString "l", 311), (100, 49152, 215, Str.ofString "s", 312), (101, 32768, 209, Str.ofString "-", 313), (102, 24576, 207, Str.ofString "b", 314), (103, 16384, 203, Str.ofString "d", 315), (104, 8192, 205, Str.ofString "c", 316), (105, 4096, 211, Str.ofString "p", 317)]),
  (108, [(107, 256, 293, Str.ofString "r", 318)]),
  (110, [(109, 128, 295, Str.ofString "w", 319)]),
  (114, [(111, 2112, 320, Str.ofString "s", 321), (112, 2048, 287, Str.ofString "S", 322), (113, 64, 297, Str.ofString "x", 323)]),
  (116, [(115, 32, 299, Str.ofString "r", 324)]),
  (118, [(117, 16, 301, Str.ofString "w", 325)]),
  (122, [(119, 1032, 326, Str.ofString "s", 327), (120, 1024, 289, Str.ofString "S", 328), (121, 8, 303, Str.ofString "x", 329)]),
  (124, [(123, 4, 305, Str.ofString "r", 330)]),
  (126, [(125, 2, 307, Str.ofString "w", 331)]),
  (130, [(127, 513, 332, Str.ofString "t", 333), (128, 512, 291, Str.ofString "T", 334), (129, 1, 309, Str.ofString "x", 335)])]
def fmSigns (mode : Int) : List Str := fmTabs.zipIdx.map fun t => sgn mode t.2 t.1.2
set_option maxRecDepth 100000 in
set_option maxHeartbeats 1000000 in
theorem rowsAt {w : World} {h₀ : Heap} (X : (Mine.hd.heap_39 w.params).In h₀) : ∀ t ∈ fmTabs, RowsAt h₀ t.1 t.2 := by
  have one : ∀ (tb : Addr) (vs : List Value) (rows : List Row), vs = (rows.map fun r => Value.ref r.1) → (Mine.hd.heap_39 w.params).lookup tb = some { cls := .type "tuple", data := .seq vs.toArray } →
      (∀ r ∈ rows, (Mine.hd.heap_39 w.params).lookup r.1 = some { cls := .type "tuple", data := .seq #[.int r.2.1 r.2.2.1, .str r.2.2.2.1 r.2.2.2.2] }) → RowsAt h₀ tb rows := by
    intro tb vs rows e h1 h2
    subst e
    exact ⟨⟨_, X _ _ h1, rfl, _, rfl⟩, fun r hr => ⟨_, X _ _ (h2 r hr), rfl, _, rfl⟩⟩
  intro t ht
  simp only [fmTabs, List.mem_cons, List.not_mem_nil, or_false] at ht
  rcases ht with rfl | rfl | rfl | rfl | rfl | rfl | rfl | rfl | rfl | rfl
  all_goals (refine one _ _ _ rfl (by rfl) ?_; intro r hr; (simp only [List.mem_cons, List.not_mem_nil, or_false] at hr))
  all_goals first | (rcases hr with rfl | rfl | rfl | rfl | rfl | rfl | rfl <;> rfl) | (rcases hr with rfl | rfl | rfl <;> rfl) | (subst hr; rfl)
abbrev fmNS : List Str := [Str.ofString "index", Str.ofString "table", Str.ofString "bit", Str.ofString "char"]
abbrev fmNS2 : List Str := [Str.ofString "bit", Str.ofString "char"]
def fmM0 (p1 : Addr) (mode : Int) (tm : Tok) : Str → Option Value := fun y => if y = Str.ofString "perm" then some (.ref p1) else if y = Str.ofString "mode" then some (.int mode tm) else none
def fmM1 (p1 : Addr) (mode : Int) (tm : Tok) (i : Nat) (t : Tok) (tb : Addr) (u : Str → Option Value) : Str → Option Value :=
  fun y => if y = Str.ofString "table" then some (.ref tb) else if y = Str.ofString "index" then some (.int i t) else offN fmNS u (fmM0 p1 mode tm) y
theorem fmM0_eq (p1 : Addr) (mode : Int) (tm : Tok) : (fun y => if y = Str.ofString "perm" then some (Value.ref p1) else List.lookup y [(Str.ofString "mode", Value.int mode tm)]) = fmM0 p1 mode tm := by
  funext y
  unfold fmM0
  split
  · rfl
  · rw [List.lookup_cons]
    by_cases h : y = Str.ofString "mode"
    · subst h; simp
    · rw [if_neg h, show (y == Str.ofString "mode") = false from by simpa using h]; rfl
theorem fmM1_off {p1 : Addr} {mode : Int} {tm : Tok} {i : Nat} {t : Tok} {tb : Addr} {u m' : Str → Option Value} (h : Off fmNS2 (fmM1 p1 mode tm i t tb u) m') : Off fmNS (fmM0 p1 mode tm) m' := by
  intro y hy
  have h1 : fmNS2.contains y = false := by
    simp only [fmNS, fmNS2, List.contains_cons, List.contains_nil, Bool.or_false, Bool.or_eq_false_iff] at hy ⊢
    exact ⟨hy.2.2.1, hy.2.2.2⟩
  rw [h y h1]
  have e1 : Off fmNS (fmM0 p1 mode tm) (fmM1 p1 mode tm i t tb u) := by
    unfold fmM1
    exact Off.set (by decide) (Off.set (by decide) Off.offN)
  exact e1 y hy
end Mine
end
section
open PySem PySem.W PyProof.Rows
namespace Mine
local macro_rules | `(tactic| walk_at "exec For Tuple Call") => `(tactic| (k_here; (rename Fr _ _ _ _ => lF'); (with_unfolding_all refine' For_turns lF' ?_); k_whole))
local macro_rules | `(tactic| walk_at "PostG") => `(tactic| (dsimp only [PostG]))
local macro_rules | `(tactic| walk_at "call ref") => `(tactic| (k_here; k_dflt (refine' Ctr.use (ifmt_call _ _ _ _ _ _ _) ?B ?F ?X ?N ?T ?hk ?hd ?hu ?_; (case B => k_asm); (case F => k_asm); (case X => k_asm); (case N => k_asm); (case T => k_asm); (case hk => first | exact rfl | assumption); (case hd => ktr_room); (case hu => ktr_units); k_whole); (intro r9 h9 tk9 hr9 F9 N9); (obtain ⟨t9, e9⟩ := hr9); (subst e9); (try dsimp only); (try k_fold)))
theorem append_P {prog : Program} {w : World} {A : Around} {E : Value → Shared → Prop} {s : Shared} {h₀ : Heap} {L : Addr} {m : Str → Option Value} {D : Addr} {rest : List (Addr × Obj)} {vs : List Value} {n : Nat} {x : Value} {Q : Value → Shared → Prop} (F : Fr h₀ L s.heap m) (N : News h₀ L s.heap ((D, W.listOf vs.toArray n) :: rest))
    (hs : ∀ p ∈ rest, p.1 ≠ D) (hsz : vs.length ≤ 100)
    (h : ∀ h', Fr h₀ L h' m → News h₀ L h' ((D, W.listOf (vs ++ [x]).toArray (n + 1)) :: rest) → Q .none { s with heap := h' }) : wpAny (model prog w) A (call (.builtin "list.append") [.ref D, x]) Q E s := by
  have e : vs.toArray.push x = (vs ++ [x]).toArray := by simp
  refine append_K F N (.head hs) (fun h' F' N' => h h' F' (by rw [← e]; exact N')) (by rw [List.size_toArray, sizeLine_eq]; omega)
local macro_rules | `(tactic| walk_at "call builtin:list.append") => `(tactic| (k_here; (with_reducible show wpAny _ _ (call (Value.builtin _) [Value.ref _, _]) _ _ _); k_dflt (refine' append_P ?k1 ?k2 ?k3 ?k4 ?_; (case k1 => k_asm); (case k2 => k_asm); (case k3 => assumption); (case k4 => assumption); k_whole); (intro h' F' N'); (try k_sweep)))
theorem strsAre_length {vs : List Value} {ys : List Str} (h : StrsAre vs ys) : vs.length = ys.length := by
  induction h with
  | nil => rfl
  | cons y t _ ih => simp [ih]
theorem strsAre_snoc {vs : List Value} {ys : List Str} {y : Str} {t : Tok} (h : StrsAre vs ys) : StrsAre (vs ++ [.str y t]) (ys ++ [y]) := by
  induction h with
  | nil => exact .cons y t .nil
  | cons z u _ ih => exact .cons z u ih
theorem fmSigns_at {mode : Int} {i : Nat} {tb : Addr} {rows : List Row} (h : fmTabs[i]? = some (tb, rows)) : (fmSigns mode)[i]? = some (sgn mode i rows) := by
  unfold fmSigns
  simp [List.getElem?_zipIdx, h]
theorem fmSigns_succ {mode : Int} {i : Nat} {tb : Addr} {rows : List Row} (h : fmTabs[i]? = some (tb, rows)) : (fmSigns mode).take (i + 1) = (fmSigns mode).take i ++ [sgn mode i rows] := by
  rw [List.take_add_one, fmSigns_at h]
  rfl
theorem sgn_hit {mode : Int} {i j : Nat} {rows : List Row} {ra : Addr} {b : Int} {tB : Tok} {c : Str} {tC : Tok} (hr : rows[j]? = some (ra, b, tB, c, tC)) (hno : ∀ r ∈ rows.take j, hit mode i r.2.1 = false) (hb : hit mode i b = true) : sgn mode i rows = c := by
  have hlt : j < rows.length := (List.getElem?_eq_some_iff.mp hr).1
  have e : rows = rows.take j ++ (ra, b, tB, c, tC) :: rows.drop (j + 1) := by
    have h1 := List.take_append_drop j rows
    rw [List.drop_eq_getElem_cons hlt] at h1
    have h2 : rows[j] = (ra, b, tB, c, tC) := (List.getElem?_eq_some_iff.mp hr).2
    rw [h2] at h1
    exact h1.symm
  unfold sgn
  rw [e, List.find?_append]
  have h3 : (rows.take j).find? (fun r => hit mode i r.2.1) = none := by
    rw [List.find?_eq_none]
    intro r hr'
    rw [hno r hr']
    exact Bool.false_ne_true
  rw [h3]
  simp [hb]
theorem sgn_none {mode : Int} {i : Nat} {rows : List Row} (hno : ∀ r ∈ rows.take rows.length, hit mode i r.2.1 = false) : sgn mode i rows = if i = 0 then Str.ofString "?" else Str.ofString "-" := by
  unfold sgn
  have h3 : rows.find? (fun r => hit mode i r.2.1) = none := by
    rw [List.find?_eq_none]
    intro r hr'
    rw [hno r (by rw [List.take_length]; exact hr')]
    exact Bool.false_ne_true
  rw [h3]
  rfl
theorem hit_zero {mode : Int} {i : Nat} {b : Int} (hi : (i : Int) = 0) : hit mode i b = (Builtin.bitAnd mode 61440 == b) := by
  have : i = 0 := by omega
  unfold hit
  rw [if_pos this]
theorem hit_pos {mode : Int} {i : Nat} {b : Int} (hi : (i : Int) ≠ 0) : hit mode i b = (Builtin.bitAnd mode b == b) := by
  have : i ≠ 0 := by omega
  unfold hit
  rw [if_neg this]
theorem fm_end1 {g1 : Heap} {L1 p1 : Addr} {mode : Int} {tm : Tok} {i : Nat} {tb : Addr} {rows : List Row} {m' : Str → Option Value} {h' : Heap} {vs : List Value} {c : Str} {tC : Tok} {k nn tk : Nat} {rest news own : List (Addr × Obj)} {s₁ : Shared}
    (F' : Fr g1 L1 h' m') (N' : News g1 L1 h' ((p1, W.listOf (vs ++ [Value.str c tC]).toArray k) :: rest)) (hm' : Off fmNS (fmM0 p1 mode tm) m') (hsub : ∀ p ∈ news ++ own, p ∈ rest) (hoff : ∀ p ∈ (p1, W.listOf vs.toArray nn) :: news, ∀ q ∈ own, p.1 ≠ q.1)
    (hvs : StrsAre vs ((fmSigns mode).take i)) (htab : fmTabs[i]? = some (tb, rows)) (hc : sgn mode i rows = c) :
    EndG g1 L1 (fun m' nx => ∃ (vs : List Value) (nn : Nat), Off fmNS (fmM0 p1 mode tm) m' ∧ StrsAre vs ((fmSigns mode).take (i + 1)) ∧ nx = (p1, W.listOf vs.toArray nn) :: news) own s₁ { s₁ with heap := h', toks := tk } := by
  refine ⟨h', tk, m', (p1, W.listOf (vs ++ [Value.str c tC]).toArray k) :: news, rfl, F', ?_, ?_, vs ++ [Value.str c tC], k, hm', ?_, rfl⟩
  · intro p hp
    rw [List.cons_append] at hp
    rcases List.mem_cons.mp hp with rfl | hp
    · exact N' _ (.head _)
    · exact N' _ (.tail _ (hsub p hp))
  · intro p hp q hq
    rcases List.mem_cons.mp hp with rfl | hp
    · exact hoff (p1, W.listOf vs.toArray nn) (.head _) q hq
    · exact hoff p (.tail _ hp) q hq
  · rw [fmSigns_succ htab, hc]
    exact strsAre_snoc hvs
theorem fm_end2 {g1 : Heap} {L1 p1 : Addr} {mode : Int} {tm : Tok} {i j : Nat} {t : Tok} {tb : Addr} {rows : List Row} {m₁ m' : Str → Option Value} {h' : Heap} {vs : List Value} {ra : Addr} {b : Int} {tB : Tok} {c : Str} {tC : Tok} {nn tk : Nat} {news own own₂ : List (Addr × Obj)} {s₁ : Shared}
    (F' : Fr g1 L1 h' m') (N' : News g1 L1 h' ((p1, W.listOf vs.toArray nn) :: (news ++ own ++ own₂))) (hm' : Off fmNS2 (fmM1 p1 mode tm i t tb m₁) m')
    (hoff : ∀ p ∈ (p1, W.listOf vs.toArray nn) :: news ++ own, ∀ q ∈ own₂, p.1 ≠ q.1) (hr : rows[j]? = some (ra, b, tB, c, tC)) (hno : ∀ r ∈ rows.take j, hit mode i r.2.1 = false) (hb : hit mode i b = false) :
    EndG g1 L1 (fun m' nx => Off fmNS2 (fmM1 p1 mode tm i t tb m₁) m' ∧ nx = (p1, W.listOf vs.toArray nn) :: news ++ own ∧ ∀ r ∈ rows.take (j + 1), hit mode i r.2.1 = false) own₂ s₁ { s₁ with heap := h', toks := tk } := by
  refine ⟨h', tk, m', (p1, W.listOf vs.toArray nn) :: news ++ own, rfl, F', N', hoff, hm', rfl, ?_⟩
  intro r hr'
  rw [List.take_add_one, hr] at hr'
  rcases List.mem_append.mp hr' with h | h
  · exact hno r h
  · have e : r = (ra, b, tB, c, tC) := by simpa using h
    rw [e]
    exact hb
theorem sgn_len {mode : Int} {i : Nat} {rows : List Row} (h : ∀ r ∈ rows, r.2.2.2.1.length = 1) : (sgn mode i rows).length = 1 := by
  unfold sgn
  cases hf : rows.find? (fun r => hit mode i r.2.1) with
  | none =>
    show (if i = 0 then Str.ofString "?" else Str.ofString "-").length = 1
    split <;> decide +kernel
  | some r => exact h r (List.mem_of_find?_eq_some hf)
theorem fmTabs_len : ∀ t ∈ fmTabs, ∀ r ∈ t.2, r.2.2.2.1.length = 1 := by decide +kernel
theorem fmSigns_len (mode : Int) : ∀ y ∈ fmSigns mode, y.length = 1 := by
  intro y hy
  unfold fmSigns at hy
  obtain ⟨⟨t, i⟩, ht, rfl⟩ := List.mem_map.mp hy
  exact sgn_len fun r hr => fmTabs_len t (List.fst_mem_of_mem_zipIdx ht) r hr
theorem sum_ones : ∀ {l : List Str}, (∀ y ∈ l, y.length = 1) → (l.map (·.length)).sum = l.length
  | [], _ => rfl
  | y :: r, h => by
    rw [List.map_cons, List.sum_cons, h y (.head _), sum_ones fun z hz => h z (.tail _ hz), List.length_cons]
    omega
theorem fmSigns_ten (mode : Int) : (fmSigns mode).length = 10 := by simp [fmSigns, fmTabs]
theorem fmJoin_ok (mode : Int) : ((fmSigns mode).map (·.length)).sum + (fmSigns mode).length * (Str.ofString "").length ≤ 16777216 := by
  rw [sum_ones (fmSigns_len mode), fmSigns_ten, show (Str.ofString "").length = 0 from by decide +kernel]
  decide
theorem sub3 {news own own₂ : List (Addr × Obj)} : ∀ p ∈ news ++ own, p ∈ news ++ own ++ own₂ := fun _ hp => List.mem_append.mpr (.inl hp)
theorem sub2 {news own : List (Addr × Obj)} : ∀ p ∈ news ++ own, p ∈ news ++ own := fun _ hp => hp
local macro_rules | `(tactic| walk_at "call builtin:str.join") => `(tactic| (k_here; (with_reducible show wpAny _ _ (call (Value.builtin "str.join") [Value.str _ _, Value.ref _]) _ _ _); k_dflt (refine' join_list ?k1 ?k2 ?k3 ?_; (case k1 => refine News.isList (by assumption) (.head _)); (case k2 => assumption); (case k3 => assumption); k_whole); (intro t9 h9)))
set_option maxRecDepth 100000 in
set_option maxHeartbeats 8000000 in
theorem fm_call (w : World) (mean : ExcName → Option Value) (mg mb : Str → Option Value) (mode : Int) (tm : Tok) (news : List (Addr × Obj)) :
    Ctr w mean mg mb 10 100 138 news [.int mode tm] (fun r => ∃ t, r = .str (Txt.join (Str.ofString "") (fmSigns mode)) t) := by
  w_top off
  unfold Ctr
  k_fill
  intro dp un gd cn cs a ccd cl outer A₀ base h₀ L m s Q E B F X N T hk hd hu hret
  refine wpAny_call ?_
  k_dflt cell_enter
  k_steps
  rename Fr _ _ _ _ => F1
  rename News _ _ _ _ => N1
  rename_i g1 L1 ha FG B1 X1 T1 tk1 p1 hb hlt h1
  have F2 : Fr g1 L1 h1 (fun y => if y = Str.ofString "perm" then some (.ref p1) else List.lookup y [(Str.ofString "mode", Value.int mode tm)]) := F1
  clear F1
  rw [fmM0_eq] at F2
  refine enum_tup_inv (vs := fmTabs.map fun t => Value.ref t.1) (fun i m' nx => ∃ (vs : List Value) (nn : Nat), Off fmNS (fmM0 p1 mode tm) m' ∧ StrsAre vs ((fmSigns mode).take i) ∧ nx = (p1, W.listOf vs.toArray nn) :: news) rfl ?_ F2 N1 ?_ ?_ ?_
  · exact ⟨_, X1 _ _ rfl, rfl, _, rfl⟩
  · exact ⟨[], 0, Off.refl, .nil, rfl⟩
  · rintro i x Tu t m₁ news₁ h₁ tk₁ own hx hT ⟨vs, nn, hm, hvs, rfl⟩ hoff F3 N3
    rw [hm.eq] at F3
    clear F2 N1 hm
    obtain ⟨tab, htab, rfl⟩ : ∃ tab : Addr × List Row, fmTabs[i]? = some tab ∧ Value.ref tab.1 = x := by simpa using hx
    obtain ⟨tb, rows⟩ := tab
    have hR : RowsAt g1 tb rows := rowsAt X1 _ (List.mem_of_getElem? htab)
    dsimp only at hT
    clear hx
    k_steps
    rename Fr _ _ _ _ => F5
    rename News _ _ _ _ => N5
    have F6 : Fr g1 L1 _ (fmM1 p1 mode tm i t tb m₁) := F5
    clear F5
    refine For_tup_else (vs := rows.map fun r => Value.ref r.1) (fun j m' nx => Off fmNS2 (fmM1 p1 mode tm i t tb m₁) m' ∧ nx = (p1, W.listOf vs.toArray nn) :: news ++ own ∧ ∀ r ∈ rows.take j, hit mode i r.2.1 = false) (fun Q' hq => ld F6 rfl hq) rfl hR.1 F6 N5 ⟨Off.refl, rfl, by simp⟩ ?_ ?_ (fun _ => rfl) (by passes_own)
    · rintro j x m₂ news₂ h₂ tk₂ own₂ hx2 ⟨hm2, rfl, hno⟩ hoff2 F7 N7
      rw [hm2.eq] at F7
      clear F6 N5
      obtain ⟨row, hrow, rfl⟩ : ∃ row : Row, rows[j]? = some row ∧ Value.ref row.1 = x := by simpa using hx2
      have hI := (hR.2 row (List.mem_of_getElem? hrow)).keeps F7.keep
      obtain ⟨ra, b, tB, c, tC⟩ := row
      dsimp only at hI
      replace N7 : News g1 _ h₂ ((p1, W.listOf vs.toArray nn) :: (news ++ own ++ own₂)) := N7
      have hsep : ∀ p ∈ news ++ own ++ own₂, p.1 ≠ p1 := by
        intro p hp
        rcases List.mem_append.mp hp with hp | hp
        · rcases List.mem_append.mp hp with hp | hp
          · exact Nat.ne_of_lt (hlt p hp)
          · exact fun e => hoff _ (.head _) p hp e.symm
        · exact fun e => hoff2 _ (.head _) p hp e.symm
      have hlen : vs.length ≤ 100 := by rw [strsAre_length hvs, List.length_take]; exact Nat.le_trans (Nat.min_le_right _ _) (by simp [fmSigns, fmTabs])
      k_steps
      all_goals rename Fr _ _ _ _ => FZ
      all_goals rename News _ _ _ _ => NZ
      · rename (i : Int) = 0 => hi
        rename Builtin.bitAnd mode 61440 = b => hb
        exact fm_end1 FZ NZ (fmM1_off (Off.set (by decide) (Off.set (by decide) Off.offN))) sub3 hoff hvs htab (sgn_hit hrow hno (by rw [hit_zero hi, hb]; exact beq_self_eq_true b))
      · rename (i : Int) = 0 => hi
        rename Builtin.bitAnd mode 61440 ≠ b => hb
        exact fm_end2 FZ NZ (Off.set (by decide) (Off.set (by decide) Off.offN)) hoff2 hrow hno (by rw [hit_zero hi]; exact beq_eq_false_iff_ne.mpr hb)
      · rename (i : Int) ≠ 0 => hi
        rename Builtin.bitAnd mode b = b => hb
        exact fm_end1 FZ NZ (fmM1_off (Off.set (by decide) (Off.set (by decide) Off.offN))) sub3 hoff hvs htab (sgn_hit hrow hno (by rw [hit_pos hi, hb]; exact beq_self_eq_true b))
      · rename (i : Int) ≠ 0 => hi
        rename Builtin.bitAnd mode b ≠ b => hb
        exact fm_end2 FZ NZ (Off.set (by decide) (Off.set (by decide) Off.offN)) hoff2 hrow hno (by rw [hit_pos hi]; exact beq_eq_false_iff_ne.mpr hb)
    · rintro m₂ news₂ h₂ tk₂ ⟨hm2, rfl, hno⟩ F7 N7
      rw [hm2.eq] at F7
      replace N7 : News g1 _ h₂ ((p1, W.listOf vs.toArray nn) :: (news ++ own)) := N7
      have hsep : ∀ p ∈ news ++ own, p.1 ≠ p1 := by
        intro p hp
        rcases List.mem_append.mp hp with hp | hp
        · exact Nat.ne_of_lt (hlt p hp)
        · exact fun e => hoff _ (.head _) p hp e.symm
      have hlen : vs.length ≤ 100 := by rw [strsAre_length hvs, List.length_take]; exact Nat.le_trans (Nat.min_le_right _ _) (by simp [fmSigns, fmTabs])
      k_steps
      all_goals rename Fr _ _ _ _ => FZ
      all_goals rename News _ _ _ _ => NZ
      all_goals try (rw [List.length_map] at hno)
      · rename (i : Int) = 0 => hi
        exact fm_end1 FZ NZ (fmM1_off Off.offN) sub2 hoff hvs htab (by rw [sgn_none hno, if_pos (by omega)])
      · rename (i : Int) ≠ 0 => hi
        exact fm_end1 FZ NZ (fmM1_off Off.offN) sub2 hoff hvs htab (by rw [sgn_none hno, if_neg (by omega)])
  · rintro m₁ news₁ h₁ tk₁ ⟨vs, nn, hm, hvs, rfl⟩ F3 N3
    rw [hm.eq] at F3
    have hall : (fmSigns mode).take (fmTabs.map fun t => Value.ref t.1).length = fmSigns mode := List.take_of_length_le (by simp [fmSigns, fmTabs])
    rw [hall] at hvs
    have hj := fmJoin_ok mode
    k_steps
    all_goals exact hret _ _ _ ⟨_, rfl⟩ (by k_asm) (by first | k_asm | exact fun p hp => (by assumption : News _ _ _ _) p (.tail _ hp))
end Mine
end
section
open PySem PySem.W PyProof.Rows PySem.Spec
namespace Mine
section
variable {prog : Program} {w : World} {A : Around} {E : Value → Shared → Prop} {s : Shared} {env : Env} {h₀ : Heap} {x : Str} {body : List Stmt} {Q : Flow → Shared → Prop}
def Hold (P : Prop) : Prop := P
theorem For_hold {m : Str → Option Value} {px pos : Pos} {iter : Expr} (_F : Fr h₀ env.locals s.heap m) (hx : env.kindOf x = some .local)
    (hp : (env.scope.kind == .class || (env.scope.kind == .module && env.locals != env.globals)) = false)
    (h : wpAny (model prog w) A (eval iter env) (fun xv s₁ => Hold (wpAny (model prog w) A (pyIter xv) (fun it s₂ => LoopAtV prog w A h₀ env x body Q E it s₂) E s₁)) E s)
    (hs : ∀ x, foldedSetIterable iter env x = pure x := by intro _; rfl)
    (hE : PassesOwn (model prog w) A env E := by passes_own) :
    wpAny (model prog w) A (exec (.For (.Name x px) iter body [] pos) env) Q E s := For_invVF _F hx hp h hs hE
theorem loopG {I : Addr} {fp wr : List Addr} {n : Nat} {P : Nat → Value → Prop} {St : Nat → Heap → Prop} {m₀ : Str → Option Value} {news : List (Addr × Obj)} (J : Nat → (Str → Option Value) → List (Addr × Obj) → Prop)
    (W : Walks prog w A I fp wr n P St) (hlive : ∀ i h, St i h → ∀ b ∈ fp, ∃ o, h.get? b = some o) (hLf : env.locals ∉ fp) (hwr : ∀ b ∈ wr, h₀.get? b = none) (hfp : ∀ q ∈ news, q.1 ∉ fp) (hst : St 0 s.heap) (F : Fr h₀ env.locals s.heap m₀) (N : News h₀ env.locals s.heap news) (hj : J 0 m₀ news)
    (turn : ∀ i v m₁ news₁ h tk own, i < n → P i v → J i m₁ news₁ → (∀ p ∈ news₁, ∀ q ∈ own, p.1 ≠ q.1) → Fr h₀ env.locals h (fun y => if y = x then some v else m₁ y) → News h₀ env.locals h (news₁ ++ own) →
      wpAny (model prog w) A (execs body env) (PostG h₀ env.locals (J (i + 1)) own { s with heap := h, toks := tk } Q) E { s with heap := h, toks := tk })
    (done : ∀ m₁ news₁ h tk, J n m₁ news₁ → Fr h₀ env.locals h m₁ → News h₀ env.locals h news₁ → Q .next { s with heap := h, toks := tk }) :
    LoopAtV prog w A h₀ env x body Q E (.ref I) s := by
  let J' : Nat → (Str → Option Value) → List (Addr × Obj) → Prop := fun i m₁ news₁ => (∀ q ∈ news₁, q.1 ∉ fp) ∧ J i m₁ news₁
  refine ⟨I, fp, wr, n, P, St, m₀, news, J', rfl, W, hLf, hwr, fun p hp hb => hfp p hp (W.sub _ hb), hst, F, N, ⟨hfp, hj⟩, ?_, ?_⟩
  · rintro i v m₁ news₁ s₁ own ⟨hh', tk', rfl⟩ hin hP ⟨hnf, hJ⟩ hoff hown hget hall hst₁ F₁ N₁
    have hsep : ∀ p ∈ news₁, ∀ q ∈ own, p.1 ≠ q.1 := fun p hp q hq e => hnf p hp (e ▸ hown q hq)
    have N₂ : News h₀ env.locals hh' (news₁ ++ own) := fun p hp => N₁ p ((List.mem_append.mp hp).elim (fun h => List.mem_append.mpr (.inr h)) fun h => List.mem_append.mpr (.inl h))
    refine wpAny_mono (turn i v m₁ news₁ hh' tk' own hin hP hJ hsep F₁ N₂) (fun f s₂ p => ?_) fun _ _ e => e
    have fin : EndG h₀ env.locals (J (i + 1)) own { s with heap := hh', toks := tk' } s₂ → LoopStepU h₀ env.locals wr own (J' (i + 1)) { s with heap := hh', toks := tk' } .next s₂ := by
      rintro ⟨h', tk, m', nx, e, F', N', ho, hm⟩
      have hnf' : ∀ q ∈ nx, q.1 ∉ fp := by
        intro q hq hb
        obtain ⟨o, hlo⟩ := hlive _ _ hst₁ _ hb
        have hn : h₀.get? q.1 = none := (N' q (List.mem_append_left _ hq)).2.2
        exact ho q hq (q.1, o) (hall _ hb hn o hlo) rfl
      exact ⟨rfl, h', tk, m', nx, e, F', fun p hp => N' p ((List.mem_append.mp hp).elim (fun h => List.mem_append.mpr (.inr h)) fun h => List.mem_append.mpr (.inl h)), fun p hp hb => hnf' p hp (W.sub _ hb), hnf', hm⟩
    cases f with
    | ret v => exact .ret p
    | brk => exact .brk p
    | next => exact .next (fin p)
    | cont => exact .cont (fin p)
  · rintro h' tk m' news' F' N' _ ⟨_, hJ⟩
    exact done m' news' h' tk hJ F' N'
theorem range_inv {r : Addr} {c : Int} {t₀ u₀ v₀ : Tok} {n : Nat} {m₀ : Str → Option Value} {news : List (Addr × Obj)} (J : Nat → (Str → Option Value) → List (Addr × Obj) → Prop)
    (hh : A.handled = none) (hr : IsRange s.heap r 0 c 1 t₀ u₀ v₀) (hsmall : Builtin.Range.small 0 c 1 = true) (hn : Builtin.Range.rangeSize 0 c 1 = (n : Int)) (F : Fr h₀ env.locals s.heap m₀) (N : News h₀ env.locals s.heap news) (hj : J 0 m₀ news)
    (turn : ∀ (i : Nat) t m₁ news₁ h tk own, i < n → J i m₁ news₁ → (∀ p ∈ news₁, ∀ q ∈ own, p.1 ≠ q.1) → Fr h₀ env.locals h (fun y => if y = x then some (.int i t) else m₁ y) → News h₀ env.locals h (news₁ ++ own) →
      wpAny (model prog w) A (execs body env) (PostG h₀ env.locals (J (i + 1)) own { s with heap := h, toks := tk } Q) E { s with heap := h, toks := tk })
    (done : ∀ m₁ news₁ h tk, J n m₁ news₁ → Fr h₀ env.locals h m₁ → News h₀ env.locals h news₁ → Q .next { s with heap := h, toks := tk }) :
    wpAny (model prog w) A (pyIter (.ref r)) (fun it s₂ => LoopAtV prog w A h₀ env x body Q E it s₂) E s := by
  refine wpAny_pyIter_range hr hsmall ?_
  have W := Walks.range (prog := prog) (w := w) hh s.heap.objs.size 0 1 n
  refine loopG J W (fun i h st b hb => ?_) ?_ ?_ ?_ (by show IsRangeIter _ _ _ _ _; rw [hn]; simpa using Heap.get?_push_size _ rfl) (F.push _) (fun p hp => ⟨Heap.get?_push_of_some _ (N p hp).1, (N p hp).2⟩) hj ?_ done
  · rw [List.mem_singleton.mp hb]; exact ⟨_, st⟩
  · intro hm
    exact absurd F.ns.lt ((List.mem_singleton.mp hm) ▸ Nat.lt_irrefl _)
  · intro b hb
    rw [List.mem_singleton.mp hb]
    exact next_is_new F
  · intro p hp hI
    exact absurd (Heap.lt_size (N p hp).1) ((List.mem_singleton.mp hI) ▸ Nat.lt_irrefl _)
  · rintro i v m₁ news₁ h tk own hi ⟨t, rfl⟩ hJ hsep F₁ N₁
    have e1 : (0 : Int) + (i : Int) * 1 = (i : Int) := by omega
    rw [e1] at F₁
    exact turn i t m₁ news₁ h tk own hi hJ hsep F₁ N₁
theorem list_inv {l : Addr} {vs : List Value} {m₀ : Str → Option Value} {news : List (Addr × Obj)} (J : Nat → (Str → Option Value) → List (Addr × Obj) → Prop)
    (hh : A.handled = none) (hl : s.heap.IsList l vs.toArray) (hlL : env.locals ≠ l) (hln : ∀ p ∈ news, p.1 ≠ l) (F : Fr h₀ env.locals s.heap m₀) (N : News h₀ env.locals s.heap news) (hj : J 0 m₀ news)
    (turn : ∀ (i : Nat) v m₁ news₁ h tk own, vs[i]? = some v → J i m₁ news₁ → (∀ p ∈ news₁, ∀ q ∈ own, p.1 ≠ q.1) → Fr h₀ env.locals h (fun y => if y = x then some v else m₁ y) → News h₀ env.locals h (news₁ ++ own) →
      wpAny (model prog w) A (execs body env) (PostG h₀ env.locals (J (i + 1)) own { s with heap := h, toks := tk } Q) E { s with heap := h, toks := tk })
    (done : ∀ m₁ news₁ h tk, J vs.length m₁ news₁ → Fr h₀ env.locals h m₁ → News h₀ env.locals h news₁ → Q .next { s with heap := h, toks := tk }) :
    wpAny (model prog w) A (pyIter (.ref l)) (fun it s₂ => LoopAtV prog w A h₀ env x body Q E it s₂) E s := by
  obtain ⟨ol, hol, _⟩ := id hl
  have hlt : l < s.heap.objs.size := Heap.lt_size hol
  have hne : l ≠ s.heap.objs.size := Nat.ne_of_lt hlt
  refine wpAny_pyIter_list hl ?_
  have W := Walks.list (prog := prog) (w := w) hh s.heap.objs.size l hne vs.toArray
  rw [show vs.toArray.size = vs.length by simp] at W
  refine loopG J W (fun i h st b hb => ?_) ?_ ?_ ?_ ⟨⟨_, Heap.get?_push_size _ rfl, rfl, rfl⟩, hl.at fun o e => Heap.get?_push_of_some _ e⟩ (F.push _) (fun p hp => ⟨Heap.get?_push_of_some _ (N p hp).1, (N p hp).2⟩) hj ?_ done
  · obtain ⟨⟨o1, h1, _⟩, ⟨o2, h2, _⟩⟩ := st
    have hb' : b = s.heap.objs.size ∨ b = l := by simpa using hb
    rcases hb' with rfl | rfl
    · exact ⟨_, h1⟩
    · exact ⟨_, h2⟩
  · intro hm
    have hb' : env.locals = s.heap.objs.size ∨ env.locals = l := by simpa using hm
    rcases hb' with e | e
    · exact absurd F.ns.lt (e ▸ Nat.lt_irrefl _)
    · exact hlL e
  · intro b hb
    rw [List.mem_singleton.mp hb]
    exact next_is_new F
  · intro p hp hI
    have hb' : p.1 = s.heap.objs.size ∨ p.1 = l := by simpa using hI
    rcases hb' with e | e
    · exact absurd (Heap.lt_size (N p hp).1) (e ▸ Nat.lt_irrefl _)
    · exact hln p hp e
  · intro i v m₁ news₁ h tk own hi hP hJ hsep F₁ N₁
    have hP' : vs.toArray[i]? = some v := hP
    exact turn i v m₁ news₁ h tk own (by simpa using hP') hJ hsep F₁ N₁
end
end Mine
end
section
open PySem PySem.W PyProof.Rows
namespace Mine
local macro_rules | `(tactic| walk_at "PostG") => `(tactic| (dsimp only [PostG]))
local macro_rules | `(tactic| walk_at "exec For Name Call cons nil") => `(tactic| (k_here; (rename Fr _ _ _ _ => lF'); (with_unfolding_all refine' For_hold lF' ?k1 ?k2 ?_; (case k1 => exact rfl); (case k2 => exact rfl); k_whole)))
theorem item_bools {prog : Program} {w : World} {A : Around} {E : Value → Shared → Prop} {s : Shared} {h₀ : Heap} {L : Addr} {news : List (Addr × Obj)} {value slice : PySem.Expr} {l : Addr} {bs : List Bool} {nb : Nat} {k : Int} {u : Tok} {Q : Value → Shared → Prop}
    (N : News h₀ L s.heap news) (hm : (l, W.listOf (bs.map Value.bool).toArray nb) ∈ news) (h0 : 0 ≤ k) (hk : k < bs.length) (h63 : bs.length < 2 ^ 62) (h : Q (.bool (bs.getD k.toNat false)) s)
    (hs : subscripted slice false (.ref l) (.int k u) = operate [.ref l, .int k u] (getItem (.ref l) (.int k u)) := by with_unfolding_all rfl) :
    wpAny (model prog w) A (subscriptTail value slice (.ref l) (.int k u)) Q E s := by
  have hl : s.heap.IsList l (bs.map Value.bool).toArray := ⟨_, (N _ hm).1, rfl, nb, rfl⟩
  refine tail_any hl.typeIs slot_list_getitem.lookup (wpAny_getItem_list hl h0 (by omega) (x := .bool (bs.getD k.toNat false)) ?_ h) hs
  have hlt : k.toNat < bs.length := by omega
  simp [List.getD, hlt]
def sgLast (bs : List Bool) (k : Nat) : Str := if bs.getD k false = true then Txt.item (if bs.getD (5 + 3 * k) false = true then Str.ofString "sst" else Str.ofString "SST") k else (if bs.getD (5 + 3 * k) false = true then Str.ofString "x" else Str.ofString "-")
def sgTurn (bs : List Bool) (k : Nat) (row : Str) : Str := ((row ++ (if bs.getD (3 + 3 * k) false = true then Str.ofString "r" else Str.ofString "-")) ++ (if bs.getD (4 + 3 * k) false = true then Str.ofString "w" else Str.ofString "-")) ++ sgLast bs k
def sgRow (kind : Int) (bs : List Bool) : Nat → Str
  | 0 => Txt.item (Str.ofString "?pc?d?b?-?l?s???") kind
  | k + 1 => sgTurn bs k (sgRow kind bs k)
abbrev sgNS : List Str := [Str.ofString "k"]
def sgM (row : Str) (tr : Tok) (kind : Int) (tk0 : Tok) (bl : Addr) : Str → Option Value := fun y => if y = Str.ofString "row" then some (.str row tr) else List.lookup y [(Str.ofString "bits", .ref bl), (Str.ofString "kind", .int kind tk0)]
local macro_rules | `(tactic| walk_at "subscriptTail Name BinOp ref int") => `(tactic| (k_here; (with_reducible show wpAny _ _ (subscriptTail _ _ (Value.ref _) (Value.int _ _)) _ _ _); k_dflt (refine' item_bools ?k1 ?k2 ?k3 ?k4 ?k5 ?_ ?k6; (case k1 => k_asm); (case k2 => assumption); (case k3 => omega); (case k4 => omega); (case k5 => omega); (case k6 => with_unfolding_all rfl); k_whole)))
local macro_rules | `(tactic| walk_at "subscriptTail Name Name ref int") => `(tactic| (k_here; (with_reducible show wpAny _ _ (subscriptTail _ _ (Value.ref _) (Value.int _ _)) _ _ _); k_dflt (refine' item_bools ?k1 ?k2 ?k3 ?k4 ?k5 ?_ ?k6; (case k1 => k_asm); (case k2 => assumption); (case k3 => omega); (case k4 => omega); (case k5 => omega); (case k6 => with_unfolding_all rfl); k_whole)))
theorem ifexp_str {M : Model} {A : Around} {E : Value → Shared → Prop} {s : Shared} {env : Env} {test : PySem.Expr} {c d : Str} {k1 k2 : Nat} {p1 p2 pos : Pos} {Q : Value → Shared → Prop}
    (h : wpAny M A (isTrue test env (eval test env)) (fun β s₂ => wpAny M A (eval (.Constant (.str (if β = true then c else d)) k1 p1) env) Q E s₂) E s) :
    wpAny M A (eval (.IfExp test (.Constant (.str c) k1 p1) (.Constant (.str d) k2 p2) pos) env) Q E s := by
  refine IfExp_ (wpAny_mono h (fun β s₂ h₂ => ?_) fun _ _ x => x)
  cases β
  · exact h₂
  · exact h₂
local macro_rules | `(tactic| walk_at "eval IfExp") => `(tactic| (with_reducible refine ifexp_str ?_))
theorem len_r : (Str.ofString "r").length = 1 := by decide +kernel
theorem len_w : (Str.ofString "w").length = 1 := by decide +kernel
theorem len_x : (Str.ofString "x").length = 1 := by decide +kernel
theorem len_m : (Str.ofString "-").length = 1 := by decide +kernel
theorem len_sst : (Str.ofString "sst").length = 3 := by decide +kernel
theorem len_SST : (Str.ofString "SST").length = 3 := by decide +kernel
theorem len_item (x : Str) (k : Int) : (Txt.item x k).length = 1 := rfl
theorem sgTurn_len (bs : List Bool) (k : Nat) (row : Str) : (sgTurn bs k row).length = row.length + 3 := by
  unfold sgTurn sgLast
  simp only [Str.length_append]
  (repeat' split) <;> simp only [len_r, len_w, len_x, len_m, len_item]
theorem sgRow_len (kind : Int) (bs : List Bool) : ∀ i, (sgRow kind bs i).length = 1 + 3 * i
  | 0 => rfl
  | k + 1 => by
    show (sgTurn bs k (sgRow kind bs k)).length = _
    rw [sgTurn_len, sgRow_len kind bs k]
    omega
local macro_rules | `(tactic| walk_at "binaryOp Add str str") => `(tactic| (k_here; k_dflt (refine' PyProof.Rows.add_str ?_ ?z; (case z => (rw [sizeLine_eq]; (simp only [Str.length_append]); (repeat' split) <;> simp only [len_r, len_w, len_x, len_m, len_item] <;> omega)); k_whole); (intro t9 k9)))
local macro_rules | `(tactic| walk_at "subscriptTail Name Name str int") => `(tactic| (k_here; k_dflt (refine' KXi.item (n := 3) ?k ?a ?b ?c ?_ ?hs ?ht; (case k => (split <;> first | exact len_sst | exact len_SST)); (case a => omega); (case b => omega); (case c => omega); (case hs => with_unfolding_all rfl); (case ht => (intro _; with_unfolding_all rfl)); k_whole); intro _))
theorem sg_end {g1 : Heap} {L1 : Addr} {kind : Int} {tk0 : Tok} {bs : List Bool} {bl : Addr} {i : Nat} {R R' : Str} {tr t' : Tok} {v1 v2 : Option Value} {m₁ : Str → Option Value} {h' : Heap} {tk : Nat} {news own : List (Addr × Obj)} {s₁ : Shared}
    (F' : Fr g1 L1 h' (fun y => if y = Str.ofString "row" then some (.str R' t') else if y = Str.ofString "row" then v1 else if y = Str.ofString "k" then v2 else offN sgNS m₁ (sgM R tr kind tk0 bl) y)) (N' : News g1 L1 h' (news ++ own)) (hsep : ∀ p ∈ news, ∀ q ∈ own, p.1 ≠ q.1) (hR : R' = sgRow kind bs (i + 1)) :
    EndG g1 L1 (fun m' nx => ∃ tr, Off sgNS (sgM (sgRow kind bs (i + 1)) tr kind tk0 bl) m' ∧ nx = news) own s₁ { s₁ with heap := h', toks := tk } := by
  refine ⟨h', tk, _, news, rfl, F', N', hsep, t', ?_, rfl⟩
  intro y hy
  have hk : y ≠ Str.ofString "k" := by simpa using hy
  subst hR
  by_cases hrow : y = Str.ofString "row"
  · simp only [if_pos hrow, sgM]
  · simp only [if_neg hrow, if_neg hk, sgM]
    unfold offN
    rw [hy]
    simp only [if_neg hrow, Bool.false_eq_true, if_false, sgM]
theorem sg_idx (c i : Nat) : ((c : Int) + 3 * (i : Int)).toNat = c + 3 * i := by omega
theorem sg_row1 {kind : Int} {bs : List Bool} {i : Nat} (h : bs.getD (i : Int).toNat false = true) :
    ((sgRow kind bs i ++ if bs.getD (3 + 3 * (i : Int)).toNat false = true then Str.ofString "r" else Str.ofString "-") ++ if bs.getD (4 + 3 * (i : Int)).toNat false = true then Str.ofString "w" else Str.ofString "-") ++ Txt.item (if bs.getD (5 + 3 * (i : Int)).toNat false = true then Str.ofString "sst" else Str.ofString "SST") i = sgRow kind bs (i + 1) := by
  rw [Int.toNat_natCast] at h
  have e3 := sg_idx 3 i
  have e4 := sg_idx 4 i
  have e5 := sg_idx 5 i
  show _ = sgTurn bs i (sgRow kind bs i)
  unfold sgTurn sgLast
  rw [if_pos h, ← e3, ← e4, ← e5]
  rfl
theorem sg_row0 {kind : Int} {bs : List Bool} {i : Nat} (h : ¬ bs.getD (i : Int).toNat false = true) :
    ((sgRow kind bs i ++ if bs.getD (3 + 3 * (i : Int)).toNat false = true then Str.ofString "r" else Str.ofString "-") ++ if bs.getD (4 + 3 * (i : Int)).toNat false = true then Str.ofString "w" else Str.ofString "-") ++ (if bs.getD (5 + 3 * (i : Int)).toNat false = true then Str.ofString "x" else Str.ofString "-") = sgRow kind bs (i + 1) := by
  rw [Int.toNat_natCast] at h
  have e3 := sg_idx 3 i
  have e4 := sg_idx 4 i
  have e5 := sg_idx 5 i
  show _ = sgTurn bs i (sgRow kind bs i)
  unfold sgTurn sgLast
  rw [if_neg h, ← e3, ← e4, ← e5]
  rfl
set_option maxRecDepth 100000 in
set_option maxHeartbeats 8000000 in
theorem sg_call (w : World) (mean : ExcName → Option Value) (mg mb : Str → Option Value) (kind : Int) (tk0 : Tok) (bs : List Bool) (bl : Addr) (nb : Nat) (news : List (Addr × Obj)) (hm : (bl, W.listOf (bs.map Value.bool).toArray nb) ∈ news) (hb : bs.length = 12) (h0 : 0 ≤ kind) (h16 : kind < 16) :
    Ctr w mean mg mb 10 100 145 news [.int kind tk0, .ref bl] (fun r => ∃ t, r = .str (sgRow kind bs 3) t) := by
  w_top off
  unfold Ctr
  k_fill
  intro dp un gd cn cs a ccd cl outer A₀ base h₀ L m s Q E B F X N T hk hd hu hret
  refine wpAny_call ?_
  k_dflt cell_enter
  k_steps
  (rename Fr _ _ _ _ => F1)
  (rename News _ _ _ _ => N1)
  rename_i g1 L1 ha FG B1 X1 T1 kx hb Fb Nb h2 tk2 t1 u1 v1 hr hkeep
  have F2 : Fr g1 L1 h2 (sgM (Txt.item (Str.ofString "?pc?d?b?-?l?s???") kind) _ kind tk0 bl) := F1
  clear F1 Fb Nb
  unfold Hold
  refine range_inv (n := 3) (fun i m' nx => ∃ tr, Off sgNS (sgM (sgRow kind bs i) tr kind tk0 bl) m' ∧ nx = news) rfl hr (by decide) (by decide) F2 N1 ⟨_, Off.refl, rfl⟩ ?_ ?_
  · rintro i t m₁ news₁ h tk own hi ⟨tr, hm1, rfl⟩ hsep F3 N3
    rw [hm1.eq] at F3
    clear F2 N1
    have hlen : (sgRow kind bs i).length = 1 + 3 * i := sgRow_len kind bs i
    have hmm : (bl, W.listOf (List.map Value.bool bs).toArray nb) ∈ news₁ ++ own := List.mem_append_left _ hm
    k_steps
    all_goals rename Fr _ _ _ _ => FZ
    all_goals rename News _ _ _ _ => NZ
    · exact sg_end FZ NZ hsep (sg_row1 (by assumption))
    · exact sg_end FZ NZ hsep (sg_row0 (by first | assumption | (intro hh; simp_all)))
  · rintro m₁ news₁ h tk ⟨tr, hm1, rfl⟩ F3 N3
    rw [hm1.eq] at F3
    k_steps
    exact hret _ _ _ ⟨_, rfl⟩ (by k_asm) (by k_asm)
end Mine
end
section
open PySem PySem.W PyProof.Rows
namespace Mine
def lowAt (bs : List Bool) : Nat → Int
  | 0 => 0
  | i + 1 => 2 * lowAt bs i + (if bs.getD i false = true then 1 else 0)
def rightAt (i : Nat) : Int := ([2048, 1024, 512, 256, 128, 64, 32, 16, 8, 4, 2, 1] : List Int).getD i 0
def addAt (c : Int) (bs : List Bool) : Nat → Int
  | 0 => c
  | i + 1 => if bs.getD i false = true then addAt c bs i + rightAt i else addAt c bs i
def base0 (kind beyond : Int) : Int := ([0, 4096, 8192, 12288, 16384, 20480, 24576, 28672, 32768, 36864, 40960, 45056, 49152, 53248, 57344, 61440] : List Int).getD kind.toNat 0 + 65536 * beyond
def bI (b : Bool) : Int := if b = true then 1 else 0
theorem bI_le (b : Bool) : 0 ≤ bI b ∧ bI b ≤ 1 := by cases b <;> decide
theorem lowAt_succ (bs : List Bool) (i : Nat) : lowAt bs (i + 1) = 2 * lowAt bs i + bI (bs.getD i false) := rfl
theorem addAt_succ (c : Int) (bs : List Bool) (i : Nat) : addAt c bs (i + 1) = addAt c bs i + rightAt i * bI (bs.getD i false) := by
  show (if bs.getD i false = true then addAt c bs i + rightAt i else addAt c bs i) = _
  cases bs.getD i false
  · simp [bI]
  · simp [bI]
theorem base0_eq {kind beyond : Int} (h0 : 0 ≤ kind) (h16 : kind < 16) : base0 kind beyond = 4096 * kind + 65536 * beyond := by
  have key : ∀ n, n < 16 → ([0, 4096, 8192, 12288, 16384, 20480, 24576, 28672, 32768, 36864, 40960, 45056, 49152, 53248, 57344, 61440] : List Int).getD n 0 = 4096 * (n : Int) := by decide
  unfold base0
  rw [key kind.toNat (by omega)]
  omega
theorem and_shift (y : Int) : ∀ (j : Nat) (x : Int), Builtin.bitAnd x (2 ^ j * y) = 2 ^ j * Builtin.bitAnd (x / 2 ^ j) y
  | 0, x => by simp
  | j + 1, x => by
    have e : (2 : Int) ^ (j + 1) * y = 2 * (2 ^ j * y) := by rw [Int.pow_succ, Int.mul_comm (2 ^ j) 2, Int.mul_assoc]
    have e2 : (2 : Int) * (2 ^ j * y) / 2 = 2 ^ j * y := by omega
    have e3 : ((2 : Int) * (2 ^ j * y)) % 2 = 0 := by omega
    have e4 : x / 2 / 2 ^ j = x / 2 ^ (j + 1) := by rw [Int.ediv_ediv_of_nonneg (by decide), Int.pow_succ, Int.mul_comm]
    rw [e, kbt_halves, e2, and_shift y j, e4, e3, if_neg (by omega), Int.pow_succ]
    rw [Int.add_zero, Int.mul_comm (2 ^ j) 2, Int.mul_assoc]
theorem bit_test {x : Int} (k : Nat) {b : Bool} (h : x / 2 ^ k % 2 = bI b) : (Builtin.bitAnd x (2 ^ k) == 2 ^ k) = b := by
  rw [kbt_bit, h]
  have hp : (0 : Int) < 2 ^ k := Int.pow_pos (by decide)
  cases b
  · rw [show bI false = 0 from rfl, Int.zero_mul]
    exact beq_eq_false_iff_ne.mpr (by omega)
  · rw [show bI true = 1 from rfl, Int.one_mul]
    exact beq_self_eq_true _
theorem pair_and (x : Int) (k : Nat) : Builtin.bitAnd x (2 * 2 ^ k + 1) = 2 * ((x / 2 / 2 ^ k % 2) * 2 ^ k) + x % 2 := by
  have e1 : ((2 : Int) * 2 ^ k + 1) / 2 = 2 ^ k := by omega
  have e2 : ((2 : Int) * 2 ^ k + 1) % 2 = 1 := by omega
  rw [kbt_halves, e1, e2, kbt_bit]
  split <;> omega
theorem pair_test {x : Int} (j k : Nat) {b0 b1 : Bool} (h1 : x / 2 ^ j % 2 = bI b1) (h0 : x / 2 ^ j / 2 / 2 ^ k % 2 = bI b0) :
    (Builtin.bitAnd x (2 ^ j * (2 * 2 ^ k + 1)) == 2 ^ j * (2 * 2 ^ k + 1)) = (b0 && b1) := by
  rw [and_shift, pair_and, h1, h0]
  have hp : (0 : Int) < 2 ^ j := Int.pow_pos (by decide)
  have hq : (0 : Int) < 2 ^ k := Int.pow_pos (by decide)
  generalize (2 : Int) ^ j = u at *
  generalize (2 : Int) ^ k = v at *
  have ne : ∀ a c : Int, a < c → (u * a == u * c) = false := fun a c hac => beq_eq_false_iff_ne.mpr fun e => by
    have := Int.eq_of_mul_eq_mul_left (by omega) e
    omega
  cases b0 <;> cases b1 <;> simp only [bI, Bool.false_eq_true, if_false, if_true, Int.zero_mul, Int.one_mul, Bool.and_true, Bool.and_false]
  · exact ne _ _ (by omega)
  · exact ne _ _ (by omega)
  · exact ne _ _ (by omega)
  · exact beq_self_eq_true _
theorem sgn_one {M : Int} {i : Nat} {a : Addr} {b : Int} {t : Tok} {c : Str} {u : Tok} (hi : i ≠ 0) : sgn M i [(a, b, t, c, u)] = if (Builtin.bitAnd M b == b) = true then c else Str.ofString "-" := by
  unfold sgn hit
  simp only [if_neg hi, List.find?_cons, List.find?_nil]
  cases Builtin.bitAnd M b == b <;> rfl
theorem sgn_three {M : Int} {i : Nat} {a1 a2 a3 : Addr} {b1 b2 b3 : Int} {t1 t2 t3 : Tok} {c1 c2 c3 : Str} {u1 u2 u3 : Tok} (hi : i ≠ 0) : sgn M i [(a1, b1, t1, c1, u1), (a2, b2, t2, c2, u2), (a3, b3, t3, c3, u3)] =
    if (Builtin.bitAnd M b1 == b1) = true then c1 else if (Builtin.bitAnd M b2 == b2) = true then c2 else if (Builtin.bitAnd M b3 == b3) = true then c3 else Str.ofString "-" := by
  unfold sgn hit
  simp only [if_neg hi, List.find?_cons, List.find?_nil]
  cases Builtin.bitAnd M b1 == b1
  · cases Builtin.bitAnd M b2 == b2
    · cases Builtin.bitAnd M b3 == b3 <;> rfl
    · rfl
  · rfl
theorem str_empty : Str.ofString "" = Str.empty := by decide +kernel
theorem join_cons2 (x y : Str) (r : List Str) : Txt.join (Str.ofString "") (x :: y :: r) = x ++ Txt.join (Str.ofString "") (y :: r) := by
  unfold Txt.join
  rw [StrLaws.glued_eq_join, StrLaws.glued_eq_join, str_empty]
  rw [PyProof.Rows.join_cons_cons, Str.append_empty]
theorem join_one1 (x : Str) : Txt.join (Str.ofString "") [x] = x := by
  unfold Txt.join
  rw [StrLaws.glued_eq_join]
  rfl
theorem item_kind {M kind : Int} (h0 : 0 ≤ kind) (h16 : kind < 16) (hM : Builtin.bitAnd M 61440 = 4096 * kind) : sgn M 0 [(99, 40960, 213, Str.ofString "l", 311), (100, 49152, 215, Str.ofString "s", 312), (101, 32768, 209, Str.ofString "-", 313), (102, 24576, 207, Str.ofString "b", 314), (103, 16384, 203, Str.ofString "d", 315), (104, 8192, 205, Str.ofString "c", 316), (105, 4096, 211, Str.ofString "p", 317)] = Txt.item (Str.ofString "?pc?d?b?-?l?s???") kind := by
  have key : ∀ n : Nat, n < 16 → ((([(99, 40960, 213, Str.ofString "l", 311), (100, 49152, 215, Str.ofString "s", 312), (101, 32768, 209, Str.ofString "-", 313), (102, 24576, 207, Str.ofString "b", 314), (103, 16384, 203, Str.ofString "d", 315), (104, 8192, 205, Str.ofString "c", 316), (105, 4096, 211, Str.ofString "p", 317)] : List Row).find? fun r => (4096 * (n : Int) == r.2.1)).map (·.2.2.2.1)).getD (Str.ofString "?") = Txt.item (Str.ofString "?pc?d?b?-?l?s???") (n : Int) := by decide +kernel
  have hk : kind = (kind.toNat : Int) := by omega
  have hn : kind.toNat < 16 := by omega
  unfold sgn hit
  simp only [if_true, hM]
  rw [hk]
  exact key kind.toNat hn
theorem st_math {kind beyond : Int} {bs : List Bool} (h0 : 0 ≤ kind) (h16 : kind < 16) :
    Builtin.bitAnd (addAt (base0 kind beyond) bs 12) 4095 = lowAt bs 12 ∧ Builtin.bitAnd (addAt (base0 kind beyond) bs 12) 61440 = 4096 * kind ∧ Txt.join (Str.ofString "") (fmSigns (addAt (base0 kind beyond) bs 12)) = sgRow kind bs 3 := by
  have hA : addAt (base0 kind beyond) bs 12 = 4096 * kind + 65536 * beyond + 2048 * bI (bs.getD 0 false) + 1024 * bI (bs.getD 1 false) + 512 * bI (bs.getD 2 false) + 256 * bI (bs.getD 3 false) + 128 * bI (bs.getD 4 false) + 64 * bI (bs.getD 5 false) + 32 * bI (bs.getD 6 false) + 16 * bI (bs.getD 7 false) + 8 * bI (bs.getD 8 false) + 4 * bI (bs.getD 9 false) + 2 * bI (bs.getD 10 false) + 1 * bI (bs.getD 11 false) := by
    simp only [addAt_succ]
    rw [show addAt (base0 kind beyond) bs 0 = base0 kind beyond from rfl, base0_eq h0 h16]
    rfl
  have hL : lowAt bs 12 = 2048 * bI (bs.getD 0 false) + 1024 * bI (bs.getD 1 false) + 512 * bI (bs.getD 2 false) + 256 * bI (bs.getD 3 false) + 128 * bI (bs.getD 4 false) + 64 * bI (bs.getD 5 false) + 32 * bI (bs.getD 6 false) + 16 * bI (bs.getD 7 false) + 8 * bI (bs.getD 8 false) + 4 * bI (bs.getD 9 false) + 2 * bI (bs.getD 10 false) + bI (bs.getD 11 false) := by
    simp only [lowAt_succ]
    rw [show lowAt bs 0 = 0 from rfl]
    omega
  have l0 := bI_le (bs.getD 0 false)
  have l1 := bI_le (bs.getD 1 false)
  have l2 := bI_le (bs.getD 2 false)
  have l3 := bI_le (bs.getD 3 false)
  have l4 := bI_le (bs.getD 4 false)
  have l5 := bI_le (bs.getD 5 false)
  have l6 := bI_le (bs.getD 6 false)
  have l7 := bI_le (bs.getD 7 false)
  have l8 := bI_le (bs.getD 8 false)
  have l9 := bI_le (bs.getD 9 false)
  have l10 := bI_le (bs.getD 10 false)
  have l11 := bI_le (bs.getD 11 false)
  generalize addAt (base0 kind beyond) bs 12 = M at *
  have e1 : Builtin.bitAnd M 4095 = lowAt bs 12 := by
    have h := kbt_mask M 12
    rw [show ((2 : Int) ^ 12 - 1) = 4095 from by decide, show ((2 : Int) ^ 12) = 4096 from by decide] at h
    rw [h, hL, hA]
    omega
  have e2 : Builtin.bitAnd M 61440 = 4096 * kind := by
    have h := and_shift 15 12 M
    rw [show ((2 : Int) ^ 12 * 15) = 61440 from by decide, show ((2 : Int) ^ 12) = 4096 from by decide, bitAnd_m4] at h
    rw [h, hA]
    omega
  refine ⟨e1, e2, ?_⟩
  clear hL e1
  have t0 := bit_test (x := M) 11 (b := bs.getD 0 false) (by rw [show (2 : Int) ^ 11 = 2048 from by decide]; omega)
  have t1 := bit_test (x := M) 10 (b := bs.getD 1 false) (by rw [show (2 : Int) ^ 10 = 1024 from by decide]; omega)
  have t2 := bit_test (x := M) 9 (b := bs.getD 2 false) (by rw [show (2 : Int) ^ 9 = 512 from by decide]; omega)
  have t3 := bit_test (x := M) 8 (b := bs.getD 3 false) (by rw [show (2 : Int) ^ 8 = 256 from by decide]; omega)
  have t4 := bit_test (x := M) 7 (b := bs.getD 4 false) (by rw [show (2 : Int) ^ 7 = 128 from by decide]; omega)
  have t5 := bit_test (x := M) 6 (b := bs.getD 5 false) (by rw [show (2 : Int) ^ 6 = 64 from by decide]; omega)
  have t6 := bit_test (x := M) 5 (b := bs.getD 6 false) (by rw [show (2 : Int) ^ 5 = 32 from by decide]; omega)
  have t7 := bit_test (x := M) 4 (b := bs.getD 7 false) (by rw [show (2 : Int) ^ 4 = 16 from by decide]; omega)
  have t8 := bit_test (x := M) 3 (b := bs.getD 8 false) (by rw [show (2 : Int) ^ 3 = 8 from by decide]; omega)
  have t9 := bit_test (x := M) 2 (b := bs.getD 9 false) (by rw [show (2 : Int) ^ 2 = 4 from by decide]; omega)
  have t10 := bit_test (x := M) 1 (b := bs.getD 10 false) (by rw [show (2 : Int) ^ 1 = 2 from by decide]; omega)
  have t11 := bit_test (x := M) 0 (b := bs.getD 11 false) (by rw [show (2 : Int) ^ 0 = 1 from by decide]; omega)
  have p0 := pair_test (x := M) 6 4 (b1 := bs.getD 5 false) (b0 := bs.getD 0 false) (by rw [show (2 : Int) ^ 6 = 64 from by decide]; omega) (by rw [show (2 : Int) ^ 6 = 64 from by decide, show (2 : Int) ^ 4 = 16 from by decide]; omega)
  have p1 := pair_test (x := M) 3 6 (b1 := bs.getD 8 false) (b0 := bs.getD 1 false) (by rw [show (2 : Int) ^ 3 = 8 from by decide]; omega) (by rw [show (2 : Int) ^ 3 = 8 from by decide, show (2 : Int) ^ 6 = 64 from by decide]; omega)
  have p2 := pair_test (x := M) 0 8 (b1 := bs.getD 11 false) (b0 := bs.getD 2 false) (by rw [show (2 : Int) ^ 0 = 1 from by decide]; omega) (by rw [show (2 : Int) ^ 0 = 1 from by decide, show (2 : Int) ^ 8 = 256 from by decide]; omega)
  simp only [Int.reducePow, Int.reduceMul, Int.reduceAdd] at t0 t1 t2 t3 t4 t5 t6 t7 t8 t9 t10 t11 p0 p1 p2
  have hS : fmSigns M = [sgn M 0 [(99, 40960, 213, Str.ofString "l", 311), (100, 49152, 215, Str.ofString "s", 312), (101, 32768, 209, Str.ofString "-", 313), (102, 24576, 207, Str.ofString "b", 314), (103, 16384, 203, Str.ofString "d", 315), (104, 8192, 205, Str.ofString "c", 316), (105, 4096, 211, Str.ofString "p", 317)],
    sgn M 1 [(107, 256, 293, Str.ofString "r", 318)], sgn M 2 [(109, 128, 295, Str.ofString "w", 319)], sgn M 3 [(111, 2112, 320, Str.ofString "s", 321), (112, 2048, 287, Str.ofString "S", 322), (113, 64, 297, Str.ofString "x", 323)],
    sgn M 4 [(115, 32, 299, Str.ofString "r", 324)], sgn M 5 [(117, 16, 301, Str.ofString "w", 325)], sgn M 6 [(119, 1032, 326, Str.ofString "s", 327), (120, 1024, 289, Str.ofString "S", 328), (121, 8, 303, Str.ofString "x", 329)],
    sgn M 7 [(123, 4, 305, Str.ofString "r", 330)], sgn M 8 [(125, 2, 307, Str.ofString "w", 331)], sgn M 9 [(127, 513, 332, Str.ofString "t", 333), (128, 512, 291, Str.ofString "T", 334), (129, 1, 309, Str.ofString "x", 335)]] := rfl
  rw [hS, item_kind h0 h16 e2]
  simp only [sgn_one (show (1 : Nat) ≠ 0 by decide), sgn_one (show (2 : Nat) ≠ 0 by decide), sgn_one (show (4 : Nat) ≠ 0 by decide), sgn_one (show (5 : Nat) ≠ 0 by decide), sgn_one (show (7 : Nat) ≠ 0 by decide), sgn_one (show (8 : Nat) ≠ 0 by decide), sgn_three (show (3 : Nat) ≠ 0 by decide), sgn_three (show (6 : Nat) ≠ 0 by decide), sgn_three (show (9 : Nat) ≠ 0 by decide), t0, t1, t2, t3, t4, t5, t6, t7, t8, t9, t10, t11, p0, p1, p2]
  have s0 : (if (bs.getD 0 false && bs.getD 5 false) = true then Str.ofString "s" else if bs.getD 0 false = true then Str.ofString "S" else if bs.getD 5 false = true then Str.ofString "x" else Str.ofString "-") = sgLast bs 0 := by
    unfold sgLast
    cases bs.getD 0 false <;> cases bs.getD (5 + 3 * 0) false <;> decide +kernel
  have s1 : (if (bs.getD 1 false && bs.getD 8 false) = true then Str.ofString "s" else if bs.getD 1 false = true then Str.ofString "S" else if bs.getD 8 false = true then Str.ofString "x" else Str.ofString "-") = sgLast bs 1 := by
    unfold sgLast
    cases bs.getD 1 false <;> cases bs.getD (5 + 3 * 1) false <;> decide +kernel
  have s2 : (if (bs.getD 2 false && bs.getD 11 false) = true then Str.ofString "t" else if bs.getD 2 false = true then Str.ofString "T" else if bs.getD 11 false = true then Str.ofString "x" else Str.ofString "-") = sgLast bs 2 := by
    unfold sgLast
    cases bs.getD 2 false <;> cases bs.getD (5 + 3 * 2) false <;> decide +kernel
  rw [s0, s1, s2]
  show _ = sgTurn bs 2 (sgTurn bs 1 (sgTurn bs 0 (Txt.item (Str.ofString "?pc?d?b?-?l?s???") kind)))
  unfold sgTurn
  simp only [join_cons2, join_one1, Str.append_assoc]
end Mine
end
section
open PySem PySem.W PyProof.Rows
namespace Mine
local macro_rules | `(tactic| walk_at "PostG") => `(tactic| (dsimp only [PostG]))
local macro_rules | `(tactic| walk_at "exec For Name Call cons nil") => `(tactic| (k_here; (rename Fr _ _ _ _ => lF'); (with_unfolding_all refine' For_hold lF' ?k1 ?k2 ?_; (case k1 => exact rfl); (case k2 => exact rfl); k_whole)))
def rightsV : List Value := [.int 2048 287, .int 1024 289, .int 512 291, .int 256 293, .int 128 295, .int 64 297, .int 32 299, .int 16 301, .int 8 303, .int 4 305, .int 2 307, .int 1 309]
theorem rights_at : ∀ i, i < 12 → ∃ t, rightsV[i]? = some (.int (rightAt i) t)
  | 0, _ => ⟨_, rfl⟩ | 1, _ => ⟨_, rfl⟩ | 2, _ => ⟨_, rfl⟩ | 3, _ => ⟨_, rfl⟩ | 4, _ => ⟨_, rfl⟩ | 5, _ => ⟨_, rfl⟩
  | 6, _ => ⟨_, rfl⟩ | 7, _ => ⟨_, rfl⟩ | 8, _ => ⟨_, rfl⟩ | 9, _ => ⟨_, rfl⟩ | 10, _ => ⟨_, rfl⟩ | 11, _ => ⟨_, rfl⟩
  | n + 12, h => absurd h (by omega)
theorem item_rights {prog : Program} {w : World} {A : Around} {E : Value → Shared → Prop} {s : Shared} {h₀ : Heap} {L : Addr} {news : List (Addr × Obj)} {value slice : PySem.Expr} {l : Addr} {nb : Nat} {k : Int} {u : Tok} {Q : Value → Shared → Prop}
    (N : News h₀ L s.heap news) (hm : (l, W.listOf rightsV.toArray nb) ∈ news) (h0 : 0 ≤ k) (hk : k < 12) (h : ∀ t, Q (.int (rightAt k.toNat) t) s)
    (hs : subscripted slice false (.ref l) (.int k u) = operate [.ref l, .int k u] (getItem (.ref l) (.int k u)) := by with_unfolding_all rfl) :
    wpAny (model prog w) A (subscriptTail value slice (.ref l) (.int k u)) Q E s := by
  have hl : s.heap.IsList l rightsV.toArray := ⟨_, (N _ hm).1, rfl, nb, rfl⟩
  obtain ⟨t, ht⟩ := rights_at k.toNat (by omega)
  refine tail_any hl.typeIs slot_list_getitem.lookup (wpAny_getItem_list hl h0 (by omega) (x := .int (rightAt k.toNat) t) ?_ (h t)) hs
  simpa using ht
local macro_rules | `(tactic| walk_at "subscriptTail Name Name ref int") => `(tactic| (k_here; (with_reducible show wpAny _ _ (subscriptTail _ _ (Value.ref _) (Value.int _ _)) _ _ _); k_dflt (refine' item_rights ?k1 ?k2 ?k3 ?k4 ?_ ?k6; (case k1 => k_asm); (case k2 => with_reducible assumption); (case k3 => omega); (case k4 => omega); (case k6 => with_unfolding_all rfl); k_whole); intro t9))
local macro_rules | `(tactic| walk_at "subscriptTail Name Name ref int") => `(tactic| (k_here; (with_reducible show wpAny _ _ (subscriptTail _ _ (Value.ref _) (Value.int _ _)) _ _ _); k_dflt (refine' item_bools ?k1 ?k2 ?k3 ?k4 ?k5 ?_ ?k6; (case k1 => k_asm); (case k2 => with_reducible assumption); (case k3 => omega); (case k4 => omega); (case k5 => omega); (case k6 => with_unfolding_all rfl); k_whole)))
abbrev stNS : List Str := [Str.ofString "k"]
def stM (lo : Int) (tL : Tok) (mo : Int) (tM : Tok) (dR dK dK1 : Addr) (kind : Int) (tk0 : Tok) (bl : Addr) (beyond : Int) (tk1 : Tok) : Str → Option Value := fun y => if y = Str.ofString "low" then some (.int lo tL) else if y = Str.ofString "mode" then some (.int mo tM) else if y = Str.ofString "rights" then some (.ref dR) else if y = Str.ofString "kinds" then some (.ref dK) else if y = Str.ofString "kinds" then some (.ref dK1) else
  List.lookup y [(Str.ofString "beyond", .int beyond tk1), (Str.ofString "bits", .ref bl), (Str.ofString "kind", .int kind tk0)]
theorem st_end {g1 : Heap} {L1 : Addr} {lo lo' mo mo' lo2 mo2 : Int} {tL tL' tM tM' : Tok} {dR dK dK1 : Addr} {kind : Int} {tk0 : Tok} {bl : Addr} {beyond : Int} {tk1 : Tok} {v2 : Option Value} {m₁ : Str → Option Value} {h' : Heap} {tk : Nat} {news own : List (Addr × Obj)} {s₁ : Shared}
    (F' : Fr g1 L1 h' (fun y => if y = Str.ofString "mode" then some (.int mo' tM') else if y = Str.ofString "low" then some (.int lo' tL') else if y = Str.ofString "k" then v2 else offN stNS m₁ (stM lo tL mo tM dR dK dK1 kind tk0 bl beyond tk1) y)) (N' : News g1 L1 h' (news ++ own)) (hsep : ∀ p ∈ news, ∀ q ∈ own, p.1 ≠ q.1) (hlo : lo' = lo2) (hmo : mo' = mo2) :
    EndG g1 L1 (fun m' nx => ∃ tL tM, Off stNS (stM lo2 tL mo2 tM dR dK dK1 kind tk0 bl beyond tk1) m' ∧ nx = news) own s₁ { s₁ with heap := h', toks := tk } := by
  subst hlo hmo
  refine ⟨h', tk, _, news, rfl, F', N', hsep, tL', tM', ?_, rfl⟩
  intro y hy
  have hk : y ≠ Str.ofString "k" := by simpa using hy
  by_cases h1 : y = Str.ofString "mode"
  · have h2 : y ≠ Str.ofString "low" := by rw [h1]; decide
    simp only [if_pos h1, if_neg h2, stM]
  · by_cases h2 : y = Str.ofString "low"
    · simp only [if_neg h1, if_pos h2, stM]
    · simp only [if_neg h1, if_neg h2, if_neg hk]
      unfold offN
      rw [hy]
      simp only [if_neg h1, if_neg h2, Bool.false_eq_true, if_false, stM]
theorem st_end0 {g1 : Heap} {L1 : Addr} {lo lo' mo lo2 mo2 : Int} {tL tL' tM : Tok} {dR dK dK1 : Addr} {kind : Int} {tk0 : Tok} {bl : Addr} {beyond : Int} {tk1 : Tok} {v2 : Option Value} {m₁ : Str → Option Value} {h' : Heap} {tk : Nat} {news own : List (Addr × Obj)} {s₁ : Shared}
    (F' : Fr g1 L1 h' (fun y => if y = Str.ofString "low" then some (.int lo' tL') else if y = Str.ofString "k" then v2 else offN stNS m₁ (stM lo tL mo tM dR dK dK1 kind tk0 bl beyond tk1) y)) (N' : News g1 L1 h' (news ++ own)) (hsep : ∀ p ∈ news, ∀ q ∈ own, p.1 ≠ q.1) (hlo : lo' = lo2) (hmo : mo = mo2) :
    EndG g1 L1 (fun m' nx => ∃ tL tM, Off stNS (stM lo2 tL mo2 tM dR dK dK1 kind tk0 bl beyond tk1) m' ∧ nx = news) own s₁ { s₁ with heap := h', toks := tk } := by
  subst hlo hmo
  refine ⟨h', tk, _, news, rfl, F', N', hsep, tL', tM, ?_, rfl⟩
  intro y hy
  have hk : y ≠ Str.ofString "k" := by simpa using hy
  by_cases h2 : y = Str.ofString "low"
  · simp only [if_pos h2, stM]
  · simp only [if_neg h2, if_neg hk]
    unfold offN
    rw [hy]
    simp only [if_neg h2, Bool.false_eq_true, if_false, stM]
theorem Ctr.mono {w : World} {mean : ExcName → Option Value} {mg mb : Str → Option Value} {D U : Nat} {f : Addr} {news : List (Addr × Obj)} {vs : List Value} {R R' : Value → Prop} (C : Ctr w mean mg mb D U f news vs R) (h : ∀ r, R r → R' r) : Ctr w mean mg mb D U f news vs R' :=
  fun dp un gd cn cs a ccd cl outer A₀ base h₀ L m s Q E B F X N T hk hd hu hQ => C dp un gd cn cs a ccd cl outer A₀ base h₀ L m s Q E B F X N T hk hd hu fun r h' tk' hr => hQ r h' tk' (h r hr)
section
variable {w : World} {mean : ExcName → Option Value} {mg mb : Str → Option Value} {mode : Int} {tm : Tok} {news : List (Addr × Obj)} {v : Int} {b : Bool} {x : Str}
theorem imode2 (h : Builtin.bitAnd mode 4095 = v) : Ctr w mean mg mb 1 8 21 news [.int mode tm] (fun r => ∃ t, r = .int v t) := h ▸ imode_call w mean mg mb mode tm news
theorem ifmt2 (h : Builtin.bitAnd mode 61440 = v) : Ctr w mean mg mb 1 8 28 news [.int mode tm] (fun r => ∃ t, r = .int v t) := h ▸ ifmt_call w mean mg mb mode tm news
theorem fm2 (h : Txt.join (Str.ofString "") (fmSigns mode) = x) : Ctr w mean mg mb 10 100 138 news [.int mode tm] (fun r => ∃ t, r = .str x t) := h ▸ fm_call w mean mg mb mode tm news
theorem isfifo2 (h : (Builtin.bitAnd mode 61440 == 4096) = b) : Ctr w mean mg mb 3 20 63 news [.int mode tm] (fun r => r = .bool b) := h ▸ isfifo_call w mean mg mb mode tm news
theorem ischr2 (h : (Builtin.bitAnd mode 61440 == 8192) = b) : Ctr w mean mg mb 3 20 42 news [.int mode tm] (fun r => r = .bool b) := h ▸ ischr_call w mean mg mb mode tm news
theorem isdir2 (h : (Builtin.bitAnd mode 61440 == 16384) = b) : Ctr w mean mg mb 3 20 35 news [.int mode tm] (fun r => r = .bool b) := h ▸ isdir_call w mean mg mb mode tm news
theorem isblk2 (h : (Builtin.bitAnd mode 61440 == 24576) = b) : Ctr w mean mg mb 3 20 49 news [.int mode tm] (fun r => r = .bool b) := h ▸ isblk_call w mean mg mb mode tm news
theorem isreg2 (h : (Builtin.bitAnd mode 61440 == 32768) = b) : Ctr w mean mg mb 3 20 56 news [.int mode tm] (fun r => r = .bool b) := h ▸ isreg_call w mean mg mb mode tm news
theorem islnk2 (h : (Builtin.bitAnd mode 61440 == 40960) = b) : Ctr w mean mg mb 3 20 70 news [.int mode tm] (fun r => r = .bool b) := h ▸ islnk_call w mean mg mb mode tm news
theorem issock2 (h : (Builtin.bitAnd mode 61440 == 49152) = b) : Ctr w mean mg mb 3 20 77 news [.int mode tm] (fun r => r = .bool b) := h ▸ issock_call w mean mg mb mode tm news
end
local macro_rules | `(tactic| walk_at "call ref") => `(tactic| (k_here; (k_dflt (first
  | refine' Ctr.use (isfifo2 ?hv) ?B ?F ?X ?N ?T ?hk ?hd ?hu ?_
  | refine' Ctr.use (ischr2 ?hv) ?B ?F ?X ?N ?T ?hk ?hd ?hu ?_
  | refine' Ctr.use (isdir2 ?hv) ?B ?F ?X ?N ?T ?hk ?hd ?hu ?_
  | refine' Ctr.use (isblk2 ?hv) ?B ?F ?X ?N ?T ?hk ?hd ?hu ?_
  | refine' Ctr.use (isreg2 ?hv) ?B ?F ?X ?N ?T ?hk ?hd ?hu ?_
  | refine' Ctr.use (islnk2 ?hv) ?B ?F ?X ?N ?T ?hk ?hd ?hu ?_
  | refine' Ctr.use (issock2 ?hv) ?B ?F ?X ?N ?T ?hk ?hd ?hu ?_)); (case hv => with_reducible assumption); (case B => k_asm); (case F => k_asm); (case X => k_asm); (case N => k_asm); (case T => k_asm); (case hk => first | exact rfl | assumption); (case hd => ktr_room); (case hu => ktr_units); k_whole; (intro r9 h9 tk9 hr9 F9 N9); (subst hr9); (try dsimp only); (try k_fold)))
local macro_rules | `(tactic| walk_at "call ref") => `(tactic| (k_here; (k_dflt (first
  | refine' Ctr.use (isdoor_call _ _ _ _ _ _ _) ?B ?F ?X ?N ?T ?hk ?hd ?hu ?_
  | refine' Ctr.use (isport_call _ _ _ _ _ _ _) ?B ?F ?X ?N ?T ?hk ?hd ?hu ?_
  | refine' Ctr.use (iswht_call _ _ _ _ _ _ _) ?B ?F ?X ?N ?T ?hk ?hd ?hu ?_)); (case B => k_asm); (case F => k_asm); (case X => k_asm); (case N => k_asm); (case T => k_asm); (case hk => first | exact rfl | assumption); (case hd => ktr_room); (case hu => ktr_units); k_whole; (intro r9 h9 tk9 hr9 F9 N9); (subst hr9); (try dsimp only); (try k_fold)))
local macro_rules | `(tactic| walk_at "call ref") => `(tactic| (k_here; (k_dflt (refine' Ctr.use (imode2 ?hv) ?B ?F ?X ?N ?T ?hk ?hd ?hu ?_)); (case hv => with_reducible assumption); (case B => k_asm); (case F => k_asm); (case X => k_asm); (case N => k_asm); (case T => k_asm); (case hk => first | exact rfl | assumption); (case hd => ktr_room); (case hu => ktr_units); k_whole; (intro r9 h9 tk9 hr9 F9 N9); (obtain ⟨t9, e9⟩ := hr9); (subst e9); (try dsimp only); (try k_fold)))
local macro_rules | `(tactic| walk_at "call ref") => `(tactic| (k_here; (k_dflt (refine' Ctr.use (ifmt2 ?hv) ?B ?F ?X ?N ?T ?hk ?hd ?hu ?_)); (case hv => with_reducible assumption); (case B => k_asm); (case F => k_asm); (case X => k_asm); (case N => k_asm); (case T => k_asm); (case hk => first | exact rfl | assumption); (case hd => ktr_room); (case hu => ktr_units); k_whole; (intro r9 h9 tk9 hr9 F9 N9); (obtain ⟨t9, e9⟩ := hr9); (subst e9); (try dsimp only); (try k_fold)))
local macro_rules | `(tactic| walk_at "call ref") => `(tactic| (k_here; (k_dflt (refine' Ctr.use (fm2 ?hv) ?B ?F ?X ?N ?T ?hk ?hd ?hu ?_)); (case hv => with_reducible assumption); (case B => k_asm); (case F => k_asm); (case X => k_asm); (case N => k_asm); (case T => k_asm); (case hk => first | exact rfl | assumption); (case hd => ktr_room); (case hu => ktr_units); k_whole; (intro r9 h9 tk9 hr9 F9 N9); (obtain ⟨t9, e9⟩ := hr9); (subst e9); (try dsimp only); (try k_fold)))
local macro_rules | `(tactic| walk_at "call ref") => `(tactic| (k_here; (k_dflt (refine' Ctr.use (sg_call _ _ _ _ _ _ _ _ _ _ ?m1 ?m2 ?m3 ?m4) ?B ?F ?X ?N ?T ?hk ?hd ?hu ?_)); (case m1 => with_reducible assumption); (case m2 => assumption); (case m3 => assumption); (case m4 => assumption); (case B => k_asm); (case F => k_asm); (case X => k_asm); (case N => k_asm); (case T => k_asm); (case hk => first | exact rfl | assumption); (case hd => ktr_room); (case hu => ktr_units); k_whole; (intro r9 h9 tk9 hr9 F9 N9); (obtain ⟨t9, e9⟩ := hr9); (subst e9); (try dsimp only); (try k_fold)))
theorem bo_canLay : ∀ ns : List Bool, PyData.canLayAll0 (ns.map PyData.bool) = true
  | [] => rfl
  | _ :: r => by simp [PyData.canLayAll0, PyData.canLay0, bo_canLay r]
theorem bo_depth : ∀ ns : List Bool, PyData.depthAll (ns.map PyData.bool) = 0
  | [] => rfl
  | _ :: r => by simp [PyData.depthAll, PyData.depth, bo_depth r]
theorem bo_shaped (ns : List Bool) : SeqAt.shaped (.list (ns.map PyData.bool)) = true := by
  simp [SeqAt.shaped, PyData.canLay0, PyData.depth, bo_canLay, bo_depth]
theorem bo_same : ∀ ns : List Bool, PySem.Spec.sameAll (ns.map PyData.bool) (ns.map PyData.bool) = true
  | [] => by simp [PySem.Spec.sameAll]
  | a :: r => by
    simp only [List.map_cons, PySem.Spec.sameAll, PySem.Spec.same, bo_same r]
    cases a <;> rfl
theorem bo_carried : ∀ ns : List Bool, CarriedAll (ns.map Value.bool) (ns.map PyData.bool)
  | [] => .nil
  | a :: r => .cons (.bool a) (bo_carried r)
section
variable {prog : Program} {w : World} {A : Around} {E : Value → Shared → Prop} {s : Shared} {h₀ : Heap} {L : Addr} {news : List (Addr × Obj)} {a b : Addr} {n k : Nat} {Q : Value → Shared → Prop}
theorem bo_ne (ns : List Bool) (N : News h₀ L s.heap news) (ha : (a, W.listOf (ns.map Value.bool).toArray n) ∈ news) (hb : (b, W.listOf (ns.map Value.bool).toArray k) ∈ news) (hu : A.units + 64 < cLine) (h : Q (.bool false) s) :
    wpAny (model prog w) A (compareOp .NotEq (.ref a) (.ref b)) Q E s :=
  ne_dataH_same (reads_newData ⟨_, (N _ ha).1, rfl, n, rfl⟩ (bo_carried ns)) (reads_newData ⟨_, (N _ hb).1, rfl, k, rfl⟩ (bo_carried ns)) (bo_shaped _) (bo_shaped _) hu (SeqAt.noMix_of_shape (.list .bool) rfl _ _ (list_map_has fun _ => rfl) (list_map_has fun _ => rfl)) (by simp only [PySem.Spec.same, bo_same]; exact h)
theorem bo_eq (ns : List Bool) (N : News h₀ L s.heap news) (ha : (a, W.listOf (ns.map Value.bool).toArray n) ∈ news) (hb : (b, W.listOf (ns.map Value.bool).toArray k) ∈ news) (hu : A.units + 64 < cLine) (h : Q (.bool true) s) :
    wpAny (model prog w) A (compareOp .Eq (.ref a) (.ref b)) Q E s :=
  eq_dataH_same (reads_newData ⟨_, (N _ ha).1, rfl, n, rfl⟩ (bo_carried ns)) (reads_newData ⟨_, (N _ hb).1, rfl, k, rfl⟩ (bo_carried ns)) (bo_shaped _) (bo_shaped _) hu (SeqAt.noMix_of_shape (.list .bool) rfl _ _ (list_map_has fun _ => rfl) (list_map_has fun _ => rfl)) (by simp only [PySem.Spec.same, bo_same]; exact h)
theorem bo_ne7 {b1 b2 b3 b4 b5 b6 b7 : Bool} (N : News h₀ L s.heap news) (ha : (a, W.listOf #[.bool b1, .bool b2, .bool b3, .bool b4, .bool b5, .bool b6, .bool b7] n) ∈ news) (hb : (b, W.listOf #[.bool b1, .bool b2, .bool b3, .bool b4, .bool b5, .bool b6, .bool b7] k) ∈ news) (hu : A.units + 64 < cLine) (h : Q (.bool false) s) :
    wpAny (model prog w) A (compareOp .NotEq (.ref a) (.ref b)) Q E s := bo_ne [b1, b2, b3, b4, b5, b6, b7] N ha hb hu h
theorem bo_eq3 {b1 b2 b3 : Bool} (N : News h₀ L s.heap news) (ha : (a, W.listOf #[.bool b1, .bool b2, .bool b3] n) ∈ news) (hb : (b, W.listOf #[.bool b1, .bool b2, .bool b3] k) ∈ news) (hu : A.units + 64 < cLine) (h : Q (.bool true) s) :
    wpAny (model prog w) A (compareOp .Eq (.ref a) (.ref b)) Q E s := bo_eq [b1, b2, b3] N ha hb hu h
end
local macro_rules | `(tactic| walk_at "compareOp NotEq ref ref") => `(tactic| (k_here; (with_reducible show wpAny _ _ (compareOp CmpOp.NotEq (Value.ref _) (Value.ref _)) _ _ _); k_dflt (refine' bo_ne7 ?N ?ma ?mb ?hu ?_; (case N => k_asm); (case ma => k_mem); (case mb => k_mem); (case hu => ktr_units); k_whole)))
local macro_rules | `(tactic| walk_at "compareOp Eq ref ref") => `(tactic| (k_here; (with_reducible show wpAny _ _ (compareOp CmpOp.Eq (Value.ref _) (Value.ref _)) _ _ _); k_dflt (refine' bo_eq3 ?N ?ma ?mb ?hu ?_; (case N => k_asm); (case ma => k_mem); (case mb => k_mem); (case hu => ktr_units); k_whole)))
theorem kind_eq {kind M : Int} (h : Builtin.bitAnd M 61440 = 4096 * kind) (c : Int) : (Builtin.bitAnd M 61440 == 4096 * c) = (kind == c) := by
  rw [h]
  by_cases e : kind = c
  · rw [e]; simp
  · have e2 : 4096 * kind ≠ 4096 * c := by omega
    rw [beq_eq_false_iff_ne.mpr e, beq_eq_false_iff_ne.mpr e2]
set_option maxRecDepth 100000 in
set_option maxHeartbeats 8000000 in
theorem st_call (w : World) (mean : ExcName → Option Value) (mg mb : Str → Option Value) (kind : Int) (tk0 : Tok) (bs : List Bool) (bl : Addr) (nb : Nat) (beyond : Int) (tk1 : Tok) (news : List (Addr × Obj)) (hm : (bl, W.listOf (bs.map Value.bool).toArray nb) ∈ news) (hb : bs.length = 12) (h0 : 0 ≤ kind) (h16 : kind < 16) :
    Ctr w mean mg mb 30 300 152 news [.int kind tk0, .ref bl, .int beyond tk1] (fun r => r = .bool true) := by
  w_top off
  unfold Ctr
  k_fill
  intro dp un gd cn cs a ccd cl outer A₀ base h₀ L m s Q E B F X N T hk hd hu hret
  refine wpAny_call ?_
  k_dflt cell_enter
  k_steps
  (rename Fr _ _ _ _ => F1)
  (rename News _ _ _ _ => N1)
  rename_i g1 L1 ha FG B1 X1 T1 tkA dK1 hb1 lt1 hb2 tkB dK2 hb3 lt2 dK hb4 lt3 hb5 tkC dR hb6 lt4 hb7 tt hb8 hb9 Fb Nb h2 tk2 t1 u1 v1 hr hkeep
  have F2 : Fr g1 L1 h2 (stM 0 _ (base0 kind beyond) _ dR dK dK1 kind tk0 bl beyond tk1) := F1
  clear F1 Fb Nb
  obtain ⟨led, NL, hR, hsub⟩ : ∃ led, News g1 L1 h2 led ∧ (dR, W.listOf rightsV.toArray 0) ∈ led ∧ ∀ p ∈ news, p ∈ led := ⟨_, N1, .head _, fun p hp => .tail _ (.tail _ (.tail _ (.tail _ hp)))⟩
  clear N1
  unfold Hold
  refine range_inv (n := 12) (fun i m' nx => ∃ tL tM, Off stNS (stM (lowAt bs i) tL (addAt (base0 kind beyond) bs i) tM dR dK dK1 kind tk0 bl beyond tk1) m' ∧ nx = led) rfl hr (by decide) (by decide) F2 NL ⟨_, _, Off.refl, rfl⟩ ?_ ?_
  · rintro i t m₁ news₁ h tk own hi ⟨tL, tM, hm1, rfl⟩ hsep F3 N3
    rw [hm1.eq] at F3
    clear F2 NL
    have hmm : (bl, W.listOf (List.map Value.bool bs).toArray nb) ∈ news₁ ++ own := List.mem_append_left _ (hsub _ hm)
    have hRR : (dR, W.listOf rightsV.toArray 0) ∈ news₁ ++ own := List.mem_append_left _ hR
    k_steps
    all_goals rename Fr _ _ _ _ => FZ
    all_goals rename News _ _ _ _ => NZ
    · rename bs.getD (i : Int).toNat false = true => hbit
      exact st_end FZ NZ hsep rfl (by show _ = (if bs.getD i false = true then _ else _); rw [if_pos (show bs.getD i false = true from hbit)]; rfl)
    · rename bs.getD (i : Int).toNat false = false => hbit
      exact st_end0 FZ NZ hsep rfl (by show _ = (if bs.getD i false = true then _ else _); rw [if_neg (by rw [show bs.getD i false = false from hbit]; exact Bool.false_ne_true)])
  · rintro m₁ news₁ h tk ⟨tL, tM, hm1, rfl⟩ F3 N3
    rw [hm1.eq] at F3
    clear F2 NL hr hkeep
    obtain ⟨hM1, hM2, hM3⟩ := st_math (bs := bs) (beyond := beyond) h0 h16
    have hbl : (bl, W.listOf (List.map Value.bool bs).toArray nb) ∈ news₁ := hsub _ hm
    generalize addAt (base0 kind beyond) bs 12 = M at *
    generalize lowAt bs 12 = LO at *
    have hT1 := kind_eq hM2 1
    have hT2 := kind_eq hM2 2
    have hT3 := kind_eq hM2 4
    have hT4 := kind_eq hM2 6
    have hT5 := kind_eq hM2 8
    have hT6 := kind_eq hM2 10
    have hT7 := kind_eq hM2 12
    simp only [Int.reduceMul] at hT1 hT2 hT3 hT4 hT5 hT6 hT7
    k_steps
    all_goals rename News _ _ _ _ => NZ
    · exact absurd rfl (by assumption)
    · exact absurd rfl (by assumption)
    · rename (sgRow kind bs 3 != sgRow kind bs 3) = true => hne
      rw [bne_self_eq_false] at hne
      exact absurd hne Bool.false_ne_true
    · exact hret _ _ _ rfl (by k_asm) (fun p hp => NZ p (by repeat (first | exact hsub p hp | refine List.Mem.tail _ ?_)))
end Mine
end
section
open PySem PySem.W PyProof.Rows PySem.Spec
namespace Mine
section
variable {d : Addr} {o o' : Obj}
inductive UpdW (d : Addr) (o o' : Obj) : List (Addr × Obj) → List (Addr × Obj) → Prop
  | head {r : List (Addr × Obj)} : UpdW d o o' ((d, o) :: r) ((d, o') :: r)
  | tail {p : Addr × Obj} {r r' : List (Addr × Obj)} : UpdW d o o' r r' → UpdW d o o' (p :: r) (p :: r')
theorem UpdW.mem {l l' : List (Addr × Obj)} (U : UpdW d o o' l l') : d ∈ l.map (·.1) := by
  induction U with
  | head => exact .head _
  | tail _ ih => exact .tail _ ih
theorem upd_own {l l' own : List (Addr × Obj)} (hnd : (l.map (·.1)).Nodup) (hsep : ∀ p ∈ l, ∀ q ∈ own, p.1 ≠ q.1) (U : UpdW d o o' l l') : Upd d o o' (l ++ own) (l' ++ own) := by
  induction U with
  | @head r =>
    rw [List.map_cons, List.nodup_cons] at hnd
    refine .head fun p hp e => ?_
    rcases List.mem_append.mp hp with h | h
    · exact hnd.1 (List.mem_map.mpr ⟨p, h, e⟩)
    · exact hsep (d, o) (.head _) p h e.symm
  | @tail p r r' U ih =>
    rw [List.map_cons, List.nodup_cons] at hnd
    exact .tail (fun e => hnd.1 (e ▸ U.mem)) (ih hnd.2 fun q hq => hsep q (.tail _ hq))
theorem upd_of {l l' : List (Addr × Obj)} (hnd : (l.map (·.1)).Nodup) (U : UpdW d o o' l l') : Upd d o o' l l' := by
  have h := upd_own (own := []) hnd (fun _ _ _ h => nomatch h) U
  rwa [List.append_nil, List.append_nil] at h
inductive UpdFW (d : Addr) (o : Obj) : List (Addr × Obj) → (Obj → List (Addr × Obj)) → Prop
  | head {r : List (Addr × Obj)} : UpdFW d o ((d, o) :: r) (fun o' => (d, o') :: r)
  | tail {p : Addr × Obj} {r : List (Addr × Obj)} {g : Obj → List (Addr × Obj)} : UpdFW d o r g → UpdFW d o (p :: r) (fun o' => p :: g o')
theorem UpdFW.mem {l : List (Addr × Obj)} {g : Obj → List (Addr × Obj)} (U : UpdFW d o l g) : d ∈ l.map (·.1) := by
  induction U with
  | head => exact .head _
  | tail _ ih => exact .tail _ ih
theorem updF_of {l : List (Addr × Obj)} {g : Obj → List (Addr × Obj)} (hnd : (l.map (·.1)).Nodup) (U : UpdFW d o l g) : UpdF d o l g := by
  induction U with
  | @head r =>
    rw [List.map_cons, List.nodup_cons] at hnd
    exact .head fun p hp e => hnd.1 (List.mem_map.mpr ⟨p, hp, e⟩)
  | @tail p r g U ih =>
    rw [List.map_cons, List.nodup_cons] at hnd
    exact .tail (fun e => hnd.1 (e ▸ U.mem)) (ih hnd.2)
end
def CEnd (h₀ : Heap) (L : Addr) (m : Str → Option Value) (s₁ : Shared) (I : Addr) (oI : Obj) (C : Addr) (oC : Obj) (D : Addr) (oD : Obj) (S : List (Addr × Obj) → Prop) (rest : Value → List (Addr × Obj) → Prop) (y : Value) (s₂ : Shared) : Prop :=
  ∃ h' tk news', s₂ = { s₁ with heap := h', toks := tk } ∧ Fr h₀ L h' m ∧ News h₀ L h' ((I, oI) :: (C, oC) :: (D, oD) :: news') ∧ LCg.Off3 I C D news' ∧ S news' ∧ rest y news'
section
variable {prog : Program} {w : World} {A : Around} {E : Value → Shared → Prop} {s : Shared} {h₀ : Heap} {L : Addr} {m : Str → Option Value} {env : Env}
theorem comp_inv {elt : PySem.Expr} {x : Str} {scope : Scope} {cl : List (Str × Addr)} {S : List (Addr × Obj) → Prop} {P : Nat → Value → Prop} {Fin : List Value → List (Addr × Obj) → Prop} {n : Nat} {news : List (Addr × Obj)}
    (J : Nat → List Value → List (Addr × Obj) → Prop) (hj : J 0 [] news)
    (turn : ∀ i ys nw v I oI C oC D m₂ h tk (E' : Value → Shared → Prop), i < n → J i ys nw → P i v → LCg.NsObj oC m₂ → m₂ x = some v → Fr h₀ L h m → News h₀ L h ((I, oI) :: (C, oC) :: (D, LCg.lst ys) :: nw) → LCg.Off3 I C D nw →
      wpAny (model prog w) A (eval elt (compEnvC scope cl C env)) (CEnd h₀ L m { s with heap := h, toks := tk } I oI C oC D (LCg.lst ys) S (fun y nw' => J (i + 1) (ys ++ [y]) nw')) E' { s with heap := h, toks := tk })
    (done : ∀ ys nw, J n ys nw → Fin ys nw) : LCg.CompRest prog w A h₀ L m env elt x scope cl s S P Fin n 0 [] news := by
  have key : ∀ k i ys nw, i + k = n → J i ys nw → LCg.CompRest prog w A h₀ L m env elt x scope cl s S P Fin k i ys nw := by
    intro k
    induction k with
    | zero =>
      intro i ys nw e hJ
      exact .zero (done ys nw (by rw [← e]; exact hJ))
    | succ k ih =>
      intro i ys nw e hJ
      refine .succ ?_
      intro v I oI C oC D m₂ h tk E' hP hC hx F N ho _
      refine wpAny_mono (turn i ys nw v I oI C oC D m₂ h tk E' (by omega) hJ hP hC hx F N ho) (fun y s₂ q => ?_) fun _ _ e => e
      obtain ⟨h', tk', nw', e', F', N', o', S', J'⟩ := q
      exact ⟨h', tk', nw', e', F', N', o', S', ih (i + 1) _ _ (by omega) J'⟩
  exact key n 0 [] news (by omega) hj
theorem CompSrc_hold {elt : PySem.Expr} {x : Str} {scope : Scope} {cl : List (Str × Addr)} {Fin : Shared → List Value → List (Addr × Obj) → Prop} {r : Addr} {a b : Int} {t u v : Tok} {n : Nat} {news : List (Addr × Obj)} {s₁ : Shared}
    (hh : A.handled = none) (F : Fr h₀ L s₁.heap m) (N : News h₀ L s₁.heap news) (hr : IsRange s₁.heap r a b 1 t u v) (hsm : Builtin.Range.small a b 1 = true) (hn : Builtin.Range.rangeSize a b 1 = ((n : Nat) : Int)) (hsz : n ≤ sizeLine)
    (h : ∀ g, Hold (LCg.CompRest prog w A h₀ L m env elt x scope cl { s₁ with heap := g } (fun _ => True) (fun i v => ∃ t, v = .int (a + (i : Int)) t) (Fin { s₁ with heap := g }) n 0 [] news)) :
    LCg.CompSrc prog w A h₀ L m env elt x scope cl Fin (.ref r) s₁ := LCg.CompSrc.range hh F N hr hsm hn hsz h
end
theorem allLt_mem {d : Addr} : ∀ {l : List (Addr × Obj)}, AllLt d l → ∀ p ∈ l, p.1 < d
  | [], _, _, h => nomatch h
  | p :: r, ⟨h1, h2⟩, q, hq => by
    rcases List.mem_cons.mp hq with rfl | hq
    · exact h1
    · exact allLt_mem h2 q hq
end Mine
end
section
open PySem PySem.W PyProof.Rows PySem.Spec
namespace Mine
section
variable {d : Addr} {o o' : Obj}
theorem upd_addr {l l' : List (Addr × Obj)} (U : UpdW d o o' l l') : ∀ {as bs : List Addr}, l.map (·.1) = as ++ bs → as.Nodup → (∀ a ∈ as, a ∉ bs) → d ∈ as → Upd d o o' l l' := by
  induction U with
  | @head r =>
    intro as bs he hnd hs hd
    match as, hd with
    | a :: as', hd =>
      rw [List.map_cons, List.cons_append] at he
      obtain ⟨e1, e2⟩ := List.cons.inj he
      have e1' : d = a := e1
      subst e1'
      rw [List.nodup_cons] at hnd
      refine .head fun p hp e => ?_
      have hm : p.1 ∈ as' ++ bs := by rw [← e2]; exact List.mem_map.mpr ⟨p, hp, rfl⟩
      rw [e] at hm
      rcases List.mem_append.mp hm with h | h
      · exact hnd.1 h
      · exact hs d (.head _) h
  | @tail p r r' U ih =>
    intro as bs he hnd hs hd
    match as, hd with
    | a :: as', hd =>
      rw [List.map_cons, List.cons_append] at he
      obtain ⟨e1, e2⟩ := List.cons.inj he
      rw [List.nodup_cons] at hnd
      have hm := U.mem
      rw [e2] at hm
      by_cases hda : d = a
      · subst hda
        rcases List.mem_append.mp hm with h | h
        · exact absurd h hnd.1
        · exact absurd h (hs d (.head _))
      · refine .tail (fun e => hda (e.symm.trans e1)) (ih e2 hnd.2 (fun q hq => hs q (.tail _ hq)) ?_)
        rcases List.mem_cons.mp hd with h | h
        · exact absurd h hda
        · exact h
end
section
variable {prog : Program} {w : World} {A : Around} {E : Value → Shared → Prop} {s : Shared} {h₀ : Heap} {L D : Addr} {m : Str → Option Value} {l l' own : List (Addr × Obj)} {as : List Addr} {n : Nat} {k : Int} {t : Tok}
theorem set_list {vs : List Value} {v : Value} {Q : Unit → Shared → Prop} (F : Fr h₀ L s.heap m) (N : News h₀ L s.heap l) (hnd : as.Nodup) (hsa : ∀ a ∈ as, ∀ q ∈ own, a ≠ q.1) (he : l.map (·.1) = as ++ own.map (·.1)) (hd : D ∈ as)
    (U : UpdW D (W.listOf vs.toArray n) (W.listOf (vs.set k.toNat v).toArray n) l l') (h0 : 0 ≤ k) (h1 : k < vs.length) (hfit : vs.length < 2 ^ 62)
    (h : ∀ h', Fr h₀ L h' m → News h₀ L h' l' → Q () { s with heap := h' }) : wpAny (model prog w) A (setItem (.ref D) (.int k t) v) Q E s := by
  have hb : ∀ a ∈ as, a ∉ own.map (·.1) := fun a ha hm => by
    obtain ⟨q, hq, e⟩ := List.mem_map.mp hm
    exact hsa a ha q hq e.symm
  obtain ⟨pre, post, rfl, rfl, a, b'⟩ := (upd_addr U he hnd hb hd).split
  have z := N (D, W.listOf vs.toArray n) (List.mem_append.mpr (.inr (.head _)))
  have hs : vs.toArray.size = vs.length := by rw [List.size_toArray]
  refine ki_setAt z.1 h0 (by omega) (by omega) (h _ (F.change (Heap.SameBut.update ..) z.2.1 z.2.2) (ki_turn _ N a b' ?_ ?_))
  · show vs.toArray.setIfInBounds k.toNat v = (vs.set k.toNat v).toArray
    apply Array.toList_inj.mp
    simp
  · simp
theorem set_bools {bs : List Bool} {b : Bool} {Q : Unit → Shared → Prop} (F : Fr h₀ L s.heap m) (N : News h₀ L s.heap l) (hnd : as.Nodup) (hsa : ∀ a ∈ as, ∀ q ∈ own, a ≠ q.1) (he : l.map (·.1) = as ++ own.map (·.1)) (hd : D ∈ as)
    (U : UpdW D (W.listOf (bs.map Value.bool).toArray n) (W.listOf ((bs.set k.toNat b).map Value.bool).toArray n) l l') (h0 : 0 ≤ k) (h1 : k < bs.length) (hfit : bs.length < 2 ^ 62)
    (h : ∀ h', Fr h₀ L h' m → News h₀ L h' l' → Q () { s with heap := h' }) : wpAny (model prog w) A (setItem (.ref D) (.int k t) (.bool b)) Q E s := by
  rw [List.map_set] at U
  exact set_list F N hnd hsa he hd U h0 (by rw [List.length_map]; exact h1) (by rw [List.length_map]; exact hfit) h
theorem item_lit {vs : List Value} {v : Value} {value slice : PySem.Expr} {Q : Value → Shared → Prop} (N : News h₀ L s.heap l) (hm : (D, W.listOf vs.toArray n) ∈ l) (h0 : 0 ≤ k) (hk : k < 2 ^ 63) (hx : vs[k.toNat]? = some v) (h : Q v s)
    (hs : subscripted slice false (.ref D) (.int k t) = operate [.ref D, .int k t] (getItem (.ref D) (.int k t)) := by with_unfolding_all rfl) :
    wpAny (model prog w) A (subscriptTail value slice (.ref D) (.int k t)) Q E s := by
  have hl : s.heap.IsList D vs.toArray := ⟨_, (N _ hm).1, rfl, n, rfl⟩
  exact tail_any hl.typeIs slot_list_getitem.lookup (wpAny_getItem_list hl h0 hk (by simpa using hx) h) hs
theorem mod_fact {a b c : Int} {u : Tok} {Q : Value → Shared → Prop} (hb : b ≠ 0) (hc : a.fmod b = c) (h : Q (.int c s.toks) { s with toks := s.toks + 1 }) : wpAny (model prog w) A (binaryOp .Mod (.int a t) (.int b u)) Q E s := by
  refine mod_int' hb ?_
  rw [hc]
  exact h
theorem copy_bools {bs : List Bool} {Q : Value → Shared → Prop} (F : Fr h₀ L s.heap m) (N : News h₀ L s.heap l) (hm : (D, W.listOf (bs.map Value.bool).toArray n) ∈ l) (hb : bs.length < 1000) (hnd : as.Nodup) (hsa : ∀ a ∈ as, ∀ q ∈ own, a ≠ q.1) (he : l.map (·.1) = as ++ own.map (·.1))
    (h : ∀ D' c h', Fr h₀ L h' m → News h₀ L h' ((D', W.listOf (bs.map Value.bool).toArray c) :: l) → (D' :: as).Nodup → (∀ a ∈ D' :: as, ∀ q ∈ own, a ≠ q.1) → Q (.ref D') { s with heap := h' }) :
    wpAny (model prog w) A (call (.type "list") [.ref D]) Q E s := by
  have hl : s.heap.IsList D (bs.map Value.bool).toArray := ⟨_, (N _ hm).1, rfl, n, rfl⟩
  refine list_copyK F N hl (fun D' c h' F' N' l1 => ?_) (by rw [List.size_toArray, List.length_map, sizeLine_eq]; omega)
  have hlt : ∀ a ∈ as ++ own.map (·.1), a < D' := by
    intro a ha
    rw [← he] at ha
    obtain ⟨p, hp, rfl⟩ := List.mem_map.mp ha
    exact l1 p hp
  refine h D' c h' F' N' ?_ ?_
  · rw [List.nodup_cons]
    exact ⟨fun hm => Nat.lt_irrefl _ (hlt D' (List.mem_append_left _ hm)), hnd⟩
  · intro a ha q hq
    rcases List.mem_cons.mp ha with rfl | ha
    · exact Nat.ne_of_gt (hlt q.1 (List.mem_append_right _ (List.mem_map.mpr ⟨q, hq, rfl⟩)))
    · exact hsa a ha q hq
end
end Mine
end
section
open PySem PySem.W PyProof.Rows
namespace Mine
local macro_rules | `(tactic| walk_at "PostG") => `(tactic| (dsimp only [PostG]))
local macro_rules | `(tactic| walk_at "exec For Name Subscript cons nil") => `(tactic| (k_here; (rename Fr _ _ _ _ => lF'); (with_unfolding_all refine' For_hold lF' ?k1 ?k2 ?_; (case k1 => exact rfl); (case k2 => exact rfl); k_whole)))
local macro_rules | `(tactic| walk_at "CompSrc") => `(tactic| (k_here; k_dflt (refine CompSrc_hold (n := 4) (by rfl) (by k_asm) (by k_asm) (by assumption) (by first | decide | rfl) (by first | rfl | decide) (by first | size_fits | exact Nat.le_of_ble_eq_true rfl) ?_; intro g')))
theorem updF_of2 {d : Addr} {o : Obj} {l : List (Addr × Obj)} {g : Obj → List (Addr × Obj)} {as : List Addr} (hnd : as.Nodup) (he : l.map (·.1) = as) (U : UpdFW d o l g) : UpdF d o l g := updF_of (he ▸ hnd) U
local macro_rules | `(tactic| k_updF) => `(tactic| (refine' updF_of2 ?n ?e ?w; (case n => with_reducible assumption); (case e => rfl); (case w => (repeat' (first | exact UpdFW.head | refine' UpdFW.tail ?_)))))
abbrev F12 : Obj := W.listOf #[.bool false, .bool false, .bool false, .bool false, .bool false, .bool false, .bool false, .bool false, .bool false, .bool false, .bool false, .bool false] 0
def CompJ (base : List (Addr × Obj)) (i : Nat) (ys : List Value) (nw : List (Addr × Obj)) : Prop :=
  ∃ ps : List Addr, ps.length = i ∧ ys = ps.map Value.ref ∧ nw = ps.reverse.map (fun p => (p, F12)) ++ base ∧ ps.Nodup ∧ ∀ p ∈ ps, ∀ b ∈ base, b.1 < p
theorem mul12 {prog : Program} {w : World} {A : Around} {E : Value → Shared → Prop} {s : Shared} {h₀ : Heap} {L : Addr} {m : Str → Option Value} {news : List (Addr × Obj)} {l : Addr} {n : Nat} {u : Tok} {Q : Value → Shared → Prop} (F : Fr h₀ L s.heap m) (N : News h₀ L s.heap news) (hm : (l, W.listOf #[.bool false] n) ∈ news)
    (h : ∀ D h', Fr h₀ L h' m → News h₀ L h' ((D, F12) :: news) → (∀ p ∈ news, p.1 < D) → Q (.ref D) { s with heap := h' }) : wpAny (model prog w) A (binaryOp .Mult (.ref l) (.int 12 u)) Q E s :=
  kbo_mul (vs := [.bool false]) (bs := [false]) F N ⟨_, (N _ hm).1, rfl, n, rfl⟩ (.cons false .nil) (by decide) (by decide) (by decide) fun D h' F' N' l1 _ _ _ _ _ _ _ => h D h' F' N' l1
local macro_rules | `(tactic| walk_at "binaryOp Mult ref int") => `(tactic| (k_here; (with_reducible show wpAny _ _ (binaryOp Operator.Mult (Value.ref _) (Value.int 12 _)) _ _ _); k_dflt (refine' mul12 ?F ?N ?m ?_; (case F => k_asm); (case N => k_asm); (case m => exact List.Mem.head _); k_whole); (intro D' h' F' N' l1); (try k_sweep)))
theorem off3_cons {I C D : Addr} {nw : List (Addr × Obj)} {p : Addr × Obj} (h1 : p.1 ≠ I) (h2 : p.1 ≠ C) (h3 : p.1 ≠ D) (h : LCg.Off3 I C D nw) : LCg.Off3 I C D (p :: nw) := LCg.Off3.of fun q hq => by
  rcases List.mem_cons.mp hq with rfl | hq
  · exact ⟨h1, h2, h3⟩
  · exact h.mem q hq
theorem off1_mem {D : Addr} : ∀ {l : List (Addr × Obj)}, LCg.Off1 D l → ∀ p ∈ l, p.1 ≠ D
  | [], _, _, h => nomatch h
  | q :: r, h, p, hp => by
    rcases List.mem_cons.mp hp with rfl | hp
    · exact h.1
    · exact off1_mem h.2 p hp
theorem comp_end {h₀ : Heap} {L : Addr} {m : Str → Option Value} {s₁ : Shared} {I : Addr} {oI : Obj} {C : Addr} {oC : Obj} {D : Addr} {oD : Obj} {base nw : List (Addr × Obj)} {i : Nat} {ps : List Addr} {D' l' : Addr} {o' : Obj} {h' : Heap} {tk : Nat}
    (F : Fr h₀ L h' m) (N : News h₀ L h' ((D', F12) :: (l', o') :: (I, oI) :: (C, oC) :: (D, oD) :: nw)) (l1 : ∀ p ∈ (l', o') :: (I, oI) :: (C, oC) :: (D, oD) :: nw, p.1 < D') (ho : LCg.Off3 I C D nw) (hlen : ps.length = i) (hnw : nw = ps.reverse.map (fun p => (p, F12)) ++ base) (hnd : ps.Nodup) (hlt : ∀ p ∈ ps, ∀ b ∈ base, b.1 < p) :
    CEnd h₀ L m s₁ I oI C oC D oD (fun _ => True) (fun y nw' => CompJ base (i + 1) (ps.map Value.ref ++ [y]) nw') (.ref D') { s₁ with heap := h', toks := tk } := by
  have hI := l1 _ (.tail _ (.head _))
  have hC := l1 _ (.tail _ (.tail _ (.head _)))
  have hD := l1 _ (.tail _ (.tail _ (.tail _ (.head _))))
  have hN : ∀ p ∈ nw, p.1 < D' := fun p hp => l1 p (.tail _ (.tail _ (.tail _ (.tail _ hp))))
  have hps : ∀ p ∈ ps, p < D' := fun p hp => hN (p, F12) (by rw [hnw]; exact List.mem_append_left _ (List.mem_map.mpr ⟨p, List.mem_reverse.mpr hp, rfl⟩))
  have hbs : ∀ b ∈ base, b.1 < D' := fun b hb => hN b (by rw [hnw]; exact List.mem_append_right _ hb)
  refine ⟨h', tk, (D', F12) :: nw, rfl, F, ?_, off3_cons (Nat.ne_of_gt hI) (Nat.ne_of_gt hC) (Nat.ne_of_gt hD) ho, trivial, ps ++ [D'], by simp [hlen], by simp, ?_, ?_, ?_⟩
  · intro p hp
    rcases List.mem_cons.mp hp with rfl | hp
    · exact N _ (.tail _ (.tail _ (.head _)))
    rcases List.mem_cons.mp hp with rfl | hp
    · exact N _ (.tail _ (.tail _ (.tail _ (.head _))))
    rcases List.mem_cons.mp hp with rfl | hp
    · exact N _ (.tail _ (.tail _ (.tail _ (.tail _ (.head _)))))
    rcases List.mem_cons.mp hp with rfl | hp
    · exact N _ (.head _)
    · exact N _ (.tail _ (.tail _ (.tail _ (.tail _ (.tail _ hp)))))
  · rw [hnw]; simp
  · rw [List.nodup_append]
    refine ⟨hnd, by simp, fun a ha b hb => ?_⟩
    rw [List.mem_singleton.mp hb]
    exact Nat.ne_of_lt (hps a ha)
  · intro p hp b hb
    rcases List.mem_append.mp hp with hp | hp
    · exact hlt p hp b hb
    · rw [List.mem_singleton.mp hp]
      exact hbs b hb
theorem nodup_base {a c : Nat} (h : c + 3 < a) : [a, c + 1 + 1 + 1, c + 1 + 1, c + 1].Nodup := by
  simp only [List.nodup_cons, List.mem_cons, List.not_mem_nil, List.nodup_nil, or_false, not_or, not_false_eq_true, and_true]
  omega
theorem comp_nodup {D : Addr} {ps : List Addr} {base : List (Addr × Obj)} (ho : LCg.Off1 D (ps.reverse.map (fun p => (p, F12)) ++ base)) (hnd : ps.Nodup) (hlt : ∀ p ∈ ps, ∀ b ∈ base, b.1 < p) (hb : (base.map (·.1)).Nodup) : (D :: (ps.reverse ++ base.map (·.1))).Nodup := by
  have h1 := off1_mem ho
  rw [List.nodup_cons]
  refine ⟨fun hm => ?_, ?_⟩
  · rcases List.mem_append.mp hm with h | h
    · exact h1 (D, F12) (List.mem_append_left _ (List.mem_map.mpr ⟨D, h, rfl⟩)) rfl
    · obtain ⟨b, hb', e⟩ := List.mem_map.mp h
      exact h1 b (List.mem_append_right _ hb') e
  · rw [List.nodup_append]
    refine ⟨List.pairwise_reverse.mpr (hnd.imp fun h => h.symm), hb, fun a ha b hb' => ?_⟩
    obtain ⟨q, hq, rfl⟩ := List.mem_map.mp hb'
    exact Nat.ne_of_gt (hlt a (List.mem_reverse.mp ha) q hq)
abbrev lwNS : List Str := [Str.ofString "x", Str.ofString "at", Str.ofString "what", Str.ofString "rest"]
abbrev LawLed (aK aB aY c1 c2 c3 : Addr) (oK oB oY : Obj) (k0 k1 k2 k3 : Int) (t0 t1 t2 t3 : Tok) (p0 p1 p2 p3 : Addr) (b0 b1 b2 b3 : List Bool) (n0 n1 n2 n3 : Nat) (y0 y1 y2 y3 : Int) (u0 u1 u2 u3 : Tok) (nK nB nY : Nat) : List (Addr × Obj) :=
  [(aK, W.listOf [.int k0 t0, .int k1 t1, .int k2 t2, .int k3 t3].toArray nK), (aB, W.listOf [.ref p0, .ref p1, .ref p2, .ref p3].toArray nB), (aY, W.listOf [.int y0 u0, .int y1 u1, .int y2 u2, .int y3 u3].toArray nY),
    (p0, W.listOf (b0.map Value.bool).toArray n0), (p1, W.listOf (b1.map Value.bool).toArray n1), (p2, W.listOf (b2.map Value.bool).toArray n2), (p3, W.listOf (b3.map Value.bool).toArray n3), (c1, oK), (c2, oB), (c3, oY)]
structure LawOk (aK aB aY c1 c2 c3 : Addr) (k0 k1 k2 k3 : Int) (p0 p1 p2 p3 : Addr) (b0 b1 b2 b3 : List Bool) : Prop where
  k0 : 0 ≤ k0 ∧ k0 < 16
  k1 : 0 ≤ k1 ∧ k1 < 16
  k2 : 0 ≤ k2 ∧ k2 < 16
  k3 : 0 ≤ k3 ∧ k3 < 16
  b0 : b0.length = 12
  b1 : b1.length = 12
  b2 : b2.length = 12
  b3 : b3.length = 12
  nd : [aK, aB, aY, p0, p1, p2, p3, c1, c2, c3].Nodup
def LawJ (aK aB aY c1 c2 c3 : Addr) (oK oB oY : Obj) (M0 : Str → Option Value) (m : Str → Option Value) (nx : List (Addr × Obj)) : Prop :=
  ∃ (k0 k1 k2 k3 : Int) (t0 t1 t2 t3 : Tok) (p0 p1 p2 p3 : Addr) (b0 b1 b2 b3 : List Bool) (n0 n1 n2 n3 : Nat) (y0 y1 y2 y3 : Int) (u0 u1 u2 u3 : Tok) (nK nB nY : Nat),
    Off lwNS M0 m ∧ nx = LawLed aK aB aY c1 c2 c3 oK oB oY k0 k1 k2 k3 t0 t1 t2 t3 p0 p1 p2 p3 b0 b1 b2 b3 n0 n1 n2 n3 y0 y1 y2 y3 u0 u1 u2 u3 nK nB nY ∧ LawOk aK aB aY c1 c2 c3 k0 k1 k2 k3 p0 p1 p2 p3 b0 b1 b2 b3
theorem law_end {h₀ : Heap} {L : Addr} {m' M0 : Str → Option Value} {h' : Heap} {tk : Nat} {own : List (Addr × Obj)} {s₁ : Shared} {aK aB aY c1 c2 c3 : Addr} {oK oB oY : Obj} {k0 k1 k2 k3 : Int} {t0 t1 t2 t3 : Tok} {p0 p1 p2 p3 : Addr} {b0 b1 b2 b3 : List Bool} {n0 n1 n2 n3 : Nat} {y0 y1 y2 y3 : Int} {u0 u1 u2 u3 : Tok} {nK nB nY : Nat}
    (F : Fr h₀ L h' m') (hm : Off lwNS M0 m') (N : News h₀ L h' (LawLed aK aB aY c1 c2 c3 oK oB oY k0 k1 k2 k3 t0 t1 t2 t3 p0 p1 p2 p3 b0 b1 b2 b3 n0 n1 n2 n3 y0 y1 y2 y3 u0 u1 u2 u3 nK nB nY ++ own)) (hok : LawOk aK aB aY c1 c2 c3 k0 k1 k2 k3 p0 p1 p2 p3 b0 b1 b2 b3)
    (hsa : ∀ a ∈ [aK, aB, aY, p0, p1, p2, p3, c1, c2, c3], ∀ q ∈ own, a ≠ q.1) : EndG h₀ L (LawJ aK aB aY c1 c2 c3 oK oB oY M0) own s₁ { s₁ with heap := h', toks := tk } := by
  refine ⟨h', tk, m', _, rfl, F, N, fun p hp q hq => hsa p.1 ?_ q hq, k0, k1, k2, k3, t0, t1, t2, t3, p0, p1, p2, p3, b0, b1, b2, b3, n0, n1, n2, n3, y0, y1, y2, y3, u0, u1, u2, u3, nK, nB, nY, hm, rfl, hok⟩
  exact List.mem_map.mpr ⟨p, hp, rfl⟩
theorem swap_of {own : List (Addr × Obj)} {l l1 l2 : List Addr} (hp : l2.Perm l1) (hs : l1.Sublist l) (hnd : l.Nodup) (hsa : ∀ a ∈ l, ∀ q ∈ own, a ≠ q.1) : l2.Nodup ∧ ∀ a ∈ l2, ∀ q ∈ own, a ≠ q.1 :=
  ⟨hp.nodup_iff.mpr (hs.nodup hnd), fun a ha => hsa a (hs.subset (hp.mem_iff.mp ha))⟩
theorem law_copy0 {h₀ : Heap} {L : Addr} {m' M0 : Str → Option Value} {h' : Heap} {tk : Nat} {own : List (Addr × Obj)} {s₁ : Shared} {aK aB aY c1 c2 c3 d : Addr} {oK oB oY oP : Obj} {k0 k1 k2 k3 : Int} {t0 t1 t2 t3 : Tok} {p0 p1 p2 p3 : Addr} {b1 b2 b3 bb : List Bool} {n1 n2 n3 cc : Nat} {y0 y1 y2 y3 : Int} {u0 u1 u2 u3 : Tok} {nK nB nY : Nat}
    (F : Fr h₀ L h' m') (hm : Off lwNS M0 m')
    (N : News h₀ L h' ([(d, W.listOf (bb.map Value.bool).toArray cc), (aK, W.listOf [.int k0 t0, .int k1 t1, .int k2 t2, .int k3 t3].toArray nK), (aB, W.listOf [.ref d, .ref p1, .ref p2, .ref p3].toArray nB), (aY, W.listOf [.int y0 u0, .int y1 u1, .int y2 u2, .int y3 u3].toArray nY), (p0, oP), (p1, W.listOf (b1.map Value.bool).toArray n1), (p2, W.listOf (b2.map Value.bool).toArray n2), (p3, W.listOf (b3.map Value.bool).toArray n3), (c1, oK), (c2, oB), (c3, oY)] ++ own))
    (hk0 : 0 ≤ k0 ∧ k0 < 16) (hk1 : 0 ≤ k1 ∧ k1 < 16) (hk2 : 0 ≤ k2 ∧ k2 < 16) (hk3 : 0 ≤ k3 ∧ k3 < 16) (hbb : bb.length = 12) (hb1 : b1.length = 12) (hb2 : b2.length = 12) (hb3 : b3.length = 12)
    (hnd : [d, aK, aB, aY, p0, p1, p2, p3, c1, c2, c3].Nodup) (hsa : ∀ a ∈ [d, aK, aB, aY, p0, p1, p2, p3, c1, c2, c3], ∀ q ∈ own, a ≠ q.1) : EndG h₀ L (LawJ aK aB aY c1 c2 c3 oK oB oY M0) own s₁ { s₁ with heap := h', toks := tk } := by
  obtain ⟨nd, sa⟩ := swap_of (l2 := [aK, aB, aY, d, p1, p2, p3, c1, c2, c3]) (l1 := [d, aK, aB, aY, p1, p2, p3, c1, c2, c3]) (List.perm_iff_count.mpr fun w => by (simp only [List.count_cons, List.count_nil]; ac_rfl)) (.cons_cons _ (.cons_cons _ (.cons_cons _ (.cons_cons _ (.cons _ (.refl _)))))) hnd hsa
  have NL : News h₀ L h' (LawLed aK aB aY c1 c2 c3 oK oB oY k0 k1 k2 k3 t0 t1 t2 t3 d p1 p2 p3 bb b1 b2 b3 cc n1 n2 n3 y0 y1 y2 y3 u0 u1 u2 u3 nK nB nY ++ own) := by
    refine List.forall_mem_cons.mpr ⟨N _ (.tail _ (.head _)), ?_⟩
    refine List.forall_mem_cons.mpr ⟨N _ (.tail _ (.tail _ (.head _))), ?_⟩
    refine List.forall_mem_cons.mpr ⟨N _ (.tail _ (.tail _ (.tail _ (.head _)))), ?_⟩
    refine List.forall_mem_cons.mpr ⟨N _ (.head _), ?_⟩
    refine List.forall_mem_cons.mpr ⟨N _ (.tail _ (.tail _ (.tail _ (.tail _ (.tail _ (.head _)))))), ?_⟩
    refine List.forall_mem_cons.mpr ⟨N _ (.tail _ (.tail _ (.tail _ (.tail _ (.tail _ (.tail _ (.head _))))))), ?_⟩
    refine List.forall_mem_cons.mpr ⟨N _ (.tail _ (.tail _ (.tail _ (.tail _ (.tail _ (.tail _ (.tail _ (.head _)))))))), ?_⟩
    refine List.forall_mem_cons.mpr ⟨N _ (.tail _ (.tail _ (.tail _ (.tail _ (.tail _ (.tail _ (.tail _ (.tail _ (.head _))))))))), ?_⟩
    refine List.forall_mem_cons.mpr ⟨N _ (.tail _ (.tail _ (.tail _ (.tail _ (.tail _ (.tail _ (.tail _ (.tail _ (.tail _ (.head _)))))))))), ?_⟩
    refine List.forall_mem_cons.mpr ⟨N _ (.tail _ (.tail _ (.tail _ (.tail _ (.tail _ (.tail _ (.tail _ (.tail _ (.tail _ (.tail _ (.head _))))))))))), ?_⟩
    exact fun p hp => N p (.tail _ (.tail _ (.tail _ (.tail _ (.tail _ (.tail _ (.tail _ (.tail _ (.tail _ (.tail _ (.tail _ hp)))))))))))
  exact law_end F hm NL ⟨hk0, hk1, hk2, hk3, hbb, hb1, hb2, hb3, nd⟩ sa
theorem law_copy1 {h₀ : Heap} {L : Addr} {m' M0 : Str → Option Value} {h' : Heap} {tk : Nat} {own : List (Addr × Obj)} {s₁ : Shared} {aK aB aY c1 c2 c3 d : Addr} {oK oB oY oP : Obj} {k0 k1 k2 k3 : Int} {t0 t1 t2 t3 : Tok} {p0 p1 p2 p3 : Addr} {b0 b2 b3 bb : List Bool} {n0 n2 n3 cc : Nat} {y0 y1 y2 y3 : Int} {u0 u1 u2 u3 : Tok} {nK nB nY : Nat}
    (F : Fr h₀ L h' m') (hm : Off lwNS M0 m')
    (N : News h₀ L h' ([(d, W.listOf (bb.map Value.bool).toArray cc), (aK, W.listOf [.int k0 t0, .int k1 t1, .int k2 t2, .int k3 t3].toArray nK), (aB, W.listOf [.ref p0, .ref d, .ref p2, .ref p3].toArray nB), (aY, W.listOf [.int y0 u0, .int y1 u1, .int y2 u2, .int y3 u3].toArray nY), (p0, W.listOf (b0.map Value.bool).toArray n0), (p1, oP), (p2, W.listOf (b2.map Value.bool).toArray n2), (p3, W.listOf (b3.map Value.bool).toArray n3), (c1, oK), (c2, oB), (c3, oY)] ++ own))
    (hk0 : 0 ≤ k0 ∧ k0 < 16) (hk1 : 0 ≤ k1 ∧ k1 < 16) (hk2 : 0 ≤ k2 ∧ k2 < 16) (hk3 : 0 ≤ k3 ∧ k3 < 16) (hb0 : b0.length = 12) (hbb : bb.length = 12) (hb2 : b2.length = 12) (hb3 : b3.length = 12)
    (hnd : [d, aK, aB, aY, p0, p1, p2, p3, c1, c2, c3].Nodup) (hsa : ∀ a ∈ [d, aK, aB, aY, p0, p1, p2, p3, c1, c2, c3], ∀ q ∈ own, a ≠ q.1) : EndG h₀ L (LawJ aK aB aY c1 c2 c3 oK oB oY M0) own s₁ { s₁ with heap := h', toks := tk } := by
  obtain ⟨nd, sa⟩ := swap_of (l2 := [aK, aB, aY, p0, d, p2, p3, c1, c2, c3]) (l1 := [d, aK, aB, aY, p0, p2, p3, c1, c2, c3]) (List.perm_iff_count.mpr fun w => by (simp only [List.count_cons, List.count_nil]; ac_rfl)) (.cons_cons _ (.cons_cons _ (.cons_cons _ (.cons_cons _ (.cons_cons _ (.cons _ (.refl _))))))) hnd hsa
  have NL : News h₀ L h' (LawLed aK aB aY c1 c2 c3 oK oB oY k0 k1 k2 k3 t0 t1 t2 t3 p0 d p2 p3 b0 bb b2 b3 n0 cc n2 n3 y0 y1 y2 y3 u0 u1 u2 u3 nK nB nY ++ own) := by
    refine List.forall_mem_cons.mpr ⟨N _ (.tail _ (.head _)), ?_⟩
    refine List.forall_mem_cons.mpr ⟨N _ (.tail _ (.tail _ (.head _))), ?_⟩
    refine List.forall_mem_cons.mpr ⟨N _ (.tail _ (.tail _ (.tail _ (.head _)))), ?_⟩
    refine List.forall_mem_cons.mpr ⟨N _ (.tail _ (.tail _ (.tail _ (.tail _ (.head _))))), ?_⟩
    refine List.forall_mem_cons.mpr ⟨N _ (.head _), ?_⟩
    refine List.forall_mem_cons.mpr ⟨N _ (.tail _ (.tail _ (.tail _ (.tail _ (.tail _ (.tail _ (.head _))))))), ?_⟩
    refine List.forall_mem_cons.mpr ⟨N _ (.tail _ (.tail _ (.tail _ (.tail _ (.tail _ (.tail _ (.tail _ (.head _)))))))), ?_⟩
    refine List.forall_mem_cons.mpr ⟨N _ (.tail _ (.tail _ (.tail _ (.tail _ (.tail _ (.tail _ (.tail _ (.tail _ (.head _))))))))), ?_⟩
    refine List.forall_mem_cons.mpr ⟨N _ (.tail _ (.tail _ (.tail _ (.tail _ (.tail _ (.tail _ (.tail _ (.tail _ (.tail _ (.head _)))))))))), ?_⟩
    refine List.forall_mem_cons.mpr ⟨N _ (.tail _ (.tail _ (.tail _ (.tail _ (.tail _ (.tail _ (.tail _ (.tail _ (.tail _ (.tail _ (.head _))))))))))), ?_⟩
    exact fun p hp => N p (.tail _ (.tail _ (.tail _ (.tail _ (.tail _ (.tail _ (.tail _ (.tail _ (.tail _ (.tail _ (.tail _ hp)))))))))))
  exact law_end F hm NL ⟨hk0, hk1, hk2, hk3, hb0, hbb, hb2, hb3, nd⟩ sa
theorem law_copy2 {h₀ : Heap} {L : Addr} {m' M0 : Str → Option Value} {h' : Heap} {tk : Nat} {own : List (Addr × Obj)} {s₁ : Shared} {aK aB aY c1 c2 c3 d : Addr} {oK oB oY oP : Obj} {k0 k1 k2 k3 : Int} {t0 t1 t2 t3 : Tok} {p0 p1 p2 p3 : Addr} {b0 b1 b3 bb : List Bool} {n0 n1 n3 cc : Nat} {y0 y1 y2 y3 : Int} {u0 u1 u2 u3 : Tok} {nK nB nY : Nat}
    (F : Fr h₀ L h' m') (hm : Off lwNS M0 m')
    (N : News h₀ L h' ([(d, W.listOf (bb.map Value.bool).toArray cc), (aK, W.listOf [.int k0 t0, .int k1 t1, .int k2 t2, .int k3 t3].toArray nK), (aB, W.listOf [.ref p0, .ref p1, .ref d, .ref p3].toArray nB), (aY, W.listOf [.int y0 u0, .int y1 u1, .int y2 u2, .int y3 u3].toArray nY), (p0, W.listOf (b0.map Value.bool).toArray n0), (p1, W.listOf (b1.map Value.bool).toArray n1), (p2, oP), (p3, W.listOf (b3.map Value.bool).toArray n3), (c1, oK), (c2, oB), (c3, oY)] ++ own))
    (hk0 : 0 ≤ k0 ∧ k0 < 16) (hk1 : 0 ≤ k1 ∧ k1 < 16) (hk2 : 0 ≤ k2 ∧ k2 < 16) (hk3 : 0 ≤ k3 ∧ k3 < 16) (hb0 : b0.length = 12) (hb1 : b1.length = 12) (hbb : bb.length = 12) (hb3 : b3.length = 12)
    (hnd : [d, aK, aB, aY, p0, p1, p2, p3, c1, c2, c3].Nodup) (hsa : ∀ a ∈ [d, aK, aB, aY, p0, p1, p2, p3, c1, c2, c3], ∀ q ∈ own, a ≠ q.1) : EndG h₀ L (LawJ aK aB aY c1 c2 c3 oK oB oY M0) own s₁ { s₁ with heap := h', toks := tk } := by
  obtain ⟨nd, sa⟩ := swap_of (l2 := [aK, aB, aY, p0, p1, d, p3, c1, c2, c3]) (l1 := [d, aK, aB, aY, p0, p1, p3, c1, c2, c3]) (List.perm_iff_count.mpr fun w => by (simp only [List.count_cons, List.count_nil]; ac_rfl)) (.cons_cons _ (.cons_cons _ (.cons_cons _ (.cons_cons _ (.cons_cons _ (.cons_cons _ (.cons _ (.refl _)))))))) hnd hsa
  have NL : News h₀ L h' (LawLed aK aB aY c1 c2 c3 oK oB oY k0 k1 k2 k3 t0 t1 t2 t3 p0 p1 d p3 b0 b1 bb b3 n0 n1 cc n3 y0 y1 y2 y3 u0 u1 u2 u3 nK nB nY ++ own) := by
    refine List.forall_mem_cons.mpr ⟨N _ (.tail _ (.head _)), ?_⟩
    refine List.forall_mem_cons.mpr ⟨N _ (.tail _ (.tail _ (.head _))), ?_⟩
    refine List.forall_mem_cons.mpr ⟨N _ (.tail _ (.tail _ (.tail _ (.head _)))), ?_⟩
    refine List.forall_mem_cons.mpr ⟨N _ (.tail _ (.tail _ (.tail _ (.tail _ (.head _))))), ?_⟩
    refine List.forall_mem_cons.mpr ⟨N _ (.tail _ (.tail _ (.tail _ (.tail _ (.tail _ (.head _)))))), ?_⟩
    refine List.forall_mem_cons.mpr ⟨N _ (.head _), ?_⟩
    refine List.forall_mem_cons.mpr ⟨N _ (.tail _ (.tail _ (.tail _ (.tail _ (.tail _ (.tail _ (.tail _ (.head _)))))))), ?_⟩
    refine List.forall_mem_cons.mpr ⟨N _ (.tail _ (.tail _ (.tail _ (.tail _ (.tail _ (.tail _ (.tail _ (.tail _ (.head _))))))))), ?_⟩
    refine List.forall_mem_cons.mpr ⟨N _ (.tail _ (.tail _ (.tail _ (.tail _ (.tail _ (.tail _ (.tail _ (.tail _ (.tail _ (.head _)))))))))), ?_⟩
    refine List.forall_mem_cons.mpr ⟨N _ (.tail _ (.tail _ (.tail _ (.tail _ (.tail _ (.tail _ (.tail _ (.tail _ (.tail _ (.tail _ (.head _))))))))))), ?_⟩
    exact fun p hp => N p (.tail _ (.tail _ (.tail _ (.tail _ (.tail _ (.tail _ (.tail _ (.tail _ (.tail _ (.tail _ (.tail _ hp)))))))))))
  exact law_end F hm NL ⟨hk0, hk1, hk2, hk3, hb0, hb1, hbb, hb3, nd⟩ sa
theorem law_copy3 {h₀ : Heap} {L : Addr} {m' M0 : Str → Option Value} {h' : Heap} {tk : Nat} {own : List (Addr × Obj)} {s₁ : Shared} {aK aB aY c1 c2 c3 d : Addr} {oK oB oY oP : Obj} {k0 k1 k2 k3 : Int} {t0 t1 t2 t3 : Tok} {p0 p1 p2 p3 : Addr} {b0 b1 b2 bb : List Bool} {n0 n1 n2 cc : Nat} {y0 y1 y2 y3 : Int} {u0 u1 u2 u3 : Tok} {nK nB nY : Nat}
    (F : Fr h₀ L h' m') (hm : Off lwNS M0 m')
    (N : News h₀ L h' ([(d, W.listOf (bb.map Value.bool).toArray cc), (aK, W.listOf [.int k0 t0, .int k1 t1, .int k2 t2, .int k3 t3].toArray nK), (aB, W.listOf [.ref p0, .ref p1, .ref p2, .ref d].toArray nB), (aY, W.listOf [.int y0 u0, .int y1 u1, .int y2 u2, .int y3 u3].toArray nY), (p0, W.listOf (b0.map Value.bool).toArray n0), (p1, W.listOf (b1.map Value.bool).toArray n1), (p2, W.listOf (b2.map Value.bool).toArray n2), (p3, oP), (c1, oK), (c2, oB), (c3, oY)] ++ own))
    (hk0 : 0 ≤ k0 ∧ k0 < 16) (hk1 : 0 ≤ k1 ∧ k1 < 16) (hk2 : 0 ≤ k2 ∧ k2 < 16) (hk3 : 0 ≤ k3 ∧ k3 < 16) (hb0 : b0.length = 12) (hb1 : b1.length = 12) (hb2 : b2.length = 12) (hbb : bb.length = 12)
    (hnd : [d, aK, aB, aY, p0, p1, p2, p3, c1, c2, c3].Nodup) (hsa : ∀ a ∈ [d, aK, aB, aY, p0, p1, p2, p3, c1, c2, c3], ∀ q ∈ own, a ≠ q.1) : EndG h₀ L (LawJ aK aB aY c1 c2 c3 oK oB oY M0) own s₁ { s₁ with heap := h', toks := tk } := by
  obtain ⟨nd, sa⟩ := swap_of (l2 := [aK, aB, aY, p0, p1, p2, d, c1, c2, c3]) (l1 := [d, aK, aB, aY, p0, p1, p2, c1, c2, c3]) (List.perm_iff_count.mpr fun w => by (simp only [List.count_cons, List.count_nil]; ac_rfl)) (.cons_cons _ (.cons_cons _ (.cons_cons _ (.cons_cons _ (.cons_cons _ (.cons_cons _ (.cons_cons _ (.cons _ (.refl _))))))))) hnd hsa
  have NL : News h₀ L h' (LawLed aK aB aY c1 c2 c3 oK oB oY k0 k1 k2 k3 t0 t1 t2 t3 p0 p1 p2 d b0 b1 b2 bb n0 n1 n2 cc y0 y1 y2 y3 u0 u1 u2 u3 nK nB nY ++ own) := by
    refine List.forall_mem_cons.mpr ⟨N _ (.tail _ (.head _)), ?_⟩
    refine List.forall_mem_cons.mpr ⟨N _ (.tail _ (.tail _ (.head _))), ?_⟩
    refine List.forall_mem_cons.mpr ⟨N _ (.tail _ (.tail _ (.tail _ (.head _)))), ?_⟩
    refine List.forall_mem_cons.mpr ⟨N _ (.tail _ (.tail _ (.tail _ (.tail _ (.head _))))), ?_⟩
    refine List.forall_mem_cons.mpr ⟨N _ (.tail _ (.tail _ (.tail _ (.tail _ (.tail _ (.head _)))))), ?_⟩
    refine List.forall_mem_cons.mpr ⟨N _ (.tail _ (.tail _ (.tail _ (.tail _ (.tail _ (.tail _ (.head _))))))), ?_⟩
    refine List.forall_mem_cons.mpr ⟨N _ (.head _), ?_⟩
    refine List.forall_mem_cons.mpr ⟨N _ (.tail _ (.tail _ (.tail _ (.tail _ (.tail _ (.tail _ (.tail _ (.tail _ (.head _))))))))), ?_⟩
    refine List.forall_mem_cons.mpr ⟨N _ (.tail _ (.tail _ (.tail _ (.tail _ (.tail _ (.tail _ (.tail _ (.tail _ (.tail _ (.head _)))))))))), ?_⟩
    refine List.forall_mem_cons.mpr ⟨N _ (.tail _ (.tail _ (.tail _ (.tail _ (.tail _ (.tail _ (.tail _ (.tail _ (.tail _ (.tail _ (.head _))))))))))), ?_⟩
    exact fun p hp => N p (.tail _ (.tail _ (.tail _ (.tail _ (.tail _ (.tail _ (.tail _ (.tail _ (.tail _ (.tail _ (.tail _ hp)))))))))))
  exact law_end F hm NL ⟨hk0, hk1, hk2, hk3, hb0, hb1, hb2, hbb, nd⟩ sa
theorem fmod_range (a : Int) {b : Int} (hb : 0 < b) : 0 ≤ a.fmod b ∧ a.fmod b < b := by
  rw [Int.fmod_eq_emod_of_nonneg _ (by omega)]
  exact ⟨Int.emod_nonneg _ (by omega), Int.emod_lt_of_pos _ hb⟩
theorem nd_perm {a b c p0 p1 p2 p3 x y z : Nat} (h : [b, p3, p2, p1, p0, a, z, y, x].Nodup) (h1 : b < c ∧ p3 < c ∧ p2 < c ∧ p1 < c ∧ p0 < c ∧ a < c ∧ z < c ∧ y < c ∧ x < c) : [a, b, c, p0, p1, p2, p3, x, y, z].Nodup := by
  have hp : [a, b, c, p0, p1, p2, p3, x, y, z].Perm (c :: [b, p3, p2, p1, p0, a, z, y, x]) := List.perm_iff_count.mpr fun w => by
    simp only [List.count_cons, List.count_nil]
    ac_rfl
  refine hp.nodup_iff.mpr (List.nodup_cons.mpr ⟨fun hm => ?_, h⟩)
  simp only [List.mem_cons, List.not_mem_nil, or_false] at hm
  omega
theorem at_cases (n : Int) : n.fmod 4 = 0 ∨ n.fmod 4 = 1 ∨ n.fmod 4 = 2 ∨ n.fmod 4 = 3 := by
  have := fmod_range n (b := 4) (by decide)
  omega
theorem law_nd {own : List (Addr × Obj)} {l : List (Addr × Obj)} {as : List Addr} (he : as = l.map (·.1)) (hsep : ∀ p ∈ l, ∀ q ∈ own, p.1 ≠ q.1) : ∀ a ∈ as, ∀ q ∈ own, a ≠ q.1 := by
  intro a ha q hq
  rw [he] at ha
  obtain ⟨p, hp, rfl⟩ := List.mem_map.mp ha
  exact hsep p hp q hq
theorem ints_at : ∀ {vs : List Value} {ns : List Int}, IntsAre vs ns → ∀ {i : Nat} {v : Value}, vs[i]? = some v → ∃ n t, v = .int n t
  | _, _, .nil, _, _, h => by simp at h
  | _, _, .cons n t r, 0, v, h => by
    have e : Value.int n t = v := by simpa using h
    exact ⟨n, t, e.symm⟩
  | _, _, .cons n t r, i + 1, v, h => ints_at r (by simpa using h)
local macro_rules | `(tactic| walk_at "binaryOp Mod int int") => `(tactic| (k_here; (with_reducible show wpAny _ _ (binaryOp Operator.Mod (Value.int _ _) (Value.int _ _)) _ _ _); (refine' mod_fact ?b ?c ?_; (case c => with_reducible assumption); (case b => decide); k_whole)))
local macro_rules | `(tactic| walk_at "subscriptTail Name Name ref int") => `(tactic| (k_here; (with_reducible show wpAny _ _ (subscriptTail _ _ (Value.ref _) (Value.int _ _)) _ _ _); k_dflt (refine' item_bools ?k1 ?k2 ?k3 ?k4 ?k5 ?_ ?k6; (case k1 => k_asm); (case k2 => k_mem); (case k3 => omega); (case k4 => omega); (case k5 => omega); (case k6 => with_unfolding_all rfl); k_whole)))
local macro_rules | `(tactic| walk_at "subscriptTail") => `(tactic| (k_here; (with_reducible show wpAny _ _ (subscriptTail _ _ (Value.ref _) (Value.int _ _)) _ _ _); k_dflt (refine' item_bools ?k1 ?k2 ?k3 ?k4 ?k5 ?_ ?k6; (case k1 => k_asm); (case k2 => k_mem); (case k3 => omega); (case k4 => omega); (case k5 => omega); (case k6 => with_unfolding_all rfl); k_whole)))
local macro_rules | `(tactic| walk_at "subscriptTail") => `(tactic| (k_here; (with_reducible show wpAny _ _ (subscriptTail _ _ (Value.ref _) (Value.int _ _)) _ _ _); k_dflt (refine' item_lit ?k1 ?k2 ?k3 ?k4 ?k5 ?_ ?k6; (case k1 => k_asm); (case k2 => k_mem); (case k3 => decide); (case k4 => decide); (case k5 => rfl); (case k6 => with_unfolding_all rfl); k_whole)))
local macro_rules | `(tactic| walk_at "subscriptTail Name Name ref int") => `(tactic| (k_here; (with_reducible show wpAny _ _ (subscriptTail _ _ (Value.ref _) (Value.int _ _)) _ _ _); k_dflt (refine' item_lit ?k1 ?k2 ?k3 ?k4 ?k5 ?_ ?k6; (case k1 => k_asm); (case k2 => k_mem); (case k3 => decide); (case k4 => decide); (case k5 => rfl); (case k6 => with_unfolding_all rfl); k_whole)))
theorem set_list4 {prog : Program} {w : World} {A : Around} {E : Value → Shared → Prop} {s : Shared} {h₀ : Heap} {L D : Addr} {m : Str → Option Value} {l l' own : List (Addr × Obj)} {as : List Addr} {n : Nat} {k : Int} {t : Tok} {vs : List Value} {v : Value} {Q : Unit → Shared → Prop} (F : Fr h₀ L s.heap m) (N : News h₀ L s.heap l) (hnd : as.Nodup) (hsa : ∀ a ∈ as, ∀ q ∈ own, a ≠ q.1) (he : l.map (·.1) = as ++ own.map (·.1)) (hd : D ∈ as)
    (U : UpdW D (W.listOf vs.toArray n) (W.listOf (vs.set k.toNat v).toArray n) l l') (hl : vs.length = 4) (h0 : 0 ≤ k) (h1 : k < 4)
    (h : ∀ h', Fr h₀ L h' m → News h₀ L h' l' → Q () { s with heap := h' }) : wpAny (model prog w) A (setItem (.ref D) (.int k t) v) Q E s :=
  set_list F N hnd hsa he hd U h0 (by omega) (by omega) h
local macro_rules | `(tactic| walk_at "setItem ref int") => `(tactic| (k_here; (with_reducible show wpAny _ _ (setItem (Value.ref _) (Value.int _ _) _) _ _ _); k_dflt (refine' set_list4 ?F ?N ?nd ?sa ?he ?hd ?U ?hl ?h0 ?h1 ?_; (case F => k_asm); (case N => k_asm); (case nd => with_reducible assumption); (case sa => with_reducible assumption); (case he => exact rfl); (case hd => (repeat (first | (exact List.Mem.head _) | (refine List.Mem.tail _ ?_)))); (case U => (repeat' (first | (with_reducible exact UpdW.head) | (with_reducible refine' UpdW.tail ?_)))); (case hl => exact rfl); (case h0 => decide); (case h1 => decide); k_whole); (intro h9 F9 N9); (try k_sweep)))
local macro_rules | `(tactic| walk_at "setItem ref int") => `(tactic| (k_here; (with_reducible show wpAny _ _ (setItem (Value.ref _) (Value.int _ _) (Value.bool _)) _ _ _); k_dflt (refine' set_bools ?F ?N ?nd ?sa ?he ?hd ?U ?h0 ?h1 ?hf ?_; (case F => k_asm); (case N => k_asm); (case nd => with_reducible assumption); (case sa => with_reducible assumption); (case he => exact rfl); (case hd => (repeat (first | (exact List.Mem.head _) | (refine List.Mem.tail _ ?_)))); (case U => (repeat' (first | (with_reducible exact UpdW.head) | (with_reducible refine' UpdW.tail ?_)))); (case h0 => omega); (case h1 => omega); (case hf => omega); k_whole); (intro h9 F9 N9); (try k_sweep)))
local macro_rules | `(tactic| walk_at "call type:list") => `(tactic| (k_here; (with_reducible show wpAny _ _ (call (Value.type "list") [Value.ref _]) _ _ _); k_dflt (refine' copy_bools ?F ?N ?m ?b ?nd ?sa ?he ?_; (case F => k_asm); (case N => k_asm); (case m => k_mem); (case b => omega); (case nd => with_reducible assumption); (case sa => with_reducible assumption); (case he => exact rfl); k_whole); (intro D9 c9 h9 F9 N9 nd9 sa9); (try k_sweep)))
local macro_rules | `(tactic| walk_at "call ref") => `(tactic| (k_here; k_dflt (refine' Ctr.use (st_call _ _ _ _ _ _ _ _ _ _ _ _ ?m1 ?m2 ?m3 ?m4) ?B ?F ?X ?N ?T ?hk ?hd ?hu ?_; (case B => k_asm); (case F => k_asm); (case X => k_asm); (case N => k_asm); (case T => k_asm); (case m1 => k_mem); (case m2 => first | assumption | (rw [List.length_set]; assumption)); (case m3 => first | assumption | decide | exact (fmod_range _ (by decide)).1); (case m4 => first | assumption | decide | exact (fmod_range _ (by decide)).2); (case hk => first | exact rfl | assumption); (case hd => ktr_room); (case hu => ktr_units); k_whole); (intro r9 h9 tk9 hr9 F9 N9); (subst hr9); (try dsimp only); (try k_fold)))
set_option maxRecDepth 100000 in
set_option maxHeartbeats 16000000 in
theorem cw1 : PySem.Challenge.rw_at0005_01.Holds := Mine.hd (by
  k_go0
  all_goals try k_fold
  k_steps
  unfold Hold
  (rename News _ _ _ _ => N1)
  refine comp_inv (CompJ _) ⟨[], rfl, rfl, rfl, .nil, fun _ h => nomatch h⟩ ?_ ?_
  · rintro i ys nw v I oI C oC D m₂ h tk E' hi ⟨ps, hlen, rfl, hnw, hnd, hlt⟩ ⟨t9, rfl⟩ hC hx F3 N3 ho
    clear N1
    k_steps
    (rename Fr _ _ _ _ => FZ)
    (rename News _ _ _ _ => NZ)
    (rename ∀ p ∈ _, _ < _ => lZ)
    exact comp_end FZ NZ lZ ho hlen hnw hnd hlt
  · rintro ys nw ⟨ps, hlen, rfl, rfl, hnd, hlt⟩
    unfold LCg.FinE
    intro D h tk F3 N3 ho
    clear N1
    have hND := comp_nodup ho hnd hlt (by (try simp only [List.map_cons, List.map_nil]); exact nodup_base (by omega))
    clear ho hlt hnd
    match ps, hlen with
    | [p0, p1, p2, p3], _ =>
      replace hND : List.Nodup [D, p3, p2, p1, p0, _, _, _, _] := hND
      simp only [List.reverse_cons, List.reverse_nil, List.nil_append, List.cons_append, List.map_cons, List.map_nil] at N3
      dsimp only at hND
      k_steps
      (rename Fr _ _ _ _ => F1)
      (rename News _ _ _ _ => N1)
      rename_i aK hK0 ltK hbK oK dK tkK hr0 tkr rt0 rt1 rt2 rt3 rt4 rt5 rt6 rt7 rt8 oB dB tkB lZ hZ ltZ aY hY i1 n1 s1 e1 e2 e3 ltY hoY oY dY dS ws hS hI hC hL ltS
      rename PySem.Shared => sh
      obtain ⟨M0, F2⟩ : ∃ M0, Fr sh.heap sh.heap.objs.size hS M0 := ⟨_, F1⟩
      have hK0 := N1 _ (.tail _ (.tail _ (.tail _ (.tail _ (.tail _ (.tail _ (.tail _ (.tail _ (.head _)))))))))
      obtain ⟨v0, v1, v2, v3, hK1⟩ : ∃ v0 v1 v2 v3, hS.get? aK = some (W.listOf [.int 8 v0, .int 4 v1, .int 10 v2, .int 15 v3].toArray 0) ∧ aK ≠ sh.heap.objs.size ∧ sh.heap.get? aK = none := ⟨_, _, _, _, hK0⟩
      have NL : News sh.heap sh.heap.objs.size hS (LawLed aK D aY (sh.heap.objs.size + 1) (sh.heap.objs.size + 1 + 1) (sh.heap.objs.size + 1 + 1 + 1) oK oB oY 8 4 10 15 v0 v1 v2 v3 p0 p1 p2 p3 (List.replicate 12 false) (List.replicate 12 false) (List.replicate 12 false) (List.replicate 12 false) 0 0 0 0 0 0 0 0 tkB tkB tkB tkB 0 4 0) := by
        refine List.forall_mem_cons.mpr ⟨hK1, ?_⟩
        refine List.forall_mem_cons.mpr ⟨N1 _ (.tail _ (.tail _ (.tail _ (.head _)))), ?_⟩
        refine List.forall_mem_cons.mpr ⟨N1 _ (.tail _ (.head _)), ?_⟩
        refine List.forall_mem_cons.mpr ⟨N1 _ (.tail _ (.tail _ (.tail _ (.tail _ (.tail _ (.tail _ (.tail _ (.head _)))))))), ?_⟩
        refine List.forall_mem_cons.mpr ⟨N1 _ (.tail _ (.tail _ (.tail _ (.tail _ (.tail _ (.tail _ (.head _))))))), ?_⟩
        refine List.forall_mem_cons.mpr ⟨N1 _ (.tail _ (.tail _ (.tail _ (.tail _ (.tail _ (.head _)))))), ?_⟩
        refine List.forall_mem_cons.mpr ⟨N1 _ (.tail _ (.tail _ (.tail _ (.tail _ (.head _))))), ?_⟩
        refine List.forall_mem_cons.mpr ⟨N1 _ (.tail _ (.tail _ (.tail _ (.tail _ (.tail _ (.tail _ (.tail _ (.tail _ (.tail _ (.tail _ (.tail _ (.head _)))))))))))), ?_⟩
        refine List.forall_mem_cons.mpr ⟨N1 _ (.tail _ (.tail _ (.tail _ (.tail _ (.tail _ (.tail _ (.tail _ (.tail _ (.tail _ (.tail _ (.head _))))))))))), ?_⟩
        exact List.forall_mem_cons.mpr ⟨N1 _ (.tail _ (.tail _ (.tail _ (.tail _ (.tail _ (.tail _ (.tail _ (.tail _ (.tail _ (.head _)))))))))), fun _ h => nomatch h⟩
      have hNd := nd_perm (c := aY) hND (by omega)
      have hdS := N1 _ (.head _)
      have hlow : ∀ a ∈ [aK, D, aY, p0, p1, p2, p3, sh.heap.objs.size + 1, sh.heap.objs.size + 1 + 1, sh.heap.objs.size + 1 + 1 + 1], a ≠ dS := by
        intro a ha
        simp only [List.mem_cons, List.not_mem_nil, or_false] at ha
        rcases ha with rfl | rfl | rfl | rfl | rfl | rfl | rfl | rfl | rfl | rfl <;> exact Nat.ne_of_lt (by omega)
      clear ltK ltZ ltY ltS i1 n1 s1 e1 e2 e3 hND F1 N1
      unfold Hold
      refine list_inv (l := dS) (vs := ws) (fun _ => LawJ aK D aY (sh.heap.objs.size + 1) (sh.heap.objs.size + 1 + 1) (sh.heap.objs.size + 1 + 1 + 1) oK oB oY M0) rfl ⟨_, hdS.1, rfl, _, rfl⟩ (Ne.symm hdS.2.1) (fun p hp => hlow p.1 (List.mem_map.mpr ⟨p, hp, rfl⟩)) F2 NL
        ⟨8, 4, 10, 15, _, _, _, _, p0, p1, p2, p3, _, _, _, _, 0, 0, 0, 0, 0, 0, 0, 0, _, _, _, _, 0, 4, 0, Off.refl, rfl, ⟨by decide, by decide, by decide, by decide, rfl, rfl, rfl, rfl, hNd⟩⟩ ?_ ?_
      · rintro i v m₁ news₁ h' tk' own hv ⟨k0, k1, k2, k3, t0, t1, t2, t3, q0, q1, q2, q3, b0, b1, b2, b3, n0, n1, n2, n3, y0, y1, y2, y3, u0, u1, u2, u3, nK, nB, nY, hm1, rfl, ⟨⟨hk0, hk0'⟩, ⟨hk1, hk1'⟩, ⟨hk2, hk2'⟩, ⟨hk3, hk3'⟩, hb0, hb1, hb2, hb3, hnd⟩⟩ hsep F3 N3
        obtain ⟨n, tn, rfl⟩ := ints_at hI hv
        rw [hm1.eq] at F3
        clear hm1 F2 NL hNd hlow hdS
        have hsa := law_nd (as := [aK, D, aY, q0, q1, q2, q3, sh.heap.objs.size + 1, sh.heap.objs.size + 1 + 1, sh.heap.objs.size + 1 + 1 + 1]) rfl hsep
        clear hsep
        simp only [LawLed, List.cons_append, List.nil_append] at N3
        have hw := fmod_range (n.fdiv 4) (b := 16) (by decide)
        generalize hwe : (n.fdiv 4).fmod 16 = wv at hw
        obtain ⟨hw0, hw16⟩ := hw
        rcases at_cases n with hat | hat | hat | hat
        · k_steps
          all_goals rename Fr _ _ _ _ => FZ
          all_goals rename News _ _ _ _ => NZ
          · exact law_end FZ (Off.set (by decide) (Off.set (by decide) (Off.set (by decide) (Off.set (by decide) Off.offN)))) NZ ⟨by (first | exact ⟨by assumption, by assumption⟩ | exact fmod_range _ (by decide)), by (first | exact ⟨by assumption, by assumption⟩ | exact fmod_range _ (by decide)), by (first | exact ⟨by assumption, by assumption⟩ | exact fmod_range _ (by decide)), by (first | exact ⟨by assumption, by assumption⟩ | exact fmod_range _ (by decide)), by (first | assumption | (rw [List.length_set]; assumption)), by (first | assumption | (rw [List.length_set]; assumption)), by (first | assumption | (rw [List.length_set]; assumption)), by (first | assumption | (rw [List.length_set]; assumption)), hnd⟩ hsa
          · exact law_end FZ (Off.set (by decide) (Off.set (by decide) (Off.set (by decide) (Off.set (by decide) Off.offN)))) NZ ⟨by (first | exact ⟨by assumption, by assumption⟩ | exact fmod_range _ (by decide)), by (first | exact ⟨by assumption, by assumption⟩ | exact fmod_range _ (by decide)), by (first | exact ⟨by assumption, by assumption⟩ | exact fmod_range _ (by decide)), by (first | exact ⟨by assumption, by assumption⟩ | exact fmod_range _ (by decide)), by (first | assumption | (rw [List.length_set]; assumption)), by (first | assumption | (rw [List.length_set]; assumption)), by (first | assumption | (rw [List.length_set]; assumption)), by (first | assumption | (rw [List.length_set]; assumption)), hnd⟩ hsa
          · exact law_end FZ (Off.set (by decide) (Off.set (by decide) (Off.set (by decide) (Off.set (by decide) Off.offN)))) NZ ⟨by (first | exact ⟨by assumption, by assumption⟩ | exact fmod_range _ (by decide)), by (first | exact ⟨by assumption, by assumption⟩ | exact fmod_range _ (by decide)), by (first | exact ⟨by assumption, by assumption⟩ | exact fmod_range _ (by decide)), by (first | exact ⟨by assumption, by assumption⟩ | exact fmod_range _ (by decide)), by (first | assumption | (rw [List.length_set]; assumption)), by (first | assumption | (rw [List.length_set]; assumption)), by (first | assumption | (rw [List.length_set]; assumption)), by (first | assumption | (rw [List.length_set]; assumption)), hnd⟩ hsa
          · exact law_end FZ (Off.set (by decide) (Off.set (by decide) (Off.set (by decide) (Off.set (by decide) Off.offN)))) NZ ⟨by (first | exact ⟨by assumption, by assumption⟩ | exact fmod_range _ (by decide)), by (first | exact ⟨by assumption, by assumption⟩ | exact fmod_range _ (by decide)), by (first | exact ⟨by assumption, by assumption⟩ | exact fmod_range _ (by decide)), by (first | exact ⟨by assumption, by assumption⟩ | exact fmod_range _ (by decide)), by (first | assumption | (rw [List.length_set]; assumption)), by (first | assumption | (rw [List.length_set]; assumption)), by (first | assumption | (rw [List.length_set]; assumption)), by (first | assumption | (rw [List.length_set]; assumption)), hnd⟩ hsa
          · exact law_copy0 FZ (Off.set (by decide) (Off.set (by decide) (Off.set (by decide) (Off.set (by decide) Off.offN)))) NZ (by (first | exact ⟨by assumption, by assumption⟩ | exact fmod_range _ (by decide))) (by (first | exact ⟨by assumption, by assumption⟩ | exact fmod_range _ (by decide))) (by (first | exact ⟨by assumption, by assumption⟩ | exact fmod_range _ (by decide))) (by (first | exact ⟨by assumption, by assumption⟩ | exact fmod_range _ (by decide))) (by (first | assumption | (rw [List.length_set]; assumption))) (by (first | assumption | (rw [List.length_set]; assumption))) (by (first | assumption | (rw [List.length_set]; assumption))) (by (first | assumption | (rw [List.length_set]; assumption))) (by assumption) (by assumption)
        · k_steps
          all_goals rename Fr _ _ _ _ => FZ
          all_goals rename News _ _ _ _ => NZ
          · exact law_end FZ (Off.set (by decide) (Off.set (by decide) (Off.set (by decide) (Off.set (by decide) Off.offN)))) NZ ⟨by (first | exact ⟨by assumption, by assumption⟩ | exact fmod_range _ (by decide)), by (first | exact ⟨by assumption, by assumption⟩ | exact fmod_range _ (by decide)), by (first | exact ⟨by assumption, by assumption⟩ | exact fmod_range _ (by decide)), by (first | exact ⟨by assumption, by assumption⟩ | exact fmod_range _ (by decide)), by (first | assumption | (rw [List.length_set]; assumption)), by (first | assumption | (rw [List.length_set]; assumption)), by (first | assumption | (rw [List.length_set]; assumption)), by (first | assumption | (rw [List.length_set]; assumption)), hnd⟩ hsa
          · exact law_end FZ (Off.set (by decide) (Off.set (by decide) (Off.set (by decide) (Off.set (by decide) Off.offN)))) NZ ⟨by (first | exact ⟨by assumption, by assumption⟩ | exact fmod_range _ (by decide)), by (first | exact ⟨by assumption, by assumption⟩ | exact fmod_range _ (by decide)), by (first | exact ⟨by assumption, by assumption⟩ | exact fmod_range _ (by decide)), by (first | exact ⟨by assumption, by assumption⟩ | exact fmod_range _ (by decide)), by (first | assumption | (rw [List.length_set]; assumption)), by (first | assumption | (rw [List.length_set]; assumption)), by (first | assumption | (rw [List.length_set]; assumption)), by (first | assumption | (rw [List.length_set]; assumption)), hnd⟩ hsa
          · exact law_end FZ (Off.set (by decide) (Off.set (by decide) (Off.set (by decide) (Off.set (by decide) Off.offN)))) NZ ⟨by (first | exact ⟨by assumption, by assumption⟩ | exact fmod_range _ (by decide)), by (first | exact ⟨by assumption, by assumption⟩ | exact fmod_range _ (by decide)), by (first | exact ⟨by assumption, by assumption⟩ | exact fmod_range _ (by decide)), by (first | exact ⟨by assumption, by assumption⟩ | exact fmod_range _ (by decide)), by (first | assumption | (rw [List.length_set]; assumption)), by (first | assumption | (rw [List.length_set]; assumption)), by (first | assumption | (rw [List.length_set]; assumption)), by (first | assumption | (rw [List.length_set]; assumption)), hnd⟩ hsa
          · exact law_end FZ (Off.set (by decide) (Off.set (by decide) (Off.set (by decide) (Off.set (by decide) Off.offN)))) NZ ⟨by (first | exact ⟨by assumption, by assumption⟩ | exact fmod_range _ (by decide)), by (first | exact ⟨by assumption, by assumption⟩ | exact fmod_range _ (by decide)), by (first | exact ⟨by assumption, by assumption⟩ | exact fmod_range _ (by decide)), by (first | exact ⟨by assumption, by assumption⟩ | exact fmod_range _ (by decide)), by (first | assumption | (rw [List.length_set]; assumption)), by (first | assumption | (rw [List.length_set]; assumption)), by (first | assumption | (rw [List.length_set]; assumption)), by (first | assumption | (rw [List.length_set]; assumption)), hnd⟩ hsa
          · exact law_copy1 FZ (Off.set (by decide) (Off.set (by decide) (Off.set (by decide) (Off.set (by decide) Off.offN)))) NZ (by (first | exact ⟨by assumption, by assumption⟩ | exact fmod_range _ (by decide))) (by (first | exact ⟨by assumption, by assumption⟩ | exact fmod_range _ (by decide))) (by (first | exact ⟨by assumption, by assumption⟩ | exact fmod_range _ (by decide))) (by (first | exact ⟨by assumption, by assumption⟩ | exact fmod_range _ (by decide))) (by (first | assumption | (rw [List.length_set]; assumption))) (by (first | assumption | (rw [List.length_set]; assumption))) (by (first | assumption | (rw [List.length_set]; assumption))) (by (first | assumption | (rw [List.length_set]; assumption))) (by assumption) (by assumption)
        · k_steps
          all_goals rename Fr _ _ _ _ => FZ
          all_goals rename News _ _ _ _ => NZ
          · exact law_end FZ (Off.set (by decide) (Off.set (by decide) (Off.set (by decide) (Off.set (by decide) Off.offN)))) NZ ⟨by (first | exact ⟨by assumption, by assumption⟩ | exact fmod_range _ (by decide)), by (first | exact ⟨by assumption, by assumption⟩ | exact fmod_range _ (by decide)), by (first | exact ⟨by assumption, by assumption⟩ | exact fmod_range _ (by decide)), by (first | exact ⟨by assumption, by assumption⟩ | exact fmod_range _ (by decide)), by (first | assumption | (rw [List.length_set]; assumption)), by (first | assumption | (rw [List.length_set]; assumption)), by (first | assumption | (rw [List.length_set]; assumption)), by (first | assumption | (rw [List.length_set]; assumption)), hnd⟩ hsa
          · exact law_end FZ (Off.set (by decide) (Off.set (by decide) (Off.set (by decide) (Off.set (by decide) Off.offN)))) NZ ⟨by (first | exact ⟨by assumption, by assumption⟩ | exact fmod_range _ (by decide)), by (first | exact ⟨by assumption, by assumption⟩ | exact fmod_range _ (by decide)), by (first | exact ⟨by assumption, by assumption⟩ | exact fmod_range _ (by decide)), by (first | exact ⟨by assumption, by assumption⟩ | exact fmod_range _ (by decide)), by (first | assumption | (rw [List.length_set]; assumption)), by (first | assumption | (rw [List.length_set]; assumption)), by (first | assumption | (rw [List.length_set]; assumption)), by (first | assumption | (rw [List.length_set]; assumption)), hnd⟩ hsa
          · exact law_end FZ (Off.set (by decide) (Off.set (by decide) (Off.set (by decide) (Off.set (by decide) Off.offN)))) NZ ⟨by (first | exact ⟨by assumption, by assumption⟩ | exact fmod_range _ (by decide)), by (first | exact ⟨by assumption, by assumption⟩ | exact fmod_range _ (by decide)), by (first | exact ⟨by assumption, by assumption⟩ | exact fmod_range _ (by decide)), by (first | exact ⟨by assumption, by assumption⟩ | exact fmod_range _ (by decide)), by (first | assumption | (rw [List.length_set]; assumption)), by (first | assumption | (rw [List.length_set]; assumption)), by (first | assumption | (rw [List.length_set]; assumption)), by (first | assumption | (rw [List.length_set]; assumption)), hnd⟩ hsa
          · exact law_end FZ (Off.set (by decide) (Off.set (by decide) (Off.set (by decide) (Off.set (by decide) Off.offN)))) NZ ⟨by (first | exact ⟨by assumption, by assumption⟩ | exact fmod_range _ (by decide)), by (first | exact ⟨by assumption, by assumption⟩ | exact fmod_range _ (by decide)), by (first | exact ⟨by assumption, by assumption⟩ | exact fmod_range _ (by decide)), by (first | exact ⟨by assumption, by assumption⟩ | exact fmod_range _ (by decide)), by (first | assumption | (rw [List.length_set]; assumption)), by (first | assumption | (rw [List.length_set]; assumption)), by (first | assumption | (rw [List.length_set]; assumption)), by (first | assumption | (rw [List.length_set]; assumption)), hnd⟩ hsa
          · exact law_copy2 FZ (Off.set (by decide) (Off.set (by decide) (Off.set (by decide) (Off.set (by decide) Off.offN)))) NZ (by (first | exact ⟨by assumption, by assumption⟩ | exact fmod_range _ (by decide))) (by (first | exact ⟨by assumption, by assumption⟩ | exact fmod_range _ (by decide))) (by (first | exact ⟨by assumption, by assumption⟩ | exact fmod_range _ (by decide))) (by (first | exact ⟨by assumption, by assumption⟩ | exact fmod_range _ (by decide))) (by (first | assumption | (rw [List.length_set]; assumption))) (by (first | assumption | (rw [List.length_set]; assumption))) (by (first | assumption | (rw [List.length_set]; assumption))) (by (first | assumption | (rw [List.length_set]; assumption))) (by assumption) (by assumption)
        · k_steps
          all_goals rename Fr _ _ _ _ => FZ
          all_goals rename News _ _ _ _ => NZ
          · exact law_end FZ (Off.set (by decide) (Off.set (by decide) (Off.set (by decide) (Off.set (by decide) Off.offN)))) NZ ⟨by (first | exact ⟨by assumption, by assumption⟩ | exact fmod_range _ (by decide)), by (first | exact ⟨by assumption, by assumption⟩ | exact fmod_range _ (by decide)), by (first | exact ⟨by assumption, by assumption⟩ | exact fmod_range _ (by decide)), by (first | exact ⟨by assumption, by assumption⟩ | exact fmod_range _ (by decide)), by (first | assumption | (rw [List.length_set]; assumption)), by (first | assumption | (rw [List.length_set]; assumption)), by (first | assumption | (rw [List.length_set]; assumption)), by (first | assumption | (rw [List.length_set]; assumption)), hnd⟩ hsa
          · exact law_end FZ (Off.set (by decide) (Off.set (by decide) (Off.set (by decide) (Off.set (by decide) Off.offN)))) NZ ⟨by (first | exact ⟨by assumption, by assumption⟩ | exact fmod_range _ (by decide)), by (first | exact ⟨by assumption, by assumption⟩ | exact fmod_range _ (by decide)), by (first | exact ⟨by assumption, by assumption⟩ | exact fmod_range _ (by decide)), by (first | exact ⟨by assumption, by assumption⟩ | exact fmod_range _ (by decide)), by (first | assumption | (rw [List.length_set]; assumption)), by (first | assumption | (rw [List.length_set]; assumption)), by (first | assumption | (rw [List.length_set]; assumption)), by (first | assumption | (rw [List.length_set]; assumption)), hnd⟩ hsa
          · exact law_end FZ (Off.set (by decide) (Off.set (by decide) (Off.set (by decide) (Off.set (by decide) Off.offN)))) NZ ⟨by (first | exact ⟨by assumption, by assumption⟩ | exact fmod_range _ (by decide)), by (first | exact ⟨by assumption, by assumption⟩ | exact fmod_range _ (by decide)), by (first | exact ⟨by assumption, by assumption⟩ | exact fmod_range _ (by decide)), by (first | exact ⟨by assumption, by assumption⟩ | exact fmod_range _ (by decide)), by (first | assumption | (rw [List.length_set]; assumption)), by (first | assumption | (rw [List.length_set]; assumption)), by (first | assumption | (rw [List.length_set]; assumption)), by (first | assumption | (rw [List.length_set]; assumption)), hnd⟩ hsa
          · exact law_end FZ (Off.set (by decide) (Off.set (by decide) (Off.set (by decide) (Off.set (by decide) Off.offN)))) NZ ⟨by (first | exact ⟨by assumption, by assumption⟩ | exact fmod_range _ (by decide)), by (first | exact ⟨by assumption, by assumption⟩ | exact fmod_range _ (by decide)), by (first | exact ⟨by assumption, by assumption⟩ | exact fmod_range _ (by decide)), by (first | exact ⟨by assumption, by assumption⟩ | exact fmod_range _ (by decide)), by (first | assumption | (rw [List.length_set]; assumption)), by (first | assumption | (rw [List.length_set]; assumption)), by (first | assumption | (rw [List.length_set]; assumption)), by (first | assumption | (rw [List.length_set]; assumption)), hnd⟩ hsa
          · exact law_copy3 FZ (Off.set (by decide) (Off.set (by decide) (Off.set (by decide) (Off.set (by decide) Off.offN)))) NZ (by (first | exact ⟨by assumption, by assumption⟩ | exact fmod_range _ (by decide))) (by (first | exact ⟨by assumption, by assumption⟩ | exact fmod_range _ (by decide))) (by (first | exact ⟨by assumption, by assumption⟩ | exact fmod_range _ (by decide))) (by (first | exact ⟨by assumption, by assumption⟩ | exact fmod_range _ (by decide))) (by (first | assumption | (rw [List.length_set]; assumption))) (by (first | assumption | (rw [List.length_set]; assumption))) (by (first | assumption | (rw [List.length_set]; assumption))) (by (first | assumption | (rw [List.length_set]; assumption))) (by assumption) (by assumption)
      · clear F2 NL hNd hlow hdS
        rintro m₁ news₁ h tk' ⟨k0, k1, k2, k3, t0, t1, t2, t3, q0, q1, q2, q3, b0, b1, b2, b3, n0, n1, n2, n3, y0, y1, y2, y3, u0, u1, u2, u3, nK, nB, nY, hm1, rfl, ⟨⟨hk0, hk0'⟩, ⟨hk1, hk1'⟩, ⟨hk2, hk2'⟩, ⟨hk3, hk3'⟩, hb0, hb1, hb2, hb3, hnd⟩⟩ F3 N3
        rw [hm1.eq] at F3
        clear hm1
        simp only [LawLed] at N3
        k_steps
        unfold Hold
        (rename News _ _ _ _ => N1)
        refine comp_inv (fun i ys nw => ys = List.replicate i (.bool true) ∧ nw = LawLed aK D aY (sh.heap.objs.size + 1) (sh.heap.objs.size + 1 + 1) (sh.heap.objs.size + 1 + 1 + 1) oK oB oY k0 k1 k2 k3 t0 t1 t2 t3 q0 q1 q2 q3 b0 b1 b2 b3 n0 n1 n2 n3 y0 y1 y2 y3 u0 u1 u2 u3 nK nB nY) ⟨rfl, rfl⟩ ?_ ?_
        · rintro i ys nw v I oI C oC D9 m₂ h tk E' hi ⟨rfl, rfl⟩ ⟨t9, rfl⟩ hC hx F4 N4 ho
          clear N1 hnd
          simp only [LawLed] at N4
          obtain rfl | rfl | rfl | rfl : i = 0 ∨ i = 1 ∨ i = 2 ∨ i = 3 := by omega
          · have hx' : m₂ (Str.ofString "k") = some (Value.int 0 t9) := hx
            clear hx
            k_steps
            (rename Fr _ _ _ _ => FZ)
            (rename News _ _ _ _ => NZ)
            exact ⟨_, _, _, rfl, FZ, NZ, ho, trivial, rfl, rfl⟩
          · have hx' : m₂ (Str.ofString "k") = some (Value.int 1 t9) := hx
            clear hx
            k_steps
            (rename Fr _ _ _ _ => FZ)
            (rename News _ _ _ _ => NZ)
            exact ⟨_, _, _, rfl, FZ, NZ, ho, trivial, rfl, rfl⟩
          · have hx' : m₂ (Str.ofString "k") = some (Value.int 2 t9) := hx
            clear hx
            k_steps
            (rename Fr _ _ _ _ => FZ)
            (rename News _ _ _ _ => NZ)
            exact ⟨_, _, _, rfl, FZ, NZ, ho, trivial, rfl, rfl⟩
          · have hx' : m₂ (Str.ofString "k") = some (Value.int 3 t9) := hx
            clear hx
            k_steps
            (rename Fr _ _ _ _ => FZ)
            (rename News _ _ _ _ => NZ)
            exact ⟨_, _, _, rfl, FZ, NZ, ho, trivial, rfl, rfl⟩
        · rintro ys nw ⟨rfl, rfl⟩
          unfold LCg.FinE
          intro D9 h tk F4 N4 ho
          clear N1 hnd
          simp only [LawLed, List.replicate] at N4
          k_steps)
end Mine
end
theorem PySem.Challenge.cw_at0005_01_holds : PySem.Challenge.rw_at0005_01.Holds := by
  exact Mine.cw1
