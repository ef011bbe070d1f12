import PyProof.Rows.All
import Wide.All
import OpenK.AllK
import Wide.FinOn
import KE.KLcPair
import Lean
import PySem.Challenge.RW_rs0052_01
set_option Elab.async false
section
open PySem PySem.W PyProof.Rows
namespace Mine
def CutQ (h₀ : Heap) (L : Addr) (m : Str → Option Value) (news : List (Addr × Obj)) (s : Shared) (P : Value → Prop) (v : Value) (s' : Shared) : Prop :=
  ∃ h' tk', s' = { s with heap := h', toks := tk' } ∧ Fr h₀ L h' m ∧ News h₀ L h' news ∧ P v
theorem cutQ_mk {h₀ : Heap} {L : Addr} {m : Str → Option Value} {news : List (Addr × Obj)} {s : Shared} {P : Value → Prop} {v : Value} {h' : Heap} {tk' : Nat} (F : Fr h₀ L h' m) (N : News h₀ L h' news) (p : P v) : CutQ h₀ L m news s P v { s with heap := h', toks := tk' } := ⟨h', tk', rfl, F, N, p⟩
theorem cut_val {M : Model} {A : Around} {E : Value → Shared → Prop} {s : Shared} {t : Sem Value} {Q : Value → Shared → Prop} {h₀ : Heap} {L : Addr} {m : Str → Option Value} {news : List (Addr × Obj)} (P : Value → Prop)
    (_F : Fr h₀ L s.heap m) (_N : News h₀ L s.heap news) (now : wpAny M A t (CutQ h₀ L m news s P) E s)
    (later : ∀ v h' tk', P v → Fr h₀ L h' m → News h₀ L h' news → Q v { s with heap := h', toks := tk' }) : wpAny M A t Q E s :=
  wpAny_mono now (fun v s' h => by obtain ⟨h', tk', rfl, F', N', p⟩ := h; exact later v h' tk' p F' N') fun _ _ h => h

def WOut {σ : Type} (h₀ : Heap) (L : Addr) (s : Shared) (Led : σ → List (Addr × Obj)) (ps : σ → List (Str × Value)) (stored : List Str) (m₀ : Str → Option Value) (X : σ → Prop) (f : Flow) (s₂ : Shared) : Prop :=
  f = .next ∧ ∃ (c : σ) (h : Heap) (tk : Nat) (m' : Str → Option Value) (news' : List (Addr × Obj)), s₂ = { s with heap := h, toks := tk } ∧ Fr h₀ L h m' ∧ News h₀ L h news' ∧ (∀ p ∈ Led c, p ∈ news') ∧ (∀ p ∈ ps c, m' p.1 = some p.2) ∧ (∀ z, (∀ p ∈ ps c, z ≠ p.1) → stored.contains z = false → m' z = m₀ z) ∧ X c
theorem wout_mk {σ : Type} {h₀ : Heap} {L : Addr} {s : Shared} {Led : σ → List (Addr × Obj)} {ps : σ → List (Str × Value)} {stored : List Str} {m₀ : Str → Option Value} {X : σ → Prop} {h : Heap} {tk : Nat} {m' : Str → Option Value} {news' : List (Addr × Obj)} (c : σ)
    (F : Fr h₀ L h m') (N : News h₀ L h news') (hn : ∀ p ∈ Led c, p ∈ news') (hk : ∀ p ∈ ps c, m' p.1 = some p.2) (hr : ∀ z, (∀ p ∈ ps c, z ≠ p.1) → stored.contains z = false → m' z = m₀ z) (hx : X c) :
    WOut h₀ L s Led ps stored m₀ X .next { s with heap := h, toks := tk } := ⟨rfl, c, h, tk, m', news', rfl, F, N, hn, hk, hr, hx⟩
theorem while_cut {σ : Type} {prog : Program} {w : World} {A : Around} {E : Value → Shared → Prop} {Q : Flow → Shared → Prop} {s : Shared} {env : Env} {h₀ : Heap} {L : Addr} {test : Expr} {body : List Stmt} {pos : Pos} {m₀ : Str → Option Value}
    (Led : σ → List (Addr × Obj)) (ps : σ → List (Str × Value)) (stored : List Str) (P X : σ → Prop) (μ : σ → Nat) (c₀ : σ)
    (F : Fr h₀ L s.heap m₀) (N : News h₀ L s.heap (Led c₀)) (hk : ∀ p ∈ ps c₀, m₀ p.1 = some p.2) (hp : P c₀)
    (done : ∀ c (u : Str → Option Value) h tk, X c → Fr h₀ L h (kstB (fun z => if stored.contains z then u z else m₀ z) (ps c)) → News h₀ L h (Led c) → Q .next { s with heap := h, toks := tk })
    (turn : ∀ (c : σ) (u : Str → Option Value) h tk, P c → Fr h₀ L h (kstB (fun z => if stored.contains z then u z else m₀ z) (ps c)) → News h₀ L h (Led c) →
      wpAny (model prog w) A (isTrue test env (eval test env)) (fun b s₂ =>
        if b = true then wpAny (model prog w) A (execs body env) (KswPost h₀ L s Led ps (fun _ => True) stored m₀ P μ (WOut h₀ L s Led ps stored m₀ X) c) E s₂ else WOut h₀ L s Led ps stored m₀ X .next s₂) E { s with heap := h, toks := tk })
    (hE : PassesOwn (model prog w) A env E := by passes_own) :
    wpAny (model prog w) A (exec (.While test body [] pos) env) Q E s := by
  refine wpAny_mono (ksw_while (Q := WOut h₀ L s Led ps stored m₀ X) Led ps (fun _ => True) stored P μ c₀ F N trivial hk hp (fun c u h tk _ hP hF hN => turn c u h tk hP hF hN) hE) ?_ fun _ _ h => h
  rintro f s' ⟨rfl, c, h, tk, m', news', rfl, F', N', hn, h1, h2, hX⟩
  exact done c m' h tk hX (ksw_fr h1 h2 F') fun p hp => N' p (hn p hp)
theorem stmt_cut {σ : Type} {M : Model} {A : Around} {E : Value → Shared → Prop} {Q : Flow → Shared → Prop} {s : Shared} {t : Sem Flow} {h₀ : Heap} {L : Addr} {m₀ : Str → Option Value}
    (Led : σ → List (Addr × Obj)) (ps : σ → List (Str × Value)) (stored : List Str) (X : σ → Prop) (_F : Fr h₀ L s.heap m₀)
    (now : wpAny M A t (WOut h₀ L s Led ps stored m₀ X) E s)
    (done : ∀ c (u : Str → Option Value) h tk, X c → Fr h₀ L h (kstB (fun z => if stored.contains z then u z else m₀ z) (ps c)) → News h₀ L h (Led c) → Q .next { s with heap := h, toks := tk }) :
    wpAny M A t Q E s := by
  refine wpAny_mono now ?_ fun _ _ h => h
  rintro f s' ⟨rfl, c, h, tk, m', news', rfl, F', N', hn, h1, h2, hX⟩
  exact done c m' h tk hX (ksw_fr h1 h2 F') fun p hp => N' p (hn p hp)
end Mine
end
section
open PySem PySem.W PyProof.Rows
set_option maxRecDepth 100000
namespace Mine
section
variable {prog : Program} {w : World} {A : Around} {E : Value → Shared → Prop} {s : Shared}
theorem tup_next {it t : Addr} {i : Nat} {items : Array Value} {x : Value} {Q : Value → Shared → Prop} (hit : s.heap.IsTupleIter it t i) (ht : s.heap.IsTuple t items) (hx : items[i]? = some x)
    (hQ : ∀ h', h'.IsTupleIter it t (i + 1) → Heap.SameBut it s.heap h' → Q x { s with heap := h' }) :
    wpAny (model prog w) A (Builtin.SmallTypes.nextOf (.ref it)) Q E s := by
  obtain ⟨o, ho, hc, hd⟩ := id hit
  obtain ⟨ol, hol, _, nl, hdl⟩ := ht
  unfold Builtin.SmallTypes.nextOf
  refine wpAny_bind (wpAny_callSpecial?_slot (name := Str.ofString "__next__") hit.typeIs F.slot_tuple_iterator_next
    (wpAny_call_entry F.slot_tuple_iterator_next hit.typeIs F.entry_tuple_iterator_next ?_ (F.args_tuple_iterator_next_1 _)))
  show wpAny _ _ (field (.ref it) 0 >>= _) _ _ s
  refine wpAny_bind (wpAny_field ho hd (x := .ref t) rfl ?_)
  show wpAny _ _ (if (Value.ref t == Value.none) = true then _ else _) _ _ s
  rw [if_neg (show ¬ ((Value.ref t == Value.none) = true) from Bool.false_ne_true)]
  show wpAny _ _ (field (.ref it) 1 >>= _) _ _ s
  refine wpAny_bind (wpAny_field ho hd (x := .int i 0) rfl ?_)
  show wpAny _ _ (seqItems? (.ref t) >>= _) _ _ s
  refine wpAny_bind (wpAny_seqItems hol hdl ?_)
  simp only [Int.toNat_natCast, hx]
  refine wpAny_bind (wpAny_setField ho hd (by simp) (wpAny_pure ⟨x, rfl, wpAny_pure (hQ _ ?_ (Heap.SameBut.update ..))⟩))
  exact ⟨_, Heap.get?_update_self _ ho (Obj.isFreed_of_fields (Obj.data_mapFields hd _)), (Obj.cls_mapFields ..).trans hc, by
    rw [Obj.data_mapFields hd]; simp [rawInt]⟩
theorem tup_end {it t : Addr} {i : Nat} {items : Array Value} {Q : Value → Shared → Prop} (hh : A.handled = none) (hit : s.heap.IsTupleIter it t i) (ht : s.heap.IsTuple t items) (hx : items[i]? = none)
    (hE : ∀ h' e, Heap.ExtBut it s.heap h' → (∃ o, h'.get? e = some o ∧ o.cls = .type "StopIteration") → E (.ref e) { s with heap := h' }) :
    wpAny (model prog w) A (Builtin.SmallTypes.nextOf (.ref it)) Q E s := by
  obtain ⟨o, ho, hc, hd⟩ := id hit
  obtain ⟨ol, hol, _, nl, hdl⟩ := ht
  unfold Builtin.SmallTypes.nextOf
  refine wpAny_bind (wpAny_callSpecial?_slot (name := Str.ofString "__next__") hit.typeIs F.slot_tuple_iterator_next
    (wpAny_call_entry F.slot_tuple_iterator_next hit.typeIs F.entry_tuple_iterator_next ?_ (F.args_tuple_iterator_next_1 _)))
  show wpAny _ _ (field (.ref it) 0 >>= _) _ _ s
  refine wpAny_bind (wpAny_field ho hd (x := .ref t) rfl ?_)
  show wpAny _ _ (if (Value.ref t == Value.none) = true then _ else _) _ _ s
  rw [if_neg (show ¬ ((Value.ref t == Value.none) = true) from Bool.false_ne_true)]
  show wpAny _ _ (field (.ref it) 1 >>= _) _ _ s
  refine wpAny_bind (wpAny_field ho hd (x := .int i 0) rfl ?_)
  show wpAny _ _ (seqItems? (.ref t) >>= _) _ _ s
  refine wpAny_bind (wpAny_seqItems hol hdl ?_)
  simp only [Int.toNat_natCast, hx]
  refine wpAny_bind (wpAny_rule (wpAny_bind (wpAny_setField ho hd (by simp) ?_)))
  show wpAny _ _ (newExc (.type "StopIteration") [] >>= _) _ _ _
  refine wpAny_bind ?_
  simp only [newExc, newTuple]
  refine wpAny_bind (wpAny_newObj_type ?_ (by size_fits))
  refine wpAny_bind (m := firstArgMember _ _) (wpAny_of_eq (a := Value.none) (by first | rfl | (simp only [firstArgMember]; rfl)) ?_)
  refine wpAny_newObj_type ?_ (by size_fits)
  simp only [raiseNew]
  refine wpAny_bind (wpAny_handled ?_)
  first | rw [show A.in1.handled = none from hh] | rw [hh]
  refine wpAny_bind (wpAny_pure (wpAny_throw ?_))
  exact hE _ _ (((Heap.SameBut.update ..).extBut.push _).push _) ⟨_, Heap.get?_push_size _ rfl, rfl⟩
theorem draws_tuple {A : Around} (hh : A.handled = none) (it t : Addr) (hne : t ≠ it) (items : Array Value) :
    Draws prog w A it [it, t] items.size (fun i v => items[i]? = some v) (fun i h => h.IsTupleIter it t i ∧ h.IsTuple t items) where
  live := fun _ _ st => let ⟨o, ho, _⟩ := st.1; ⟨o, ho⟩
  frame := fun _ _ _ st hk => by
    obtain ⟨⟨o, ho, r⟩, ⟨o', ho', r'⟩⟩ := st
    exact ⟨⟨o, hk it (by simp) o ho, r⟩, ⟨o', hk t (by simp) o' ho', r'⟩⟩
  item := fun i s Q E hi st hQ => by
    refine tup_next st.1 st.2 (x := items[i]) (by simp [hi]) fun h' hit' hs' => ?_
    exact hQ _ h' s.toks (by simp [hi]) ⟨hit', st.2.extBut hs'.extBut hne⟩ hs'
  done := fun s Q E st hE => tup_end hh st.1 st.2 (by simp) hE
end
open AutoSeq1 (wpAny_loadPart') in
theorem meets_enumerate_newT (t : Addr) (items : Array Value) (n : Nat) (dct : Option Addr) (sl : Array (Option Value)) :
    Meets (Builtin.«enumerate.__new__» ⟨[.type "enumerate", .ref t], []⟩) (fun _ R s => s.heap.get? t = some { cls := .type "tuple", dict := dct, data := .seq items n, slots := sl } ∧
      R (.ok (.ret (.ref (s.heap.push { cls := .type "tuple_iterator", data := .fields #[.ref t, .int 0 0] }).objs.size)))
        { s with heap := (s.heap.push { cls := .type "tuple_iterator", data := .fields #[.ref t, .int 0 0] }).push { cls := .type "enumerate", data := .fields #[.none, .bool false, .ref s.heap.objs.size, rawInt 0, .none, .none] } }) :=
  .of_wp fun prog w A R s h => by
    obtain ⟨hp, g, d, tk, os⟩ := s; obtain ⟨hl, h⟩ := h
    have hsub := sub_enumerate
    have hL : Heap.IsTuple (Shared.heap ⟨hp, g, d, tk, os⟩) t items := ⟨_, hl, rfl, n, rfl⟩
    wp_walk using wpAny_loadPart' hl
    refine wpAny_stack_any fun st => wpAny_pure ?_
    split
    · rename_i c _ _ _ _ _
      cases (c == Value.type "enumerate")
      · wp_walk using wpAny_loadPart' hl, wpAny_pyIter_tuple hL
        exact ⟨_, rfl, h⟩
      · wp_walk using wpAny_loadPart' hl, wpAny_pyIter_tuple hL
        exact ⟨_, rfl, h⟩
    · wp_walk using wpAny_loadPart' hl, wpAny_pyIter_tuple hL
      exact ⟨_, rfl, h⟩
theorem call_enumerate_tuple {prog : Program} {w : World} {A : Around} {E : Value → Shared → Prop} {s : Shared} {t : Addr} {items : Array Value} {Q : Value → Shared → Prop} (hL : s.heap.IsTuple t items)
    (h : ∀ h', IsEnum h' (s.heap.objs.size + 1) s.heap.objs.size 0 .none → h'.IsTupleIter s.heap.objs.size t 0 → h'.objs.size = s.heap.objs.size + 2 →
      (∀ b o, s.heap.get? b = some o → h'.get? b = some o) → Q (.ref (s.heap.objs.size + 1)) { s with heap := h' }) :
    wpAny (model prog w) A (call (.type "enumerate") [.ref t]) Q E s := by
  obtain ⟨⟨c, dct, dt, sl⟩, hl, hc, n, hd⟩ := hL
  replace hc : c = .type "tuple" := hc
  replace hd : dt = .seq items n := hd
  subst hc hd
  refine callType_new F.called_enumerate (by decide) (F.typeCall_enumerate_1 _) (F.newCall_enumerate_1 _) (fun obj => F.args_object_init_2 obj _) F.entry_enumerate_new
    (meets_enumerate_newT t items n dct sl) ⟨hl, ?_⟩
  have hz : (s.heap.push { cls := .type "tuple_iterator", data := .fields #[.ref t, .int 0 0] }).objs.size = s.heap.objs.size + 1 := Heap.size_push ..
  show _ ∧ _
  rw [hz]
  have he : IsEnum ((s.heap.push { cls := .type "tuple_iterator", data := .fields #[.ref t, .int 0 0] }).push
      { cls := .type "enumerate", data := .fields #[.none, .bool false, .ref s.heap.objs.size, rawInt 0, .none, .none] }) (s.heap.objs.size + 1) s.heap.objs.size 0 .none := by
    have := Heap.get?_push_size (s.heap.push { cls := .type "tuple_iterator", data := .fields #[.ref t, .int 0 0] })
      (o := { cls := .type "enumerate", data := .fields #[.none, .bool false, .ref s.heap.objs.size, rawInt 0, .none, .none] }) rfl
    rw [hz] at this; exact this
  refine ⟨⟨_, he, rfl⟩, h _ he ⟨_, Heap.get?_push_of_some _ (Heap.get?_push_size _ rfl), rfl, rfl⟩ (by rw [Heap.size_push, hz]) fun b o x => Heap.get?_push_of_some _ (Heap.get?_push_of_some _ x)⟩
end Mine
end
section
open PySem PySem.W PyProof.Rows PySem.Spec PySem.Calls
open PyProof.Rows.LCg PyProof.Rows.LCp
set_option maxRecDepth 100000
set_option maxHeartbeats 2000000
namespace Mine
section
variable {prog : Program} {w : World} {A : Around} {E : Value → Shared → Prop} {s : Shared} {h₀ : Heap} {L : Addr} {m : Str → Option Value} {env : Env}
theorem fp_entries {h : Heap} : ∀ (fp : List Addr), (∀ b ∈ fp, (∃ o, h.get? b = some o) ∧ b ≠ L) → ∃ es : List (Addr × Obj), News h₀ L h es ∧ ∀ b ∈ fp, h₀.get? b = none → ∀ o, h.get? b = some o → (b, o) ∈ es
  | [], _ => ⟨[], (fun _ h => nomatch h), (fun _ h => nomatch h)⟩
  | b :: r, hb => by
    obtain ⟨es, N, h1⟩ := fp_entries r fun c hc => hb c (.tail _ hc)
    obtain ⟨⟨o, ho⟩, hL⟩ := hb b (.head _)
    by_cases h0 : h₀.get? b = none
    · refine ⟨(b, o) :: es, fun p hp => ?_, fun c hc hc0 o' ho' => ?_⟩
      · rcases List.mem_cons.mp hp with rfl | hp
        · exact ⟨ho, hL, h0⟩
        · exact N p hp
      · rcases List.mem_cons.mp hc with rfl | hc
        · rw [ho] at ho'; cases ho'; exact .head _
        · exact .tail _ (h1 c hc hc0 o' ho')
    · refine ⟨es, N, fun c hc hc0 o' ho' => ?_⟩
      rcases List.mem_cons.mp hc with rfl | hc
      · exact absurd hc0 h0
      · exact h1 c hc hc0 o' ho'
theorem block_T {elt iter : Expr} {x x₂ : Str} {px px₂ tp : Pos} {tk} {scope : Scope} {cl : List (Str × Addr)} {pos : Pos} {s₂ : Shared} {I : Addr} {fp wr : List Addr} {n : Nat} {Pt : Nat → Array Value → Prop} {P : Nat → Value → Value → Prop} {St : Nat → Heap → Prop} {Mid : Nat → Addr → Heap → Prop}
    {news : List (Addr × Obj)} {Y : Nat → Value → Prop} {RR : Value → Addr → Result → Shared → Prop}
    (W : WalksT prog w A I fp wr n Pt St Mid) (hsz : n ≤ sizeLine) (hlive : ∀ i h, St i h → ∀ b ∈ fp, ∃ o, h.get? b = some o) (hfp : ∀ b ∈ fp, b < s₂.heap.objs.size) (hLf : ∀ b ∈ fp, b ≠ L)
    (hw0 : ∀ b ∈ wr, h₀.get? b = none) (hwn : ∀ p ∈ news, p.1 ∉ wr) (hPt : ∀ i vals, Pt i vals → ∃ a v, vals = #[a, v] ∧ P i a v)
    (hcell : ∀ y ∈ scope.names, y.2 ≠ .cell) (hkind : scope.kind = .function) (hx : scope.names.lookup x = some .local) (hx₂ : scope.names.lookup x₂ = some .local) (hxx : x ≠ x₂) (hh : A.handled = none) (hst : St 0 s₂.heap)
    (F : Fr h₀ L s₂.heap m) (N : News h₀ L s₂.heap news)
    (elt_ok : ∀ (i : Nat) (C : Addr) (oC : Obj) (m₂ : Str → Option Value) (h : Heap) (tk : Nat) (a v : Value) (ext : List (Addr × Obj)), i < n → P i a v → NsObj oC m₂ → m₂ x = some a → m₂ x₂ = some v → Fr h₀ L h m → (∀ p ∈ news, p ∈ ext) → News h₀ L h ((C, oC) :: ext) →
      wpAny (model prog w) A (eval elt (compEnvC scope cl C env)) (fun y s' => ∃ h' tk', s' = { s₂ with heap := h', toks := tk' } ∧ Fr h₀ L h' m ∧ News h₀ L h' ((C, oC) :: ext) ∧ Y i y) (fun _ _ => False) { s₂ with heap := h, toks := tk })
    (hRR : ∀ (D C : Addr) (h : Heap) (tk : Nat) (m' : Str → Option Value) (ys : List Value), ys.length = n → (∀ i y, ys[i]? = some y → Y i y) → Fr h₀ L h m → News h₀ L h ((D, lst ys) :: news) → h.Ns C m' → h₀.get? C = none → C ≠ L → C ≠ D → (∀ p ∈ news, p.1 ≠ C) → (∀ p ∈ news, p.1 < D) →
      RR (.ref D) C (.ok .next) { s₂ with heap := h, toks := tk }) :
    wpAny (model prog w) A (newList []) (fun acc s₃ => wpAny (model prog w) A (newFunctionEnv scope env.globals cl [] env.qual none .none (some env)) (fun cenv s₄ =>
      codeAny (model prog w) A (.compStart (.ListComp elt [⟨.Tuple [.Name x px, .Name x₂ px₂] tk tp, iter, [], 0⟩] scope pos) 0 (.ref I) acc { cenv with scope := relabel scope env }) (RR acc cenv.locals) s₄) E s₃) E s₂ := by
  refine wpAny_newObj_type (wpAny_newFunctionEnv hcell (by intro y hy; simp at hy) (fun h₁ hns₁ hsb₁ => ?_) hkind)
  dsimp only at hns₁ hsb₁ ⊢
  generalize hH2 : s₂.heap.push { cls := .type "list", dict := none, data := .seq ([] : List Value).toArray } = H2 at hns₁ hsb₁ ⊢
  have hC : H2.objs.size = s₂.heap.objs.size + 1 := by rw [← hH2, Heap.size_push]
  have hDC : s₂.heap.objs.size ≠ H2.objs.size := by rw [hC]; exact Nat.ne_of_lt (Nat.lt_succ_self _)
  have below : ∀ b, b < s₂.heap.objs.size → b ≠ H2.objs.size ∧ b ≠ s₂.heap.objs.size := fun b hb => ⟨by rw [hC]; exact Nat.ne_of_lt (Nat.lt_succ_of_lt hb), Nat.ne_of_lt hb⟩
  have hDf : s₂.heap.objs.size ∉ fp := fun hm => Nat.lt_irrefl _ (hfp _ hm)
  have hCf : H2.objs.size ∉ fp := fun hm => (below _ (hfp _ hm)).1 rfl
  have hDw : s₂.heap.objs.size ∉ wr := fun hm => hDf (W.sub _ hm)
  have hCw : H2.objs.size ∉ wr := fun hm => hCf (W.sub _ hm)
  have hLw : L ∉ wr := fun hm => hLf _ (W.sub _ hm) rfl
  have old : ∀ b o, s₂.heap.get? b = some o → h₁.get? b = some o := fun b o e => hsb₁.extBut b o (below b (Heap.lt_size e)).1 (Heap.get?_push_of_some _ (hH2 ▸ Heap.get?_push_of_some _ e))
  have hacc : h₁.get? s₂.heap.objs.size = some (lst []) := hsb₁.extBut _ _ hDC (Heap.get?_push_of_some _ (hH2 ▸ Heap.get?_push_size _ rfl))
  have hst₁ : St 0 h₁ := W.frame _ _ _ hst fun b _ o e => old b o e
  have fresh₀ : ∀ a, s₂.heap.objs.size ≤ a → h₀.get? a = none := fun a ha => by
    cases e : h₀.get? a with
    | none => rfl
    | some o' => exact absurd (Heap.lt_size (F.keep a o' e)) (Nat.not_lt.mpr ha)
  have hD₀ : h₀.get? s₂.heap.objs.size = none := fresh₀ _ (Nat.le_refl _)
  have hC₀ : h₀.get? H2.objs.size = none := fresh₀ _ (by rw [hC]; exact Nat.le_succ _)
  have hLlt : L < s₂.heap.objs.size := F.ns.lt
  have hDL : s₂.heap.objs.size ≠ L := Ne.symm (below L hLlt).2
  have hCL : H2.objs.size ≠ L := Ne.symm (below L hLlt).1
  have nlt : ∀ p ∈ news, p.1 < s₂.heap.objs.size := fun p hp => Heap.lt_size (N p hp).1
  have loop : ∀ s₃ : Shared, s₃ = { s₂ with heap := h₁, toks := s₂.toks + ([] : List (Str × Value)).length } →
      codeAny (model prog w) A (.compLoop (.ListComp elt [⟨.Tuple [.Name x px, .Name x₂ px₂] tk tp, iter, [], 0⟩] scope pos) 0 (.ref I) (.ref s₂.heap.objs.size) (compEnvC scope cl H2.objs.size env))
        (RR (.ref s₂.heap.objs.size) H2.objs.size) s₃ := by
    rintro s₃ rfl
    refine codeAny_compLoop_pair
      (fun k s' => ∃ h' tk i ys m', s' = { s₂ with heap := h', toks := tk } ∧ i ≤ n ∧ k = n + 1 - i ∧ ys.length = i ∧ (∀ j y, ys[j]? = some y → Y j y) ∧ St i h' ∧ Fr h₀ L h' m ∧ h'.Ns H2.objs.size m' ∧ News h₀ L h' ((s₂.heap.objs.size, lst ys) :: news)) ?_ (n + 1)
      ⟨h₁, _, 0, [], _, rfl, Nat.zero_le _, rfl, rfl, (fun j y e => by simp at e), hst₁, F.keeps old, hns₁, fun p hp => ?_⟩
    · rintro k s' ⟨h', tk, i, ys, m', rfl, hi, rfl, hyl, hY, hst', F', hn', N'⟩
      have move : ∀ {g g' : Heap}, (∀ b o, b ∉ wr → g.get? b = some o → g'.get? b = some o) → Fr h₀ L g m → Fr h₀ L g' m := fun hk F =>
        ⟨F.ns.at' fun o e => hk _ o hLw e, fun b o e => hk b o (fun hb => by rw [hw0 b hb] at e; cases e) (F.keep b o e), F.above⟩
      have moveN : ∀ {g g' : Heap}, (∀ b o, b ∉ wr → g.get? b = some o → g'.get? b = some o) → News h₀ L g ((s₂.heap.objs.size, lst ys) :: news) → News h₀ L g' ((s₂.heap.objs.size, lst ys) :: news) := fun hk N p hp =>
        ⟨hk _ _ (by
          rcases List.mem_cons.mp hp with rfl | hp
          · exact hDw
          · exact hwn p hp) (N p hp).1, (N p hp).2⟩
      by_cases hlt : i < n
      · refine W.item i _ _ _ hlt hst' fun T vals h₂ tk₂ hPv hge hTup hMid hk₂ => ?_
        obtain ⟨a, v, rfl, hP⟩ := hPt i vals hPv
        refine W.go _ _ _ i T _ _ _ hMid fun h₃ hst₃ hk₃ => ?_
        have ht : IsTup h₃ T #[a, v] := by
          obtain ⟨o, ho, r⟩ := hTup
          exact ⟨o, hk₃ T o (W.apart i T _ hMid) ho, r⟩
        have F₃ := move hk₃ (move hk₂ F')
        have N₃ := moveN hk₃ (moveN hk₂ N')
        have hn₃ := (hn'.at' fun o e => hk₂ _ o hCw e).at' fun o e => hk₃ _ o hCw e
        refine assign_Tuple_tuple hh ht rfl rfl fun h₅ he => ?_
        have he' : ∀ b o, h₃.get? b = some o → h₅.get? b = some o := fun b o e => he b o (Nat.ne_of_lt (Heap.lt_size e)) e
        refine assignInOrder_cons (wpAny_assign_Name (wpAny_storeName_local (lookup_relabel_local hx) (hn₃.at' fun o e => he' _ o e) (fun h₆ hn₆ hs₆ => ?_) (by simp [compEnvC, relabel, hkind])))
        refine assignInOrder_cons (wpAny_assign_Name (wpAny_storeName_local (lookup_relabel_local hx₂) hn₆ (fun h₇ hn₇ hs₇ => ?_) (by simp [compEnvC, relabel, hkind])))
        refine assignInOrder_nil ?_
        have old7 : ∀ b o, b ≠ H2.objs.size → h₃.get? b = some o → h₇.get? b = some o := fun b o hb e => hs₇.extBut b o hb (hs₆.extBut b o hb (he' b o e))
        have hst₇ : St (i + 1) h₇ := W.frame _ _ _ hst₃ fun b hb o e => old7 b o (fun q => hCf (by rw [← q]; exact hb)) e
        obtain ⟨oC, heC, hoC⟩ := ns_obj hn₇
        have F₇ : Fr h₀ L h₇ m := ((F₃.keeps he').change hs₆ hCL hC₀).change hs₇ hCL hC₀
        obtain ⟨es, Nes, hes⟩ := fp_entries (h₀ := h₀) (L := L) (h := h₇) fp fun b hb => ⟨hlive _ _ hst₇ b hb, hLf b hb⟩
        have N₇ : News h₀ L h₇ ((H2.objs.size, oC) :: (s₂.heap.objs.size, lst ys) :: (es ++ news)) := fun p hp => by
          rcases List.mem_cons.mp hp with rfl | hp
          · exact ⟨heC, hCL, hC₀⟩
          · rcases List.mem_cons.mp hp with rfl | hp
            · exact ⟨old7 _ _ hDC (N₃ (s₂.heap.objs.size, lst ys) (.head _)).1, hDL, hD₀⟩
            · rcases List.mem_append.mp hp with hp | hp
              · exact Nes p hp
              · have z := N₃ p (.tail _ hp)
                exact ⟨old7 _ _ (below _ (nlt p hp)).1 z.1, z.2⟩
        refine wpAny_mono (elt_ok i H2.objs.size oC _ h₇ _ a v _ hlt hP hoC (by simp [hxx]) (by simp) F₇ (fun p hp => .tail _ (List.mem_append_right _ hp)) N₇) (fun y s₄ h₄ => ?_) fun _ _ e => e.elim
        obtain ⟨h₄, tk₄, rfl, F₄, N₄, hy⟩ := h₄
        have zC := (N₄ (H2.objs.size, oC) List.mem_cons_self).1
        have zD := (N₄ (s₂.heap.objs.size, lst ys) (List.mem_cons_of_mem _ List.mem_cons_self)).1
        have hst₄ : St (i + 1) h₄ := W.frame _ _ _ hst₇ fun b hb o e => by
          cases e0 : h₀.get? b with
          | none => exact (N₄ (b, o) (.tail _ (.tail _ (List.mem_append_left _ (hes b hb e0 o e))))).1
          | some o' =>
            have := F₇.keep b o' e0
            rw [e] at this; cases this
            exact F₄.keep b o e0
        refine append_at (hsz := by show ys.toArray.size ≤ sizeLine; rw [List.size_toArray, hyl]; exact Nat.le_trans hi hsz) zD fun h₅' hs₅ hD₅ => ?_
        refine ⟨n + 1 - (i + 1), by omega, h₅', tk₄, i + 1, ys ++ [y], _, rfl, hlt, rfl, by rw [List.length_append, List.length_singleton, hyl], ?_, W.frame _ _ _ hst₄ fun b hb o e => hs₅.extBut b o (fun q => hDf (q ▸ hb)) e, F₄.change hs₅ hDL hD₀,
          (hoC.ns zC).sameBut hs₅ (Ne.symm hDC), fun p hp => ?_⟩
        · intro j z hz
          by_cases hj : j < ys.length
          · rw [List.getElem?_append_left hj] at hz
            exact hY j z hz
          · rw [List.getElem?_append_right (by omega)] at hz
            have hj0 : j - ys.length = 0 := by
              rcases Nat.eq_zero_or_pos (j - ys.length) with h | h
              · exact h
              · rw [List.getElem?_eq_none (by simp; omega)] at hz; cases hz
            rw [hj0] at hz
            simp at hz
            subst hz
            rw [show j = i by omega]
            exact hy
        · rcases List.mem_cons.mp hp with rfl | hp
          · exact ⟨hD₅.trans (congrArg some (lst_snoc ys y)), hDL, hD₀⟩
          · have z := N₄ p (.tail _ (.tail _ (List.mem_append_right _ hp)))
            exact ⟨hs₅.extBut _ _ (below _ (nlt p hp)).2 z.1, z.2⟩
      · obtain rfl : i = n := Nat.le_antisymm hi (Nat.not_lt.mp hlt)
        refine W.done _ _ _ hst' fun h₂ tk₂ hk₂ => ?_
        exact hRR _ _ h₂ tk₂ _ ys hyl hY (move hk₂ F') (moveN hk₂ N') (hn'.at' fun o e => hk₂ _ o hCw e) hC₀ hCL (Ne.symm hDC) (fun p hp => (below _ (nlt p hp)).1) nlt
    · rcases List.mem_cons.mp hp with rfl | hp
      · exact ⟨hacc, hDL, hD₀⟩
      · exact ⟨old _ _ (N p hp).1, (N p hp).2⟩
  exact codeAny_compStart_list (loop _ rfl) (W.self 0 _ _ _ hst₁ (loop _ rfl))
end
end Mine
namespace Mine
def EnumSrc (h₀ : Heap) (L : Addr) (m : Str → Option Value) (news : List (Addr × Obj)) (items : Array Value) (s : Shared) (xv : Value) (s₁ : Shared) : Prop :=
  ∃ e it t h₁ tk₁, xv = .ref e ∧ s₁ = { s with heap := h₁, toks := tk₁ } ∧ Fr h₀ L h₁ m ∧ News h₀ L h₁ news ∧ IsEnum h₁ e it 0 .none ∧ h₁.IsTupleIter it t 0 ∧ h₁.IsTuple t items ∧ e ≠ it ∧ e ≠ t ∧ t ≠ it ∧ ∀ b ∈ [e, it, t], h₀.get? b = none ∧ b ≠ L ∧ ∀ p ∈ news, p.1 ≠ b
section
variable {prog : Program} {w : World} {A : Around} {E : Value → Shared → Prop} {s : Shared} {h₀ : Heap} {L : Addr} {m : Str → Option Value} {env : Env}
theorem enum_src {t : Addr} {items : Array Value} {n : Nat} {news : List (Addr × Obj)} {s₀ : Shared} (hs : ∃ h tk, s = { s₀ with heap := h, toks := tk }) (F : Fr h₀ L s.heap m) (N : News h₀ L s.heap ((t, ({ cls := .type "tuple", data := .seq items n } : Obj)) :: news)) (hne : ∀ p ∈ news, p.1 ≠ t) :
    wpAny (model prog w) A (call (.type "enumerate") [.ref t]) (EnumSrc h₀ L m news items s₀) E s := by
  obtain ⟨h, tk, rfl⟩ := hs
  have zt := N _ (.head _)
  have ht : Heap.IsTuple (Shared.heap { s₀ with heap := h, toks := tk }) t items := ⟨_, zt.1, rfl, _, rfl⟩
  have htl := Heap.lt_size zt.1
  have hLl := F.ns.lt
  have new : ∀ b, (Shared.heap { s₀ with heap := h, toks := tk }).objs.size ≤ b → h₀.get? b = none ∧ b ≠ L ∧ ∀ p ∈ news, p.1 ≠ b := by
    intro b hb
    refine ⟨?_, fun e => ?_, fun p hp e => ?_⟩
    · cases e : h₀.get? b with
      | none => rfl
      | some o => exact absurd (Heap.lt_size (F.keep b o e)) (Nat.not_lt.mpr hb)
    · rw [e] at hb; exact absurd hLl (Nat.not_lt.mpr hb)
    · have := Heap.lt_size (N p (.tail _ hp)).1
      rw [e] at this; exact absurd this (Nat.not_lt.mpr hb)
  refine call_enumerate_tuple ht fun h' hE hI _ hk => ?_
  have hte : t ≠ (Shared.heap { s₀ with heap := h, toks := tk }).objs.size := Nat.ne_of_lt htl
  have hte2 : (Shared.heap { s₀ with heap := h, toks := tk }).objs.size + 1 ≠ t := fun e => by rw [← e] at htl; exact absurd htl (Nat.not_lt.mpr (Nat.le_succ _))
  obtain ⟨ot, hot, rt⟩ := ht
  refine ⟨_, _, t, h', tk, rfl, rfl, F.keeps hk, cb_drop (N.grown hk) (fun p hp => .tail _ hp), hE, hI, ⟨ot, hk _ _ hot, rt⟩, Nat.succ_ne_self _, hte2, hte, ?_⟩
  intro b hb
  rcases List.mem_cons.mp hb with rfl | hb
  · exact new _ (Nat.le_succ _)
  · rcases List.mem_cons.mp hb with rfl | hb
    · exact new _ (Nat.le_refl _)
    · rw [List.mem_singleton.mp hb]
      exact ⟨zt.2.2, zt.2.1, hne⟩
theorem core_enum {elt iter : Expr} {x x₂ : Str} {px px₂ tp : Pos} {tk} {scope : Scope} {cl : List (Str × Addr)} {pos : Pos} {news : List (Addr × Obj)} {n : Nat} {Pv : Nat → Value → Prop} {Y : Nat → Value → Prop} {RR : Value → Addr → Result → Shared → Prop}
    (hcell : ∀ y ∈ scope.names, y.2 ≠ .cell) (hkind : scope.kind = .function) (hx : scope.names.lookup x = some .local) (hx₂ : scope.names.lookup x₂ = some .local) (hxx : x ≠ x₂) (hh : A.handled = none) (hsz : n ≤ sizeLine)
    (hit : wpAny (model prog w) A (eval iter env) (fun xv s₁ => ∃ items : Array Value, items.size = n ∧ (∀ i v, items[i]? = some v → Pv i v) ∧ EnumSrc h₀ L m news items s xv s₁) E s)
    (elt_ok : ∀ (i : Nat) (C : Addr) (oC : Obj) (m₂ : Str → Option Value) (h : Heap) (tk : Nat) (t : Tok) (v : Value) (ext : List (Addr × Obj)), i < n → Pv i v → NsObj oC m₂ → m₂ x = some (.int i t) → m₂ x₂ = some v → Fr h₀ L h m → (∀ p ∈ news, p ∈ ext) → News h₀ L h ((C, oC) :: ext) →
      wpAny (model prog w) A (eval elt (compEnvC scope cl C env)) (fun y s' => ∃ h' tk', s' = { s with heap := h', toks := tk' } ∧ Fr h₀ L h' m ∧ News h₀ L h' ((C, oC) :: ext) ∧ Y i y) (fun _ _ => False) { s with heap := h, toks := tk })
    (hRR : ∀ (D C : Addr) (h : Heap) (tk : Nat) (m' : Str → Option Value) (ys : List Value), ys.length = n → (∀ i y, ys[i]? = some y → Y i y) → Fr h₀ L h m → News h₀ L h ((D, lst ys) :: news) → h.Ns C m' → h₀.get? C = none → C ≠ L → C ≠ D → (∀ p ∈ news, p.1 ≠ C) → (∀ p ∈ news, p.1 < D) →
      RR (.ref D) C (.ok .next) { s with heap := h, toks := tk }) :
    wpAny (model prog w) A (eval iter env) (fun xv s₁ => wpAny (model prog w) A (pyIter xv) (fun it s₂ => wpAny (model prog w) A (newList []) (fun acc s₃ => wpAny (model prog w) A (newFunctionEnv scope env.globals cl [] env.qual none .none (some env)) (fun cenv s₄ =>
      codeAny (model prog w) A (.compStart (.ListComp elt [⟨.Tuple [.Name x px, .Name x₂ px₂] tk tp, iter, [], 0⟩] scope pos) 0 it acc { cenv with scope := relabel scope env }) (RR acc cenv.locals) s₄) E s₃) E s₂) E s₁) E s := by
  refine wpAny_mono hit (fun xv s₁ h₁ => ?_) fun _ _ e => e
  obtain ⟨items, hn0, hpv, e, it, t, h₁, tk₁, rfl, rfl, F₁, N₁, hE, hI, hT, hei, het, hti, hnew⟩ := h₁
  subst hn0
  refine wpAny_pyIter_enum hE ?_
  have hln : ∀ b ∈ e :: [it, t], b < h₁.objs.size := by
    intro b hb
    rcases List.mem_cons.mp hb with rfl | hb
    · exact Heap.lt_size hE
    · rcases List.mem_cons.mp hb with rfl | hb
      · obtain ⟨o, ho, _⟩ := hI; exact Heap.lt_size ho
      · rw [List.mem_singleton.mp hb]
        obtain ⟨o, ho, _⟩ := hT; exact Heap.lt_size ho
  refine block_T (P := fun i a v => items[i]? = some v ∧ ∃ t', a = .int i t') (Y := Y) (WalksT.enumerateD (draws_tuple (A := A.in1) (show A.in1.handled = none from hh) it t hti items) e hei (by simp [hei, het]) (by simp)) hsz ?_ hln (fun b hb => (hnew b hb).2.1) (fun b hb => (hnew b ?_).1) (fun p hp hb => ?_) ?_ hcell hkind hx hx₂ hxx hh
    ⟨⟨_, hE⟩, hI, hT⟩ F₁ N₁ ?_ ?_
  · rintro i h ⟨⟨old, he⟩, ⟨o, ho, _⟩, ⟨o', ho', _⟩⟩ b hb
    rcases List.mem_cons.mp hb with rfl | hb
    · exact ⟨_, he⟩
    · rcases List.mem_cons.mp hb with rfl | hb
      · exact ⟨o, ho⟩
      · rw [List.mem_singleton.mp hb]; exact ⟨o', ho'⟩
  · rcases List.mem_cons.mp hb with rfl | hb
    · simp
    · rw [List.mem_singleton.mp hb]; simp
  · have hb' : p.1 ∈ [e, it, t] := by
      rcases List.mem_cons.mp hb with e1 | hb
      · rw [e1]; simp
      · rw [List.mem_singleton.mp hb]; simp
    exact (hnew _ hb').2.2 p hp rfl
  · rintro i vals ⟨t', v, hv, rfl⟩
    exact ⟨_, _, rfl, hv, t', rfl⟩
  · rintro i C oC m₂ h tk a v ext hi ⟨hv, t', rfl⟩ hC h1 h2 F N' N
    exact elt_ok i C oC m₂ h tk t' v ext hi (hpv i v hv) hC h1 h2 F N' N
  · exact hRR
theorem assign_enum {elt iter : Expr} {x x₂ y : Str} {px px₂ tp py : Pos} {tk} {scope : Scope} {cl : List (Str × Addr)} {pos spos : Pos} {Q : Flow → Shared → Prop} {news : List (Addr × Obj)} {n : Nat} {Pv : Nat → Value → Prop} {Y : Nat → Value → Prop} (hLe : env.locals = L)
    (hsw : swapsWith (.ListComp elt [⟨.Tuple [.Name x px, .Name x₂ px₂] tk tp, iter, [], 0⟩] scope pos) (some (.Name y py)) spos.line env = pure true)
    (hy : env.kindOf y = some .local) (hp : (env.scope.kind == .class || (env.scope.kind == .module && env.locals != env.globals)) = false)
    (hclos : closureFor scope env = pure cl) (hcell : ∀ y ∈ scope.names, y.2 ≠ .cell) (hkind : scope.kind = .function)
    (hnames : ∀ y ∈ scope.names, y.2 = .local → scope.names.lookup y.1 = some .local) (hx : scope.names.lookup x = some .local) (hx₂ : scope.names.lookup x₂ = some .local) (hxx : x ≠ x₂) (hh : A.handled = none) (hsz : n ≤ sizeLine)
    (hit : wpAny (model prog w) A (eval iter env) (fun xv s₁ => ∃ items : Array Value, items.size = n ∧ (∀ i v, items[i]? = some v → Pv i v) ∧ EnumSrc h₀ L m news items s xv s₁) E s)
    (elt_ok : ∀ (i : Nat) (C : Addr) (oC : Obj) (m₂ : Str → Option Value) (h : Heap) (tk : Nat) (t : Tok) (v : Value) (ext : List (Addr × Obj)), i < n → Pv i v → NsObj oC m₂ → m₂ x = some (.int i t) → m₂ x₂ = some v → Fr h₀ L h m → (∀ p ∈ news, p ∈ ext) → News h₀ L h ((C, oC) :: ext) →
      wpAny (model prog w) A (eval elt (compEnvC scope cl C env)) (fun y s' => ∃ h' tk', s' = { s with heap := h', toks := tk' } ∧ Fr h₀ L h' m ∧ News h₀ L h' ((C, oC) :: ext) ∧ Y i y) (fun _ _ => False) { s with heap := h, toks := tk })
    (hQ : ∀ (D : Addr) (ys : List Value) (h : Heap) (tk : Nat), ys.length = n → (∀ i y, ys[i]? = some y → Y i y) → Fr h₀ L h (fun z => if z = y then some (.ref D) else m z) → News h₀ L h ((D, lst ys) :: news) → (∀ p ∈ news, p.1 < D) → Q .next { s with heap := h, toks := tk })
    (hs : ∀ x, foldedSetIterable iter env x = pure x := by intro _; rfl) :
    wpAny (model prog w) A (exec (.Assign [.Name y py] (.ListComp elt [⟨.Tuple [.Name x px, .Name x₂ px₂] tk tp, iter, [], 0⟩] scope pos) spos) env) Q E s := by
  subst hLe
  rw [exec_Assign_Name_used _ _ _ _ hsw]
  refine wpAny_bind (wpAny_standAt (wpAny_bind ?_))
  show wpAny _ A (do let _ ← comprehension (.ListComp elt [⟨.Tuple [.Name x px, .Name x₂ px₂] tk tp, iter, [], 0⟩] scope pos) scope env _ (newList []) false (eval iter env) (some (assign (.Name y py) env))) _ _ s
  refine wpAny_bind (wpAny_mono (wpAny_comprehension_free (use := some (assign (.Name y py) env)) (Q := fun _ s' => Q .next s') rfl hs hclos hkind hnames
    (core_enum hcell hkind hx hx₂ hxx hh hsz hit elt_ok ?_)) (fun _ s' hq => wpAny_pure (wpAny_pure hq)) fun _ _ e => e)
  intro D C h' tk m' ys hl hY F' N' hn hC₀ hCL hCD offC hlt
  show wpAny _ A (assign (.Name y py) env (.ref D)) _ _ _
  refine wpAny_assign_Name (wpAny_storeName_local hy F'.ns (fun h₂ hn₂ hs₂ => ?_) hp)
  have hL₀ : h₀.get? env.locals = none := Heap.get?_none_of_le F'.above
  have F₂ : Fr h₀ env.locals h₂ (fun z => if z = y then some (.ref D) else m z) := ⟨hn₂, fun b o e => hs₂.extBut b o (fun q => by rw [q, hL₀] at e; cases e) (F'.keep b o e), F'.above⟩
  refine ⟨m', hn.sameBut hs₂ hCL, fun h'' hs'' => hQ D ys h'' _ hl hY (F₂.change hs'' hCL hC₀) (fun p hp => ?_) hlt⟩
  have z : h₂.get? p.1 = some p.2 := hs₂.extBut _ _ (N' p hp).2.1 (N' p hp).1
  refine ⟨hs''.extBut _ _ ?_ z, (N' p hp).2⟩
  rcases List.mem_cons.mp hp with rfl | hp
  · exact Ne.symm hCD
  · exact offC p hp
end
end Mine
end
section
open PySem PySem.W PyProof.Rows
namespace Mine
section
variable {prog : Program} {w : World} {A : Around} {h₀ : Heap} {L : Addr} {m : Str → Option Value} {env : Env} {elt : Expr} {x : Str} {scope : Scope} {cl : List (Str × Addr)} {s : Shared} {S : List (Addr × Obj) → Prop} {P : Nat → Value → Prop} {Fin : List Value → List (Addr × Obj) → Prop} {news : List (Addr × Obj)}
/-- a block over a list: what each item gives, told by a property alone -/
theorem comp_rel {n : Nat} (Y : Value → Prop)
    (turn : ∀ i v I oI C oC D m₂ ys h tk (E' : Value → Shared → Prop), i < n → P i v → LCg.NsObj oC m₂ → m₂ x = some v → Fr h₀ L h m → News h₀ L h ((I, oI) :: (C, oC) :: (D, LCg.lst ys) :: news) → LCg.Off3 I C D news → ((@Ne Nat I C) ∧ (@Ne Nat I D) ∧ (@Ne Nat C D)) →
      wpAny (model prog w) A (eval elt (compEnvC scope cl C env)) (LCg.CompEnd h₀ L m { s with heap := h, toks := tk } I oI C oC D (LCg.lst ys) S (fun y news' => news' = news ∧ Y y)) E' { s with heap := h, toks := tk })
    (fin : ∀ ys, ys.length = n → (∀ y ∈ ys, Y y) → Fin ys news) : LCg.CompRest prog w A h₀ L m env elt x scope cl s S P Fin n 0 [] news := by
  have key : ∀ (j i : Nat) (ys : List Value), i + j = n → ys.length = i → (∀ y ∈ ys, Y y) → LCg.CompRest prog w A h₀ L m env elt x scope cl s S P Fin j i ys news := by
    intro j
    induction j with
    | zero =>
      intro i ys hi hl hy
      exact LCg.CompRest.zero (fin ys (by omega) hy)
    | succ j ih =>
      intro i ys hi hl hy
      refine LCg.CompRest.succ ?_
      intro v I oI C oC D m₂ h tk E' hv hC hx F N off ne
      refine wpAny_mono (turn i v I oI C oC D m₂ ys h tk E' (by omega) hv hC hx F N off ne) (fun y s₂ hq => ?_) fun _ _ e => e
      obtain ⟨h', tk', nw, e, F', N', off', hS, hn, hy'⟩ := hq
      rw [hn] at N' off' hS
      refine ⟨h', tk', news, e, F', N', off', hS, ih (i + 1) _ (by omega) (by simp [hl]) ?_⟩
      intro z hz
      rcases List.mem_append.mp hz with hz | hz
      · exact hy z hz
      · rw [List.mem_singleton.mp hz]; exact hy'
  exact key n 0 [] (by omega) rfl fun _ h => nomatch h
end
end Mine
end
section
open PySem PySem.W PyProof.Rows
namespace Mine
set_option maxRecDepth 100000 in
set_option maxHeartbeats 8000000 in
open_top hd for PySem.Challenge.rw_rs0052_01
end Mine
end
section
open PySem PySem.W PyProof.Rows
namespace Mine
open PySem.Sre.M

abbrev SM := PySem.Sre.M
abbrev SSeen := PySem.Sre.Seen
abbrev SFr := PySem.Sre.Frame
def code1 : Array Nat := #[14, 4, 0, 1, 1, 6, 1, 16, 46, 1]
def code2 : Array Nat := #[14, 9, 4, 1, 2, 16, 10, 16, 13, 0, 7, 7, 16, 13, 16, 10, 15, 18, 5, 16, 10, 15, 13, 11, 16, 13, 5, 5, 0, 16, 10, 1, 15, 2, 0, 1]

theorem runFor_stable {m : SM} (h : m.outcome.isSome = true) : ∀ k, runFor k m = m
  | 0 => rfl
  | k + 1 => by unfold runFor; rw [if_pos h]
theorem runFor_add (a : Nat) : ∀ (b : Nat) (m : SM), runFor (b + a) m = runFor a (runFor b m)
  | 0, m => by rw [Nat.zero_add]; rfl
  | b + 1, m => by
    rw [Nat.add_right_comm]
    show (if m.outcome.isSome = true then m else runFor (b + a) m.step) = runFor a (if m.outcome.isSome = true then m else runFor b m.step)
    by_cases h : m.outcome.isSome = true
    · rw [if_pos h, if_pos h, runFor_stable h]
    · rw [if_neg h, if_neg h, runFor_add a b]

/-- what a search tells: it ends, and where -/
def Tells1 (n : Nat) (m : SM) (r : Option (Nat × Nat)) : Prop :=
  match r with
  | some (b, e) => (runFor n m).outcome = some .matched ∧ (runFor n m).start = b ∧ (runFor n m).handed = e
  | none => (runFor n m).outcome = some .failed
theorem Tells1.step {n : Nat} {m m' : SM} {r : Option (Nat × Nat)} (hn : m.outcome = none) (e : m.step = m') (h : Tells1 n m' r) : Tells1 (n + 1) m r := by
  have e1 : runFor (n + 1) m = runFor n m' := by
    show (if m.outcome.isSome = true then m else runFor n m.step) = _
    rw [hn, e]; rfl
  unfold Tells1 at *
  rw [e1]
  exact h

/-- a state of the machine, by what turns -/
def mk (c text : Array Nat) (st pc pos hd : Nat) (om : Bool) (fr : List SFr) (wt : Nat) (an : Option Bool) (sn : SSeen) : SM :=
  { code := c, text := text, lim := text.size, start := st, lastStart := text.size, pc := pc, pos := pos, handed := hd, outermost := om, marks := #[],
    frames := fr, weight := wt, answer := an, seen := sn }
section
variable {c text : Array Nat} {st pc pos hd wt : Nat} {om : Bool} {fr : List SFr} {sn : SSeen}

theorem lit_step {v : Nat} (hpc : pc < c.size) (h0 : c.getD pc 0 = 16) (h1 : c.getD (pc + 1) 0 = v) :
    ∃ sn', (mk c text st pc pos hd om fr wt none sn).step = if (decide (pos < text.size) && text.getD pos 0 == v) = true then mk c text st (pc + 2) (pos + 1) hd om fr wt none sn' else mk c text st pc pos hd om fr wt (some false) sn' := by
  refine ⟨sn.add (c.getD pc 0), ?_⟩
  show (if pc < c.size then PySem.Sre.M.exec (mk c text st pc pos hd om fr wt none sn) else _) = _
  rw [if_pos hpc]
  unfold PySem.Sre.M.exec
  have hw : PySem.Sre.ops[(mk c text st pc pos hd om fr wt none sn).word 0]? = some .LITERAL := by
    show PySem.Sre.ops[c.getD pc 0]? = _
    rw [h0]; rfl
  have ha : ∀ ch s', PySem.Sre.accepts c pc ch s' = .ok (ch == v, s') := by
    intro ch s'
    unfold PySem.Sre.accepts
    rw [h0, h1]; rfl
  have hi : PySem.Sre.itemWidth c pc = 2 := by
    unfold PySem.Sre.itemWidth
    rw [h0]; rfl
  simp only [hw]
  show (if pos ≥ text.size then _ else match PySem.Sre.accepts c pc (text.getD pos 0) _ with | .error why => _ | .ok (false, sq) => _ | .ok (true, sq) => _) = _
  by_cases hp : pos < text.size
  · rw [if_neg (show ¬ (pos ≥ text.size) by omega)]
    show (match PySem.Sre.accepts c pc (text.getD pos 0) _ with | .error why => _ | .ok (false, sq) => _ | .ok (true, sq) => _) = _
    rw [ha]
    cases hv : (text.getD pos 0 == v)
    · rw [if_neg (by simp)]; rfl
    · rw [if_pos (by simp [hp])]
      show mk c text st (pc + PySem.Sre.itemWidth c pc) (pos + 1) hd om fr wt none _ = _
      rw [hi]; rfl
  · rw [if_pos (show pos ≥ text.size by omega), if_neg (by simp [hp])]
    rfl
theorem jump_step {v : Nat} (hpc : pc < c.size) (h0 : c.getD pc 0 = 15) (h1 : c.getD (pc + 1) 0 = v) :
    ∃ sn', (mk c text st pc pos hd om fr wt none sn).step = mk c text st (pc + 1 + v) pos hd om fr wt none sn' := by
  refine ⟨sn.add (c.getD pc 0), ?_⟩
  show (if pc < c.size then PySem.Sre.M.exec (mk c text st pc pos hd om fr wt none sn) else _) = _
  rw [if_pos hpc]
  unfold PySem.Sre.M.exec
  have hw : PySem.Sre.ops[(mk c text st pc pos hd om fr wt none sn).word 0]? = some .JUMP := by
    show PySem.Sre.ops[c.getD pc 0]? = _
    rw [h0]; rfl
  simp only [hw]
  show mk c text st (pc + 1 + c.getD (pc + 1) 0) pos hd om fr wt none _ = _
  rw [h1]; rfl
theorem success_step (hpc : pc < c.size) (h0 : c.getD pc 0 = 1) :
    ∃ sn', (mk c text st pc pos hd om fr wt none sn).step = mk c text st pc pos pos om fr wt (some true) sn' := by
  refine ⟨sn.add (c.getD pc 0), ?_⟩
  show (if pc < c.size then PySem.Sre.M.exec (mk c text st pc pos hd om fr wt none sn) else _) = _
  rw [if_pos hpc]
  unfold PySem.Sre.M.exec
  have hw : PySem.Sre.ops[(mk c text st pc pos hd om fr wt none sn).word 0]? = some .SUCCESS := by
    show PySem.Sre.ops[c.getD pc 0]? = _
    rw [h0]; rfl
  simp only [hw]
  have hf : ∀ a b : Bool, (om && (false && a || false && b)) = false := by intro a b; cases om <;> rfl
  show (if (om && (false && _ || false && _)) = true then _ else _) = _
  rw [hf, if_neg Bool.false_ne_true]
  rfl
theorem branch_step {v : Nat} (hpc : pc < c.size) (h0 : c.getD pc 0 = 7) (h1 : c.getD (pc + 1) 0 = v) (hv : (v == 0) = false) (hw9 : wt ≤ 100) :
    ∃ sn', (mk c text st pc pos hd om fr wt none sn).step = mk c text st (pc + 2) pos pos om ({ wait := .nextBranch, pc := pc + 1, pos := pos, outermost := om } :: fr) (wt + 1) none sn' := by
  refine ⟨sn.add (c.getD pc 0), ?_⟩
  show (if pc < c.size then PySem.Sre.M.exec (mk c text st pc pos hd om fr wt none sn) else _) = _
  rw [if_pos hpc]
  unfold PySem.Sre.M.exec
  have hw : PySem.Sre.ops[(mk c text st pc pos hd om fr wt none sn).word 0]? = some .BRANCH := by
    show PySem.Sre.ops[c.getD pc 0]? = _
    rw [h0]; rfl
  simp only [hw]
  show (if (c.getD (pc + 1) 0 == 0) = true then _ else _) = _
  rw [h1, hv, if_neg Bool.false_ne_true]
  show (if wt + 1 + 0 > 16777216 then _ else _) = _
  rw [if_neg (by omega)]
  rfl
theorem next_no {b v : Nat} {om' : Bool} {p : Nat} (h1 : c.getD b 0 = v) (h2 : (c.getD (b + v) 0 == 0) = false) (hw9 : wt ≤ 100) :
    (mk c text st pc pos hd om ({ wait := .nextBranch, pc := b, pos := p, outermost := om' } :: fr) (wt + 1) (some false) sn).step = mk c text st (b + v + 1) p p om' ({ wait := .nextBranch, pc := b + v, pos := p, outermost := om' } :: fr) (wt + 1) none sn := by
  subst h1
  show (if (c.getD (b + c.getD b 0) 0 == 0) = true then _ else _) = _
  rw [h2, if_neg Bool.false_ne_true]
  show (if wt + 1 - (1 + 0) + 1 + 0 > 16777216 then _ else _) = _
  rw [if_neg (by omega)]
  show mk c text st (b + c.getD b 0 + 1) p p om' ({ wait := .nextBranch, pc := b + c.getD b 0, pos := p, outermost := om' } :: fr) (wt + 1 - (1 + 0) + 1 + 0) none sn = _
  rw [show wt + 1 - (1 + 0) + 1 + 0 = wt + 1 by omega]
theorem next_yes {b : Nat} {om' : Bool} {p : Nat} :
    (mk c text st pc pos hd om ({ wait := .nextBranch, pc := b, pos := p, outermost := om' } :: fr) (wt + 1) (some true) sn).step = mk c text st b p hd om' fr wt (some true) sn := rfl
theorem start_yes {b : Nat} {om' : Bool} {p : Nat} :
    Tells1 2 (mk c text st pc pos hd om [{ wait := .nextStart, pc := b, pos := p, outermost := om' }] wt (some true) sn) (some (st, hd)) := ⟨rfl, rfl, rfl⟩
theorem assertNot_step (hpc : pc < c.size) (h0 : c.getD pc 0 = 5) (h2 : c.getD (pc + 2) 0 = 0) (hw9 : wt ≤ 100) :
    ∃ sn', (mk c text st pc pos hd om fr wt none sn).step = mk c text st (pc + 3) pos pos false ({ wait := .lookNot, pc := pc, pos := pos, outermost := om } :: fr) (wt + 1) none sn' := by
  refine ⟨sn.add (c.getD pc 0), ?_⟩
  show (if pc < c.size then PySem.Sre.M.exec (mk c text st pc pos hd om fr wt none sn) else _) = _
  rw [if_pos hpc]
  unfold PySem.Sre.M.exec
  have hw : PySem.Sre.ops[(mk c text st pc pos hd om fr wt none sn).word 0]? = some .ASSERT_NOT := by
    show PySem.Sre.ops[c.getD pc 0]? = _
    rw [h0]; rfl
  simp only [hw]
  show (if pos < c.getD (pc + 2) 0 then _ else _) = _
  rw [h2, if_neg (Nat.not_lt_zero _)]
  show (if wt + 1 + 0 > 16777216 then _ else _) = _
  rw [if_neg (by omega)]
  show mk c text st (pc + 3) (pos - c.getD (pc + 2) 0) (pos - c.getD (pc + 2) 0) false ({ wait := .lookNot, pc := pc, pos := pos, outermost := om } :: fr) (wt + 1) none (sn.add (c.getD pc 0)) = _
  rw [h2]; rfl
theorem look_no {b v : Nat} {om' : Bool} {p : Nat} (h1 : c.getD (b + 1) 0 = v) :
    (mk c text st pc pos hd om ({ wait := .lookNot, pc := b, pos := p, outermost := om' } :: fr) (wt + 1) (some false) sn).step = mk c text st (b + 1 + v) p hd om' fr wt none sn := by
  show mk c text st (b + 1 + c.getD (b + 1) 0) p hd om' fr wt none sn = _
  rw [h1]
theorem start_no {b : Nat} {om' : Bool} {p : Nat} (hc : ((match PySem.Sre.ops[c.getD 0 0]? with | some .INFO => true | _ => false) && c.getD 2 0 == 4) = false) (h : p < text.size) :
    (mk c text st pc pos hd om [{ wait := .nextStart, pc := b, pos := p, outermost := om' }] 1 (some false) sn).step = mk c text (p + 1) b (p + 1) (p + 1) false [{ wait := .nextStart, pc := b, pos := p + 1, outermost := false }] 1 none sn := by
  show (if p < text.size then _ else _) = _
  rw [if_pos h]
  show (if (!((match PySem.Sre.ops[c.getD 0 0]? with | some .INFO => true | _ => false) && c.getD 2 0 == 4)) = true then _ else _) = _
  rw [hc]
  rfl
theorem start_over {b : Nat} {om' : Bool} {p : Nat} (h : ¬ p < text.size) :
    Tells1 2 (mk c text st pc pos hd om [{ wait := .nextStart, pc := b, pos := p, outermost := om' }] 1 (some false) sn) none := by
  refine Tells1.step (m' := mk c text st b p hd om' [] 0 (some false) sn) rfl ?_ rfl
  show (if p < text.size then _ else _) = _
  rw [if_neg h]
  rfl
end
/-! pattern 1 -/
def at1 (text : Array Nat) (s : Nat) (first : Bool) (sn : SSeen) : SM := mk code1 text s 5 s s first [{ wait := .nextStart, pc := 5, pos := s, outermost := first }] 1 none sn
def bol (text : Array Nat) (s : Nat) : Bool := s == 0 || text.getD (s - 1) 0 == 10

theorem search1 (text : Array Nat) (pos : Nat) (h : pos < text.size) : ∃ sn, PySem.Sre.forSearch code1 text 0 pos text.size false = at1 text pos true sn := by
  have h1 : ¬ ((decide (pos > text.size) || decide (text.size - pos < 1)) = true) := by simp; omega
  exact ⟨_, if_neg h1⟩
theorem search1_end (text : Array Nat) (pos : Nat) (h : ¬ pos < text.size) : Tells1 1 (PySem.Sre.forSearch code1 text 0 pos text.size false) none := by
  have h1 : ((decide (pos > text.size) || decide (text.size - pos < 1)) = true) := by simp; omega
  have e : PySem.Sre.forSearch code1 text 0 pos text.size false = _ := if_pos h1
  unfold Tells1
  rw [e]
  rfl
theorem a1_at (text : Array Nat) (s : Nat) (first : Bool) (sn : SSeen) : ∃ sn', (at1 text s first sn).step = if bol text s = true then mk code1 text s 7 s s first [{ wait := .nextStart, pc := 5, pos := s, outermost := first }] 1 none sn' else mk code1 text s 5 s s first [{ wait := .nextStart, pc := 5, pos := s, outermost := first }] 1 (some false) sn' := by
  refine ⟨(sn.add 6).add 44, ?_⟩
  show (if bol text s = true then _ else _) = _
  by_cases h : bol text s = true
  · rw [if_pos h, if_pos h]; rfl
  · rw [if_neg h, if_neg h]; rfl

/-- the first place from s on where pattern 1 stands -/
def find1 (text : Array Nat) : Nat → Nat → Option (Nat × Nat)
  | 0, _ => none
  | f + 1, s => if (bol text s && text.getD s 0 == 46) = true then some (s, s + 1) else find1 text f (s + 1)

theorem at1_tells (text : Array Nat) : ∀ (f s : Nat) (first : Bool) (sn : SSeen), s + f = text.size → ∃ n, n ≤ 3 * f + 5 ∧ Tells1 n (at1 text s first sn) (find1 text f s)
  | 0, s, first, sn, h => by
    obtain ⟨sn1, e1⟩ := a1_at text s first sn
    by_cases hb : bol text s = true
    · rw [if_pos hb] at e1
      obtain ⟨sn2, e2⟩ := lit_step (c := code1) (text := text) (st := s) (pc := 7) (pos := s) (hd := s) (om := first) (fr := [{ wait := .nextStart, pc := 5, pos := s, outermost := first }]) (wt := 1) (sn := sn1) (v := 46) (by decide) rfl rfl
      rw [if_neg (by simp; omega)] at e2
      exact ⟨4, by omega, Tells1.step rfl e1 (Tells1.step rfl e2 (start_over (by omega)))⟩
    · rw [if_neg hb] at e1
      exact ⟨3, by omega, Tells1.step rfl e1 (start_over (by omega))⟩
  | f + 1, s, first, sn, h => by
    obtain ⟨sn1, e1⟩ := a1_at text s first sn
    rw [find1]
    by_cases hb : bol text s = true
    · rw [if_pos hb] at e1
      obtain ⟨sn2, e2⟩ := lit_step (c := code1) (text := text) (st := s) (pc := 7) (pos := s) (hd := s) (om := first) (fr := [{ wait := .nextStart, pc := 5, pos := s, outermost := first }]) (wt := 1) (sn := sn1) (v := 46) (by decide) rfl rfl
      by_cases hc : (text.getD s 0 == 46) = true
      · rw [if_pos (by rw [hc]; simp; omega)] at e2
        rw [if_pos (by rw [hb, hc]; rfl)]
        obtain ⟨sn3, e3⟩ := success_step (c := code1) (text := text) (st := s) (pc := 9) (pos := s + 1) (hd := s) (om := first) (fr := [{ wait := .nextStart, pc := 5, pos := s, outermost := first }]) (wt := 1) (sn := sn2) (by decide) rfl
        exact ⟨5, by omega, Tells1.step rfl e1 (Tells1.step rfl e2 (Tells1.step rfl e3 start_yes))⟩
      · rw [if_neg (fun x => hc (Bool.and_eq_true_iff.mp x).2)] at e2
        rw [if_neg (fun x => hc (Bool.and_eq_true_iff.mp x).2)]
        obtain ⟨n, hn, ht⟩ := at1_tells text f (s + 1) false sn2 (by omega)
        exact ⟨n + 3, by omega, Tells1.step rfl e1 (Tells1.step rfl e2 (Tells1.step rfl (start_no rfl (by omega)) ht))⟩
    · rw [if_neg hb] at e1
      rw [if_neg (fun x => hb (Bool.and_eq_true_iff.mp x).1)]
      obtain ⟨n, hn, ht⟩ := at1_tells text f (s + 1) false sn1 (by omega)
      exact ⟨n + 2, by omega, Tells1.step rfl e1 (Tells1.step rfl (start_no rfl (by omega)) ht)⟩

theorem tells_1 (text : Array Nat) (s : Nat) (hs : s ≤ text.size) : ∃ n, n ≤ 3 * text.size + 30 ∧ Tells1 n (PySem.Sre.forSearch code1 text 0 s text.size false) (find1 text (text.size - s) s) := by
  by_cases h : s < text.size
  · obtain ⟨sn, e⟩ := search1 text s h
    obtain ⟨n, hn, ht⟩ := at1_tells text (text.size - s) s true sn (by omega)
    exact ⟨n, by omega, by rw [e]; exact ht⟩
  · have : text.size - s = 0 := by omega
    rw [this]
    exact ⟨1, by omega, search1_end text s h⟩

/-! pattern 2 -/
def at2 (text : Array Nat) (s : Nat) (sn : SSeen) : SM := mk code2 text s 10 s s true [{ wait := .nextStart, pc := 10, pos := s, outermost := true }] 1 none sn
def end2 (text : Array Nat) (s : Nat) : Nat := if (text.getD s 0 == 13 && (decide (s + 1 < text.size) && text.getD (s + 1) 0 == 10)) = true then s + 2 else s + 1

theorem at2_tells (text : Array Nat) (s : Nat) (sn : SSeen) (h : s < text.size) (hc : (text.getD s 0 == 10 || text.getD s 0 == 13) = true) : ∃ n, n ≤ 20 ∧ Tells1 n (at2 text s sn) (some (s, end2 text s)) := by
  obtain ⟨sn1, e1⟩ := branch_step (c := code2) (text := text) (st := s) (pc := 10) (pos := s) (hd := s) (om := true) (fr := [{ wait := .nextStart, pc := 10, pos := s, outermost := true }]) (wt := 1) (sn := sn) (v := 7) (by decide) rfl rfl rfl (by omega)
  obtain ⟨sn2, e2⟩ := lit_step (c := code2) (text := text) (st := s) (pc := 12) (pos := s) (hd := s) (om := true) (fr := [{ wait := .nextBranch, pc := 11, pos := s, outermost := true }, { wait := .nextStart, pc := 10, pos := s, outermost := true }]) (wt := 2) (sn := sn1) (v := 13) (by decide) rfl rfl
  have fin : ∀ (q : Nat) (pc b : Nat) (sq : SSeen), (∃ n, n ≤ 4 ∧ Tells1 n (mk code2 text s 35 q pc true [{ wait := .nextBranch, pc := b, pos := s, outermost := true }, { wait := .nextStart, pc := 10, pos := s, outermost := true }] 2 none sq) (some (s, q))) := by
    intro q pc b sq
    obtain ⟨sn8, e8⟩ := success_step (c := code2) (text := text) (st := s) (pc := 35) (pos := q) (hd := pc) (om := true) (fr := [{ wait := .nextBranch, pc := b, pos := s, outermost := true }, { wait := .nextStart, pc := 10, pos := s, outermost := true }]) (wt := 2) (sn := sq) (by decide) rfl
    exact ⟨4, by omega, Tells1.step rfl e8 (Tells1.step rfl next_yes start_yes)⟩
  by_cases h13 : (text.getD s 0 == 13) = true
  · have h10 : (text.getD s 0 == 10) = false := by rw [beq_iff_eq.mp h13]; rfl
    rw [if_pos (by rw [h13]; simp; omega)] at e2
    obtain ⟨sn3, e3⟩ := lit_step (c := code2) (text := text) (st := s) (pc := 14) (pos := s + 1) (hd := s) (om := true) (fr := [{ wait := .nextBranch, pc := 11, pos := s, outermost := true }, { wait := .nextStart, pc := 10, pos := s, outermost := true }]) (wt := 2) (sn := sn2) (v := 10) (by decide) rfl rfl
    by_cases hd : (decide (s + 1 < text.size) && text.getD (s + 1) 0 == 10) = true
    · rw [if_pos hd] at e3
      obtain ⟨sn4, e4⟩ := jump_step (c := code2) (text := text) (st := s) (pc := 16) (pos := s + 2) (hd := s) (om := true) (fr := [{ wait := .nextBranch, pc := 11, pos := s, outermost := true }, { wait := .nextStart, pc := 10, pos := s, outermost := true }]) (wt := 2) (sn := sn3) (v := 18) (by decide) rfl rfl
      obtain ⟨n, hn, ht⟩ := fin (s + 2) s 11 sn4
      rw [show end2 text s = s + 2 from if_pos (by rw [h13, hd]; rfl)]
      exact ⟨n + 4, by omega, Tells1.step rfl e1 (Tells1.step rfl e2 (Tells1.step rfl e3 (Tells1.step rfl e4 ht)))⟩
    · rw [if_neg hd] at e3
      have e4 := next_no (c := code2) (text := text) (st := s) (pc := 14) (pos := s + 1) (hd := s) (om := true) (fr := [{ wait := .nextStart, pc := 10, pos := s, outermost := true }]) (wt := 1) (sn := sn3) (b := 11) (v := 7) (om' := true) (p := s) rfl rfl (by omega)
      obtain ⟨sn5, e5⟩ := lit_step (c := code2) (text := text) (st := s) (pc := 19) (pos := s) (hd := s) (om := true) (fr := [{ wait := .nextBranch, pc := 18, pos := s, outermost := true }, { wait := .nextStart, pc := 10, pos := s, outermost := true }]) (wt := 2) (sn := sn3) (v := 10) (by decide) rfl rfl
      rw [if_neg (by rw [h10]; simp)] at e5
      have e6 := next_no (c := code2) (text := text) (st := s) (pc := 19) (pos := s) (hd := s) (om := true) (fr := [{ wait := .nextStart, pc := 10, pos := s, outermost := true }]) (wt := 1) (sn := sn5) (b := 18) (v := 5) (om' := true) (p := s) rfl rfl (by omega)
      obtain ⟨sn7, e7⟩ := lit_step (c := code2) (text := text) (st := s) (pc := 24) (pos := s) (hd := s) (om := true) (fr := [{ wait := .nextBranch, pc := 23, pos := s, outermost := true }, { wait := .nextStart, pc := 10, pos := s, outermost := true }]) (wt := 2) (sn := sn5) (v := 13) (by decide) rfl rfl
      rw [if_pos (by rw [h13]; simp; omega)] at e7
      obtain ⟨sn8, e8⟩ := assertNot_step (c := code2) (text := text) (st := s) (pc := 26) (pos := s + 1) (hd := s) (om := true) (fr := [{ wait := .nextBranch, pc := 23, pos := s, outermost := true }, { wait := .nextStart, pc := 10, pos := s, outermost := true }]) (wt := 2) (sn := sn7) (by decide) rfl rfl (by omega)
      obtain ⟨sn9, e9⟩ := lit_step (c := code2) (text := text) (st := s) (pc := 29) (pos := s + 1) (hd := s + 1) (om := false) (fr := [{ wait := .lookNot, pc := 26, pos := s + 1, outermost := true }, { wait := .nextBranch, pc := 23, pos := s, outermost := true }, { wait := .nextStart, pc := 10, pos := s, outermost := true }]) (wt := 3) (sn := sn8) (v := 10) (by decide) rfl rfl
      rw [if_neg hd] at e9
      have e10 := look_no (c := code2) (text := text) (st := s) (pc := 29) (pos := s + 1) (hd := s + 1) (om := false) (fr := [{ wait := .nextBranch, pc := 23, pos := s, outermost := true }, { wait := .nextStart, pc := 10, pos := s, outermost := true }]) (wt := 2) (sn := sn9) (b := 26) (v := 5) (om' := true) (p := s + 1) rfl
      obtain ⟨sn11, e11⟩ := jump_step (c := code2) (text := text) (st := s) (pc := 32) (pos := s + 1) (hd := s + 1) (om := true) (fr := [{ wait := .nextBranch, pc := 23, pos := s, outermost := true }, { wait := .nextStart, pc := 10, pos := s, outermost := true }]) (wt := 2) (sn := sn9) (v := 2) (by decide) rfl rfl
      obtain ⟨n, hn, ht⟩ := fin (s + 1) (s + 1) 23 sn11
      rw [show end2 text s = s + 1 from if_neg (fun x => hd (Bool.and_eq_true_iff.mp x).2)]
      exact ⟨n + 11, by omega, Tells1.step rfl e1 (Tells1.step rfl e2 (Tells1.step rfl e3 (Tells1.step rfl e4 (Tells1.step rfl e5 (Tells1.step rfl e6 (Tells1.step rfl e7 (Tells1.step rfl e8 (Tells1.step rfl e9 (Tells1.step rfl e10 (Tells1.step rfl e11 ht))))))))))⟩
  · have h10 : (text.getD s 0 == 10) = true := by
      cases hq : (text.getD s 0 == 10)
      · rw [hq, Bool.false_or] at hc; exact absurd hc h13
      · rfl
    rw [if_neg (fun x => h13 (Bool.and_eq_true_iff.mp x).2)] at e2
    have e4 := next_no (c := code2) (text := text) (st := s) (pc := 12) (pos := s) (hd := s) (om := true) (fr := [{ wait := .nextStart, pc := 10, pos := s, outermost := true }]) (wt := 1) (sn := sn2) (b := 11) (v := 7) (om' := true) (p := s) rfl rfl (by omega)
    obtain ⟨sn5, e5⟩ := lit_step (c := code2) (text := text) (st := s) (pc := 19) (pos := s) (hd := s) (om := true) (fr := [{ wait := .nextBranch, pc := 18, pos := s, outermost := true }, { wait := .nextStart, pc := 10, pos := s, outermost := true }]) (wt := 2) (sn := sn2) (v := 10) (by decide) rfl rfl
    rw [if_pos (by rw [h10]; simp; omega)] at e5
    obtain ⟨sn6, e6⟩ := jump_step (c := code2) (text := text) (st := s) (pc := 21) (pos := s + 1) (hd := s) (om := true) (fr := [{ wait := .nextBranch, pc := 18, pos := s, outermost := true }, { wait := .nextStart, pc := 10, pos := s, outermost := true }]) (wt := 2) (sn := sn5) (v := 13) (by decide) rfl rfl
    obtain ⟨n, hn, ht⟩ := fin (s + 1) s 18 sn6
    rw [show end2 text s = s + 1 from if_neg (fun x => h13 (Bool.and_eq_true_iff.mp x).1)]
    exact ⟨n + 5, by omega, Tells1.step rfl e1 (Tells1.step rfl e2 (Tells1.step rfl e4 (Tells1.step rfl e5 (Tells1.step rfl e6 ht))))⟩

/-- the first place from s on where pattern 2 stands -/
def find2 (text : Array Nat) : Nat → Nat → Option (Nat × Nat)
  | 0, _ => none
  | f + 1, s => if (text.getD s 0 == 10 || text.getD s 0 == 13) = true then some (s, end2 text s) else find2 text f (s + 1)

theorem inSet2 (ch : Nat) (sn : SSeen) : ∃ sn', PySem.Sre.inSet code2 ch code2.size 5 true sn = .ok ((ch == 10 || ch == 13), sn') := by
  by_cases h10 : (ch == 10) = true
  · refine ⟨sn.add 16, ?_⟩
    show (if (ch == 10) = true then _ else _) = _
    rw [if_pos h10, h10]; rfl
  · by_cases h13 : (ch == 13) = true
    · refine ⟨(sn.add 16).add 16, ?_⟩
      show (if (ch == 10) = true then _ else _) = _
      rw [if_neg h10]
      show (if (ch == 13) = true then _ else _) = _
      rw [if_pos h13, h13, Bool.or_true]; rfl
    · refine ⟨((sn.add 16).add 16).add 0, ?_⟩
      show (if (ch == 10) = true then _ else _) = _
      rw [if_neg h10]
      show (if (ch == 13) = true then _ else _) = _
      rw [if_neg h13, Bool.not_eq_true _ |>.mp h10, Bool.not_eq_true _ |>.mp h13]; rfl
theorem admitted2 (m : SM) (text : Array Nat) (hm : m.code = code2) (ht : m.text = text) (hl : m.lim = text.size) : ∀ (f s : Nat) (sn : SSeen), s + f = text.size → ∃ sn', PySem.Sre.M.admitted m (f + 1) s sn = .ok ((find2 text f s).map (·.1), sn')
  | 0, s, sn, h => by
    refine ⟨sn, ?_⟩
    show (if s ≥ m.lim then _ else _) = _
    rw [hl, if_pos (by omega)]; rfl
  | f + 1, s, sn, h => by
    obtain ⟨sn1, e1⟩ := inSet2 (text.getD s 0) sn
    rw [PySem.Sre.M.admitted, hm, ht, hl, e1, if_neg (by omega), find2]
    by_cases hc : (text.getD s 0 == 10 || text.getD s 0 == 13) = true
    · rw [hc, if_pos rfl]; exact ⟨_, rfl⟩
    · rw [Bool.not_eq_true _ |>.mp hc, if_neg Bool.false_ne_true]
      exact admitted2 m text hm ht hl f (s + 1) sn1 (by omega)
theorem find2_some (text : Array Nat) : ∀ (f s b e : Nat), s + f = text.size → find2 text f s = some (b, e) → s ≤ b ∧ b < text.size ∧ (text.getD b 0 == 10 || text.getD b 0 == 13) = true ∧ e = end2 text b
  | 0, _, _, _, _, h => by cases h
  | f + 1, s, b, e, hs, h => by
    rw [find2] at h
    by_cases hc : (text.getD s 0 == 10 || text.getD s 0 == 13) = true
    · rw [if_pos hc] at h
      cases h
      exact ⟨Nat.le_refl _, by omega, hc, rfl⟩
    · rw [if_neg hc] at h
      obtain ⟨a1, a2⟩ := find2_some text f (s + 1) b e (by omega) h
      exact ⟨by omega, a2⟩
theorem tells_2 (text : Array Nat) (s : Nat) (hs : s ≤ text.size) : ∃ n, n ≤ 3 * text.size + 30 ∧ Tells1 n (PySem.Sre.forSearch code2 text 0 s text.size false) (find2 text (text.size - s) s) := by
  by_cases h : s < text.size
  · have h1 : ¬ ((decide (s > text.size) || decide (text.size - s < 1)) = true) := by simp; omega
    have e : PySem.Sre.forSearch code2 text 0 s text.size false = PySem.Sre.M.attemptFrom (mk code2 text s 10 s s true [] 0 none (({} : SSeen).add 14)) s true := if_neg h1
    obtain ⟨sn1, e1⟩ := admitted2 (mk code2 text s 10 s s true [] 0 none (({} : SSeen).add 14)) text rfl rfl rfl (text.size - s) s (({} : SSeen).add 14) (by omega)
    have e2 : PySem.Sre.M.attemptFrom (mk code2 text s 10 s s true [] 0 none (({} : SSeen).add 14)) s true = match PySem.Sre.M.admitted (mk code2 text s 10 s s true [] 0 none (({} : SSeen).add 14)) (text.size + 1 - s) s (({} : SSeen).add 14) with
      | .ok (some q, sq) => at2 text q sq
      | .ok (none, sq) => mk code2 text s 10 s s true [] 0 (some false) sq
      | .error why => _ := rfl
    rw [show text.size + 1 - s = text.size - s + 1 by omega, e1] at e2
    rw [e, e2]
    cases hf : find2 text (text.size - s) s with
    | none => exact ⟨1, by omega, rfl⟩
    | some r =>
      obtain ⟨b, en⟩ := r
      obtain ⟨a1, a2, a3, a4⟩ := find2_some text _ _ _ _ (by omega) hf
      subst a4
      obtain ⟨n, hn, ht⟩ := at2_tells text b sn1 a2 a3
      exact ⟨n, by omega, ht⟩
  · have h1 : ((decide (s > text.size) || decide (text.size - s < 1)) = true) := by simp; omega
    have e : PySem.Sre.forSearch code2 text 0 s text.size false = _ := if_pos h1
    have : text.size - s = 0 := by omega
    rw [this]
    refine ⟨1, by omega, ?_⟩
    unfold Tells1
    rw [e]
    rfl
end Mine
end
section
open PySem PySem.W PyProof.Rows PySem.Builtin PySem.Builtin.Re
namespace Mine
open PySem.Sre.M

section
variable {M : Model} {A : Around} {E : Value → Shared → Prop} {s : Shared}

theorem wp_drive {Q : SM → Shared → Prop} : ∀ (turns n : Nat) (m : SM), n ≤ 4 * turns → 0 < turns → (runFor n m).outcome.isSome = true → Q (runFor n m) s → wpAny M A (reDrive turns m) Q E s
  | 0, _, _, _, h0, _, _ => absurd h0 (Nat.lt_irrefl _)
  | turns + 1, n, m, hn, _, ho, hq => by
    unfold reDrive
    by_cases h4 : (runFor 4 m).outcome.isSome = true
    · show wpAny M A (if (runFor 4 m).outcome.isSome = true then pure (runFor 4 m) else _) Q E s
      rw [if_pos h4]
      have e : runFor 4 m = runFor n m := by
        by_cases hle : n ≤ 4
        · obtain ⟨k, hk⟩ := Nat.le.dest hle
          have := runFor_add k n m
          rw [runFor_stable ho, hk] at this
          exact this
        · obtain ⟨k, rfl⟩ := Nat.le.dest (Nat.le_of_not_le hle)
          rw [runFor_add, runFor_stable h4]
      rw [e]
      exact wpAny_pure hq
    · show wpAny M A (if (runFor 4 m).outcome.isSome = true then pure (runFor 4 m) else _) Q E s
      rw [if_neg h4]
      have hle : 4 ≤ n := by
        by_cases hle : 4 ≤ n
        · exact hle
        · exfalso
          obtain ⟨k, hk⟩ := Nat.le.dest (show n ≤ 4 by omega)
          have := runFor_add k n m
          rw [runFor_stable ho, hk] at this
          rw [this] at h4
          exact h4 ho
      obtain ⟨k, rfl⟩ := Nat.le.dest hle
      rw [runFor_add] at ho hq
      by_cases h0 : 0 < turns
      · exact wpAny_bind (wpAny_rule (wp_drive turns k _ (by omega) h0 ho hq))
      · have hk : k = 0 := by omega
        subst hk
        exact absurd ho h4

theorem wp_notes (m : SM) {Q : PUnit → Shared → Prop} (hq : Q ⟨⟩ s) : ∀ l : List Nat, wpAny M A (forIn l PUnit.unit fun i _ => do
      if m.seen.has i then rule (PySem.Sre.names.getD i "")
      pure (ForInStep.yield PUnit.unit)) Q E s
  | [] => by rw [List.forIn_nil]; exact wpAny_pure hq
  | i :: l => by
    rw [List.forIn_cons]
    refine wpAny_bind ?_
    by_cases h : m.seen.has i = true
    · rw [if_pos h]
      exact wpAny_bind (wpAny_rule (wpAny_pure (wp_notes m hq l)))
    · rw [if_neg h]
      exact wpAny_pure (wp_notes m hq l)

theorem wp_toEnd {m : SM} {n : Nat} {r : Option (Nat × Nat)} {Q : Option SM → Shared → Prop} (hn : n ≤ 2 ^ 60) (ht : Tells1 n m r)
    (hq : ∀ m' : Option SM, m'.map (fun m => (m.start, m.handed)) = r → Q m' s) : wpAny M A (reRunToEnd m) Q E s := by
  unfold reRunToEnd
  refine wpAny_bind (wp_drive (2 ^ 64) n m (by omega) (by decide) (by unfold Tells1 at ht; cases r with | none => rw [ht]; rfl | some x => rw [ht.1]; rfl) ?_)
  refine wpAny_bind (wp_notes _ ?_ _)
  unfold Tells1 at ht
  cases r with
  | none =>
    simp only [ht]
    exact wpAny_pure (hq none rfl)
  | some x =>
    simp only [ht.1]
    exact wpAny_pure (hq (some _) (by rw [Option.map_some, ht.2.1, ht.2.2]))
end

/-- a pattern without groups, for texts -/
structure IsPat (h : Heap) (pat : Addr) (code : Array Nat) : Prop where
  ex : ∃ (o oc : Obj) (vs : Array Value) (ca : Addr) (cv : Array Value) (n : Nat), h.get? pat = some o ∧ o.cls = .type "re.Pattern" ∧ o.data = .fields vs ∧ vs.getD 5 .none = .ref ca ∧ reRawNat (vs.getD 2 .none) = 0 ∧ reRawNat (vs.getD 6 .none) = 0 ∧
    h.get? ca = some oc ∧ oc.data = .seq cv n ∧ (cv.map reRawOf).map (·.toNat) = code
theorem IsPat.keeps {h h' : Heap} {pat : Addr} {code : Array Nat} (I : IsPat h pat code) (hk : ∀ b o, h.get? b = some o → h'.get? b = some o) : IsPat h' pat code := by
  obtain ⟨o, oc, vs, ca, cv, n, h1, h2, h3, h4, h5, h6, h7, h8, h9⟩ := I.ex
  exact ⟨o, oc, vs, ca, cv, n, hk _ _ h1, h2, h3, h4, h5, h6, hk _ _ h7, h8, h9⟩

section
variable {M : Model} {A : Around} {E : Value → Shared → Prop} {s : Shared}
theorem wp_target {pat : Addr} {code : Array Nat} {x : Str} {tx : Tok} {Q : ReTarget → Shared → Prop} (I : IsPat s.heap pat code)
    (h : Q { pattern := .ref pat, string := .str x tx, code := code, text := x.cps, kind := 0, groups := 0, pos := 0, lim := x.cps.size } s) : wpAny M A (reWholeTarget (.ref pat) (.str x tx)) Q E s := by
  obtain ⟨o, oc, vs, ca, cv, n, h1, h2, h3, h4, h5, h6, h7, h8, h9⟩ := I.ex
  unfold reWholeTarget
  refine wpAny_bind (wpAny_fieldsOf h1 h3 ?_)
  refine wpAny_bind (m := reTextOf (.str x tx)) ?_
  show wpAny M A (pure (x.cps, 0)) _ E s
  refine wpAny_pure ?_
  simp only [h6]
  show wpAny M A (reRawItems (vs.getD 5 .none) >>= _) Q E s
  rw [h4]
  unfold reRawItems
  refine wpAny_bind (wpAny_bind (wpAny_seqItems h7 h8 (wpAny_pure (wpAny_pure ?_))))
  simp only [Option.getD_some, h9, h5]
  exact h
theorem glued_empty : ∀ (ps : List Str), (Str.join ⟨#[]⟩ ps).cps.toList = (ps.map (·.cps.toList)).flatten
  | [] => rfl
  | [x] => by simp [Str.join]
  | x :: y :: r => by
    have ih := glued_empty (y :: r)
    show ((x ++ (⟨#[]⟩ : Str)) ++ Str.join ⟨#[]⟩ (y :: r)).cps.toList = _
    rw [List.map_cons, List.flatten_cons, ← ih]
    show ((x.cps ++ #[]) ++ (Str.join ⟨#[]⟩ (y :: r)).cps).toList = _
    simp
def pcat (ps : List (Str × Tok)) : List Nat := (ps.map (·.1.cps.toList)).flatten
theorem pcat_snoc (ps : List (Str × Tok)) (x : Str) (t : Tok) : pcat (ps ++ [(x, t)]) = pcat ps ++ x.cps.toList := by simp [pcat]
theorem lens_pcat : ∀ ps : List (Str × Tok), ((ps.map (·.1)).map (·.length)).sum = (pcat ps).length
  | [] => rfl
  | p :: r => by
    have := lens_pcat r
    simp only [pcat, List.map_cons, List.sum_cons, List.flatten_cons, List.length_append] at this ⊢
    rw [this]; rfl
theorem strValues_snoc (ps : List (Str × Tok)) (x : Str) (t : Tok) : (strValues ps).toArray.push (.str x t) = (strValues (ps ++ [(x, t)])).toArray := by simp [strValues]
end

theorem entry_loop : entryFor table "re.Pattern.sub.loop" = some Builtin.«re.Pattern.sub.loop» := entryFor_of_tree (by kernel_rfl)
theorem under_loop (A : Around) (a : Args) : A.under (.builtin "re.Pattern.sub.loop" a) = A.in1 := Around.under_plainId (by decide +kernel) a
theorem quiet_loop (a : Args) : (Code.builtin "re.Pattern.sub.loop" a).quiet = true := plainId_quiet (by decide +kernel) a

abbrev lObj (xs : Array Value) (n : Nat) : Obj := { cls := .type "list", data := .seq xs n }
theorem upd_list {h : Heap} {l : Addr} {xs : Array Value} {n : Nat} (hl : h.get? l = some (lObj xs n)) (v : Value) : (h.update l (Obj.mapSeq (·.push v))).get? l = some (lObj (xs.push v) (n + 1)) := by
  have e := Heap.get?_update_self (h := h) (a := l) (o := lObj xs n) (Obj.mapSeq (·.push v)) hl rfl
  rw [e]
  show some (⟨.type "list", none, .seq (xs.push v) (if (xs.push v).size == xs.size then n else n + 1), #[]⟩ : Obj) = _
  rw [if_neg (by simp)]
theorem upd_base {h₀ h : Heap} {l : Addr} {f : Obj → Obj} (hb : ∀ b o, h₀.get? b = some o → h.get? b = some o) (hn : h₀.get? l = none) : ∀ b o, h₀.get? b = some o → (h.update l f).get? b = some o := by
  intro b o e
  rw [Heap.get?_update_other _ _ (fun e9 => by subst e9; rw [hn] at e; cases e)]
  exact hb b o e

section
variable {prog : Program} {w : World} {A : Around} {R : Result → Shared → Prop}
theorem sub_loop (code : Array Nat) (x r : Str) (tx tr : Tok) (pat : Addr) (find : Nat → Option (Nat × Nat)) (F : Nat → List Nat) (h₀ : Heap) (s₀ : Shared) (I : IsPat h₀ pat code)
    (hx : x.cps.size ≤ 2 ^ 20) (hr : r.cps.size ≤ 2)
    (hfind : ∀ i, i ≤ x.cps.size → ∃ n, n ≤ 2 ^ 60 ∧ Tells1 n (PySem.Sre.forSearch code x.cps 0 i x.cps.size false) (find i))
    (hsome : ∀ i b e, i ≤ x.cps.size → find i = some (b, e) → i ≤ b ∧ b < e ∧ e ≤ x.cps.size)
    (hF : ∀ i, i ≤ x.cps.size → F i = match find i with | none => (x.cps.extract i x.cps.size).toList | some (b, e) => (x.cps.extract i b).toList ++ r.cps.toList ++ F e)
    (res : List Nat) (hR : ∀ t h' tk', (∀ b o, h₀.get? b = some o → h'.get? b = some o) → R (.ok (.ret (.str ⟨res.toArray⟩ t))) { s₀ with heap := h', toks := tk' }) :
    ∀ (k i : Nat), x.cps.size - i = k → i ≤ x.cps.size → ∀ (h : Heap) (tk : Nat) (l : Addr) (ps : List (Str × Tok)) (nn : Nat) (cnt : Int), (∀ b o, h₀.get? b = some o → h.get? b = some o) → h₀.get? l = none → h.get? l = some (lObj (strValues ps).toArray nn) →
      ps.length ≤ 2 * i → (pcat ps).length ≤ 3 * i → pcat ps ++ F i = res →
      codeAny (model prog w) A (.builtin "re.Pattern.sub.loop" ⟨[.ref pat, .str x tx, .str r tr, rawInt 0, rawInt 0, rawInt cnt, rawInt i, rawInt i, .bool false, .ref l, .bool false], []⟩) R { s₀ with heap := h, toks := tk } := by
  intro k
  induction k using Nat.strongRecOn with
  | ind k ih =>
  intro i hk hi h tk l ps nn cnt hb hnl hl hps hpc hres
  refine codeAny_builtin entry_loop ?_
  rw [under_loop]
  show wpAny _ _ (reWholeTarget (.ref pat) (.str x tx) >>= _) _ _ _
  refine wpAny_bind (wp_target (I.keeps hb) ?_)
  obtain ⟨n, hn, ht⟩ := hfind i hi
  show wpAny _ _ (reNextFound _ (Int.toNat (i : Int)) false >>= _) _ _ _
  rw [Int.toNat_natCast]
  refine wpAny_bind (wp_toEnd hn ht ?_)
  have hFi := hF i hi
  intro m' hm'
  cases m' with
  | none =>
    rw [← show none = find i from hm'] at hFi
    dsimp only at hFi ⊢
    have hsz : x.length ≤ sizeLine := by rw [sizeLine_eq]; show x.cps.size ≤ _; omega
    have tail : ∀ (h : Heap) (tk : Nat) (ps : List (Str × Tok)) (nn : Nat), (∀ b o, h₀.get? b = some o → h.get? b = some o) → h.get? l = some (lObj (strValues ps).toArray nn) → (pcat ps).length ≤ 2 ^ 23 → pcat ps = res →
        wpAny (model prog w) A.in1 (do
          let joiner ← reSlice x.cps 0 0 0
          let y ← seqItems? (.ref l)
          let text ← if (y.getD #[]).isEmpty = true then pure joiner else call (.builtin "str.join") [joiner, .ref l]
          ret text) (fun fin s' => match fin with | .done f => R (.ok f) s' | .again c' => c'.quiet = true ∧ codeAny (model prog w) A c' R s') (fun e s' => R (.error e) s') { s₀ with heap := h, toks := tk } := by
      intro h tk ps nn hb hl hpc hres
      show wpAny _ _ (mkStr ⟨x.cps.extract 0 0⟩ >>= _) _ _ _
      have e0 : x.cps.extract 0 0 = #[] := by simp
      rw [e0]
      refine wpAny_bind (wpAny_mkStr ?_ (by decide))
      refine wpAny_bind (wpAny_seqItems hl rfl ?_)
      dsimp only [Option.getD_some]
      cases ps with
      | nil =>
        rw [if_pos (by simp [strValues])]
        refine wpAny_bind (wpAny_pure (wpAny_pure ?_))
        have := hR tk h (tk + 1) hb
        rw [← hres] at this
        exact this
      | cons p ps =>
        rw [if_neg (by simp [strValues])]
        refine wpAny_bind (SC.join (l := p :: ps) ⟨_, hl, rfl, _, rfl⟩ rfl ?_ fun t' k' => wpAny_pure ?_)
        · unfold JoinOk
          rw [StrLaws.joinTotal, lens_pcat]
          show (!decide (_ > sizeLine)) = true
          rw [sizeLine_eq, show (⟨#[]⟩ : Str).length = 0 from rfl]
          simp; omega
        · have e1 : Txt.join ⟨#[]⟩ ((p :: ps).map (·.1)) = ⟨res.toArray⟩ := by
            show PySem.Builtin.Str.glued _ _ = _
            rw [StrLaws.glued_eq_join, ← hres]
            have := glued_empty ((p :: ps).map (·.1))
            rw [List.map_map] at this
            show Str.mk (Str.join ⟨#[]⟩ ((p :: ps).map (·.1))).cps = _
            congr 1
            rw [← Array.toList_inj]
            exact this
          rw [e1]
          exact hR _ h _ hb
    by_cases hlt : i < x.cps.size
    · rw [if_pos hlt]
      show wpAny _ _ (mkStr ⟨x.cps.extract i x.cps.size⟩ >>= _) _ _ _
      refine wpAny_bind (wpAny_mkStr ?_ (by rw [sizeLine_eq]; show (x.cps.extract i x.cps.size).size ≤ _; rw [Array.size_extract]; omega))
      refine wpAny_bind (wpAny_updateSeq hl rfl ?_ (by rw [sizeLine_eq]; simp [strValues]; omega) (by rw [sizeLine_eq]; simp [strValues]; omega))
      refine tail _ _ (ps ++ [(⟨x.cps.extract i x.cps.size⟩, tk)]) (nn + 1) (upd_base hb hnl) ?_ ?_ ?_
      · rw [← strValues_snoc]; exact upd_list hl _
      · rw [pcat_snoc, List.length_append]; simp; omega
      · rw [pcat_snoc, ← hFi, hres]
    · rw [if_neg hlt]
      refine tail _ _ ps nn hb hl (by omega) ?_
      rw [← hres, hFi]
      simp; omega
  | some m' =>
    have hfi : find i = some (m'.start, m'.handed) := hm'.symm
    obtain ⟨a1, a2, a3⟩ := hsome i _ _ hi hfi
    rw [hfi] at hFi
    dsimp only at hFi ⊢
    have tail : ∀ (h : Heap) (tk : Nat) (ps : List (Str × Tok)) (nn : Nat), (∀ b o, h₀.get? b = some o → h.get? b = some o) → h.get? l = some (lObj (strValues ps).toArray nn) → ps.length ≤ 2 * i + 1 → (pcat ps).length ≤ 2 * i + m'.start → pcat ps ++ r.cps.toList ++ F m'.handed = res →
        wpAny (model prog w) A.in1 (do
          updateSeq l (·.push (.str r tr))
          again (Code.builtin "re.Pattern.sub.loop" ⟨[.ref pat, .str x tx, .str r tr, rawInt 0, rawInt 0, rawInt (cnt + 1), rawInt ↑m'.handed, rawInt ↑m'.handed, .bool (m'.handed == m'.start), .ref l, .bool false], []⟩)) (fun fin s' => match fin with | .done f => R (.ok f) s' | .again c' => c'.quiet = true ∧ codeAny (model prog w) A c' R s') (fun e s' => R (.error e) s') { s₀ with heap := h, toks := tk } := by
      intro h tk ps nn hb hl hps hpc hres
      refine wpAny_bind (wpAny_updateSeq hl rfl ?_ (by rw [sizeLine_eq]; simp [strValues]; omega) (by rw [sizeLine_eq]; simp [strValues]; omega))
      refine wpAny_pure ⟨quiet_loop _, ?_⟩
      rw [show (m'.handed == m'.start) = false by simp; omega]
      refine ih (x.cps.size - m'.handed) (by omega) m'.handed rfl a3 _ _ l (ps ++ [(r, tr)]) (nn + 1) _ (upd_base hb hnl) hnl ?_ ?_ ?_ ?_
      · rw [← strValues_snoc]; exact upd_list hl _
      · rw [List.length_append]; simp; omega
      · rw [pcat_snoc, List.length_append]
        have hq : r.cps.toList.length = r.cps.size := Array.length_toList
        omega
      · rw [pcat_snoc, hres]
    by_cases hlt : i < m'.start
    · rw [if_pos hlt]
      show wpAny _ _ (mkStr ⟨x.cps.extract i m'.start⟩ >>= _) _ _ _
      refine wpAny_bind (wpAny_mkStr ?_ (by rw [sizeLine_eq]; show (x.cps.extract i m'.start).size ≤ _; rw [Array.size_extract]; omega))
      refine wpAny_bind (wpAny_updateSeq hl rfl ?_ (by rw [sizeLine_eq]; simp [strValues]; omega) (by rw [sizeLine_eq]; simp [strValues]; omega))
      refine tail _ _ (ps ++ [(⟨x.cps.extract i m'.start⟩, tk)]) (nn + 1) (upd_base hb hnl) ?_ ?_ ?_ ?_
      · rw [← strValues_snoc]; exact upd_list hl _
      · rw [List.length_append]; simp; omega
      · rw [pcat_snoc, List.length_append]; simp; omega
      · rw [pcat_snoc, ← hres, hFi]; simp
    · rw [if_neg hlt]
      refine tail _ _ ps nn hb hl (by omega) (by omega) ?_
      rw [← hres, hFi]
      have : i = m'.start := by omega
      rw [← this]; simp
end
end Mine
end
section
open PySem PySem.W PyProof.Rows PySem.Builtin PySem.Builtin.Re
namespace Mine
open PySem.Sre.M

theorem pa_pat : PlainAttrs "re.Pattern" :=
  ⟨⟨"object.__getattribute__", by rw [typeLookup_type, builtinLookup_eq_fast]; kernel_rfl, by decide +kernel⟩, by rw [typeLookup_type, builtinLookup_eq_fast]; kernel_rfl⟩
theorem slot_sub : Slot "re.Pattern" "sub" "re.Pattern.sub" :=
  .of (owner := "re.Pattern") (n := "sub") (by rw [typeLookup_type, builtinLookup_eq_fast]; kernel_rfl) (by decide +kernel) (by decide +kernel) (by decide +kernel)
    (by first | exact .inl (by decide +kernel) | exact .inr (by decide +kernel)) (by rw [isSubtype_type]; kernel_rfl)
theorem entry_sub : entryFor table "re.Pattern.sub" = some Builtin.«re.Pattern.sub» := entryFor_of_tree (by kernel_rfl)
theorem args_sub (a b c : Value) : argsOk "re.Pattern.sub" ⟨[a, b, c], []⟩ := by unfold argsOk; kernel_rfl
theorem type_sub : typeOf (.builtin "re.Pattern.sub") = pure (.type "method_descriptor") := by show builtinType _ = _; rw [builtinType_eq_fast]; kernel_rfl
theorem str_nocall : typeLookup (.type "str") "__call__" = pure none := by rw [typeLookup_type, builtinLookup_eq_fast]; kernel_rfl

section
variable {prog : Program} {w : World} {A : Around} {E : Value → Shared → Prop} {s : Shared}
theorem named_sub (r x : Str) (tr tx : Tok) : reNamed "re.Pattern.sub" "sub" ["repl", "string", "count"] 2 [.str r tr, .str x tx] [] = pure [some (.str r tr), some (.str x tx), none] := rfl
theorem meth_sub {pat : Addr} {code : Array Nat} {pl : Sem Bool} {Q : Value × List Value → Shared → Prop} (I : IsPat s.heap pat code) (hd : ∃ o, s.heap.get? pat = some o ∧ o.dict = none) (h : Q (.builtin "re.Pattern.sub", [.ref pat]) s) :
    wpAny (model prog w) A (getMethod (.ref pat) "sub" pl) Q E s := by
  obtain ⟨o, oc, vs, ca, cv, n, h1, h2, h3, h4, h5, h6, h7, h8, h9⟩ := I.ex
  exact getMethod_builtin ⟨o, h1, h2⟩ pa_pat slot_sub type_sub (fun a e => by cases e; exact hd) h
theorem sub_call (code : Array Nat) (x r : Str) (tx tr : Tok) (pat : Addr) (find : Nat → Option (Nat × Nat)) (F : Nat → List Nat) (I : IsPat s.heap pat code)
    (hx : x.cps.size ≤ 2 ^ 20) (hr : r.cps.size ≤ 2) (hbs : r.cps.contains 92 = false)
    (hfind : ∀ i, i ≤ x.cps.size → ∃ n, n ≤ 2 ^ 60 ∧ Tells1 n (PySem.Sre.forSearch code x.cps 0 i x.cps.size false) (find i))
    (hsome : ∀ i b e, i ≤ x.cps.size → find i = some (b, e) → i ≤ b ∧ b < e ∧ e ≤ x.cps.size)
    (hF : ∀ i, i ≤ x.cps.size → F i = match find i with | none => (x.cps.extract i x.cps.size).toList | some (b, e) => (x.cps.extract i b).toList ++ r.cps.toList ++ F e)
    {Q : Value → Shared → Prop}
    (hR : ∀ t h' tk', (∀ b o, s.heap.get? b = some o → h'.get? b = some o) → Q (.str ⟨(F 0).toArray⟩ t) { s with heap := h', toks := tk' }) :
    wpAny (model prog w) A (call (.builtin "re.Pattern.sub") [.ref pat, .str r tr, .str x tx]) Q E s := by
  obtain ⟨o, oc, vs, ca, cv, n, h1, h2, h3, h4, h5, h6, h7, h8, h9⟩ := I.ex
  refine wpAny_call (codeAny_call_builtin slot_sub.plain entry_sub (slot_sub.check _ _ _ _ _ _ _ _ ⟨o, h1, h2⟩ (args_sub _ _ _) ?_))
  show wpAny _ _ (reSubstitute "re.Pattern.sub" "sub" false ⟨[.ref pat, .str r tr, .str x tx], []⟩) _ _ s
  unfold reSubstitute
  show wpAny _ _ (reNamed "re.Pattern.sub" "sub" ["repl", "string", "count"] 2 [.str r tr, .str x tx] [] >>= _) _ _ s
  rw [named_sub]
  refine wpAny_bind (wpAny_pure ?_)
  refine wpAny_bind (wpAny_pure ?_)
  refine wpAny_bind (wpAny_specialOf (typeIs_str _ _ _) str_nocall ?_)
  simp only [Option.isSome_none, Bool.false_eq_true, if_false]
  refine wpAny_bind (wpAny_of_eq (show asStr? (.str r tr) = pure (some r) from rfl) ?_)
  dsimp only
  rw [hbs]
  refine wpAny_bind (wpAny_pure ?_)
  rw [if_pos (show (!false) = true from rfl)]
  refine wpAny_bind (wpAny_pure ?_)
  refine wpAny_bind (wpAny_holding (wp_target I ?_))
  refine wpAny_bind (wpAny_newList ?_ (by decide))
  refine wpAny_pure ⟨quiet_loop _, ?_⟩
  refine sub_loop code x r tx tr pat find F s.heap s I hx hr hfind hsome hF (F 0) ?_ x.cps.size 0 (by omega) (by omega) _ s.toks s.heap.objs.size [] 0 0 (fun b o e => Heap.get?_push_of_some _ e) ?_ (Heap.get?_push_size _ rfl) (by simp) (by simp [pcat]) rfl
  · intro t h' tk' hk
    exact hR t h' tk' hk
  · cases hq : s.heap.get? s.heap.objs.size with
    | none => rfl
    | some o' => exact absurd (Heap.lt_size hq) (Nat.lt_irrefl _)
end

/-! what the two patterns do, in plain words -/
def crlf : List Nat → List Nat
  | [] => []
  | 13 :: 10 :: r => 13 :: 10 :: crlf r
  | c :: r => if c == 10 || c == 13 then 13 :: 10 :: crlf r else c :: crlf r
def dots : Bool → List Nat → List Nat
  | _, [] => []
  | b, c :: r => if b && c == 46 then 46 :: 46 :: dots false r else c :: dots (c == 10) r
def qd (x : List Nat) : List Nat := dots true (crlf x)
def quoted (x : Str) : Str := ⟨(qd x.cps.toList).toArray⟩

theorem getD_drop {x : Array Nat} {i : Nat} (h : i < x.size) : x.toList.drop i = x.getD i 0 :: x.toList.drop (i + 1) := by
  rw [List.drop_eq_getElem_cons (by simpa using h)]
  simp [Array.getD, h]
theorem ext_nil (x : Array Nat) (i : Nat) : (x.extract i i).toList = [] := by simp
theorem ext_all (x : Array Nat) (i : Nat) : (x.extract i x.size).toList = x.toList.drop i := by
  rw [Array.toList_extract, ← Array.length_toList, List.extract_eq_take_drop, List.take_of_length_le (by simp)]
theorem ext_cons {x : Array Nat} {i b : Nat} (h : i < b) (hb : b ≤ x.size) : (x.extract i b).toList = x.getD i 0 :: (x.extract (i + 1) b).toList := by
  rw [Array.toList_extract, Array.toList_extract, List.extract_eq_take_drop, List.extract_eq_take_drop, getD_drop (by omega), show b - i = (b - (i + 1)) + 1 by omega, List.take_succ_cons]

theorem crlf_cons_other {c : Nat} {r : List Nat} (h : (c == 10 || c == 13) = false) : crlf (c :: r) = c :: crlf r := by
  have h13 : c ≠ 13 := by intro e; subst e; simp at h
  rw [crlf]
  · rw [if_neg (by rw [h]; exact Bool.false_ne_true)]
  · intro r' e; exact absurd e h13
theorem crlf_10 (r : List Nat) : crlf (10 :: r) = 13 :: 10 :: crlf r := by
  rw [crlf]
  · rfl
  · intro r' e; cases e
theorem crlf_13 {r : List Nat} (h : r.head? ≠ some 10) : crlf (13 :: r) = 13 :: 10 :: crlf r := by
  rw [crlf]
  · rfl
  · intro r' _ e; subst e; exact h rfl

/-- what pattern 2 leaves from place i on -/
theorem crlf_find (x : Array Nat) : ∀ (f i : Nat), i + f = x.size → crlf (x.toList.drop i) = match find2 x f i with | none => (x.extract i x.size).toList | some (b, e) => (x.extract i b).toList ++ [13, 10] ++ crlf (x.toList.drop e)
  | 0, i, h => by
    rw [find2, ext_all, List.drop_of_length_le (by simp; omega)]; rfl
  | f + 1, i, h => by
    rw [find2]
    have hd := getD_drop (x := x) (i := i) (by omega)
    by_cases hc : (x.getD i 0 == 10 || x.getD i 0 == 13) = true
    · rw [if_pos hc]
      dsimp only
      rw [ext_nil, List.nil_append, hd]
      by_cases h13 : (x.getD i 0 == 13) = true
      · have e13 := beq_iff_eq.mp h13
        by_cases hn : (decide (i + 1 < x.size) && x.getD (i + 1) 0 == 10) = true
        · have hlt : i + 1 < x.size := by simpa using (Bool.and_eq_true_iff.mp hn).1
          have e10 := beq_iff_eq.mp (Bool.and_eq_true_iff.mp hn).2
          rw [show end2 x i = i + 2 from if_pos (by rw [h13, hn]; rfl), getD_drop hlt, e13, e10, crlf]; rfl
        · rw [show end2 x i = i + 1 from if_neg (fun q => hn (Bool.and_eq_true_iff.mp q).2), e13, crlf_13]; · rfl
          intro he
          by_cases hlt : i + 1 < x.size
          · rw [getD_drop hlt] at he
            exact hn (by rw [Option.some.inj he]; simp [hlt])
          · rw [List.drop_of_length_le (by simp; omega)] at he; cases he
      · have h10 : x.getD i 0 = 10 := by
          cases hq : (x.getD i 0 == 10)
          · rw [hq, Bool.false_or] at hc; exact absurd hc h13
          · exact beq_iff_eq.mp hq
        rw [show end2 x i = i + 1 from if_neg (fun q => h13 (Bool.and_eq_true_iff.mp q).1), h10, crlf_10]; rfl
    · rw [if_neg hc, hd, crlf_cons_other (by cases h9 : (x.getD i 0 == 10 || x.getD i 0 == 13) <;> simp_all), crlf_find x f (i + 1) (by omega)]
      cases hf : find2 x f (i + 1) with
      | none => dsimp only; rw [← ext_cons (by omega) (Nat.le_refl _)]
      | some be =>
        obtain ⟨b, e⟩ := be
        obtain ⟨a1, a2, _, _⟩ := find2_some x _ _ _ _ (by omega) hf
        dsimp only
        rw [← List.cons_append, ← List.cons_append, ← ext_cons (by omega) (by omega)]
theorem find1_some (text : Array Nat) : ∀ (f s b e : Nat), s + f = text.size → find1 text f s = some (b, e) → s ≤ b ∧ b < text.size ∧ bol text b = true ∧ text.getD b 0 = 46 ∧ e = b + 1
  | 0, _, _, _, _, h => by cases h
  | f + 1, s, b, e, hs, h => by
    rw [find1] at h
    by_cases hc : (bol text s && text.getD s 0 == 46) = true
    · rw [if_pos hc] at h
      cases h
      exact ⟨Nat.le_refl _, by omega, (Bool.and_eq_true_iff.mp hc).1, beq_iff_eq.mp (Bool.and_eq_true_iff.mp hc).2, rfl⟩
    · rw [if_neg hc] at h
      obtain ⟨a1, a2⟩ := find1_some text f (s + 1) b e (by omega) h
      exact ⟨by omega, a2⟩
theorem dots_find (x : Array Nat) : ∀ (f i : Nat), i + f = x.size → dots (bol x i) (x.toList.drop i) = match find1 x f i with | none => (x.extract i x.size).toList | some (b, e) => (x.extract i b).toList ++ [46, 46] ++ dots (bol x e) (x.toList.drop e)
  | 0, i, h => by
    rw [find1, ext_all, List.drop_of_length_le (by simp; omega)]; rfl
  | f + 1, i, h => by
    rw [find1]
    have hd := getD_drop (x := x) (i := i) (by omega)
    have hb : bol x (i + 1) = (x.getD i 0 == 10) := by simp [bol]
    by_cases hc : (bol x i && x.getD i 0 == 46) = true
    · rw [if_pos hc]
      dsimp only
      rw [ext_nil, List.nil_append, hd, dots, if_pos hc, hb, beq_iff_eq.mp (Bool.and_eq_true_iff.mp hc).2]; rfl
    · rw [if_neg hc, hd, dots, if_neg hc, ← hb, dots_find x f (i + 1) (by omega)]
      cases hf : find1 x f (i + 1) with
      | none => dsimp only; rw [← ext_cons (by omega) (Nat.le_refl _)]
      | some be =>
        obtain ⟨b, e⟩ := be
        obtain ⟨a1, a2, _, _⟩ := find1_some x _ _ _ _ (by omega) hf
        dsimp only
        rw [← List.cons_append, ← List.cons_append, ← ext_cons (by omega) (by omega)]

section
variable {prog : Program} {w : World} {A : Around} {E : Value → Shared → Prop} {s : Shared} {Q : Value → Shared → Prop}
theorem sub_crlf {x r : Str} {tx tr : Tok} {pat : Addr} (I : IsPat s.heap pat code2) (hx : x.cps.size ≤ 2 ^ 20) (hr : r.cps = #[13, 10])
    (hR : ∀ t h' tk', (∀ b o, s.heap.get? b = some o → h'.get? b = some o) → Q (.str ⟨(crlf x.cps.toList).toArray⟩ t) { s with heap := h', toks := tk' }) :
    wpAny (model prog w) A (call (.builtin "re.Pattern.sub") [.ref pat, .str r tr, .str x tx]) Q E s := by
  refine sub_call code2 x r tx tr pat (fun i => find2 x.cps (x.cps.size - i) i) (fun i => crlf (x.cps.toList.drop i)) I hx (by rw [hr]; decide) (by rw [hr]; decide +kernel) ?_ ?_ ?_ hR
  · intro i hi
    obtain ⟨n, hn, ht⟩ := tells_2 x.cps i hi
    exact ⟨n, by omega, ht⟩
  · intro i b e hi h
    obtain ⟨a1, a2, a3, a4⟩ := find2_some x.cps _ _ _ _ (by omega) h
    subst a4
    by_cases q : (x.cps.getD b 0 == 13 && (decide (b + 1 < x.cps.size) && x.cps.getD (b + 1) 0 == 10)) = true
    · have := (Bool.and_eq_true_iff.mp (Bool.and_eq_true_iff.mp q).2).1
      have h2 : b + 1 < x.cps.size := of_decide_eq_true this
      rw [show end2 x.cps b = b + 2 from if_pos q]
      exact ⟨a1, by omega, by omega⟩
    · rw [show end2 x.cps b = b + 1 from if_neg q]
      exact ⟨a1, by omega, by omega⟩
  · intro i hi
    rw [hr]
    exact crlf_find x.cps (x.cps.size - i) i (by omega)
theorem sub_dots {x r : Str} {tx tr : Tok} {pat : Addr} (I : IsPat s.heap pat code1) (hx : x.cps.size ≤ 2 ^ 20) (hr : r.cps = #[46, 46])
    (hR : ∀ t h' tk', (∀ b o, s.heap.get? b = some o → h'.get? b = some o) → Q (.str ⟨(dots true x.cps.toList).toArray⟩ t) { s with heap := h', toks := tk' }) :
    wpAny (model prog w) A (call (.builtin "re.Pattern.sub") [.ref pat, .str r tr, .str x tx]) Q E s := by
  refine sub_call code1 x r tx tr pat (fun i => find1 x.cps (x.cps.size - i) i) (fun i => dots (bol x.cps i) (x.cps.toList.drop i)) I hx (by rw [hr]; decide) (by rw [hr]; decide +kernel) ?_ ?_ ?_ hR
  · intro i hi
    obtain ⟨n, hn, ht⟩ := tells_1 x.cps i hi
    exact ⟨n, by omega, ht⟩
  · intro i b e hi h
    obtain ⟨a1, a2, a3, a4, a5⟩ := find1_some x.cps _ _ _ _ (by omega) h
    subst a5
    exact ⟨a1, by omega, by omega⟩
  · intro i hi
    rw [hr]
    exact dots_find x.cps (x.cps.size - i) i (by omega)
end
end Mine
end
section
open PySem PySem.W PyProof.Rows
namespace Mine
theorem pat_1 {w : World} {h : Heap} (X : (Mine.hd.heap_39 w.params).In h) : IsPat h 36 code1 := ⟨_, _, _, 35, _, _, X 36 _ rfl, rfl, rfl, rfl, rfl, rfl, X 35 _ rfl, rfl, by decide +kernel⟩
theorem pat_2 {w : World} {h : Heap} (X : (Mine.hd.heap_39 w.params).In h) : IsPat h 41 code2 := ⟨_, _, _, 40, _, _, X 41 _ rfl, rfl, rfl, rfl, rfl, rfl, X 40 _ rfl, rfl, by decide +kernel⟩
theorem patd_1 {w : World} {h : Heap} (X : (Mine.hd.heap_39 w.params).In h) : ∃ o, h.get? 36 = some o ∧ o.dict = none := ⟨_, X 36 _ rfl, rfl⟩
theorem patd_2 {w : World} {h : Heap} (X : (Mine.hd.heap_39 w.params).In h) : ∃ o, h.get? 41 = some o ∧ o.dict = none := ⟨_, X 41 _ rfl, rfl⟩
theorem kin {w : World} {h₀ h : Heap} {L : Addr} {m : Str → Option Value} (X : (Mine.hd.heap_39 w.params).In h₀) (F : Fr h₀ L h m) : (Mine.hd.heap_39 w.params).In h := X.keeps F.keep

theorem crlf_len : ∀ x : List Nat, (crlf x).length ≤ 2 * x.length := by
  intro x
  induction x using crlf.induct with
  | case1 => simp [crlf]
  | case2 r ih => simp only [crlf, List.length_cons]; omega
  | case3 c r h1 h2 ih => rw [crlf]; · rw [if_pos h2]; simp only [List.length_cons]; omega
                          · exact h1
  | case4 c r h1 h2 ih => rw [crlf]; · rw [if_neg h2]; simp only [List.length_cons]; omega
                          · exact h1

local macro_rules | `(tactic| walk_at "getMethod ref") => `(tactic| first
  | (refine' meth_sub (pat_1 (kin (by k_asm) (by k_asm))) (patd_1 (kin (by k_asm) (by k_asm))) ?_)
  | (refine' meth_sub (pat_2 (kin (by k_asm) (by k_asm))) (patd_2 (kin (by k_asm) (by k_asm))) ?_))

theorem subK_crlf {prog : Program} {w : World} {A : Around} {E : Value → Shared → Prop} {s : Shared} {Q : Value → Shared → Prop} {h₀ : Heap} {L : Addr} {m : Str → Option Value} {news : List (Addr × Obj)} {x r : Str} {tx tr : Tok}
    (X : (Mine.hd.heap_39 w.params).In h₀) (F : Fr h₀ L s.heap m) (N : News h₀ L s.heap news) (hx : x.cps.size ≤ 2 ^ 20) (hr : r.cps = #[13, 10])
    (hR : ∀ t h' tk', Fr h₀ L h' m → News h₀ L h' news → Q (.str ⟨(crlf x.cps.toList).toArray⟩ t) { s with heap := h', toks := tk' }) :
    wpAny (model prog w) A (call (.builtin "re.Pattern.sub") [.ref 41, .str r tr, .str x tx]) Q E s :=
  sub_crlf (pat_2 (kin X F)) hx hr fun t h' tk' hk => hR t h' tk' (F.keeps hk) (N.grown hk)
theorem subK_dots {prog : Program} {w : World} {A : Around} {E : Value → Shared → Prop} {s : Shared} {Q : Value → Shared → Prop} {h₀ : Heap} {L : Addr} {m : Str → Option Value} {news : List (Addr × Obj)} {x r : Str} {tx tr : Tok}
    (X : (Mine.hd.heap_39 w.params).In h₀) (F : Fr h₀ L s.heap m) (N : News h₀ L s.heap news) (hx : x.cps.size ≤ 2 ^ 20) (hr : r.cps = #[46, 46])
    (hR : ∀ t h' tk', Fr h₀ L h' m → News h₀ L h' news → Q (.str ⟨(dots true x.cps.toList).toArray⟩ t) { s with heap := h', toks := tk' }) :
    wpAny (model prog w) A (call (.builtin "re.Pattern.sub") [.ref 36, .str r tr, .str x tx]) Q E s :=
  sub_dots (pat_1 (kin X F)) hx hr fun t h' tk' hk => hR t h' tk' (F.keeps hk) (N.grown hk)
theorem sz_crlf {x : Str} (h : x.cps.size ≤ 2 ^ 18) : (⟨(crlf x.cps.toList).toArray⟩ : Str).cps.size ≤ 2 ^ 20 := by
  have h1 := crlf_len x.cps.toList
  have h2 : x.cps.toList.length = x.cps.size := Array.length_toList
  show (crlf x.cps.toList).toArray.size ≤ _
  rw [List.size_toArray]
  omega
local macro_rules | `(tactic| walk_at "call builtin:re.Pattern.sub") => `(tactic| first
  | (refine' subK_crlf (by k_asm) (by k_asm) (by k_asm) (by omega) (by decide +kernel) ?_; intro t9 h9 tk9 F9 N9; (try dsimp only))
  | (refine' subK_dots (by k_asm) (by k_asm) (by k_asm) (sz_crlf (by assumption)) (by decide +kernel) ?_; intro t9 h9 tk9 F9 N9; (try dsimp only)))

set_option maxRecDepth 100000 in
set_option maxHeartbeats 4000000 in
theorem quote_c (w : World) (p : Program) (loose : List Str) (mean : ExcName → Option Value) (mg mb : Str → Option Value) (news : List (Addr × Obj)) (x : Str) (tx : Tok) :
   CbClaim PySem.Challenge.rw_rs0052_01.prog w (Mine.hd.heap_39 w.params) p loose mean mg mb 48 news [] (x.cps.size ≤ 2 ^ 18) [.str x tx] (fun t => .str (quoted x) t) := by
  k_with_none
  w_top off
  k_fill
  dsimp only [CbClaim, CbLists, CbRet]
  intros
  rename_i hret
  refine wpAny_call ?_
  k_dflt cell_enter
  k_steps
  all_goals cb_end hret
end Mine
end
section
open PySem PySem.W PyProof.Rows PySem.Builtin.Str
namespace Mine
/-- a slice's bound as a place -/
def clipN (v : Option Int) (d n : Nat) : Nat := match v with
  | none => d
  | some i => if i < 0 then (i + n).toNat else min i.toNat n
def lst (x : Str) : List Nat := x.cps.toList
theorem lst_length (x : Str) : (lst x).length = x.length := Array.length_toList
theorem str_ext {x y : Str} (h : lst x = lst y) : x = y := by
  cases x; cases y; congr 1; exact Array.toList_inj.mp h
theorem filterMap_range (l : List Nat) : ∀ (n a : Nat), a + n ≤ l.length → (List.range n).filterMap (fun k => l[a + k]?) = (l.drop a).take n
  | 0, a, _ => by simp
  | n + 1, a, h => by
    rw [List.range_succ_eq_map, List.filterMap_cons, List.filterMap_map]
    have e : (fun k => l[a + k]?) ∘ Nat.succ = fun k => l[(a + 1) + k]? := by funext k; simp only [Function.comp]; congr 1; omega
    have hl : a < l.length := by omega
    rw [e, filterMap_range l n (a + 1) (by omega), Nat.add_zero, List.getElem?_eq_getElem hl, List.drop_eq_getElem_cons hl, List.take_succ_cons]
theorem slice_list (x : Str) (l u : Option Int) : lst (Txt.slice x l u) = ((lst x).drop (clipN l 0 x.length)).take (clipN u x.length x.length - clipN l 0 x.length) := by
  have hr : ∀ a b : Nat, b ≤ x.length → (sliceRange (a : Int) (b : Int) 1).filterMap (x.cps[·]?) = ((lst x).drop a).take (b - a) := by
    intro a b hb
    unfold sliceRange
    rw [if_pos (by decide)]
    by_cases hab : (a : Int) < b
    · rw [if_pos hab, List.filterMap_map, show (((b : Int) - a + 1 - 1) / 1).toNat = b - a by rw [Int.ediv_one]; omega]
      have e : ((fun k => x.cps[k]?) ∘ fun (k : Nat) => ((a : Int) + 1 * (k : Int)).toNat) = fun k => (lst x)[a + k]? := by
        funext k
        simp only [Function.comp, lst]
        rw [show ((a : Int) + 1 * (k : Int)).toNat = a + k by omega]
        simp
      rw [e, filterMap_range (lst x) (b - a) a (by rw [lst_length]; omega)]
    · rw [if_neg hab, show b - a = 0 by omega]; simp
  have hi : strSliceIndices l u 1 x.length = sliceRange (clipN l 0 x.length : Int) (clipN u x.length x.length : Int) 1 := by
    unfold strSliceIndices clipN
    simp only [show ((1 : Int) > 0) by decide, if_true]
    cases l <;> cases u <;> simp only [] <;> (congr 1 <;> (repeat' split) <;> omega)
  have hu : clipN u x.length x.length ≤ x.length := by unfold clipN; cases u <;> simp only [] <;> (try split) <;> omega
  unfold Txt.slice
  rw [hi]
  split
  · rename_i h
    have hlen : (sliceRange (clipN l 0 x.length : Int) (clipN u x.length x.length : Int) 1).length = x.length := by simpa using h
    have h2 : (clipN u x.length x.length - clipN l 0 x.length) = x.length := by
      unfold sliceRange at hlen
      rw [if_pos (by decide), List.length_map, List.length_range, Int.ediv_one] at hlen
      split at hlen <;> omega
    by_cases h0 : x.length = 0
    · have : lst x = [] := List.eq_nil_of_length_eq_zero (by rw [lst_length, h0])
      rw [this]; simp
    · rw [h2, show clipN l 0 x.length = 0 by omega, List.drop_zero, List.take_of_length_le (by rw [lst_length]; omega)]
  · exact (hr _ _ hu)
theorem item_cons {x : Str} {i : Int} (h0 : 0 ≤ i) (h1 : i < x.length) : ∃ c, (lst x).drop i.toNat = c :: (lst x).drop (i.toNat + 1) ∧ Txt.item x i = ⟨#[c]⟩ ∧ (lst x)[i.toNat]? = some c := by
  have hl : i.toNat < (lst x).length := by rw [lst_length]; omega
  refine ⟨(lst x)[i.toNat], List.drop_eq_getElem_cons hl, ?_, List.getElem?_eq_getElem hl⟩
  unfold Txt.item Txt.charAt seqIndex?
  have e : x.cps[i.toNat]? = some (lst x)[i.toNat] := by
    have := List.getElem?_eq_getElem hl
    rw [← this]; simp [lst]
  simp only [show ¬ (i < 0) by omega, if_false, h0, h1, decide_true, Bool.and_self, if_true, Option.bind_some, e, Option.getD_some]
end Mine
end
section
open PySem PySem.W PyProof.Rows PySem.Builtin.Str
namespace Mine
def nameOf : List Nat → List Nat
  | [] => []
  | 34 :: 34 :: r => 34 :: nameOf r
  | c :: r => if c == 34 then [] else c :: nameOf r
def told257 (x : Str) : Str := if Txt.slice x (some 3) (some 5) = Str.ofString " \"" then ⟨(nameOf ((lst x).drop 5)).toArray⟩ else Str.ofString ""
abbrev pIs (x : Str) (i : Int) (d : Str) : Prop := 5 ≤ i ∧ i ≤ (x.length : Int) ∧ d.length ≤ i.toNat ∧ lst d ++ nameOf ((lst x).drop i.toNat) = nameOf ((lst x).drop 5)
theorem qt : Str.ofString "\"" = ⟨#[34]⟩ := by decide +kernel
theorem nameOf_other {c : Nat} {r : List Nat} (h : c ≠ 34) : nameOf (c :: r) = c :: nameOf r := by
  rw [nameOf]
  · rw [if_neg (by simpa using h)]
  · intro r' e; exact absurd e h
theorem nameOf_end {r : List Nat} (h : r.head? ≠ some 34) : nameOf (34 :: r) = [] := by
  rw [nameOf]
  · rfl
  · intro r' _ e; subst e; exact h rfl
theorem sl_in {x : Str} {a b : Nat} {y : Str} (h : Txt.slice x (some a) (some b) = y) (hy : y.length = b - a) (hab : a < b) : b ≤ x.length := by
  have e := congrArg (fun z => (lst z).length) h
  simp only [slice_list, List.length_take, List.length_drop, lst_length, hy, clipN] at e
  rw [if_neg (by omega), if_neg (by omega)] at e
  omega
theorem p_start {x : Str} (h : (Txt.slice x (some 3) (some 5) != Str.ofString " \"") = false) : pIs x 5 (Str.ofString "") := by
  have h' : Txt.slice x (some 3) (some 5) = Str.ofString " \"" := by simpa using h
  have := sl_in (a := 3) (b := 5) h' (by decide +kernel) (by omega)
  exact ⟨by omega, by omega, by decide +kernel, rfl⟩
theorem lst_app (x y : Str) : lst (x ++ y) = lst x ++ lst y := by
  show (x.cps ++ y.cps).toList = _
  simp [lst]
theorem p_other {x d : Str} {i : Int} (h1 : 5 ≤ i) (h3 : d.length ≤ i.toNat) (h4 : lst d ++ nameOf ((lst x).drop i.toNat) = nameOf ((lst x).drop 5))
    (hl : i < (x.length : Int)) (hc : (Txt.item x i == Str.ofString "\"") = false) : pIs x (i + 1) (d ++ Txt.item x i) := by
  obtain ⟨c, e1, e2, _⟩ := item_cons (x := x) (i := i) (by omega) hl
  have hc' : c ≠ 34 := by
    intro e; subst e; rw [e2, qt] at hc; simp at hc
  rw [e1, nameOf_other hc'] at h4
  refine ⟨by omega, by omega, ?_, ?_⟩
  · rw [Str.length_append, e2]; show d.length + 1 ≤ _; omega
  · rw [lst_app, e2, show (i + 1).toNat = i.toNat + 1 by omega, ← h4]; simp [lst]
theorem p_pair {x d : Str} {i : Int} (h1 : 5 ≤ i) (h3 : d.length ≤ i.toNat) (h4 : lst d ++ nameOf ((lst x).drop i.toNat) = nameOf ((lst x).drop 5))
    (hl : i < (x.length : Int)) (hc : (Txt.item x i == Str.ofString "\"") = true) (hn : ¬ ((x.length : Int) ≤ i + 1)) (hd : (Txt.item x (i + 1) != Str.ofString "\"") = false) : pIs x (i + 1 + 1) (d ++ Txt.item x i) := by
  obtain ⟨c, e1, e2, _⟩ := item_cons (x := x) (i := i) (by omega) hl
  obtain ⟨c', e1', e2', _⟩ := item_cons (x := x) (i := i + 1) (by omega) (by omega)
  have hc' : c = 34 := by rw [e2, qt] at hc; simpa using hc
  have hd' : c' = 34 := by rw [e2', qt] at hd; simpa using hd
  rw [show (i + 1).toNat = i.toNat + 1 by omega] at e1'
  rw [e1, e1', hc', hd', nameOf] at h4
  refine ⟨by omega, by omega, ?_, ?_⟩
  · rw [Str.length_append, e2]; show d.length + 1 ≤ _; omega
  · rw [lst_app, e2, hc', show (i + 1 + 1).toNat = i.toNat + 1 + 1 by omega, ← h4]; simp [lst]
theorem p_told {x d : Str} (hs : (Txt.slice x (some 3) (some 5) != Str.ofString " \"") = false) (h4 : lst d = nameOf ((lst x).drop 5)) : d = told257 x := by
  unfold told257
  rw [if_pos (by simpa using hs), ← h4]
  exact str_ext (by simp [lst])
theorem p_none {x : Str} (hs : (Txt.slice x (some 3) (some 5) != Str.ofString " \"") = true) : Str.ofString "" = told257 x := by
  unfold told257
  rw [if_neg (by simpa using hs)]
theorem p_end {x d : Str} {i : Int} (hs : (Txt.slice x (some 3) (some 5) != Str.ofString " \"") = false) (h4 : lst d ++ nameOf ((lst x).drop i.toNat) = nameOf ((lst x).drop 5)) (hl : ¬ i < (x.length : Int)) : d = told257 x := by
  rw [List.drop_of_length_le (by rw [lst_length]; omega), nameOf, List.append_nil] at h4
  exact p_told hs h4
theorem p_brk {x d : Str} {i : Int} (hs : (Txt.slice x (some 3) (some 5) != Str.ofString " \"") = false) (h1 : 5 ≤ i) (h4 : lst d ++ nameOf ((lst x).drop i.toNat) = nameOf ((lst x).drop 5))
    (hl : i < (x.length : Int)) (hc : (Txt.item x i == Str.ofString "\"") = true) (hn : (x.length : Int) ≤ i + 1) : d = told257 x := by
  obtain ⟨c, e1, e2, _⟩ := item_cons (x := x) (i := i) (by omega) hl
  have hc' : c = 34 := by rw [e2, qt] at hc; simpa using hc
  rw [e1, hc', nameOf_end (by rw [List.drop_of_length_le (by rw [lst_length]; omega)]; simp), List.append_nil] at h4
  exact p_told hs h4
theorem p_brk2 {x d : Str} {i : Int} (hs : (Txt.slice x (some 3) (some 5) != Str.ofString " \"") = false) (h1 : 5 ≤ i) (h4 : lst d ++ nameOf ((lst x).drop i.toNat) = nameOf ((lst x).drop 5))
    (hl : i < (x.length : Int)) (hc : (Txt.item x i == Str.ofString "\"") = true) (hn : ¬ ((x.length : Int) ≤ i + 1)) (hd : (Txt.item x (i + 1) != Str.ofString "\"") = true) : d = told257 x := by
  obtain ⟨c, e1, e2, _⟩ := item_cons (x := x) (i := i) (by omega) hl
  obtain ⟨c', e1', e2', _⟩ := item_cons (x := x) (i := i + 1) (by omega) (by omega)
  have hc' : c = 34 := by rw [e2, qt] at hc; simpa using hc
  have hd' : c' ≠ 34 := by rw [e2', qt] at hd; simpa using hd
  rw [show (i + 1).toNat = i.toNat + 1 by omega] at e1'
  rw [e1, hc', nameOf_end (by rw [e1']; simpa using hd'), List.append_nil] at h4
  exact p_told hs h4
end Mine
end
section
open PySem PySem.W PyProof.Rows
namespace Mine
local macro_rules | `(tactic| walk_at "p state") => `(tactic| first
  | exact p_start (by assumption)
  | exact p_other (by assumption) (by assumption) (by assumption) (by assumption) (by assumption)
  | exact p_pair (by assumption) (by assumption) (by assumption) (by assumption) (by assumption) (by assumption) (by assumption))
local macro_rules | `(tactic| walk_at "p end") => `(tactic| first
  | exact p_none (by assumption)
  | exact p_end (by assumption) (by assumption) (by assumption)
  | exact p_brk (by assumption) (by assumption) (by assumption) (by assumption) (by assumption) (by assumption)
  | exact p_brk2 (by assumption) (by assumption) (by assumption) (by assumption) (by assumption) (by assumption) (by assumption))
theorem no_257 {x : Str} (h : Txt.slice x none (some 3) = Str.ofString "257") (h' : (Txt.slice x none (some 3) != Str.ofString "257") = true) : False := by simp [h] at h'
set_option maxRecDepth 100000 in
set_option maxHeartbeats 4000000 in
theorem parse_c (w : World) (p : Program) (loose : List Str) (mean : ExcName → Option Value) (mg mb : Str → Option Value) (news : List (Addr × Obj)) (x : Str) (tx : Tok) :
   CbClaim PySem.Challenge.rw_rs0052_01.prog w (Mine.hd.heap_39 w.params) p loose mean mg mb 80 news [] (x.length ≤ 1048576 ∧ Txt.slice x none (some 3) = Str.ofString "257") [.str x tx] (fun t => .str (told257 x) t) := by
  k_with_none
  w_top off
  k_fill
  dsimp only [CbClaim, CbLists, CbRet]
  intros
  rename_i hpre hroom hunits hret
  obtain ⟨hx, h257⟩ := hpre
  k_with "exec While Compare cons nil" => k_while (fun _ i d => pIs x i d) (fun _ i _ => x.length - i.toNat) "i" "dirname"
  k_with "state" => (walk_at "p state")
  k_with "tree" => (walk_at "p end")
  refine wpAny_call ?_
  k_dflt cell_enter
  k_steps
  all_goals first | cb_end hret | exact (no_257 (by assumption) (by assumption)).elim
end Mine
end
section
namespace Mine
/-- what one sign in another's place costs -/
structure Cost (s : Nat → Nat → Nat) : Prop where
  same : ∀ x, s x x = 0
  most : ∀ x y, s x y ≤ 2
  symm : ∀ x y, s x y = s y x

/-- an alignment and its cost -/
inductive Al (s : Nat → Nat → Nat) : List Nat → List Nat → Nat → Prop
  | nil : Al s [] [] 0
  | sub {a b k} (x y) : Al s a b k → Al s (x :: a) (y :: b) (k + s x y)
  | del {a b k} (x) : Al s a b k → Al s (x :: a) b (k + 2)
  | ins {a b k} (y) : Al s a b k → Al s a (y :: b) (k + 2)

/-- the least cost -/
def D (s : Nat → Nat → Nat) : List Nat → List Nat → Nat
  | [], b => 2 * b.length
  | _ :: a, [] => 2 * (a.length + 1)
  | x :: a, y :: b => min (D s a b + s x y) (min (D s a (y :: b) + 2) (D s (x :: a) b + 2))
termination_by a b => a.length + b.length

section
variable {s : Nat → Nat → Nat}
theorem D_nil (b : List Nat) : D s [] b = 2 * b.length := by rw [D]
theorem D_nil' (a : List Nat) : D s a [] = 2 * a.length := by cases a <;> rw [D] <;> rfl
theorem D_cons (x y : Nat) (a b : List Nat) : D s (x :: a) (y :: b) = min (D s a b + s x y) (min (D s a (y :: b) + 2) (D s (x :: a) b + 2)) := by rw [D]
theorem al_ins : ∀ b : List Nat, Al s [] b (2 * b.length)
  | [] => .nil
  | y :: b => by have := Al.ins y (al_ins b); simpa [Nat.mul_add] using this
theorem al_del : ∀ a : List Nat, Al s a [] (2 * a.length)
  | [] => .nil
  | y :: b => by have := Al.del y (al_del b); simpa [Nat.mul_add] using this
theorem al_D : ∀ a b : List Nat, Al s a b (D s a b)
  | [], b => by rw [D_nil]; exact al_ins b
  | x :: a, [] => by rw [D_nil']; exact al_del (x :: a)
  | x :: a, y :: b => by
    rw [D_cons]
    have h1 := Al.sub x y (al_D a b)
    have h2 := Al.del x (al_D a (y :: b))
    have h3 := Al.ins y (al_D (x :: a) b)
    by_cases c1 : D s a b + s x y ≤ min (D s a (y :: b) + 2) (D s (x :: a) b + 2)
    · rw [Nat.min_eq_left c1]; exact h1
    · rw [Nat.min_eq_right (by omega)]
      by_cases c2 : D s a (y :: b) + 2 ≤ D s (x :: a) b + 2
      · rw [Nat.min_eq_left c2]; exact h2
      · rw [Nat.min_eq_right (by omega)]; exact h3
termination_by a b => a.length + b.length
theorem D_le {a b : List Nat} {k : Nat} (h : Al s a b k) : D s a b ≤ k := by
  induction h with
  | nil => rw [D_nil]; exact Nat.le_refl _
  | sub x y _ ih => rw [D_cons]; omega
  | @del a b k x h ih =>
    cases b with
    | nil => rw [D_nil'] at ih ⊢; simp only [List.length_cons]; omega
    | cons y b => rw [D_cons]; omega
  | @ins a b k y h ih =>
    cases a with
    | nil => rw [D_nil] at ih ⊢; simp only [List.length_cons]; omega
    | cons x a => rw [D_cons]; omega
theorem Al.symm (C : Cost s) {a b : List Nat} {k : Nat} (h : Al s a b k) : Al s b a k := by
  induction h with
  | nil => exact .nil
  | sub x y _ ih => rw [C.symm]; exact .sub y x ih
  | del x _ ih => exact .ins x ih
  | ins y _ ih => exact .del y ih
theorem D_symm (C : Cost s) (a b : List Nat) : D s a b = D s b a := Nat.le_antisymm (D_le (al_D b a |>.symm C)) (D_le (al_D a b |>.symm C))
theorem Al.append {a b : List Nat} {k : Nat} (h : Al s a b k) {a' b' : List Nat} {k' : Nat} (h' : Al s a' b' k') : Al s (a ++ a') (b ++ b') (k + k') := by
  induction h with
  | nil => simpa using h'
  | @sub a b k x y _ ih => have := Al.sub x y ih; rw [show k + s x y + k' = k + k' + s x y by omega]; exact this
  | @del a b k x _ ih => have := Al.del x ih; rw [show k + 2 + k' = k + k' + 2 by omega]; exact this
  | @ins a b k y _ ih => have := Al.ins y ih; rw [show k + 2 + k' = k + k' + 2 by omega]; exact this
theorem Al.reverse {a b : List Nat} {k : Nat} (h : Al s a b k) : Al s a.reverse b.reverse k := by
  induction h with
  | nil => exact .nil
  | sub x y _ ih => rw [List.reverse_cons, List.reverse_cons]; have := ih.append (Al.sub x y .nil); simpa using this
  | del x _ ih => rw [List.reverse_cons]; have := ih.append (Al.del x .nil); simpa using this
  | ins y _ ih => rw [List.reverse_cons]; have := ih.append (Al.ins y .nil); simpa using this
theorem D_reverse (a b : List Nat) : D s a.reverse b.reverse = D s a b := by
  refine Nat.le_antisymm (D_le (al_D a b).reverse) ?_
  have := D_le (al_D (s := s) a.reverse b.reverse).reverse
  rwa [List.reverse_reverse, List.reverse_reverse] at this
theorem Al.dropR {a b : List Nat} {k : Nat} (h : Al s a b k) : ∀ {c b'}, b = c :: b' → ∃ k', k' ≤ k + 2 ∧ Al s a b' k' := by
  induction h with
  | nil => intro c b' e; cases e
  | @sub a b k x y h ih => intro c b' e; cases e; exact ⟨_, by omega, .del x h⟩
  | @del a b k x h ih => intro c b' e; obtain ⟨k', h1, h2⟩ := ih e; exact ⟨_, by omega, .del x h2⟩
  | @ins a b k y h ih => intro c b' e; cases e; exact ⟨_, by omega, h⟩
theorem Al.dropL {a b : List Nat} {k : Nat} (h : Al s a b k) : ∀ {c a'}, a = c :: a' → ∃ k', k' ≤ k + 2 ∧ Al s a' b k' := by
  induction h with
  | nil => intro c b' e; cases e
  | @sub a b k x y h ih => intro c b' e; cases e; exact ⟨_, by omega, .ins y h⟩
  | @ins a b k x h ih => intro c b' e; obtain ⟨k', h1, h2⟩ := ih e; exact ⟨_, by omega, .ins x h2⟩
  | @del a b k y h ih => intro c b' e; cases e; exact ⟨_, by omega, h⟩
theorem D_front (C : Cost s) (c : Nat) (a b : List Nat) : D s (c :: a) (c :: b) = D s a b := by
  refine Nat.le_antisymm (D_le (by have := Al.sub c c (al_D (s := s) a b); rwa [C.same, Nat.add_zero] at this)) ?_
  have h := al_D (s := s) (c :: a) (c :: b)
  generalize D s (c :: a) (c :: b) = k at h
  cases h with
  | sub _ _ h => exact Nat.le_trans (D_le h) (by omega)
  | del _ h => obtain ⟨k', h1, h2⟩ := h.dropR rfl; exact Nat.le_trans (D_le h2) (by omega)
  | ins _ h => obtain ⟨k', h1, h2⟩ := h.dropL rfl; exact Nat.le_trans (D_le h2) (by omega)
theorem D_prefix (C : Cost s) : ∀ (p a b : List Nat), D s (p ++ a) (p ++ b) = D s a b
  | [], _, _ => rfl
  | c :: p, a, b => by rw [List.cons_append, List.cons_append, D_front C, D_prefix C p]
theorem D_suffix (C : Cost s) (q a b : List Nat) : D s (a ++ q) (b ++ q) = D s a b := by
  rw [← D_reverse, List.reverse_append, List.reverse_append, D_prefix C, D_reverse]
theorem Al.split {A B : List Nat} {k : Nat} (h : Al s A B k) : ∀ B1 B2, B = B1 ++ B2 → ∃ A2 k2, A2 <:+ A ∧ k2 ≤ k ∧ Al s A2 B2 k2 := by
  induction h with
  | nil => intro B1 B2 e; obtain ⟨rfl, rfl⟩ := List.append_eq_nil_iff.mp e.symm; exact ⟨[], 0, List.suffix_refl _, Nat.le_refl _, .nil⟩
  | @sub a b k x y h ih =>
    intro B1 B2 e
    cases B1 with
    | nil => simp only [List.nil_append] at e; subst e; exact ⟨x :: a, _, List.suffix_refl _, Nat.le_refl _, .sub x y h⟩
    | cons z B1 => cases e; obtain ⟨A2, k2, h1, h2, h3⟩ := ih B1 B2 rfl; exact ⟨A2, k2, h1.trans (List.suffix_cons _ _), by omega, h3⟩
  | @del a b k x h ih =>
    intro B1 B2 e
    obtain ⟨A2, k2, h1, h2, h3⟩ := ih B1 B2 e
    exact ⟨A2, k2, h1.trans (List.suffix_cons _ _), by omega, h3⟩
  | @ins a b k y h ih =>
    intro B1 B2 e
    cases B1 with
    | nil => simp only [List.nil_append] at e; subst e; exact ⟨a, _, List.suffix_refl _, Nat.le_refl _, .ins y h⟩
    | cons z B1 => cases e; obtain ⟨A2, k2, h1, h2, h3⟩ := ih B1 B2 rfl; exact ⟨A2, k2, h1, by omega, h3⟩
theorem Al.len {a b : List Nat} {k : Nat} (h : Al s a b k) : 2 * a.length ≤ 2 * b.length + k ∧ 2 * b.length ≤ 2 * a.length + k := by
  induction h with
  | nil => exact ⟨Nat.le_refl _, Nat.le_refl _⟩
  | sub x y _ ih => simp only [List.length_cons]; omega
  | del x _ ih => simp only [List.length_cons]; omega
  | ins y _ ih => simp only [List.length_cons]; omega
end
end Mine
end
section
namespace Mine
def cell (s : Nat → Nat → Nat) (a b : List Nat) (i j : Nat) : Nat := D s (a.take i).reverse (b.take j).reverse
def rowAt (s : Nat → Nat → Nat) (a b : List Nat) (j : Nat) : List Int := (List.range a.length).map fun k => (cell s a b (k + 1) j : Int)
def rowMix (s : Nat → Nat → Nat) (a b : List Nat) (j k : Nat) : List Int := (List.range a.length).map fun i => (cell s a b (i + 1) (if i < k then j + 1 else j) : Int)
section
variable {s : Nat → Nat → Nat} {a b : List Nat}
theorem take_rev {l : List Nat} {i : Nat} (h : i < l.length) : (l.take (i + 1)).reverse = l[i] :: (l.take i).reverse := by
  rw [List.take_add_one, List.getElem?_eq_getElem h]; simp
theorem cell_0 (j : Nat) (h : j ≤ b.length) : cell s a b 0 j = 2 * j := by
  unfold cell; rw [List.take_zero, List.reverse_nil, D_nil, List.length_reverse, List.length_take, Nat.min_eq_left h]
theorem cell_j0 (i : Nat) (h : i ≤ a.length) : cell s a b i 0 = 2 * i := by
  unfold cell; rw [List.take_zero, List.reverse_nil, D_nil', List.length_reverse, List.length_take, Nat.min_eq_left h]
theorem cell_step {i j : Nat} (hi : i < a.length) (hj : j < b.length) : cell s a b (i + 1) (j + 1) = min (cell s a b i j + s a[i] b[j]) (min (cell s a b i (j + 1) + 2) (cell s a b (i + 1) j + 2)) := by
  unfold cell; rw [take_rev hi, take_rev hj, D_cons]
theorem cell_whole : cell s a b a.length b.length = D s a b := by
  unfold cell; rw [List.take_length, List.take_length, D_reverse]
/-- the program's own reckoning of a place: what stands to the left is 2 * j in the first column -/
theorem cell_turn (C : Cost s) {k j : Nat} {res : Int} (hk : k < a.length) (hj : j < b.length) (hr : res = if k = 0 then (2 * j : Int) else (cell s a b k (j + 1) : Int)) :
    (cell s a b (k + 1) (j + 1) : Int) = min (min res (cell s a b (k + 1) j : Int) + 2) ((cell s a b k j : Int) + (s b[j] a[k] : Nat)) := by
  rw [cell_step hk hj, C.symm]
  have h2 := C.most b[j] a[k]
  by_cases h0 : k = 0
  · subst h0
    rw [if_pos rfl] at hr
    have e1 := cell_0 (s := s) (a := a) (b := b) j (by omega)
    have e2 := cell_0 (s := s) (a := a) (b := b) (j + 1) (by omega)
    subst hr
    omega
  · rw [if_neg h0] at hr
    subst hr
    omega
theorem cell_out (C : Cost s) {j : Nat} {m mn : Int} (ha : 0 < a.length) (hj : j < b.length) (h : ∀ i, 1 ≤ i → i ≤ a.length → mn ≤ (cell s a b i (j + 1) : Int)) (hm : m < mn) : m < (D s a b : Int) := by
  have hal := al_D (s := s) a.reverse b.reverse
  rw [D_reverse] at hal
  have hb : b.reverse = (b.drop (j + 1)).reverse ++ (b.take (j + 1)).reverse := by rw [← List.reverse_append, List.take_append_drop]
  obtain ⟨A2, k2, h1, h2, h3⟩ := hal.split _ _ hb
  have hlen : A2.length ≤ a.length := by have := h1.length_le; simpa using this
  have e : A2 = (a.take A2.length).reverse := by
    have := List.suffix_iff_eq_drop.mp h1
    rw [List.length_reverse] at this
    rw [List.drop_reverse] at this
    rw [show a.length - (a.length - A2.length) = A2.length by omega] at this
    exact this
  rw [e] at h3
  have h4 : cell s a b A2.length (j + 1) ≤ k2 := D_le h3
  by_cases h0 : A2.length = 0
  · rw [h0, cell_0 _ (by omega)] at h4
    have h5 := cell_step (s := s) (a := a) (b := b) (i := 0) (j := j) ha hj
    have h6 := C.most a[0] b[j]
    have h7 := cell_0 (s := s) (a := a) (b := b) j (by omega)
    have h8 := h 1 (by omega) (by omega)
    simp only [Nat.zero_add] at h5
    omega
  · have := h A2.length (by omega) hlen
    omega
theorem D_len (s : Nat → Nat → Nat) (a b : List Nat) : 2 * (b.length : Int) ≤ 2 * a.length + D s a b ∧ 2 * (a.length : Int) ≤ 2 * b.length + D s a b := by
  have := (al_D (s := s) a b).len
  omega
theorem rowMix_0 (j : Nat) : rowMix s a b j 0 = rowAt s a b j := by unfold rowMix rowAt; simp
theorem rowMix_all (j : Nat) : rowMix s a b j a.length = rowAt s a b (j + 1) := by
  unfold rowMix rowAt
  refine List.map_congr_left fun i hi => ?_
  rw [if_pos (List.mem_range.mp hi)]
theorem rowMix_get {j k : Nat} (h : k < a.length) : (rowMix s a b j k)[k]? = some (cell s a b (k + 1) j : Int) := by unfold rowMix; simp [h]
theorem rowMix_len (j k : Nat) : (rowMix s a b j k).length = a.length := by unfold rowMix; simp
theorem rowMix_set {j k : Nat} (h : k < a.length) : (rowMix s a b j k).set k (cell s a b (k + 1) (j + 1) : Int) = rowMix s a b j (k + 1) := by
  refine List.ext_getElem? fun i => ?_
  rw [List.getElem?_set]
  by_cases hi : k = i
  · subst hi
    rw [if_pos rfl, if_pos (by rw [rowMix_len]; exact h)]
    unfold rowMix; simp [h]
  · rw [if_neg hi]
    unfold rowMix
    by_cases hl : i < a.length
    · simp only [List.getElem?_map, List.getElem?_range hl, Option.map_some]
      by_cases h2 : i < k
      · rw [if_pos h2, if_pos (by omega)]
      · rw [if_neg h2, if_neg (by omega)]
    · simp [hl]
theorem row_start : rowAt s a b 0 = (List.range a.length).map fun (k : Nat) => ((2 : Int) + (k : Int) * 2) := by
  unfold rowAt
  refine List.map_congr_left fun i hi => ?_
  rw [cell_j0 _ (by have := List.mem_range.mp hi; omega)]
  omega
end
/-- what the distance tells: the least cost, or more than the bound -/
def Told (s : Nat → Nat → Nat) (a b : List Nat) (m r : Int) : Prop := ((D s a b : Int) ≤ m → r = D s a b) ∧ (m < (D s a b : Int) → m < r)
end Mine
end
section
open PySem PySem.W PyProof.Rows
namespace Mine
def subCost (a b : Str) : Int := if a = b then 0 else if Txt.lower a = Txt.lower b then 1 else 2
theorem s_eq {a b : Str} (h : (a == b) = true) : 0 = subCost a b := by unfold subCost; rw [if_pos (by simpa using h)]
theorem s_lo {a b : Str} (h : (a == b) = false) (h2 : (Txt.lower a == Txt.lower b) = true) : 1 = subCost a b := by unfold subCost; rw [if_neg (by simpa using h), if_pos (by simpa using h2)]
theorem s_no {a b : Str} (h : (a == b) = false) (h2 : (Txt.lower a == Txt.lower b) = false) : 2 = subCost a b := by unfold subCost; rw [if_neg (by simpa using h), if_neg (by simpa using h2)]
def scost (x y : Nat) : Nat := (subCost ⟨#[x]⟩ ⟨#[y]⟩).toNat
theorem subCost_as (x y : Nat) : subCost ⟨#[x]⟩ ⟨#[y]⟩ = (scost x y : Int) := by
  unfold scost subCost
  split
  · rfl
  · split <;> rfl
theorem subCost_symm (a b : Str) : subCost a b = subCost b a := by
  unfold subCost
  simp only [eq_comm (a := a), eq_comm (a := Txt.lower a)]
theorem scost_cost : Cost scost := by
  refine ⟨fun x => ?_, fun x y => ?_, fun x y => ?_⟩
  · unfold scost subCost; rw [if_pos rfl]; rfl
  · unfold scost subCost
    split
    · exact Nat.zero_le _
    · split <;> decide
  · unfold scost
    rw [subCost_symm]
/-- one sign turned small -/
theorem lower_one (c : Nat) : lst (Txt.lower ⟨#[c]⟩) = Unicode.lowerAt #[c] 0 := by
  unfold Txt.lower lst placed
  simp
theorem lowerAt_one (c : Nat) : Unicode.lowerAt #[c] 0 = Unicode.lowerOf c := by
  unfold Unicode.lowerAt
  have h : (c == 0x3A3 && Unicode.endsWord #[c] 0) = false := by
    by_cases hc : c = 0x3A3
    · subst hc; decide +kernel
    · simp [hc]
  simp only [List.getElem?_toArray, List.getElem?_cons_zero, h]
  rfl
theorem shifted_ne (v : Nat) : ∀ (l : List (Nat × Nat × Nat)) (c : Nat), l.all (fun x => decide (v < x.2.2 ∨ x.2.2 + (x.2.1 - x.1) < v)) = true → Unicode.shifted l c ≠ some v
  | [], _, _ => by simp [Unicode.shifted]
  | (a, b, t) :: r, c, h => by
    rw [List.all_cons, Bool.and_eq_true, decide_eq_true_eq] at h
    dsimp only at h
    rw [Unicode.shifted]
    split
    · simp
    · split
      · intro e
        have e' := Option.some.inj e
        omega
      · exact shifted_ne v r c h.2
theorem lowerOf_only {v : Nat} (h1 : UnicodeData.oneLower.all (fun x => decide (v < x.2.2 ∨ x.2.2 + (x.2.1 - x.1) < v)) = true) (h2 : UnicodeData.severalLower.all (fun x => decide (x.2 ≠ [v])) = true) {c : Nat} (h : Unicode.lowerOf c = [v]) : c = v := by
  unfold Unicode.lowerOf Unicode.image at h
  cases e : UnicodeData.severalLower.lookup c with
  | some cs =>
    rw [e] at h
    dsimp only at h
    obtain ⟨y, hy, h3⟩ : ∃ y ∈ UnicodeData.severalLower, y.2 = cs := by
      have := List.lookup_eq_some_iff.mp e
      obtain ⟨l1, l2, e1, _⟩ := this
      exact ⟨(c, cs), by rw [e1]; simp, rfl⟩
    have := List.all_eq_true.mp h2 y hy
    rw [decide_eq_true_eq, h3] at this
    exact absurd h this
  | none =>
    rw [e] at h
    dsimp only at h
    have h' : (Unicode.shifted UnicodeData.oneLower c).getD c = v := by simpa using h
    cases e2 : Unicode.shifted UnicodeData.oneLower c with
    | none => rw [e2] at h'; exact h'
    | some u =>
      rw [e2] at h'
      exact absurd (e2.trans (congrArg some h')) (shifted_ne v _ c h1)
theorem scost_self (x : Nat) : scost x x = 0 := scost_cost.same x
theorem scost_ne {x y : Nat} (h : x ≠ y) : 1 ≤ scost x y := by
  unfold scost subCost
  rw [if_neg (by simpa using h)]
  split <;> decide
theorem scost_two {x v : Nat} (h1 : UnicodeData.oneLower.all (fun x => decide (v < x.2.2 ∨ x.2.2 + (x.2.1 - x.1) < v)) = true) (h2 : UnicodeData.severalLower.all (fun x => decide (x.2 ≠ [v])) = true) (hv : Unicode.lowerOf v = [v]) (h : x ≠ v) : scost x v = 2 := by
  unfold scost subCost
  rw [if_neg (by simpa using h), if_neg]
  · rfl
  · intro e
    have e' := congrArg lst e
    rw [lower_one, lower_one, lowerAt_one, lowerAt_one, hv] at e'
    exact h (lowerOf_only h1 h2 e')
theorem scost_dot {x : Nat} (h : x ≠ 46) : scost x 46 = 2 := scost_two (by decide +kernel) (by decide +kernel) (by decide +kernel) h
theorem scost_own {x : Nat} (h : x ≠ 57344) : scost x 57344 = 2 := scost_two (by decide +kernel) (by decide +kernel) (by decide +kernel) h
theorem scost_Aa : scost 65 97 = 1 := by decide +kernel
end Mine
end
section
open PySem PySem.W PyProof.Rows
namespace Mine
set_option maxRecDepth 100000 in
set_option maxHeartbeats 4000000 in
theorem subst_c (w : World) (p : Program) (loose : List Str) (mean : ExcName → Option Value) (mg mb : Str → Option Value) (news : List (Addr × Obj)) (a b : Str) (ta tb : Tok) :
   CbClaim PySem.Challenge.rw_rs0052_01.prog w (Mine.hd.heap_39 w.params) p loose mean mg mb 87 news [] (a.length ≤ 1 ∧ b.length ≤ 1) [.str a ta, .str b tb] (fun t => .int (subCost a b) t) := by
  k_with_none
  w_top off
  k_fill
  dsimp only [CbClaim, CbLists, CbRet]
  intros
  rename_i hpre hroom hunits hret
  obtain ⟨hx, hy⟩ := hpre
  k_with "tree" => first | exact s_eq (by assumption) | exact s_lo (by assumption) (by assumption) | exact s_no (by assumption) (by assumption)
  refine wpAny_call ?_
  k_dflt cell_enter
  k_steps
  all_goals first | cb_end hret
end Mine
end
section
open PySem PySem.W PyProof.Rows PySem.Builtin.Str
namespace Mine
abbrev preIs (x y : Str) (i : Int) : Prop := 0 ≤ i ∧ i ≤ (x.length : Int) ∧ i ≤ (y.length : Int) ∧ (lst x).take i.toNat = (lst y).take i.toNat
theorem from_list {x : Str} {i : Int} (h0 : 0 ≤ i) (h1 : i ≤ x.length) : lst (Txt.slice x (some i) none) = (lst x).drop i.toNat := by
  rw [slice_list]
  unfold clipN
  simp only [show ¬ (i < 0) by omega, if_false]
  rw [show min i.toNat x.length = i.toNat by omega, List.take_of_length_le (by rw [List.length_drop, lst_length]; omega)]
theorem len_of_lst {x : Str} {l : List Nat} (h : lst x = l) : x.length = l.length := by rw [← lst_length, h]
theorem from_ne {x : Str} {i : Int} (h0 : 0 ≤ i) (h1 : i ≤ x.length) (hn : ((Txt.slice x (some i) none).length : Int) ≠ 0) : i < x.length := by
  have := len_of_lst (from_list h0 h1)
  rw [List.length_drop, lst_length] at this
  omega
theorem item_inj {x y : Str} {i j : Int} {c d : Nat} (h1 : Txt.item x i = ⟨#[c]⟩) (h2 : Txt.item y j = ⟨#[d]⟩) (h : (Txt.item x i == Txt.item y j) = true) : c = d := by
  rw [h1, h2] at h
  simpa using h
theorem pre_turn {x y : Str} {i : Int} (h1 : 0 ≤ i) (h2 : i ≤ (x.length : Int)) (h3 : i ≤ (y.length : Int)) (h4 : (lst x).take i.toNat = (lst y).take i.toNat)
    (n1 : ((Txt.slice x (some i) none).length : Int) ≠ 0) (n2 : ((Txt.slice y (some i) none).length : Int) ≠ 0) (he : (Txt.item x i == Txt.item y i) = true) : preIs x y (i + 1) := by
  have l1 := from_ne h1 h2 n1
  have l2 := from_ne h1 h3 n2
  obtain ⟨c, _, e2, e3⟩ := item_cons (x := x) (i := i) h1 l1
  obtain ⟨d, _, f2, f3⟩ := item_cons (x := y) (i := i) h1 l2
  have hcd := item_inj e2 f2 he
  refine ⟨by omega, by omega, by omega, ?_⟩
  rw [show (i + 1).toNat = i.toNat + 1 by omega, List.take_add_one, List.take_add_one, h4, e3, f3, hcd]
/-- the rest behind a common front is as far apart -/
theorem pre_D {s : Nat → Nat → Nat} (C : Cost s) {x y : Str} {i : Int} (h : preIs x y i) : D s (lst (Txt.slice x (some i) none)) (lst (Txt.slice y (some i) none)) = D s (lst x) (lst y) := by
  obtain ⟨h1, h2, h3, h4⟩ := h
  rw [from_list h1 h2, from_list h1 h3]
  conv => rhs; rw [← List.take_append_drop i.toNat (lst x), ← List.take_append_drop i.toNat (lst y), ← h4]
  rw [D_prefix C]

/-- a[:post or None] -/
def cutEnd (x : Str) (p : Int) : Str := if p = 0 then Txt.slice x none none else Txt.slice x none (some p)
abbrev postIs (x y : Str) (p : Int) : Prop := p ≤ 0 ∧ 0 ≤ (x.length : Int) + p ∧ 0 ≤ (y.length : Int) + p ∧ (lst x).drop ((x.length : Int) + p).toNat = (lst y).drop ((y.length : Int) + p).toNat
theorem cutEnd_list {x : Str} {p : Int} (h0 : p ≤ 0) (h1 : 0 ≤ (x.length : Int) + p) : lst (cutEnd x p) = (lst x).take ((x.length : Int) + p).toNat := by
  unfold cutEnd
  by_cases hp : p = 0
  · rw [if_pos hp, slice_list]
    unfold clipN
    rw [List.drop_zero, Nat.sub_zero, hp]; congr 1
  · rw [if_neg hp, slice_list]
    unfold clipN
    simp only [show p < 0 by omega, if_true, List.drop_zero, Nat.sub_zero]
    congr 1; omega
theorem cutEnd_0 (x : Str) : Txt.slice x none none = cutEnd x 0 := by unfold cutEnd; rw [if_pos rfl]
theorem cutEnd_n {x : Str} {p : Int} (h : p ≠ 0) : Txt.slice x none (some p) = cutEnd x p := by unfold cutEnd; rw [if_neg h]
theorem cutEnd_len {x : Str} {p : Int} (h0 : p ≤ 0) (h1 : 0 ≤ (x.length : Int) + p) : ((cutEnd x p).length : Int) = x.length + p := by
  have := len_of_lst (cutEnd_list h0 h1)
  rw [List.length_take, lst_length] at this
  omega
theorem item_neg {x : Str} {p : Int} (h0 : p ≤ 0) (h1 : 0 < (x.length : Int) + p) : ∃ c, Txt.item x (p - 1) = ⟨#[c]⟩ ∧ (lst x).drop ((x.length : Int) + (p - 1)).toNat = c :: (lst x).drop ((x.length : Int) + p).toNat := by
  obtain ⟨c, e1, e2, e3⟩ := item_cons (x := x) (i := (x.length : Int) + (p - 1)) (by omega) (by omega)
  refine ⟨c, ?_, ?_⟩
  · rw [← e2]
    unfold Txt.item Txt.charAt seqIndex?
    simp only [show (p - 1 < 0) by omega, show ¬ ((x.length : Int) + (p - 1) < 0) by omega, if_true, if_false]
    rw [Int.add_comm]
  · rw [e1]; congr 2; omega
theorem post_turn {x y : Str} {p : Int} (h1 : p ≤ 0) (h2 : 0 ≤ (x.length : Int) + p) (h3 : 0 ≤ (y.length : Int) + p) (h4 : (lst x).drop ((x.length : Int) + p).toNat = (lst y).drop ((y.length : Int) + p).toNat)
    (n1 : ((cutEnd x p).length : Int) ≠ 0) (n2 : ((cutEnd y p).length : Int) ≠ 0) (he : (Txt.item x (p - 1) == Txt.item y (p - 1)) = true) : postIs x y (p - 1) := by
  have l1 := cutEnd_len h1 h2
  have l2 := cutEnd_len h1 h3
  obtain ⟨c, e2, e3⟩ := item_neg (x := x) (p := p) h1 (by omega)
  obtain ⟨d, f2, f3⟩ := item_neg (x := y) (p := p) h1 (by omega)
  have hcd := item_inj e2 f2 he
  exact ⟨by omega, by omega, by omega, by rw [e3, f3, h4, hcd]⟩
theorem post_D {s : Nat → Nat → Nat} (C : Cost s) {x y : Str} {p : Int} (h : postIs x y p) : D s (lst (cutEnd x p)) (lst (cutEnd y p)) = D s (lst x) (lst y) := by
  obtain ⟨h1, h2, h3, h4⟩ := h
  rw [cutEnd_list h1 h2, cutEnd_list h1 h3]
  conv => rhs; rw [← List.take_append_drop ((x.length : Int) + p).toNat (lst x), ← List.take_append_drop ((y.length : Int) + p).toNat (lst y), ← h4]
  rw [D_suffix C]
end Mine
end
section
open PySem PySem.W PyProof.Rows PySem.Builtin.Str
namespace Mine
theorem ints_from (f : Nat → Int) : ∀ (vs : List Value) (a : Nat), (∀ (j : Nat) (v : Value), vs[j]? = some v → ∃ t, v = .int (f (a + j)) t) → IntsAre vs ((List.range vs.length).map fun k => f (a + k))
  | [], _, _ => IntsAre.nil
  | v :: r, a, h => by
    obtain ⟨t, ht⟩ := h 0 v rfl
    subst ht
    rw [List.length_cons, List.range_succ_eq_map, List.map_cons, List.map_map]
    refine IntsAre.cons _ _ ?_
    have := ints_from f r (a + 1) fun j v hj => by
      obtain ⟨t', ht'⟩ := h (j + 1) v hj
      exact ⟨t', by rw [ht', show a + (j + 1) = a + 1 + j by omega]⟩
    have e : (fun k => f (a + k)) ∘ Nat.succ = fun k => f (a + 1 + k) := by funext k; simp only [Function.comp]; congr 1; omega
    rw [e]; exact this
theorem list_rangeK {prog : Program} {w : World} {A : Around} {E : Value → Shared → Prop} {s : Shared} {h₀ : Heap} {L r : Addr} {m : Str → Option Value} {news : List (Addr × Obj)} {a b c : Int} {t₀ u₀ v₀ : Tok} {n : Nat} {Q : Value → Shared → Prop}
    (hh : A.handled = none) (F : Fr h₀ L s.heap m) (N : News h₀ L s.heap news) (hr : IsRange s.heap r a b c t₀ u₀ v₀) (hsmall : Builtin.Range.small a b c = true) (hn : Builtin.Range.rangeSize a b c = (n : Int)) (hz : n ≤ 2 ^ 24)
    (h : ∀ D us c' h' tk, Fr h₀ L h' m → News h₀ L h' ((D, listOf (List.toArray us) c') :: news) → (∀ p ∈ news, p.1 < D) → IntsAre us ((List.range n).map fun (k : Nat) => a + (k : Int) * c) → Q (.ref D) { s with heap := h', toks := tk }) :
    wpAny (model prog w) A (call (.type "list") [.ref r]) Q E s := by
  refine call_list_range hh hr hsmall hn hz fun h' tk acc c' hk hD hI => ?_
  have hD' : h'.get? s.heap.objs.size = some (listOf (List.toArray acc.toList) c') := by rw [Array.toArray_toList]; exact hD
  refine h _ acc.toList c' h' tk (F.keeps hk) (news_pushed F N hk hD' rfl) (fun p hp => Heap.lt_size (N p hp).1) ?_
  have := ints_from (fun k => a + (k : Int) * c) acc.toList 0 fun j v hj => by
    obtain ⟨t, ht⟩ := hI.2 j v (by rw [← hj, Array.getElem?_toList])
    exact ⟨t, by rw [ht, Nat.zero_add]⟩
  rw [Array.length_toList, hI.1] at this
  simpa using this
/-- the first row's range -/
theorem row_range (n : Nat) (h : n ≤ 40) : Builtin.Range.small 2 (2 * ((n : Int) + 1)) 2 = true ∧ Builtin.Range.rangeSize 2 (2 * ((n : Int) + 1)) 2 = (n : Int) := by
  have : ∀ k : Fin 41, Builtin.Range.small 2 (2 * ((k.val : Int) + 1)) 2 = true ∧ Builtin.Range.rangeSize 2 (2 * ((k.val : Int) + 1)) 2 = (k.val : Int) := by decide +kernel
  exact this ⟨n, by omega⟩
end Mine
end
section
open PySem PySem.W PyProof.Rows
namespace Mine
/-- the body of the k-th statement of a program's main text, a def -/
def stmtsAt (p : Program) (k : Nat) : List Stmt := match p.main.body[k]? with
  | some (.FunctionDef _ _ b _ _ _ _ _ _ _) => b
  | _ => []
/-- and its scope -/
def scopeAt (p : Program) (k : Nat) : Scope := match p.main.body[k]? with
  | some (.FunctionDef _ _ _ _ _ _ sc _ _ _) => sc
  | _ => default
/-- the frame as far as it is named -/
theorem fr_as {h₀ h : Heap} {L : Addr} {m : Str → Option Value} (ps : List (Str × Value)) (h1 : ∀ p ∈ ps, m p.1 = some p.2) (F : Fr h₀ L h m) : Fr h₀ L h (kstB m ps) := by
  have e : kstB m ps = m := funext fun z => kstB_eq h1 fun _ => rfl
  rw [e]; exact F
end Mine
end
section
open PySem PySem.W PyProof.Rows
namespace Mine
section
variable {w : World} {p : Program} {loose : List Str} {mean : ExcName → Option Value} {mg mb : Str → Option Value} {dp un : Nat} {gd : Option (List Code)} {cn : Str} {cs : Scope} {a : Addr} {ccd : Value} {cl : List (Str × Addr)} {outer : List Env} {A₀ : Around} {base h₀ : Heap} {L : Addr} {m : Str → Option Value} {s : Shared} {news : List (Addr × Obj)}
/-- substitution's cost, called -/
theorem subst_r {Q E : Value → Shared → Prop} {x y : Str} {tx ty : Tok} (B : Below A₀ base outer h₀) (F : Fr h₀ L s.heap m) (X : (Mine.hd.heap_39 w.params).In h₀) (N : News h₀ L s.heap news) (T : Top p loose mean mg mb h₀) (hk : cs.kind = .function)
    (hx : x.length ≤ 1) (hy : y.length ≤ 1) (hd : dp + 1 < recursionLimit) (hu : un + 8 < cLine)
    (ret : ∀ (t : Tok) (h' : Heap) (tk' : Nat), Fr h₀ L h' m → News h₀ L h' news → Q (.int (subCost x y) t) { s with heap := h', toks := tk' }) :
    wpAny (model PySem.Challenge.rw_rs0052_01.prog w) (ktrTop dp un gd cn cs L a ccd cl outer) (call (.ref 87) [.str x tx, .str y ty]) Q E s :=
  subst_c w p loose mean mg mb news x y tx ty dp un gd cn cs a ccd cl outer A₀ base h₀ L m s Q E B F X N T hk ⟨hx, hy⟩ hd hu ret
/-- quotedata, called -/
theorem quote_r {Q E : Value → Shared → Prop} {x : Str} {tx : Tok} (B : Below A₀ base outer h₀) (F : Fr h₀ L s.heap m) (X : (Mine.hd.heap_39 w.params).In h₀) (N : News h₀ L s.heap news) (T : Top p loose mean mg mb h₀) (hk : cs.kind = .function)
    (hx : x.length ≤ 2 ^ 18) (hd : dp + 1 < recursionLimit) (hu : un + 8 < cLine)
    (ret : ∀ (t : Tok) (h' : Heap) (tk' : Nat), Fr h₀ L h' m → News h₀ L h' news → Q (.str (quoted x) t) { s with heap := h', toks := tk' }) :
    wpAny (model PySem.Challenge.rw_rs0052_01.prog w) (ktrTop dp un gd cn cs L a ccd cl outer) (call (.ref 48) [.str x tx]) Q E s :=
  quote_c w p loose mean mg mb news x tx dp un gd cn cs a ccd cl outer A₀ base h₀ L m s Q E B F X N T hk hx hd hu ret
/-- parse257 of a reply 257, called -/
theorem parse_r {Q E : Value → Shared → Prop} {x : Str} {tx : Tok} (B : Below A₀ base outer h₀) (F : Fr h₀ L s.heap m) (X : (Mine.hd.heap_39 w.params).In h₀) (N : News h₀ L s.heap news) (T : Top p loose mean mg mb h₀) (hk : cs.kind = .function)
    (hx : x.length ≤ 1048576) (h257 : Txt.slice x none (some 3) = Str.ofString "257") (hd : dp + 1 < recursionLimit) (hu : un + 8 < cLine)
    (ret : ∀ (t : Tok) (h' : Heap) (tk' : Nat), Fr h₀ L h' m → News h₀ L h' news → Q (.str (told257 x) t) { s with heap := h', toks := tk' }) :
    wpAny (model PySem.Challenge.rw_rs0052_01.prog w) (ktrTop dp un gd cn cs L a ccd cl outer) (call (.ref 80) [.str x tx]) Q E s :=
  parse_c w p loose mean mg mb news x tx dp un gd cn cs a ccd cl outer A₀ base h₀ L m s Q E B F X N T hk ⟨hx, h257⟩ hd hu ret
end
end Mine
end
section
open PySem PySem.W PyProof.Rows
namespace Mine
abbrev outerIs (S T : Str) (j : Nat) (ns : List Int) (r : Int) : Prop := ns = rowAt scost (lst S) (lst T) j ∧ r = if j = 0 then 0 else (cell scost (lst S) (lst T) S.length j : Int)
theorem told_of {S T : Str} {mx r : Int} (h : r = (D scost (lst S) (lst T) : Int)) : Told scost (lst S) (lst T) mx r := ⟨fun _ => h, fun h' => by omega⟩
theorem told_out {S T : Str} {mx : Int} (h : mx < (D scost (lst S) (lst T) : Int)) : Told scost (lst S) (lst T) mx (mx + 1) := ⟨fun h' => by omega, fun _ => by omega⟩
theorem outer_end {S T : Str} {ns : List Int} {r mx : Int} (h : outerIs S T (rangeKs 0 T.length).length ns r) (hT : 0 < T.length) : Told scost (lst S) (lst T) mx r := by
  obtain ⟨_, h2⟩ := h
  rw [rangeKs_length, if_neg (by omega)] at h2
  refine told_of ?_
  rw [h2, ← cell_whole, lst_length, lst_length]
abbrev innerIs (S T : Str) (j i : Nat) (ns : List Int) (d r mn : Int) : Prop := ns = rowMix scost (lst S) (lst T) j i ∧ d = (cell scost (lst S) (lst T) i j : Int) ∧ r = (if i = 0 then (2 * j : Int) else (cell scost (lst S) (lst T) i (j + 1) : Int)) ∧ ∀ q, 1 ≤ q → q ≤ i → mn ≤ (cell scost (lst S) (lst T) q (j + 1) : Int)
theorem inner_start {S T : Str} {j : Nat} {k mn : Int} {ns : List Int} (h : ns = rowAt scost (lst S) (lst T) j) (hk : k = j) (hj : j ≤ T.length) : innerIs S T j 0 ns (k * 2) (k * 2) mn := by
  refine ⟨by rw [rowMix_0]; exact h, ?_, by rw [if_pos rfl]; omega, fun q h1 h2 => by omega⟩
  rw [cell_0 _ (by rw [lst_length]; exact hj)]; omega
local macro_rules | `(tactic| walk_at "call ref") => `(tactic| (
  (with_reducible show wpAny _ _ (call (Value.ref 87) _) _ _ _);
  (with_reducible rename Fr _ _ _ _ => F');
  (with_reducible rename News _ _ _ _ => N');
  k_dflt (refine' subst_r ?B F' ?X N' ?T ?K ?x ?y ?D ?U ?_; (case B => k_asm); (case X => k_asm); (case T => k_asm); (case K => exact rfl); (case x => omega); (case y => omega); (case D => ktr_room); (case U => ktr_units)); intro t9 h9 tk9 F9 N9; (try dsimp only)))
theorem inner_turn {S T : Str} {j q : Nat} {ns : List Int} {d res mn mn' k i R : Int} (hns : ns = rowMix scost (lst S) (lst T) j q) (hd : d = (cell scost (lst S) (lst T) q j : Int)) (hr : res = (if q = 0 then (2 * j : Int) else (cell scost (lst S) (lst T) q (j + 1) : Int)))
    (hm : ∀ z, 1 ≤ z → z ≤ q → mn ≤ (cell scost (lst S) (lst T) z (j + 1) : Int)) (hk : k = j) (hi : i = q) (hq : q < S.length) (hj : j < T.length)
    (hR : R = if d + subCost (Txt.item T k) (Txt.item S i) < (if ns.getD i.toNat 0 < res then ns.getD i.toNat 0 else res) + 2 then d + subCost (Txt.item T k) (Txt.item S i) else (if ns.getD i.toNat 0 < res then ns.getD i.toNat 0 else res) + 2) (h1 : mn' ≤ mn) (h2 : mn' ≤ R) :
    innerIs S T j (q + 1) (ns.set i.toNat R) (ns.getD i.toNat 0) R mn' := by
  have hqa : q < (lst S).length := by rw [lst_length]; exact hq
  have hjb : j < (lst T).length := by rw [lst_length]; exact hj
  have hiq : i.toNat = q := by omega
  have hg : ns.getD i.toNat 0 = (cell scost (lst S) (lst T) (q + 1) j : Int) := by
    rw [hns, hiq, List.getD_eq_getElem?_getD, rowMix_get hqa]; rfl
  obtain ⟨c, _, e2, e3⟩ := item_cons (x := S) (i := i) (by omega) (by omega)
  obtain ⟨c', _, f2, f3⟩ := item_cons (x := T) (i := k) (by omega) (by omega)
  rw [hiq, List.getElem?_eq_getElem hqa] at e3
  rw [show k.toNat = j by omega, List.getElem?_eq_getElem hjb] at f3
  have hs : subCost (Txt.item T k) (Txt.item S i) = (scost (lst T)[j] (lst S)[q] : Int) := by
    rw [e2, f2, subCost_as, Option.some.inj e3, Option.some.inj f3]
  have ht := cell_turn scost_cost hqa hjb hr
  have hRc : R = (cell scost (lst S) (lst T) (q + 1) (j + 1) : Int) := by
    rw [ht, hR, hg, hs, ← hd]
    omega
  refine ⟨?_, hg, by rw [if_neg (by omega)]; exact hRc, fun z z1 z2 => ?_⟩
  · rw [hiq, hRc, hns, rowMix_set hqa]
  · by_cases hz : z ≤ q
    · exact Int.le_trans h1 (hm z z1 hz)
    · rw [show z = q + 1 by omega, ← hRc]; exact h2
theorem outer_turn {S T : Str} {j : Nat} {ns : List Int} {d r mn : Int} (hS : 0 < S.length) (h : innerIs S T j S.length ns d r mn) : outerIs S T (j + 1) ns r := by
  obtain ⟨h1, _, h3, _⟩ := h
  refine ⟨?_, ?_⟩
  · rw [h1]
    have := rowMix_all (s := scost) (a := lst S) (b := lst T) j
    rw [lst_length] at this
    exact this
  · rw [if_neg (by omega)]
    rw [if_neg (by omega)] at h3
    exact h3
theorem outer_out {S T : Str} {j : Nat} {ns : List Int} {d r mn mx : Int} (hS : 0 < S.length) (hj : j < T.length) (h : innerIs S T j S.length ns d r mn) (hm : mx < mn) : Told scost (lst S) (lst T) mx (mx + 1) := by
  obtain ⟨_, _, _, h4⟩ := h
  refine told_out (cell_out scost_cost (by rw [lst_length]; exact hS) (by rw [lst_length]; exact hj) (fun i i1 i2 => h4 i i1 (by rw [lst_length] at i2; exact i2)) hm)
theorem sub_cons {α : Type} {x : α} {l l' : List α} (h : l ⊆ l') : ∀ p ∈ x :: l, p ∈ x :: l' := fun p hp => (List.cons_subset_cons x h) hp
theorem ne_all {news own own2 : List (Addr × Obj)} {D' : Addr} {r1 r2 : List Addr} (l1 : ∀ p ∈ news, p.1 < D') (h1 : OwnOff own (D' :: r1)) (h2 : OwnOff own2 (D' :: r2)) : ∀ q ∈ (news ++ own) ++ own2, q.1 ≠ D' := by
  intro q hq
  rcases List.mem_append.mp hq with hq | hq
  · rcases List.mem_append.mp hq with hq | hq
    · exact Nat.ne_of_lt (l1 q hq)
    · exact h1 q hq _ (.head _)
  · exact h2 q hq _ (.head _)
local macro_rules | `(tactic| walk_at "setItem") => `(tactic| (
  (with_reducible show wpAny _ _ (setItem (Value.ref _) (Value.int _ _) (Value.int _ _)) _ _ _);
  (with_reducible rename Fr _ _ _ _ => F'); (with_reducible rename News _ _ _ _ => N');
  k_dflt (refine' ksa_set F' N' (Upd.head ?h) ?i ?a ?b ?c ?_; (case h => assumption); (case i => assumption); (case a => omega); (case b => omega); (case c => omega)); intro h9 F9 N9 I9 L9 _))
local macro_rules | `(tactic| walk_at "go") => `(tactic| repeat' ((fail_if_success (with_reducible show wpAny _ _ (pyIter _) _ _ _)); (fail_if_success (with_reducible show InvPostN _ _ _ _ _ _ _ _ _)); (fail_if_success (with_reducible show InvEndN _ _ _ _ _ _ _)); first | (k_unfold; (try dsimp only)) | (k_end; wrow_close) | walk1 | (dsimp only; walk1) | (leave1; walk_say "STEP leave1"; try dsimp only) | fail "no step"))
section
variable {w : World} {p : Program} {loose : List Str} {mean : ExcName → Option Value} {mg mb : Str → Option Value} {dp un : Nat} {gd : Option (List Code)} {cn : Str} {cs : Scope} {a : Addr} {ccd : Value} {cl : List (Str × Addr)} {outer : List Env} {base h₀ : Heap} {L : Addr} {m : Str → Option Value} {s : Shared} {news : List (Addr × Obj)}
set_option maxRecDepth 100000 in
set_option maxHeartbeats 4000000 in
theorem lev_dp {Q : Flow → Shared → Prop} {S T : Str} {tS tT t0 tm : Tok} {mx : Int} {D' : Addr} {us : List Value} {c' : Nat} {u : Str → Option Value}
    (B' : Below (ktrTop dp un gd cn cs L a ccd cl outer) base (envX cn cs L a ccd cl :: outer) h₀) (X' : (Mine.hd.heap_39 w.params).In h₀) (T' : Top p loose mean mg mb h₀)
    {L' : Addr} (F' : Fr h₀ L' s.heap (kstB u [(Str.ofString "result", .int 0 t0), (Str.ofString "row", .ref D'), (Str.ofString "a", .str S tS), (Str.ofString "b", .str T tT), (Str.ofString "max_cost", .int mx tm)]))
    (N' : News h₀ L' s.heap ((D', PySem.W.listOf us.toArray c') :: news)) (hI : IntsAre us (rowAt scost (lst S) (lst T) 0))
    (l1 : ∀ p ∈ news, p.1 < D') (hST : S.length ≤ T.length) (hS0 : 0 < S.length) (hT40 : T.length ≤ 40) (hd : dp + 4 < recursionLimit) (hu : un + 64 < cLine)
    (ret : ∀ (r : Int) (t : Tok) (h' : Heap) (tk' : Nat) (m' : Str → Option Value), Told scost (lst S) (lst T) mx r → Fr h₀ L' h' m' → News h₀ L' h' news → Q (.ret (.int r t)) { s with heap := h', toks := tk' }) :
    wpAny (model PySem.Challenge.rw_rs0052_01.prog w) ((ktrTop dp un gd cn cs L a ccd cl outer).deeper (envOf (Str.ofString "_levenshtein_distance") (scopeAt PySem.Challenge.rw_rs0052_01.prog 15) L' 94 (.ref 93)))
      (execs ((stmtsAt PySem.Challenge.rw_rs0052_01.prog 15).drop 15) (envOf (Str.ofString "_levenshtein_distance") (scopeAt PySem.Challenge.rw_rs0052_01.prog 15) L' 94 (.ref 93))) Q (fun _ _ => False) s := by
  k_with_none
  w_top off
  revert X'
  k_fill
  intro X'
  conv in (occs := *) scopeAt _ _ => all_goals whnf
  conv in List.drop _ _ => whnf
  dsimp only [kstB] at F'
  walk_at "go"
  (rename Fr _ _ _ _ => lF'); (rename News _ _ _ _ => lN'); (rename IsRange _ _ _ _ _ _ _ _ => rgX)
  (with_unfolding_all refine' kst_range (σ := (List Value × List Int × Nat) × (Int × Tok)) (fun c => (D', PySem.W.listOf c.1.1.toArray c.1.2.2) :: news) (fun c => [(Str.ofString "result", .int c.2.1 c.2.2)]) (fun c => IntsAre c.1.1 c.1.2.1) [Str.ofString "bchar", Str.ofString "distance", Str.ofString "minimum", Str.ofString "index", Str.ofString "substitute", Str.ofString "insert_delete"] (fun pre c => outerIs S T pre.length c.1.2.1 c.2.1) ((us, rowAt scost (lst S) (lst T) 0, c'), (0, t0)) (by rfl) rgX (small_one (by omega) (by omega) (by omega) (by omega)) (rangeSize_nat _ _) lF' lN' hI (by kst_all) ?_ ?_ ?_)
  all_goals (clear lF' lN' rgX)
  · exact ⟨rfl, rfl⟩
  · rintro ⟨⟨us, ns, c'⟩, ⟨res, rt⟩⟩ pre k t u h tk own hk hlt hoff hI hP hF hN
    dsimp only at hI hP hN
    obtain ⟨hns, hres⟩ := hP
    try dsimp only at hns hres
    dsimp only [kstB] at hF
    walk_at "go"
    (rename Fr _ _ _ _ => lF'); (rename News _ _ _ _ => lN'); (rename IsRange _ _ _ _ _ _ _ _ => rgX)
    (with_unfolding_all refine' kst_range (σ := (List Value × List Int × Nat) × (Int × Tok) × (Int × Tok) × (Int × Tok)) (fun c => (D', PySem.W.listOf c.1.1.toArray c.1.2.2) :: news ++ own) (fun c => [(Str.ofString "distance", .int c.2.1.1 c.2.1.2), (Str.ofString "result", .int c.2.2.1.1 c.2.2.1.2), (Str.ofString "minimum", .int c.2.2.2.1 c.2.2.2.2)]) (fun c => IntsAre c.1.1 c.1.2.1) [Str.ofString "substitute", Str.ofString "insert_delete"] (fun pr c => innerIs S T pre.length pr.length c.1.2.1 c.2.1.1 c.2.2.1.1 c.2.2.2.1) ((us, ns, c'), (k * 2, _), (k * 2, _), (9223372036854775807, _)) (by rfl) rgX (small_one (by omega) (by omega) (by omega) (by omega)) (rangeSize_nat _ _) lF' lN' hI (by kst_all) ?_ ?_ ?_)
    all_goals (clear lF' lN' rgX)
    · exact inner_start hns (by omega) (by omega)
    · rintro ⟨⟨us, ns, c'⟩, ⟨d, dt⟩, ⟨res, rt⟩, ⟨mn, mt⟩⟩ pr i ti u h tk own2 hi hil hoff2 hI hP hF hN
      dsimp only at hI hP hN
      obtain ⟨hns, hd, hr, hm⟩ := hP
      try dsimp only at hns hd hr hm
      have hlen : ns.length = S.length := by rw [hns, rowMix_len, lst_length]
      have hi0 : 0 ≤ i := by omega
      have hne := ne_all l1 hoff hoff2
      simp only [List.cons_append] at hN
      have hi1 : i < (S.length : Int) := by omega
      dsimp only [kstB] at hF
      walk_at "go"
      all_goals (
        (rename Fr _ _ _ _ => F9); (rename News _ _ _ _ => N9)
        dsimp only [InvPostN]
        refine' kst_end ⟨⟨_, _, _⟩, ⟨_, _⟩, ⟨_, _⟩, ⟨_, _⟩⟩ F9 N9 ?hn ?ho ?ha ?hf ?hk ?hr ?hp
        (case hk => kst_all)
        (case hn => exact sub_cons (List.subset_append_left _ _))
        (case hf => exact ints_set hI _)
        (case ho => exact fun p hp => List.mem_cons_of_mem _ (List.mem_append_right _ hp))
        (case ha => rfl)
        (case hr => kst_same)
        (case hp => (dsimp only; rw [show (pr ++ [i]).length = pr.length + 1 by simp]; exact inner_turn hns hd hr hm (by omega) (by omega) (by omega) (by omega) rfl (by omega) (by omega))))
    · rintro ⟨⟨us, ns, c'⟩, ⟨d, dt⟩, ⟨res, rt⟩, ⟨mn, mt⟩⟩ u h tk hI hP hF hN
      dsimp only at hI hP hN
      rw [rangeKs_length] at hP
      have hP2 : innerIs S T pre.length S.length ns d res mn := hP
      dsimp only [kstB] at hF
      walk_at "go"
      · dsimp only [InvPostN]
        refine ret _ _ _ _ _ (outer_out hS0 (by omega) hP2 (by assumption)) hF (cb_drop hN fun _ h => ?_)
        exact List.mem_append_left _ (List.mem_cons_of_mem _ h)
      · (rename Fr _ _ _ _ => F9); (rename News _ _ _ _ => N9)
        dsimp only [InvPostN]
        refine' kst_end ⟨⟨us, ns, c'⟩, ⟨_, _⟩⟩ F9 N9 ?hn ?ho ?ha ?hf ?hk ?hr ?hp
        (case hk => kst_all)
        (case hf => exact hI)
        (case hn => exact fun p hp => List.mem_append_left _ hp)
        (case ho => exact fun p hp => List.mem_append_right _ hp)
        (case ha => rfl)
        (case hr => kst_same)
        (case hp => (dsimp only; rw [show (pre ++ [k]).length = pre.length + 1 by simp]; exact outer_turn hS0 hP2))
  · rintro ⟨⟨us, ns, c'⟩, ⟨res, rt⟩⟩ u h tk hI hP hF hN
    dsimp only at hI hP hN
    dsimp only [kstB] at hF
    walk_at "go"
    refine ret res rt h tk _ ?_ hF (cb_drop hN fun _ h => List.mem_cons_of_mem _ h)
    exact outer_end hP (by omega)
end
end Mine
open Lean Elab Command in
end
section
open PySem PySem.W PyProof.Rows
namespace Mine
local macro_rules | `(tactic| walk_at "go") => `(tactic| repeat' ((fail_if_success (with_reducible show wpAny _ _ (exec (Stmt.While _ _ _ _) _) _ _ _)); (fail_if_success (with_reducible show wpAny _ _ (exec (Stmt.If _ [Stmt.Assign [Expr.Tuple _ _ _] _ _] [] _) _) _ _ _)); (fail_if_success (with_reducible show wpAny _ _ (pyIter _) _ _ _)); (fail_if_success (with_reducible show CutQ _ _ _ _ _ _ _ _)); (fail_if_success (with_reducible show wpAny _ _ (eval (Expr.Subscript _ (Expr.Slice none (some (Expr.BoolOp _ _ _)) none _) _) _) _ _ _)); (fail_if_success (with_reducible show wpAny _ _ (execs (Stmt.AugAssign (Expr.Name _ _) Operator.Sub _ _ :: _) _) _ _ _)); (fail_if_success (with_reducible show wpAny _ _ (execs (Stmt.For _ _ _ _ _ :: _) _) _ _ _)); (fail_if_success (with_reducible show WOut _ _ _ _ _ _ _ _ _ _)); (fail_if_success (with_reducible show KswPost _ _ _ _ _ _ _ _ _ _ _ _ _ _)); first | (k_unfold; (try dsimp only)) | (k_end; wrow_close) | walk1 | (dsimp only; walk1) | (leave1; walk_say "STEP leave1"; try dsimp only) | fail "no step"))

local macro_rules | `(tactic| walk_at "subscriptTail Name Slice str ref") => `(tactic| ((with_reducible show wpAny _ _ (subscriptTail _ (Expr.Slice none (some (Expr.BoolOp _ _ _)) none _) _ _) _ _ _); (with_reducible rename Fr _ _ _ _ => F'); (with_reducible rename News _ _ _ _ => N'); refine slice_strN_nn_len (s := ⟨_, _, _, _, _⟩) F' N' ?_; intro _ _ _ _ _ _))
theorem cut_p {x : Str} {p : Int} {t : Tok} (h : p ≠ 0) : ∃ t', Value.str (Txt.slice x none (some p)) t = .str (cutEnd x p) t' := ⟨t, by rw [cutEnd_n h]⟩
theorem cut_0 {x : Str} {p : Int} {t : Tok} (h : p = 0) : ∃ t', Value.str (Txt.slice x none none) t = .str (cutEnd x p) t' := ⟨t, by rw [h, cutEnd_0]⟩
local macro_rules | `(tactic| walk_at "cut end") => `(tactic| ((rename Fr _ _ _ _ => F7); (rename News _ _ _ _ => N7); refine cutQ_mk F7 N7 ?_; first | with_reducible exact cut_p (by assumption) | with_reducible exact cut_0 (by assumption)))
section
variable {w : World} {p : Program} {loose : List Str} {mean : ExcName → Option Value} {mg mb : Str → Option Value} {dp un : Nat} {gd : Option (List Code)} {cn : Str} {cs : Scope} {a : Addr} {ccd : Value} {cl : List (Str × Addr)} {outer : List Env} {A₀ : Around} {base h₀ : Heap} {L : Addr} {m : Str → Option Value} {s : Shared} {news : List (Addr × Obj)}
theorem told_same {x y : Str} {mx : Int} (h : (x == y) = true) : Told scost (lst x) (lst y) mx 0 := by
  have e : x = y := by simpa using h
  subst e
  have := D_prefix (s := scost) scost_cost (lst x) [] []
  rw [List.append_nil, D_nil] at this
  exact ⟨fun _ => by rw [this]; rfl, fun h => by rw [this] at h; exact h⟩
theorem told_nil {x y A B : Str} {mx r : Int} (hD : ∀ s', Cost s' → D s' (lst A) (lst B) = D s' (lst x) (lst y)) (h0 : A.length = 0 ∨ B.length = 0) (hr : r = 2 * ((A.length : Int) + B.length)) : Told scost (lst x) (lst y) mx r := by
  have hd := hD scost scost_cost
  have e : D scost (lst A) (lst B) = 2 * (A.length + B.length) := by
    rcases h0 with h0 | h0
    · have : lst A = [] := List.eq_nil_of_length_eq_zero (by rw [lst_length, h0])
      rw [this, D_nil, lst_length, h0]; omega
    · have : lst B = [] := List.eq_nil_of_length_eq_zero (by rw [lst_length, h0])
      rw [this, D_nil', lst_length, h0]; omega
  rw [e] at hd
  exact ⟨fun _ => by rw [← hd]; omega, fun h => by rw [← hd] at h; omega⟩
theorem told_far {x y S T : Str} {mx : Int} (hD : ∀ s', Cost s' → D s' (lst S) (lst T) = D s' (lst x) (lst y)) (h : mx < ((T.length : Int) - S.length) * 2) : Told scost (lst x) (lst y) mx (mx + 1) := by
  have hd := hD scost scost_cost
  have := D_len scost (lst S) (lst T)
  rw [lst_length, lst_length, hd] at this
  exact ⟨fun h' => by omega, fun _ => by omega⟩
theorem told_move {x y S T : Str} {mx r : Int} (hD : ∀ s', Cost s' → D s' (lst S) (lst T) = D s' (lst x) (lst y)) (h : Told scost (lst S) (lst T) mx r) : Told scost (lst x) (lst y) mx r := by
  unfold Told at h ⊢
  rw [hD scost scost_cost] at h
  exact h
theorem row_as {us : List Value} {S T : Str} (h : IntsAre us ((List.range S.length).map fun (k : Nat) => (2 : Int) + (k : Int) * 2)) : IntsAre us (rowAt scost (lst S) (lst T) 0) := by
  rw [row_start, lst_length]; exact h
set_option maxRecDepth 100000 in
set_option maxHeartbeats 4000000 in
theorem lev_r {Q E : Value → Shared → Prop} {x y : Str} {mx : Int} {tx ty tm : Tok} (B : Below A₀ base outer h₀) (F : Fr h₀ L s.heap m) (X : (Mine.hd.heap_39 w.params).In h₀) (N : News h₀ L s.heap news) (T : Top p loose mean mg mb h₀) (hk : cs.kind = .function)
    (hx : x.length ≤ 40) (hy : y.length ≤ 40) (hroom : dp + 5 < recursionLimit) (hunits : un + 80 < cLine)
    (ret : ∀ (r : Int) (t : Tok) (h' : Heap) (tk' : Nat), Told scost (lst x) (lst y) mx r → Fr h₀ L h' m → News h₀ L h' news → Q (.int r t) { s with heap := h', toks := tk' }) :
    wpAny (model PySem.Challenge.rw_rs0052_01.prog w) (ktrTop dp un gd cn cs L a ccd cl outer) (call (.ref 94) [.str x tx, .str y ty, .int mx tm]) Q E s := by
  k_with_none
  w_top off
  revert X
  k_fill
  intro X
  refine wpAny_call ?_
  k_dflt cell_enter
  walk_at "go"
  · ((rename Fr _ _ _ _ => F9); (rename News _ _ _ _ => N9); exact ret _ _ _ _ (told_same (by assumption)) F9 N9)
  · (rename Fr _ _ _ _ => lF'); (rename News _ _ _ _ => lN')
    (with_unfolding_all refine' while_cut (fun _ => news) (fun c : Int × Tok => [(Str.ofString "pre", .int c.1 c.2)]) [] (fun c => preIs x y c.1) (fun c => preIs x y c.1) (fun c => x.length - c.1.toNat) ⟨0, _⟩ lF' lN' (by kst_all) ?_ ?_ ?_)
    all_goals clear lF' lN'
    · exact ⟨by omega, by omega, by omega, by simp⟩
    rotate_left
    · rintro ⟨i, ti⟩ u h tk hP hF hN
      obtain ⟨h1, h2, h3, h4⟩ := hP
      dsimp only at h1 h2 h3 h4
      dsimp only [kstB] at hF
      walk_at "go"
      · (rename Fr _ _ _ _ => F9); (rename News _ _ _ _ => N9)
        have hP := pre_turn h1 h2 h3 h4 (by with_reducible assumption) (by with_reducible assumption) (by with_reducible assumption)
        have hl := from_ne h1 h2 (by with_reducible assumption)
        dsimp only [KswPost]
        refine ksw_end ⟨i + 1, ?tt⟩ F9 N9 (fun _ h => h) trivial ?ka ?kb hP ?kc
        (case ka => kst_all)
        (case kb => ksw_same)
        (case kc => (dsimp only; omega))
      all_goals (
        (rename Fr _ _ _ _ => F9); (rename News _ _ _ _ => N9)
        refine wout_mk ⟨i, ti⟩ F9 N9 (fun _ h => h) ?_ ?_ ⟨h1, h2, h3, h4⟩
        · kst_all
        · ksw_same)
    · rintro ⟨i, ti⟩ u h tk hP hF hN
      dsimp only [kstB] at hF
      walk_at "go"
      generalize hA : Txt.slice x (some i) none = A at *
      generalize hB : Txt.slice y (some i) none = B at *
      have hD : ∀ s', Cost s' → D s' (lst A) (lst B) = D s' (lst x) (lst y) := by intro s' C; rw [← hA, ← hB]; exact pre_D C hP
      have hAl : A.length ≤ 40 := by omega
      have hBl : B.length ≤ 40 := by omega
      clear hA hB hP
      (rename Fr _ _ _ _ => lF'); (rename News _ _ _ _ => lN')
      (with_unfolding_all refine' while_cut (fun _ => news) (fun c : Int × Tok => [(Str.ofString "post", .int c.1 c.2)]) [] (fun c => postIs A B c.1) (fun c => postIs A B c.1) (fun c => ((A.length : Int) + c.1).toNat) ⟨0, _⟩ lF' lN' (by kst_all) ?_ ?_ ?_)
      all_goals clear lF' lN'
      · exact ⟨by omega, by omega, by omega, by simp [← lst_length]⟩
      rotate_left
      · rintro ⟨p, tp⟩ u h tk hP hF hN
        obtain ⟨h1, h2, h3, h4⟩ := hP
        dsimp only at h1 h2 h3 h4
        have hc1 := cutEnd_len h1 h2
        have hc2 := cutEnd_len h1 h3
        have hl1 : (cutEnd A p).length ≤ 40 := by omega
        have hl2 : (cutEnd B p).length ≤ 40 := by omega
        dsimp only [kstB] at hF
        walk_at "go"
        (rename Fr _ _ _ _ => F8); (rename News _ _ _ _ => N8)
        refine cut_val (fun v => ∃ t, v = .str (cutEnd A p) t) F8 N8 ?_ ?_
        · refine Subscript_ ?_
          walk_at "go"
          all_goals walk_at "cut end"
        rintro _ h' tk' ⟨t, rfl⟩ F' N'
        clear F8 N8
        walk_at "go"
        · (rename Fr _ _ _ _ => F8); (rename News _ _ _ _ => N8)
          refine cut_val (fun v => ∃ t, v = .str (cutEnd B p) t) F8 N8 ?_ ?_
          · refine Subscript_ ?_
            walk_at "go"
            all_goals walk_at "cut end"
          rintro _ h'' tk'' ⟨t', rfl⟩ F'' N''
          clear F8 N8
          walk_at "go"
          · refine wpAny_execs_cons ?_
            refine wpAny_AugAssign_Name ?_
            walk1
            walk1
            walk1
            walk1
            dsimp only
            refine wpAny_execs_nil ?_
            (rename Fr _ _ _ _ => F9); (rename News _ _ _ _ => N9)
            have hP := post_turn h1 h2 h3 h4 (by with_reducible assumption) (by with_reducible assumption) (by with_reducible assumption)
            dsimp only [KswPost]
            refine ksw_end ⟨p - 1, ?tt2⟩ F9 N9 (fun _ h => h) trivial ?ka ?kb hP ?kc
            (case ka => kst_all)
            (case kb => ksw_same)
            (case kc => (dsimp only; omega))
          all_goals (
            (rename Fr _ _ _ _ => F9); (rename News _ _ _ _ => N9)
            refine wout_mk ⟨p, tp⟩ F9 N9 (fun _ h => h) ?_ ?_ ⟨h1, h2, h3, h4⟩
            · kst_all
            · ksw_same)
        · (rename Fr _ _ _ _ => F9); (rename News _ _ _ _ => N9)
          refine wout_mk ⟨p, tp⟩ F9 N9 (fun _ h => h) ?_ ?_ ⟨h1, h2, h3, h4⟩
          · kst_all
          · ksw_same
      · rintro ⟨p, tp⟩ u h tk hP hF hN
        dsimp only [kstB] at hF
        walk_at "go"
        (rename Fr _ _ _ _ => F8); (rename News _ _ _ _ => N8)
        refine cut_val (fun v => ∃ t, v = .str (cutEnd A p) t) F8 N8 ?_ ?_
        · refine Subscript_ ?_
          walk_at "go"
          all_goals walk_at "cut end"
        rintro _ h' tk' ⟨t, rfl⟩ F' N'
        clear F8 N8
        walk_at "go"
        (rename Fr _ _ _ _ => F8); (rename News _ _ _ _ => N8)
        refine cut_val (fun v => ∃ t, v = .str (cutEnd B p) t) F8 N8 ?_ ?_
        · refine Subscript_ ?_
          walk_at "go"
          all_goals walk_at "cut end"
        rintro _ h'' tk'' ⟨t', rfl⟩ F'' N''
        clear F8 N8
        have hD2 : ∀ s', Cost s' → D s' (lst (cutEnd A p)) (lst (cutEnd B p)) = D s' (lst x) (lst y) := by intro s' C; rw [post_D C hP, hD s' C]
        have hl1 : (cutEnd A p).length ≤ 40 := by have := cutEnd_len hP.1 hP.2.1; have := hP.1; dsimp only at *; omega
        have hl2 : (cutEnd B p).length ≤ 40 := by have := cutEnd_len hP.1 hP.2.2.1; have := hP.1; dsimp only at *; omega
        clear hP hD
        generalize cutEnd A p = A' at *
        generalize cutEnd B p = B' at *
        walk_at "go"
        · (rename Fr _ _ _ _ => lF'); (rename News _ _ _ _ => lN')
          refine stmt_cut (σ := (Str × Tok) × (Str × Tok)) (fun _ => news) (fun c => [(Str.ofString "a", .str c.1.1 c.1.2), (Str.ofString "b", .str c.2.1 c.2.2)]) [] (fun c => c.1.1.length ≤ c.2.1.length ∧ 0 < c.1.1.length ∧ c.2.1.length ≤ 40 ∧ ∀ s', Cost s' → D s' (lst c.1.1) (lst c.2.1) = D s' (lst x) (lst y)) lF' ?now ?done
          case now =>
            (rename Fr _ _ _ _ => lF9)
            refine wpAny_If ?_
            walk_at "go"
            · (rename Fr _ _ _ _ => F9); (rename News _ _ _ _ => N9)
              refine wout_mk ((B', t'), (A', t)) F9 N9 (fun _ h => List.mem_cons_of_mem _ h) ?_ ?_ ⟨by dsimp only; omega, by dsimp only; omega, hl1, fun s' C => by rw [D_symm C]; exact hD2 s' C⟩
              · kst_all
              · ksw_same
            · (rename Fr _ _ _ _ => F9); (rename News _ _ _ _ => N9)
              refine wout_mk ((A', t), (B', t')) F9 N9 (fun _ h => h) ?_ ?_ ⟨by dsimp only; omega, by dsimp only; omega, hl2, hD2⟩
              · kst_all
              · ksw_same
          case done =>
            rintro ⟨⟨S, tS⟩, ⟨T, tT⟩⟩ u h tk hX hF hN
            obtain ⟨hST, hS0, hT40, hDST⟩ := hX
            dsimp only at hST hS0 hT40 hDST
            dsimp only [kstB] at hF
            clear hD2 hl1 hl2 lF' lN'
            walk_at "go"
            · ((rename Fr _ _ _ _ => F9); (rename News _ _ _ _ => N9); exact ret _ _ _ _ (told_far hDST (by omega)) F9 N9)
            · (rename Fr _ _ _ _ => F8); (rename News _ _ _ _ => N8); (rename IsRange _ _ _ _ _ _ _ _ => rg)
              refine list_rangeK (n := S.length) rfl F8 N8 rg (row_range _ (by omega)).1 (row_range _ (by omega)).2 (by omega) ?_
              intro D' us c' h9 tk9 F9 N9 l1 hI
              clear F8 N8 rg
              walk_at "go"
              (rename Fr _ _ _ _ => F7); (rename News _ _ _ _ => N7)
              refine wpAny_mono (lev_dp (by assumption) (by assumption) (by assumption) (fr_as [(Str.ofString "result", .int 0 _), (Str.ofString "row", .ref D'), (Str.ofString "a", .str S tS), (Str.ofString "b", .str T tT), (Str.ofString "max_cost", .int mx tm)] (by kst_all) F7) N7 (row_as hI) l1 hST hS0 hT40 (by omega) (by omega) ?_) (fun _ _ h => h) (fun _ _ h => h.elim)
              intro r t h' tk' m' hT F6 N6
              walk_at "go"
              ((rename Fr _ _ _ _ => F9); (rename News _ _ _ _ => N9); exact ret _ _ _ _ (told_move hDST hT) F9 N9)
        all_goals ((rename Fr _ _ _ _ => F9); (rename News _ _ _ _ => N9); exact ret _ _ _ _ (told_nil hD2 (by omega) rfl) F9 N9)
end
end Mine
open Lean Elab Command in
end
section
open PySem PySem.W PyProof.Rows PySem.Builtin.Str PySem.Builtin
namespace Mine
/-- cut at each c -/
def splitC (c : Nat) : List Nat → List (List Nat)
  | [] => [[]]
  | k :: r => if k = c then [] :: splitC c r else match splitC c r with
    | [] => [[k]]
    | q :: s => (k :: q) :: s
def joinL (z : List Nat) : List (List Nat) → List Nat
  | [] => []
  | [q] => q
  | q :: r => q ++ z ++ joinL z r
/-- c turned to z -/
def replC (c : Nat) (z : List Nat) : List Nat → List Nat
  | [] => []
  | k :: r => if k = c then z ++ replC c z r else k :: replC c z r
/-- return and feed turned to z -/
def repl2 (z : List Nat) : List Nat → List Nat
  | [] => []
  | 13 :: 10 :: r => z ++ repl2 z r
  | k :: r => k :: repl2 z r
theorem splitC_ne (c : Nat) : ∀ l, splitC c l ≠ []
  | [] => by simp [splitC]
  | k :: r => by
    rw [splitC]
    split
    · simp
    · have := splitC_ne c r
      split <;> simp
theorem splitC_self (c : Nat) (r : List Nat) : splitC c (c :: r) = [] :: splitC c r := by rw [splitC, if_pos rfl]
theorem splitC_other {c k : Nat} (h : k ≠ c) (r : List Nat) : ∃ q s, splitC c r = q :: s ∧ splitC c (k :: r) = (k :: q) :: s := by
  cases e : splitC c r with
  | nil => exact absurd e (splitC_ne c r)
  | cons q s => exact ⟨q, s, rfl, by rw [splitC, if_neg h, e]⟩
theorem splitC_free {c : Nat} : ∀ {l : List Nat}, c ∉ l → splitC c l = [l]
  | [], _ => rfl
  | k :: r, h => by
    have hk : k ≠ c := fun e => h (e ▸ .head _)
    rw [splitC, if_neg hk, splitC_free (fun e => h (.tail _ e))]
theorem splitC_app {c : Nat} : ∀ {l : List Nat} (r : List Nat), c ∉ l → splitC c (l ++ c :: r) = l :: splitC c r
  | [], r, _ => splitC_self c r
  | k :: l, r, h => by
    have hk : k ≠ c := fun e => h (e ▸ .head _)
    rw [List.cons_append, splitC, if_neg hk, splitC_app r (fun e => h (.tail _ e))]
theorem joinL_cons (z q : List Nat) {r : List (List Nat)} (h : r ≠ []) : joinL z (q :: r) = q ++ z ++ joinL z r := by
  cases r with
  | nil => exact absurd rfl h
  | cons a b => rfl
theorem join_splitC (c : Nat) (z : List Nat) : ∀ l, joinL z (splitC c l) = replC c z l
  | [] => rfl
  | k :: r => by
    by_cases h : k = c
    · subst h
      rw [splitC_self, joinL_cons _ _ (splitC_ne _ _), join_splitC, replC, if_pos rfl]; rfl
    · obtain ⟨q, s, e1, e2⟩ := splitC_other h r
      have ih := join_splitC c z r
      rw [e1] at ih
      rw [e2, replC, if_neg h, ← ih]
      cases s with
      | nil => rfl
      | cons a b => simp [joinL]
theorem splitC_join {c : Nat} : ∀ {ps : List (List Nat)}, ps ≠ [] → (∀ q ∈ ps, c ∉ q) → splitC c (joinL [c] ps) = ps
  | [], h, _ => absurd rfl h
  | [q], _, h => splitC_free (h q (.head _))
  | q :: a :: b, _, h => by
    rw [joinL_cons _ _ (by simp), List.append_assoc, List.singleton_append, splitC_app _ (h q (.head _)), splitC_join (by simp) fun x hx => h x (.tail _ hx)]
theorem lst_join (sep : Str) : ∀ ps : List Str, lst (Str.join sep ps) = joinL (lst sep) (ps.map lst)
  | [] => rfl
  | [_] => rfl
  | q :: a :: b => by
    show lst (q ++ sep ++ Str.join sep (a :: b)) = _
    rw [lst_app, lst_app, lst_join sep (a :: b)]
    rfl
theorem txt_join (sep : Str) (ps : List Str) : lst (Txt.join sep ps) = joinL (lst sep) (ps.map lst) := by
  unfold Txt.join
  rw [StrLaws.glued_eq_join, lst_join]
theorem split_ne (x y : Str) : Txt.split x y ≠ [] := by
  unfold Txt.split
  split
  · simp
  · split
    · simp
    · obtain ⟨a, b, e⟩ := StrLaws.partsFrom_ne x y.length 0 (occurrences x y 0 x.length (x.length + 1))
      rw [StrLaws.partsBetween_eq, e]; simp
theorem split_one (x : Str) (c : Nat) : (Txt.split x ⟨#[c]⟩).map lst = splitC c (lst x) := by
  have h := congrArg lst (StrLaws.join_split x ⟨#[c]⟩)
  rw [lst_join] at h
  rw [← h]
  refine (splitC_join (by simpa using split_ne x _) ?_).symm
  intro q hq
  obtain ⟨a, ha, rfl⟩ := List.mem_map.mp hq
  exact StrLaws.split_free x c a ha
theorem replace_one (x z : Str) (c : Nat) : lst (Txt.replace x ⟨#[c]⟩ z) = replC c (lst z) (lst x) := by
  rw [StrLaws.replace_one, lst_join, split_one, join_splitC]
/-- how often -/
theorem count_chain (x : Str) (c : Nat) : ∀ (cuts : List Nat) (a f : Nat), StrLaws.ChainG x ⟨#[c]⟩ x.length a cuts f → (∀ k, f ≤ k → ¬ StrLaws.At x ⟨#[c]⟩ x.length k) → ((lst x).drop a).count c = cuts.length
  | [], a, f, h, hn => by
    have e : f = a := h
    subst e
    refine List.count_eq_zero.mpr fun hm => ?_
    obtain ⟨i, hi⟩ := List.getElem?_of_mem hm
    rw [List.getElem?_drop] at hi
    exact hn (f + i) (by omega) ((StrLaws.subAt_one x c _).mpr hi)
  | k :: r, a, f, h, hn => by
    obtain ⟨h1, h2, h3, h4⟩ := h
    have hk := (StrLaws.subAt_one x c k).mp h2
    have ih := count_chain x c r _ f h4 hn
    have hkl : k < (lst x).length := by
      have := (List.getElem?_eq_some_iff.mp hk).1
      exact this
    have e : (lst x).drop a = ((lst x).drop a).take (k - a) ++ c :: (lst x).drop (k + 1) := by
      have e1 := List.take_append_drop (k - a) ((lst x).drop a)
      rw [List.drop_drop, show a + (k - a) = k by omega, List.drop_eq_getElem_cons hkl] at e1
      have e2 : (lst x)[k] = c := by
        have := (List.getElem?_eq_some_iff.mp hk).2
        exact this
      rw [e2] at e1
      exact e1.symm
    have h0 : (((lst x).drop a).take (k - a)).count c = 0 := by
      refine List.count_eq_zero.mpr fun hm => ?_
      obtain ⟨i, hi⟩ := List.getElem?_of_mem hm
      have hlt : i < k - a := by
        have := (List.getElem?_eq_some_iff.mp hi).1
        rw [List.length_take] at this
        omega
      rw [List.getElem?_take_of_lt hlt, List.getElem?_drop] at hi
      exact h3 (a + i) (by omega) (by omega) ((StrLaws.subAt_one x c _).mpr hi)
    rw [e, List.count_append, h0, List.count_cons_self]
    have ih' : List.count c ((lst x).drop (k + 1)) = r.length := ih
    rw [ih', List.length_cons]; omega
theorem count_one (x : Str) (c : Nat) : Txt.count x ⟨#[c]⟩ = ((lst x).count c : Int) := by
  obtain ⟨f, h, hn⟩ := StrLaws.occ_tight x ⟨#[c]⟩ (Nat.le_refl 1)
  have := count_chain x c _ 0 f h hn
  rw [List.drop_zero] at this
  unfold Txt.count
  rw [this]
theorem repl2_other {z : List Nat} {k : Nat} {r : List Nat} (h : ¬ (k = 13 ∧ r.head? = some 10)) : repl2 z (k :: r) = k :: repl2 z r := by
  rw [repl2]
  intro r' e1 e2
  subst e1 e2
  exact h ⟨rfl, rfl⟩
theorem repl2_free (z : List Nat) : ∀ (l : List Nat), (∀ i, ¬ (l[i]? = some 13 ∧ l[i + 1]? = some 10)) → repl2 z l = l
  | [], _ => rfl
  | k :: r, h => by
    rw [repl2_other (fun ⟨e1, e2⟩ => h 0 (by cases r with | nil => simp at e2 | cons q s => simp at e2; simp [e1, e2])), repl2_free z r fun i => h (i + 1)]
theorem repl2_app (z : List Nat) : ∀ (l r : List Nat), (∀ i, i < l.length → ¬ ((l ++ 13 :: r)[i]? = some 13 ∧ (l ++ 13 :: r)[i + 1]? = some 10)) → repl2 z (l ++ 13 :: 10 :: r) = l ++ z ++ repl2 z r
  | [], r, _ => by rw [List.nil_append, repl2]; rfl
  | k :: l, r, h => by
    have h0 := h 0 (by simp)
    rw [List.cons_append, repl2_other, repl2_app z l r]
    · rfl
    · intro i hi
      have := h (i + 1) (by simpa using hi)
      simpa using this
    · rintro ⟨e1, e2⟩
      refine h0 ⟨by simp [e1], ?_⟩
      cases l with
      | nil => simp at e2
      | cons q s => simp at e2; simp [e2]
theorem subAt_two (x : Str) (c d i : Nat) : StrLaws.At x ⟨#[c, d]⟩ x.length i ↔ ((lst x)[i]? = some c ∧ (lst x)[i + 1]? = some d) := by
  unfold StrLaws.At
  rw [StrLaws.subAt_eq]
  have hl : (⟨#[c, d]⟩ : Str).length = 2 := rfl
  rw [hl]
  show (i + 2 ≤ x.length ∧ (((lst x).drop i).take 2 == [c, d]) = true) ↔ _
  rw [beq_iff_eq]
  have hx : (lst x).length = x.length := lst_length x
  constructor
  · rintro ⟨h1, h2⟩
    rw [List.drop_eq_getElem_cons (by omega), List.drop_eq_getElem_cons (by omega)] at h2
    simp only [List.take_succ_cons, List.take_zero, List.cons.injEq, and_true] at h2
    rw [List.getElem?_eq_getElem (by omega), List.getElem?_eq_getElem (by omega), h2.1, h2.2]
    exact ⟨rfl, rfl⟩
  · rintro ⟨h1, h2⟩
    obtain ⟨l1, e1⟩ := List.getElem?_eq_some_iff.mp h1
    obtain ⟨l2, e2⟩ := List.getElem?_eq_some_iff.mp h2
    refine ⟨by omega, ?_⟩
    rw [List.drop_eq_getElem_cons l1, List.drop_eq_getElem_cons l2, e1, e2]
    rfl
theorem repl2_chain (x z : Str) : ∀ (cuts : List Nat) (a f : Nat), StrLaws.ChainG x ⟨#[13, 10]⟩ x.length a cuts f → (∀ k, f ≤ k → ¬ StrLaws.At x ⟨#[13, 10]⟩ x.length k) → lst (Str.join z (StrLaws.partsFrom x 2 a cuts)) = repl2 (lst z) ((lst x).drop a)
  | [], a, f, h, hn => by
    have e : f = a := h
    subst e
    have e2 : lst (strSub x f x.length) = (lst x).drop f := by
      show (strSub x f x.length).cps.toList = _
      rw [StrLaws.strSub_toList, List.take_of_length_le (by rw [List.length_drop]; exact Nat.le_of_eq (by rw [show x.cps.toList.length = x.length from lst_length x]))]
      rfl
    show lst (strSub x f x.length) = _
    rw [e2, repl2_free]
    intro i hi
    rw [List.getElem?_drop, List.getElem?_drop] at hi
    exact hn (f + i) (by omega) ((subAt_two x 13 10 _).mpr hi)
  | k :: r, a, f, h, hn => by
    obtain ⟨h1, h2, h3, h4⟩ := h
    have hk := (subAt_two x 13 10 k).mp h2
    have ih := repl2_chain x z r _ f h4 hn
    obtain ⟨l1, e1⟩ := List.getElem?_eq_some_iff.mp hk.1
    obtain ⟨l2, e2⟩ := List.getElem?_eq_some_iff.mp hk.2
    have e : (lst x).drop a = ((lst x).drop a).take (k - a) ++ 13 :: 10 :: (lst x).drop (k + 2) := by
      have q := List.take_append_drop (k - a) ((lst x).drop a)
      rw [List.drop_drop, show a + (k - a) = k by omega, List.drop_eq_getElem_cons l1, List.drop_eq_getElem_cons l2, e1, e2] at q
      exact q.symm
    obtain ⟨q, s, es⟩ := StrLaws.partsFrom_ne x 2 (k + 2) r
    have hj : lst (Str.join z (StrLaws.partsFrom x 2 a (k :: r))) = lst (strSub x a k) ++ lst z ++ lst (Str.join z (StrLaws.partsFrom x 2 (k + 2) r)) := by
      show lst (Str.join z (strSub x a k :: StrLaws.partsFrom x 2 (k + 2) r)) = _
      rw [es]
      show lst (strSub x a k ++ z ++ Str.join z (q :: s)) = _
      rw [lst_app, lst_app]
    have ih' : lst (Str.join z (StrLaws.partsFrom x 2 (k + 2) r)) = repl2 (lst z) ((lst x).drop (k + 2)) := ih
    have hp : lst (strSub x a k) = ((lst x).drop a).take (k - a) := StrLaws.strSub_toList x a k
    rw [hj, ih', hp, e, repl2_app]
    · rw [← e]
    · intro i hi
      have hi' : i < k - a := by
        rw [List.length_take] at hi
        omega
      have hg : ∀ j, j ≤ k - a → (((lst x).drop a).take (k - a) ++ 13 :: (lst x).drop (k + 2))[j]? = (lst x)[a + j]? := by
        intro j hj
        have hlen : (((lst x).drop a).take (k - a)).length = k - a := by rw [List.length_take, List.length_drop]; omega
        by_cases hjk : j < k - a
        · rw [List.getElem?_append_left (by rw [hlen]; exact hjk), List.getElem?_take_of_lt hjk, List.getElem?_drop]
        · rw [List.getElem?_append_right (by rw [hlen]; omega), hlen, show j - (k - a) = 0 by omega, show a + j = k by omega, hk.1]
          rfl
      rw [hg i (by omega), hg (i + 1) (by omega)]
      intro hh
      exact h3 (a + i) (by omega) (by omega) ((subAt_two x 13 10 _).mpr hh)
theorem replace_two (x z : Str) : lst (Txt.replace x ⟨#[13, 10]⟩ z) = repl2 (lst z) (lst x) := by
  obtain ⟨f, h, hn⟩ := StrLaws.occ_tight x ⟨#[13, 10]⟩ (by decide)
  have key := repl2_chain x z _ 0 f h hn
  rw [List.drop_zero] at key
  unfold Txt.replace
  split
  · rename_i hc
    have he : (occurrences x ⟨#[13, 10]⟩ 0 x.length (x.length + 1)).isEmpty = true := by
      rw [show ((⟨#[13, 10]⟩ : Str).length == 0) = false from rfl, Bool.false_and, Bool.or_false] at hc
      exact hc
    rw [List.isEmpty_iff.mp he] at key
    have e : StrLaws.partsFrom x 2 0 [] = [x] := by
      show [strSub x 0 x.length] = [x]
      rw [StrLaws.sub_whole]
    rw [e] at key
    exact key
  · rw [StrLaws.glued_eq_join, StrLaws.partsBetween_eq]
    exact key
end Mine
end
section
open PySem PySem.W PyProof.Rows
namespace Mine
theorem fr_some {h₀ h : Heap} {L : Addr} {m : Str → Option Value} (ps : List (Str × Value)) (h1 : ∀ p ∈ ps, m p.1 = some p.2) (F : Fr h₀ L h m) : ∃ u, Fr h₀ L h (kstB u ps) := ⟨m, fr_as ps h1 F⟩
section
variable {prog : Program} {w : World} {A : Around} {E : Value → Shared → Prop} {s : Shared} {h₀ : Heap} {L D : Addr} {news : List (Addr × Obj)}
theorem strVals_at {l : List (Str × Tok)} {ps : List Str} (hp : l.map (·.1) = ps) {k : Int} (h0 : 0 ≤ k) (h1 : k < ps.length) : ∃ t, (strValues l).toArray[k.toNat]? = some (.str (ps.getD k.toNat Str.empty) t) := by
  have hl : k.toNat < l.length := by rw [← hp, List.length_map] at h1; omega
  refine ⟨l[k.toNat].2, ?_⟩
  have e : ps.getD k.toNat Str.empty = l[k.toNat].1 := by
    rw [← hp, List.getD_eq_getElem?_getD, List.getElem?_map, List.getElem?_eq_getElem hl]; rfl
  rw [e, List.getElem?_toArray]
  unfold strValues
  rw [List.getElem?_map, List.getElem?_eq_getElem hl]
  rfl
/-- a text of a list of texts, at a place -/
theorem txt_item {value slice : PySem.Expr} {Q : Value → Shared → Prop} {l : List (Str × Tok)} {ps : List Str} {k : Int} {u : Tok} {n : Nat} (N : News h₀ L s.heap news) (hm : (D, PySem.W.listOf (strValues l).toArray n) ∈ news) (hp : l.map (·.1) = ps) (h0 : 0 ≤ k) (h1 : k < ps.length) (hz : ps.length ≤ 2 ^ 40) {B : Nat} (hb : ∀ a ∈ ps, a.length ≤ B) (h : ∀ t, (ps.getD k.toNat Str.empty).length ≤ B → Q (.str (ps.getD k.toNat Str.empty) t) s)
    (hs : subscripted slice false (.ref D) (.int k u) = operate [.ref D, .int k u] (getItem (.ref D) (.int k u)) := by with_unfolding_all rfl) :
    wpAny (model prog w) A (subscriptTail value slice (.ref D) (.int k u)) Q E s := by
  obtain ⟨t, ht⟩ := strVals_at hp h0 h1
  have hB : (ps.getD k.toNat Str.empty).length ≤ B := by
    have hl : k.toNat < ps.length := by omega
    rw [List.getD_eq_getElem?_getD, List.getElem?_eq_getElem hl]
    exact hb _ (List.getElem_mem hl)
  have hl : s.heap.IsList D (strValues l).toArray := PySem.IsL.isList (n := n) (N _ hm).1
  exact tail_any hl.typeIs slot_list_getitem.lookup (wpAny_getItem_list hl h0 (by omega) ht (h t hB)) hs
/-- a text set into a list of texts -/
theorem txt_set {m : Str → Option Value} {Q : Unit → Shared → Prop} {l : List (Str × Tok)} {k : Int} {t ty : Tok} {y : Str} {n : Nat} (F : Fr h₀ L s.heap m) (N : News h₀ L s.heap ((D, PySem.W.listOf (strValues l).toArray n) :: news)) (hne : ∀ p ∈ news, p.1 ≠ D) (h0 : 0 ≤ k) (h1 : k < l.length) (hz : l.length ≤ 2 ^ 40)
    (h : ∀ h', Fr h₀ L h' m → News h₀ L h' ((D, PySem.W.listOf (strValues (l.set k.toNat (y, ty))).toArray n) :: news) → Q () { s with heap := h' }) :
    wpAny (model prog w) A (setItem (.ref D) (.int k t) (.str y ty)) Q E s := by
  have z := N (D, PySem.W.listOf (strValues l).toArray n) (.head _)
  have hs : (strValues l).toArray.size = l.length := by unfold strValues; rw [List.size_toArray, List.length_map]
  refine ki_setAt z.1 h0 (by omega) (by omega) (h _ (F.change (Heap.SameBut.update ..) z.2.1 z.2.2) (ki_turn (pre := []) _ N (fun _ h => nomatch h) hne ?_ ?_))
  · apply Array.toList_inj.mp
    simp [strValues, List.map_set]
  · simp [strValues]
end
end Mine
end
section
open PySem PySem.W PyProof.Rows
namespace Mine
def nmGo : List Nat → List (List Nat) → List Nat
  | nm, e :: q :: r => if e = [] then nmGo (nm ++ 34 :: q) r else nm
  | nm, _ => nm
def wgt : List (List Nat) → Nat
  | [] => 0
  | q :: r => q.length + 1 + wgt r
theorem wgt_split (c : Nat) : ∀ l, wgt (splitC c l) = l.length + 1
  | [] => rfl
  | k :: r => by
    by_cases h : k = c
    · subst h
      rw [splitC_self]
      show 0 + 1 + wgt (splitC k r) = _
      rw [wgt_split, List.length_cons]; omega
    · obtain ⟨q, s, e1, e2⟩ := splitC_other h r
      have ih := wgt_split c r
      rw [e1] at ih
      rw [e2]
      show (k :: q).length + 1 + wgt s = _
      have ih' : q.length + 1 + wgt s = r.length + 1 := ih
      rw [List.length_cons, List.length_cons]; omega
theorem nmGo_name : ∀ (n : Nat) (x nm : List Nat) (q : List Nat) (r : List (List Nat)), x.length ≤ n → splitC 34 x = q :: r → nmGo (nm ++ q) r = nm ++ nameOf x
  | n, [], nm, q, r, _, e => by
    cases e
    rfl
  | 0, _ :: _, _, _, _, h, _ => absurd h (by simp)
  | n + 1, k :: t, nm, q, r, h, e => by
    by_cases hk : k = 34
    · subst hk
      rw [splitC_self] at e
      cases e
      cases t with
      | nil => rw [nameOf_end (by simp)]; rfl
      | cons c t2 =>
        by_cases hc : c = 34
        · subst hc
          rw [splitC_self, nameOf]
          cases e2 : splitC 34 t2 with
          | nil => exact absurd e2 (splitC_ne _ _)
          | cons q s =>
            rw [nmGo, if_pos rfl]
            have ih := nmGo_name n t2 (nm ++ [34]) q s (by simp only [List.length_cons] at h; omega) e2
            simpa using ih
        · obtain ⟨q, s, e1, e2⟩ := splitC_other hc t2
          rw [e2, nameOf_end (by simpa using hc)]
          cases s with
          | nil => rfl
          | cons a b => rw [nmGo, if_neg (by simp)]
    · obtain ⟨q', s, e1, e2⟩ := splitC_other hk t
      rw [e2] at e
      cases e
      have ih := nmGo_name n t (nm ++ [k]) q' r (by simp only [List.length_cons] at h; omega) e1
      rw [nameOf_other hk]
      simpa using ih
theorem wgt_len : ∀ l : List (List Nat), l.length ≤ wgt l
  | [] => Nat.le_refl _
  | q :: r => by have := wgt_len r; rw [List.length_cons, wgt]; omega
def lawName (x : Str) : Str := ⟨(nameOf (lst x)).toArray⟩
abbrev nmIs (x : Str) (ps : List Str) (k : Int) (nm : Str) : Prop := 1 ≤ k ∧ k ≤ ps.length ∧ nmGo (lst nm) ((ps.map lst).drop k.toNat) = nameOf (lst x) ∧ nm.length + wgt ((ps.map lst).drop k.toNat) ≤ x.length
theorem qt1 : Str.ofString "\"" = ⟨#[34]⟩ := by decide +kernel
theorem empty_lst : lst (Str.ofString "") = [] := by decide +kernel
theorem nm_start {x : Str} {ps : List Str} (h : ps = Txt.split x (Str.ofString "\"")) : nmIs x ps 1 (ps.getD 0 Str.empty) := by
  have e := split_one x 34
  rw [← qt1, ← h] at e
  cases ps with
  | nil => exact absurd e.symm (splitC_ne _ _)
  | cons q r =>
    have e' : splitC 34 (lst x) = lst q :: r.map lst := e.symm
    have h1 := nmGo_name _ (lst x) [] (lst q) (r.map lst) (Nat.le_refl _) e'
    have h2 := wgt_split 34 (lst x)
    rw [e', lst_length] at h2
    have h3 : (lst q).length + 1 + wgt (r.map lst) = x.length + 1 := h2
    rw [lst_length] at h3
    refine ⟨by omega, by simp; omega, ?_, ?_⟩
    · exact h1
    · show q.length + wgt (r.map lst) ≤ x.length
      omega
theorem nm_first {x y : Str} {ps : List Str} (h : ps = Txt.split x (Str.ofString "\"")) (hy : ps[Int.toNat 0]? = some y) : nmIs x ps 1 y := by
  have := nm_start h
  rw [List.getD_eq_getElem?_getD, show ps[0]? = some y from hy] at this
  exact this
theorem nm_drop {ps : List Str} {k : Int} (h0 : 0 ≤ k) (h1 : k < ps.length) : (ps.map lst).drop k.toNat = lst (ps.getD k.toNat Str.empty) :: (ps.map lst).drop (k.toNat + 1) := by
  have hl : k.toNat < ps.length := by omega
  rw [List.drop_eq_getElem_cons (by simpa using hl), List.getElem_map, List.getD_eq_getElem?_getD, List.getElem?_eq_getElem hl]
  rfl
theorem nm_turn {x nm : Str} {ps : List Str} {k : Int} (h1 : 1 ≤ k) (h3 : nmGo (lst nm) ((ps.map lst).drop k.toNat) = nameOf (lst x)) (h4 : nm.length + wgt ((ps.map lst).drop k.toNat) ≤ x.length) (hk : k < (ps.length : Int) - 1) (he : (ps.getD k.toNat Str.empty == Str.ofString "") = true) :
    nmIs x ps (k + 2) (nm ++ Str.ofString "\"" ++ ps.getD (k + 1).toNat Str.empty) := by
  have he' : ps.getD k.toNat Str.empty = Str.ofString "" := by simpa using he
  rw [nm_drop (by omega) (by omega), he', empty_lst, show k.toNat + 1 = (k + 1).toNat by omega, nm_drop (by omega) (by omega)] at h3 h4
  rw [nmGo, if_pos rfl] at h3
  have h4' : nm.length + (0 + 1 + ((lst (ps.getD (k + 1).toNat Str.empty)).length + 1 + wgt ((ps.map lst).drop ((k + 1).toNat + 1)))) ≤ x.length := h4
  refine ⟨by omega, by omega, ?_, ?_⟩
  · rw [lst_app, lst_app, show (k + 2).toNat = (k + 1).toNat + 1 by omega, ← h3, qt1]
    congr 1
    rw [List.append_assoc]; rfl
  · rw [Str.length_append, Str.length_append, show (k + 2).toNat = (k + 1).toNat + 1 by omega]
    rw [lst_length] at h4'
    have : (Str.ofString "\"").length = 1 := by decide +kernel
    omega
theorem nm_is {x nm : Str} (h : lst nm = nameOf (lst x)) : nm = lawName x := str_ext (by rw [h]; simp [lawName, lst])
theorem nm_out1 {x nm : Str} {ps : List Str} {k : Int} (h1 : 1 ≤ k) (h3 : nmGo (lst nm) ((ps.map lst).drop k.toNat) = nameOf (lst x)) (hk : ¬ k < (ps.length : Int) - 1) : nm = lawName x := by
  refine nm_is ?_
  rw [← h3]
  have hl : ((ps.map lst).drop k.toNat).length ≤ 1 := by rw [List.length_drop, List.length_map]; omega
  match (ps.map lst).drop k.toNat, hl with
  | [], _ => rfl
  | [_], _ => rfl
theorem nm_out2 {x nm : Str} {ps : List Str} {k : Int} (h1 : 1 ≤ k) (h3 : nmGo (lst nm) ((ps.map lst).drop k.toNat) = nameOf (lst x)) (hk : k < (ps.length : Int) - 1) (he : (ps.getD k.toNat Str.empty == Str.ofString "") = false) : nm = lawName x := by
  refine nm_is ?_
  rw [← h3, nm_drop (by omega) (by omega), show k.toNat + 1 = (k + 1).toNat by omega, nm_drop (by omega) (by omega), nmGo, if_neg]
  intro e
  rw [← empty_lst] at e
  have := str_ext e
  rw [this] at he
  simp at he
end Mine
end
section
open PySem PySem.W PyProof.Rows
namespace Mine
local macro_rules | `(tactic| walk_at "go") => `(tactic| repeat' ((fail_if_success (with_reducible show wpAny _ _ (exec (Stmt.While _ _ _ _) _) _ _ _)); (fail_if_success (with_reducible show WOut _ _ _ _ _ _ _ _ _ _)); (fail_if_success (with_reducible show KswPost _ _ _ _ _ _ _ _ _ _ _ _ _ _)); first | (k_unfold; (try dsimp only)) | (k_end; wrow_close) | walk1 | (dsimp only; walk1) | (leave1; walk_say "STEP leave1"; try dsimp only) | fail "no step"))
local macro_rules | `(tactic| walk_at "subscriptTail Name Name ref int") => `(tactic| (
  (with_reducible show wpAny _ _ (subscriptTail _ _ (Value.ref _) (Value.int _ _)) _ _ _);
  (with_reducible rename News _ _ _ _ => N');
  (with_reducible rename List.map _ _ = _ => hps);
  k_dflt (refine' txt_item N' ?m hps ?a ?b ?c ?e ?_ ?d; (case m => exact List.Mem.head _); (case a => omega); (case b => omega); (case c => omega); (case e => assumption); (case d => with_unfolding_all rfl)); intro _ _))
local macro_rules | `(tactic| walk_at "subscriptTail Name BinOp ref int") => `(tactic| (
  (with_reducible show wpAny _ _ (subscriptTail _ _ (Value.ref _) (Value.int _ _)) _ _ _);
  (with_reducible rename News _ _ _ _ => N');
  (with_reducible rename List.map _ _ = _ => hps);
  k_dflt (refine' txt_item N' ?m hps ?a ?b ?c ?e ?_ ?d; (case m => exact List.Mem.head _); (case a => omega); (case b => omega); (case c => omega); (case e => assumption); (case d => with_unfolding_all rfl)); intro _ _))
section
variable {w : World} {p : Program} {loose : List Str} {mean : ExcName → Option Value} {mg mb : Str → Option Value} {dp un : Nat} {gd : Option (List Code)} {cn : Str} {cs : Scope} {a : Addr} {ccd : Value} {cl : List (Str × Addr)} {outer : List Env} {A₀ : Around} {base h₀ : Heap} {L : Addr} {m : Str → Option Value} {s : Shared} {news : List (Addr × Obj)}
set_option maxRecDepth 100000 in
set_option maxHeartbeats 4000000 in
theorem name_r {Q E : Value → Shared → Prop} {o x : Str} {to tx : Tok} (B : Below A₀ base outer h₀) (F : Fr h₀ L s.heap m) (X : (Mine.hd.heap_39 w.params).In h₀) (N : News h₀ L s.heap news) (T : Top p loose mean mg mb h₀) (hk : cs.kind = .function)
    (ho : o.length ≤ 100) (hx : x.length ≤ 1000) (hroom : dp + 5 < recursionLimit) (hunits : un + 80 < cLine)
    (ret1 : (Txt.slice o none (some 3) != Str.ofString "257") = true → ∀ (l : Addr) (t : Tok) (h' : Heap) (tk' : Nat), Fr h₀ L h' m → News h₀ L h' ((l, PySem.W.listOf #[.str (o ++ x) t] 0) :: news) → Q (.ref l) { s with heap := h', toks := tk' })
    (ret2 : (Txt.slice o none (some 3) != Str.ofString "257") = false → (Txt.slice o (some 3) none != Str.ofString " \"") = true → ∀ (t : Tok) (h' : Heap) (tk' : Nat), Fr h₀ L h' m → News h₀ L h' news → Q (.str (Str.ofString "") t) { s with heap := h', toks := tk' })
    (ret3 : (Txt.slice o none (some 3) != Str.ofString "257") = false → (Txt.slice o (some 3) none != Str.ofString " \"") = false → ∀ (t : Tok) (h' : Heap) (tk' : Nat), Fr h₀ L h' m → News h₀ L h' news → Q (.str (lawName x) t) { s with heap := h', toks := tk' }) :
    wpAny (model PySem.Challenge.rw_rs0052_01.prog w) (ktrTop dp un gd cn cs L a ccd cl outer) (call (.ref 108) [.str o to, .str x tx]) Q E s := by
  k_with_none
  w_top off
  revert X
  k_fill
  intro X
  refine wpAny_call ?_
  k_dflt cell_enter
  rename Fr _ _ _ _ => F1
  obtain ⟨u, F2⟩ := fr_some [(Str.ofString "opening", .str o to), (Str.ofString "text", .str x tx)] (by kst_all) F1
  clear F1
  dsimp only [kstB] at F2
  walk_at "go"
  · (rename Fr _ _ _ _ => F9); (rename News _ _ _ _ => N9)
    exact ret1 (by assumption) _ _ _ _ F9 N9
  · (rename Fr _ _ _ _ => F9); (rename News _ _ _ _ => N9)
    exact ret2 (by assumption) (by assumption) _ _ _ F9 N9
  · (rename Fr _ _ _ _ => lF'); (rename News _ _ _ _ => lN')
    rename List (Str × Tok) => l
    rename List.map _ _ = _ => hl
    rename _ = some _ => hy
    rename Str => y
    have hps : l.map (·.1) = l.map (·.1) := rfl
    have hlen : (l.map (·.1)).length ≤ 1001 := by
      have := congrArg List.length (split_one x 34)
      have h2 := wgt_split 34 (lst x)
      have h3 := wgt_len (splitC 34 (lst x))
      rw [← qt1, ← hl, List.length_map] at this
      rw [lst_length] at h2
      omega
    (with_unfolding_all refine' while_cut (σ := (Int × Tok) × (Str × Tok)) (fun _ => _) (fun c => [(Str.ofString "place", .int c.1.1 c.1.2), (Str.ofString "name", .str c.2.1 c.2.2)]) [] (fun c => nmIs x (l.map (·.1)) c.1.1 c.2.1) (fun c => c.2.1 = lawName x) (fun c => l.length + 1 - c.1.1.toNat) ((1, _), (y, _)) lF' lN' (by kst_all) ?_ ?_ ?_)
    all_goals clear lF' lN'
    · exact nm_first hl hy
    · rintro ⟨⟨k, tk1⟩, ⟨nm, tn⟩⟩ u h tk hX hF hN
      dsimp only at hX
      subst hX
      dsimp only [kstB] at hF
      walk_at "go"
      (rename Fr _ _ _ _ => F9); (rename News _ _ _ _ => N9)
      exact ret3 (by assumption) (by assumption) _ _ _ F9 (cb_drop N9 fun _ h => List.mem_cons_of_mem _ h)
    · rintro ⟨⟨k, tk1⟩, ⟨nm, tn⟩⟩ u h tk hP hF hN
      obtain ⟨h1, h2, h3, h4⟩ := hP
      dsimp only at h1 h2 h3 h4
      dsimp only [kstB] at hF
      walk_at "go"
      · (rename Fr _ _ _ _ => F9); (rename News _ _ _ _ => N9)
        have hP := nm_turn h1 h3 h4 (by with_reducible assumption) (by with_reducible assumption)
        dsimp only [KswPost]
        refine ksw_end ⟨(k + 2, ?ta), (_, ?tb)⟩ F9 N9 (fun _ h => h) trivial ?ka ?kb hP ?kc
        (case ka => kst_all)
        (case kb => ksw_same)
        (case kc => (dsimp only; rw [List.length_map] at h2; omega))
      · (rename Fr _ _ _ _ => F9); (rename News _ _ _ _ => N9)
        refine wout_mk ⟨(k, tk1), (nm, tn)⟩ F9 N9 (fun _ h => h) ?_ ?_ (nm_out2 h1 h3 (by with_reducible assumption) (by with_reducible assumption))
        · kst_all
        · ksw_same
      · (rename Fr _ _ _ _ => F9); (rename News _ _ _ _ => N9)
        refine wout_mk ⟨(k, tk1), (nm, tn)⟩ F9 N9 (fun _ h => h) ?_ ?_ (nm_out1 h1 h3 (by with_reducible assumption))
        · kst_all
        · ksw_same
end
end Mine
end
section
open PySem PySem.W PyProof.Rows
namespace Mine
/-- a row with one dot more where it begins with one -/
def dotl : List Nat → List Nat
  | 46 :: r => 46 :: 46 :: r
  | r => r
theorem dotl_dot (r : List Nat) : dotl (46 :: r) = 46 :: 46 :: r := rfl
theorem dotl_other {k : Nat} (h : k ≠ 46) (r : List Nat) : dotl (k :: r) = k :: r := by
  unfold dotl
  split
  · rename_i e; cases e; exact absurd rfl h
  · rfl
def norm (x : List Nat) : List Nat := replC 13 [10] (repl2 [10] x)
def dotRows (first : Bool) : List (List Nat) → List (List Nat)
  | [] => []
  | q :: r => (if first then dotl q else q) :: r.map dotl
theorem dots_rows : ∀ (l : List Nat) (b : Bool), dots b (replC 10 [13, 10] l) = joinL [13, 10] (dotRows b (splitC 10 l))
  | [], b => by cases b <;> rfl
  | k :: r, b => by
    by_cases hk : k = 10
    · subst hk
      have ih := dots_rows r true
      rw [splitC_self]
      cases e : splitC 10 r with
      | nil => exact absurd e (splitC_ne _ _)
      | cons q s =>
        rw [e] at ih
        have h1 : replC 10 [13, 10] (10 :: r) = 13 :: 10 :: replC 10 [13, 10] r := by rw [replC, if_pos rfl]; rfl
        have h2 : dots b (13 :: 10 :: replC 10 [13, 10] r) = 13 :: 10 :: dots true (replC 10 [13, 10] r) := by
          rw [dots]
          cases b <;> simp [dots]
        have h3 : dotRows b ([] :: q :: s) = [] :: dotRows true (q :: s) := by cases b <;> rfl
        rw [h1, h2, ih, h3, joinL_cons _ _ (by simp [dotRows])]
        rfl
    · obtain ⟨q, s, e1, e2⟩ := splitC_other hk r
      have ih := dots_rows r false
      rw [e1] at ih
      have h1 : replC 10 [13, 10] (k :: r) = k :: replC 10 [13, 10] r := by rw [replC, if_neg hk]
      have hf : (k == 10) = false := by simpa using hk
      rw [h1, e2]
      have hcons : ∀ (z : Nat) (y : List Nat) (t : List (List Nat)), joinL [13, 10] ((z :: y) :: t) = z :: joinL [13, 10] (y :: t) := by
        intro z y t; cases t <;> rfl
      have ih' : dots false (replC 10 [13, 10] r) = joinL [13, 10] (q :: s.map dotl) := ih
      by_cases h46 : (b && k == 46) = true
      · rw [dots, if_pos h46, ih']
        simp only [Bool.and_eq_true, beq_iff_eq] at h46
        obtain ⟨rfl, rfl⟩ := h46
        show _ = joinL [13, 10] (dotl (46 :: q) :: s.map dotl)
        rw [dotl_dot, hcons, hcons]
      · rw [dots, if_neg h46, hf, ih']
        have : dotRows b ((k :: q) :: s) = (k :: q) :: s.map dotl := by
          cases b with
          | false => rfl
          | true =>
            have hk46 : k ≠ 46 := by simpa using h46
            show dotl (k :: q) :: s.map dotl = _
            rw [dotl_other hk46]
        rw [this, hcons]
theorem repl2_cons13 {c : Nat} {r : List Nat} (z : List Nat) (h : ∀ r', r = 10 :: r' → False) : repl2 z (13 :: r) = 13 :: repl2 z r := by
  refine repl2_other ?_
  rintro ⟨_, e⟩
  cases r with
  | nil => simp at e
  | cons a b => simp at e; exact h b (by rw [e])
theorem crlf_norm : ∀ x : List Nat, replC 10 [13, 10] (norm x) = crlf x := by
  intro x
  unfold norm
  induction x using crlf.induct with
  | case1 => rfl
  | case2 r ih =>
    have e : repl2 [10] (13 :: 10 :: r) = 10 :: repl2 [10] r := by rw [repl2]; rfl
    rw [e, crlf]
    simp only [replC, show ((10 : Nat) = 13) = False by simp, if_false, if_true]
    rw [ih]; rfl
  | case3 c r h1 h2 ih =>
    rw [crlf]
    · rw [if_pos h2]
      have e : repl2 [10] (c :: r) = c :: repl2 [10] r := by
        refine repl2_other ?_
        rintro ⟨e1, e2⟩
        cases r with
        | nil => simp at e2
        | cons a b => simp at e2; exact h1 b e1 (by rw [e2])
      rw [e]
      simp only [Bool.or_eq_true, beq_iff_eq] at h2
      rcases h2 with rfl | rfl
      · simp only [replC, show ((10 : Nat) = 13) = False by simp, if_false, if_true]
        rw [ih]; rfl
      · simp only [replC, if_true, List.cons_append, List.nil_append]
        rw [ih]
    · exact h1
  | case4 c r h1 h2 ih =>
    rw [crlf]
    · rw [if_neg h2]
      have e : repl2 [10] (c :: r) = c :: repl2 [10] r := by
        refine repl2_other ?_
        rintro ⟨e1, e2⟩
        cases r with
        | nil => simp at e2
        | cons a b => simp at e2; exact h1 b e1 (by rw [e2])
      rw [e]
      simp only [Bool.or_eq_true, beq_iff_eq, not_or] at h2
      simp only [replC, h2.1, h2.2, if_false]
      rw [ih]
    · exact h1
/-- the text as it is sent -/
def sentS (first : Bool) (x : Str) : Str := ⟨(dots first (crlf (lst x))).toArray⟩
theorem sent_quoted (x : Str) : sentS true x = quoted x := rfl
def dotS (y : Str) : Str := if (Txt.slice y none (some 1) == Str.ofString ".") = true then Str.ofString "." ++ y else y
theorem dot1 : Str.ofString "." = ⟨#[46]⟩ := by decide +kernel
theorem head_slice (y : Str) : lst (Txt.slice y none (some 1)) = (lst y).take 1 := by
  rw [slice_list]
  unfold clipN
  simp only [show ¬ ((1 : Int) < 0) by decide, if_false, List.drop_zero, Nat.sub_zero]
  rw [show (min (1 : Int).toNat y.length) = min 1 y.length from rfl]
  by_cases h : 1 ≤ y.length
  · rw [Nat.min_eq_left h]
  · have : y.length = 0 := by omega
    have h0 : lst y = [] := List.eq_nil_of_length_eq_zero (by rw [lst_length, this])
    rw [h0]; simp
theorem lst_dotS (y : Str) : lst (dotS y) = dotl (lst y) := by
  unfold dotS
  by_cases h : (Txt.slice y none (some 1) == Str.ofString ".") = true
  · rw [if_pos h, lst_app]
    have e : lst (Txt.slice y none (some 1)) = [46] := by
      have : Txt.slice y none (some 1) = Str.ofString "." := by simpa using h
      rw [this, dot1]; rfl
    rw [head_slice] at e
    cases q : lst y with
    | nil => rw [q] at e; simp at e
    | cons a b =>
      rw [q] at e
      simp at e
      subst e
      rw [dotl_dot, dot1]; rfl
  · rw [if_neg h]
    cases q : lst y with
    | nil => rfl
    | cons a b =>
      refine (dotl_other ?_ b).symm
      rintro rfl
      refine h ?_
      have e : lst (Txt.slice y none (some 1)) = lst (Str.ofString ".") := by rw [head_slice, q, dot1]; rfl
      rw [str_ext e]; simp
/-- the rows, dotted from b on to e -/
def mixRows (b e : Nat) (R : List Str) : List Str := (List.range R.length).map fun j => if b ≤ j ∧ j < e then dotS (R.getD j Str.empty) else R.getD j Str.empty
theorem mix_len (b e : Nat) (R : List Str) : (mixRows b e R).length = R.length := by unfold mixRows; simp
theorem mix_at {b e i : Nat} {R : List Str} (h : i < (mixRows b e R).length) : (mixRows b e R)[i] = if b ≤ i ∧ i < e then dotS (R.getD i Str.empty) else R.getD i Str.empty := by
  simp only [mixRows, List.getElem_map, List.getElem_range]
theorem mix_start (b : Nat) (R : List Str) : mixRows b b R = R := by
  refine List.ext_getElem (mix_len ..) fun i h1 h2 => ?_
  rw [mix_at, if_neg (by omega), List.getD_eq_getElem?_getD, List.getElem?_eq_getElem h2]; rfl
theorem mix_getD {b e j : Nat} {R : List Str} (h : j < R.length) (h2 : e ≤ j) : (mixRows b e R).getD j Str.empty = R.getD j Str.empty := by
  unfold mixRows
  rw [List.getD_eq_getElem?_getD, List.getElem?_map, List.getElem?_range h]
  show (if b ≤ j ∧ j < e then _ else _) = _
  rw [if_neg (by omega)]
theorem mix_set {b e : Nat} {R : List Str} (hb : b ≤ e) (h : e < R.length) : (mixRows b e R).set e (dotS (R.getD e Str.empty)) = mixRows b (e + 1) R := by
  refine List.ext_getElem (by rw [List.length_set, mix_len, mix_len]) fun i h1 h2 => ?_
  rw [mix_len] at h2
  rw [List.getElem_set, mix_at]
  by_cases hi : e = i
  · subst hi
    rw [if_pos rfl, mix_at, if_pos (by omega)]
  · rw [if_neg hi, mix_at]
    by_cases hc : b ≤ i ∧ i < e
    · rw [if_pos hc, if_pos (by omega)]
    · rw [if_neg hc, if_neg (by omega)]
theorem mix_skip {b e : Nat} {R : List Str} (h : e < R.length) (hd : dotS (R.getD e Str.empty) = R.getD e Str.empty) : mixRows b (e + 1) R = mixRows b e R := by
  unfold mixRows
  refine List.map_congr_left fun j hj => ?_
  by_cases hje : j = e
  · subst hje
    rw [if_neg (show ¬ (b ≤ j ∧ j < j) by omega)]
    split
    · exact hd
    · rfl
  · by_cases hc : b ≤ j ∧ j < e
    · rw [if_pos hc, if_pos (by omega)]
    · rw [if_neg hc, if_neg (by omega)]
theorem mix_all (first : Bool) (R : List Str) : (mixRows (if first then 0 else 1) R.length R).map lst = dotRows first (R.map lst) := by
  refine List.ext_getElem ?_ fun i h1 h2 => ?_
  · rw [List.length_map, mix_len]
    cases R <;> simp [dotRows]
  · rw [List.length_map, mix_len] at h1
    rw [List.getElem_map, mix_at, List.getD_eq_getElem?_getD, List.getElem?_eq_getElem h1]
    cases R with
    | nil => simp at h1
    | cons q r =>
      cases i with
      | zero =>
        cases first
        · rw [if_neg (by simp)]; rfl
        · rw [if_pos (by simp)]; exact lst_dotS _
      | succ i =>
        rw [if_pos (by refine ⟨?_, h1⟩; split <;> omega)]
        simp [dotRows, lst_dotS]
theorem repl2_len : ∀ (l : List Nat), (repl2 [10] l).length ≤ l.length := by
  intro l
  induction l using repl2.induct with
  | case1 => exact Nat.le_refl _
  | case2 r ih => rw [repl2]; simp only [List.length_append, List.length_cons, List.length_nil]; omega
  | case3 k r h ih =>
    rw [repl2]
    · simp only [List.length_cons]; omega
    · exact h
theorem replC_len (c d : Nat) : ∀ (l : List Nat), (replC c [d] l).length = l.length
  | [] => rfl
  | k :: r => by
    rw [replC]
    split
    · simp [replC_len c d r]
    · simp [replC_len c d r]
theorem crlf_of : Str.ofString "\r\n" = ⟨#[13, 10]⟩ := by decide +kernel
theorem feed_of : Str.ofString "\n" = ⟨#[10]⟩ := by decide +kernel
theorem ret_of : Str.ofString "\r" = ⟨#[13]⟩ := by decide +kernel
def normS (x : Str) : Str := Txt.replace (Txt.replace x (Str.ofString "\r\n") (Str.ofString "\n")) (Str.ofString "\r") (Str.ofString "\n")
theorem lst_normS (x : Str) : lst (normS x) = norm (lst x) := by
  unfold normS
  rw [ret_of, replace_one, crlf_of, replace_two, feed_of]; rfl
theorem sent_end (first : Bool) (x : Str) {R : List Str} (h : R = Txt.split (normS x) (Str.ofString "\n")) : Txt.join (Str.ofString "\r\n") (mixRows (if first then 0 else 1) R.length R) = sentS first x := by
  refine str_ext ?_
  rw [txt_join, mix_all, h, feed_of, split_one, lst_normS, crlf_of]
  show joinL [13, 10] _ = _
  rw [← dots_rows, crlf_norm]
  simp [sentS, lst]
end Mine
end
section
open PySem PySem.W PyProof.Rows
namespace Mine
/-- no run lowers the count of tokens -/
theorem runs_toks {M : Model} {Γ : Ctx} {p : Pos} {t : Sem Fin} {fs : List Frame} {s s' : Shared} {e : End} (h : Runs M Γ p t fs s e s') : s.toks ≤ s'.toks := by
  induction h with
  | fresh _ ih => exact Nat.le_trans (Nat.le_succ _) ih
  | call _ _ ih1 ih2 => exact Nat.le_trans ih1 ih2
  | resumeFresh _ _ _ _ ih1 ih2 => exact Nat.le_trans ih1 ih2
  | resumeSuspended _ _ _ _ ih1 ih2 => exact Nat.le_trans ih1 ih2
  | segRet _ _ ih1 ih2 => exact Nat.le_trans ih1 ih2
  | segGen _ _ ih1 ih2 => exact Nat.le_trans ih1 ih2
  | segSuspGen _ _ _ _ ih1 ih2 => exact Nat.le_trans ih1 ih2
  | _ => first | exact Nat.le_refl _ | assumption
theorem wakes_toks {M : Model} {Γ : Ctx} {p : Pos} {g : Nat} {r : Resume} {s s' : Shared} {res : GenResult} (h : Wakes M Γ p g r s res s') : s.toks ≤ s'.toks := by
  unfold Wakes at h
  split at h
  · exact h.elim
  · split at h
    · obtain ⟨e₁, s₁, h1, _, _, rfl⟩ := h
      have := runs_toks h1; exact this
    · obtain ⟨_, rfl⟩ := h; exact Nat.le_refl _
    · obtain ⟨_, rfl⟩ := h; exact Nat.le_refl _
  · obtain ⟨e₁, s₁, h1, _, _, rfl⟩ := h
    have := runs_toks h1; exact this
  · obtain ⟨_, rfl⟩ := h; exact Nat.le_refl _
  · obtain ⟨_, rfl⟩ := h; exact Nat.le_refl _
theorem wp_toks {α : Type} {M : Model} {Γ : Ctx} (n : Nat) (t : Sem α) (Q : α → Pos → Shared → Prop) (E : Value → Pos → Shared → Prop) (p : Pos) (s : Shared) (hn : n ≤ s.toks) (h : Sem.wp M Γ t Q E p s) :
    Sem.wp M Γ t (fun a p' s' => Q a p' s' ∧ n ≤ s'.toks) E p s := by
  induction t generalizing p s with
  | pure a => exact ⟨h, hn⟩
  | raise e => exact h
  | unsupported => exact h
  | finish => exact h
  | rule _ k ih => exact ih _ p s hn h
  | «at» p' k ih => exact ih _ p' s hn h
  | load a b k ih => obtain ⟨o, ho, h⟩ := h; exact ⟨o, ho, ih _ p s hn h⟩
  | update a b f k ih => exact ⟨h.1, ih _ p _ hn h.2⟩
  | loadIfAlive a k ih => exact ih _ p s hn h
  | point l k ih => exact ih _ p s hn h
  | register => exact h
  | alloc o k ih => exact ih _ p _ hn h
  | fresh k ih => exact ih _ p _ (Nat.le_succ_of_le hn) h
  | ask k ih => exact ih _ p s hn h
  | choose src m k ih => exact ⟨h.1, ih _ p _ hn h.2⟩
  | os q l k ih => exact ih _ p _ hn h
  | call c hd g l k ih =>
    obtain ⟨r, s', hr, h⟩ := h
    exact ⟨r, s', hr, ih _ p s' (Nat.le_trans hn (runs_toks hr)) h⟩
  | handled own k ih => exact ih _ p s hn h
  | genState g k ih => obtain ⟨st, hs, h⟩ := h; exact ⟨st, hs, ih _ p s hn h⟩
  | newGen c k ih => exact ih _ p _ hn h
  | resume g r l k ih =>
    obtain ⟨res, s', hr, h⟩ := h
    exact ⟨res, s', hr, ih _ p s' (Nat.le_trans hn (wakes_toks hr)) h⟩
  | yield => exact h
  | stack k ih => exact ih _ p s hn h
  | fork => exact h
  | thread k ih => exact ih _ p s hn h
  | await => exact h
theorem wpAny_toks {α : Type} {M : Model} {A : Around} {t : Sem α} {Q : α → Shared → Prop} {E : Value → Shared → Prop} {s : Shared} (h : wpAny M A t (fun v s' => s.toks ≤ s'.toks → Q v s') E s) : wpAny M A t Q E s :=
  fun Γ p hΓ => Sem.wp_mono M Γ t (fun _ _ _ x => x.1 x.2) (fun _ _ _ x => x) p s (wp_toks s.toks t _ _ p s (Nat.le_refl _) (h Γ p hΓ))
theorem repl_K {prog : Program} {w : World} {A : Around} {E : Value → Shared → Prop} {s : Shared} {x y z : Str} {t : Tok} {u : Nat} {Q : Value → Shared → Prop} (hu : 1 ≤ u) (hyz : (y == z) = false) (hb : x.length + (x.length + 1) * z.length ≤ 16777216)
    (hq : ∀ (t' : Tok) (k : Nat), s.toks ≤ k → Q (.str (Txt.replace x y z) t') { s with toks := k }) : wpAny (model prog w) A (call (.builtin "str.replace") [.str x t, .str y u, .str z (u + 1)]) Q E s := by
  have h1 : u ≠ 0 := by omega
  have h2 : u + 1 ≠ 0 := by omega
  have h3 : u ≠ u + 1 := by omega
  exact wpAny_toks (SC.replace h1 h2 h3 hyz hb fun t' k hk => hq t' k hk)
theorem pos_in {α : Type} {M : Model} {A : Around} {t : Sem α} {Q : α → Shared → Prop} {E : Value → Shared → Prop} {s : Shared} {h' : Heap} {n : Nat} (hn : 1 ≤ n) (h : ∀ tk, 1 ≤ tk → wpAny M A t Q E { s with heap := h', toks := tk }) : wpAny M A t Q E { s with heap := h', toks := n } := h n hn
end Mine
end
section
open PySem PySem.W PyProof.Rows
namespace Mine
local macro_rules | `(tactic| walk_at "subscriptTail Name Name ref int") => `(tactic| (
  (with_reducible show wpAny _ _ (subscriptTail _ _ (Value.ref _) (Value.int _ _)) _ _ _);
  (with_reducible rename News _ _ _ _ => N');
  (with_reducible rename List.map _ _ = _ => hps);
  k_dflt (refine' txt_item N' ?m hps ?a ?b ?c ?e ?_ ?d; (case m => exact List.Mem.head _); (case a => omega); (case b => omega); (case c => omega); (case e => assumption); (case d => with_unfolding_all rfl)); intro _ _))
local macro_rules | `(tactic| walk_at "setItem") => `(tactic| (
  (with_reducible show wpAny _ _ (setItem (Value.ref _) (Value.int _ _) (Value.str _ _)) _ _ _);
  (with_reducible rename Fr _ _ _ _ => F'); (with_reducible rename News _ _ _ _ => N');
  k_dflt (refine' txt_set F' N' ?h ?a ?b ?c ?_; (case h => assumption); (case a => omega); (case b => omega); (case c => omega)); intro h9 F9 N9))
local macro_rules | `(tactic| walk_at "go") => `(tactic| repeat' ((fail_if_success (with_reducible show wpAny _ _ (pyIter _) _ _ _)); (fail_if_success (with_reducible show wpAny _ _ (exec (Stmt.For _ _ _ _ _) _) _ _ _)); (fail_if_success (with_reducible show InvPostN _ _ _ _ _ _ _ _ _)); (fail_if_success (with_reducible show InvEndN _ _ _ _ _ _ _)); first | (k_unfold; (try dsimp only)) | (k_end; wrow_close) | walk1 | (dsimp only; walk1) | (leave1; walk_say "STEP leave1"; try dsimp only) | fail "no step"))
theorem news_lt {h₀ h : Heap} {L : Addr} {news : List (Addr × Obj)} (N : News h₀ L h news) : ∀ p ∈ news, p.1 < h.objs.size := fun p hp => Heap.lt_size (N p hp).1
theorem ne_own {news own : List (Addr × Obj)} {n : Addr} {r1 : List Addr} (l1 : ∀ p ∈ news, p.1 < n) (h1 : OwnOff own (n :: r1)) : ∀ q ∈ news ++ own, q.1 ≠ n := by
  intro q hq
  rcases List.mem_append.mp hq with hq | hq
  · exact Nat.ne_of_lt (l1 q hq)
  · exact h1 q hq _ (.head _)
theorem mix_turn {c : List (Str × Tok)} {R : List Str} {b : Nat} {pre : List Int} {k : Int} {ty : Tok} (h : c.map (·.1) = mixRows b (b + pre.length) R) (hk : k.toNat = b + pre.length) (h1 : k < (R.length : Int)) (h0 : 0 ≤ k) (hg : (mixRows b (b + pre.length) R).getD k.toNat Str.empty = R.getD k.toNat Str.empty)
    (hd : (Txt.slice ((mixRows b (b + pre.length) R).getD k.toNat Str.empty) none (some 1) == Str.ofString ".") = true) : (c.set k.toNat (Str.ofString "." ++ (mixRows b (b + pre.length) R).getD k.toNat Str.empty, ty)).map (·.1) = mixRows b (b + (pre ++ [k]).length) R := by
  have e : (pre ++ [k]).length = pre.length + 1 := by simp
  rw [List.map_set, h, e, ← Nat.add_assoc, ← mix_set (by omega) (by omega), hg, ← hk]
  congr 1
  unfold dotS
  rw [hg] at hd
  rw [if_pos hd]
theorem mix_stay {c : List (Str × Tok)} {R : List Str} {b : Nat} {pre : List Int} {k : Int} (h : c.map (·.1) = mixRows b (b + pre.length) R) (hk : k.toNat = b + pre.length) (h1 : k < (R.length : Int)) (h0 : 0 ≤ k) (hg : (mixRows b (b + pre.length) R).getD k.toNat Str.empty = R.getD k.toNat Str.empty)
    (hd : (Txt.slice ((mixRows b (b + pre.length) R).getD k.toNat Str.empty) none (some 1) == Str.ofString ".") = false) : c.map (·.1) = mixRows b (b + (pre ++ [k]).length) R := by
  have e : (pre ++ [k]).length = pre.length + 1 := by simp
  rw [h, e, ← Nat.add_assoc, mix_skip (by omega)]
  unfold dotS
  rw [← hk, ← hg, if_neg (by rw [hd]; exact Bool.false_ne_true)]
theorem rows_len {x : Str} {R : List Str} (h : R = Txt.split (normS x) (Str.ofString "\n")) (hx : (normS x).length ≤ 1000) : R.length ≤ 1001 ∧ 0 < R.length := by
  have h1 := congrArg List.length (split_one (normS x) 10)
  have h2 := wgt_split 10 (lst (normS x))
  have h3 := wgt_len (splitC 10 (lst (normS x)))
  rw [← feed_of, ← h, List.length_map] at h1
  rw [lst_length] at h2
  refine ⟨by omega, ?_⟩
  have := split_ne (normS x) (Str.ofString "\n")
  rw [← h] at this
  exact List.length_pos_iff.mpr this
theorem wgt_mem : ∀ (l : List (List Nat)) (q : List Nat), q ∈ l → q.length + 1 ≤ wgt l
  | a :: r, q, h => by
    rw [wgt]
    rcases List.mem_cons.mp h with rfl | h
    · omega
    · have := wgt_mem r q h; omega
theorem dotS_len (y : Str) : (dotS y).length ≤ y.length + 1 := by
  unfold dotS
  split
  · rw [Str.length_append]
    have : (Str.ofString ".").length = 1 := by decide +kernel
    omega
  · omega
theorem rows_bound {x : Str} {R : List Str} (h : R = Txt.split (normS x) (Str.ofString "\n")) (hx : (normS x).length ≤ 1000) (b e : Nat) (y : Str) (hy : y ∈ mixRows b e R) : y.length ≤ 1001 := by
  have key : ∀ z ∈ R, z.length ≤ 1000 := by
    intro z hz
    have h1 : lst z ∈ splitC 10 (lst (normS x)) := by
      rw [← split_one, ← feed_of, ← h]
      exact List.mem_map_of_mem hz
    have h2 := wgt_mem _ _ h1
    rw [wgt_split, lst_length, lst_length] at h2
    omega
  unfold mixRows at hy
  obtain ⟨j, hj, rfl⟩ := List.mem_map.mp hy
  have hj' := List.mem_range.mp hj
  have h3 : (R.getD j Str.empty).length ≤ 1000 := by
    rw [List.getD_eq_getElem?_getD, List.getElem?_eq_getElem hj']
    exact key _ (List.getElem_mem hj')
  split
  · have := dotS_len (R.getD j Str.empty); omega
  · omega
theorem len_crlf : (Str.ofString "\r\n").length = 2 := by decide +kernel
theorem len_feed : (Str.ofString "\n").length = 1 := by decide +kernel
theorem len_ret : (Str.ofString "\r").length = 1 := by decide +kernel
theorem norm1_len (x : Str) : (Txt.replace x (Str.ofString "\r\n") (Str.ofString "\n")).length ≤ x.length := by
  rw [← lst_length, ← lst_length, crlf_of, replace_two, feed_of]
  exact repl2_len _
theorem norm2_len (x : Str) : (Txt.replace x (Str.ofString "\r") (Str.ofString "\n")).length = x.length := by
  rw [← lst_length, ← lst_length, ret_of, replace_one, feed_of]
  exact replC_len _ _ _
section
variable {prog : Program} {w : World} {A : Around} {E : Value → Shared → Prop} {s : Shared} {x : Str} {t : Tok} {u : Nat} {Q : Value → Shared → Prop}
theorem repl_crlf (hu : 1 ≤ u) (hx : x.length ≤ 1000) (hq : ∀ (t' : Tok) (k : Nat), (Txt.replace x (Str.ofString "\r\n") (Str.ofString "\n")).length ≤ 1000 → s.toks ≤ k → Q (.str (Txt.replace x (Str.ofString "\r\n") (Str.ofString "\n")) t') { s with toks := k }) :
    wpAny (model prog w) A (call (.builtin "str.replace") [.str x t, .str (Str.ofString "\r\n") u, .str (Str.ofString "\n") (u + 1)]) Q E s :=
  repl_K hu (by decide +kernel) (by rw [len_feed]; omega) fun t' k h => hq t' k (Nat.le_trans (norm1_len x) hx) h
theorem repl_ret (hu : 1 ≤ u) (hx : x.length ≤ 1000) (hq : ∀ (t' : Tok) (k : Nat), (Txt.replace x (Str.ofString "\r") (Str.ofString "\n")).length ≤ 1000 → s.toks ≤ k → Q (.str (Txt.replace x (Str.ofString "\r") (Str.ofString "\n")) t') { s with toks := k }) :
    wpAny (model prog w) A (call (.builtin "str.replace") [.str x t, .str (Str.ofString "\r") u, .str (Str.ofString "\n") (u + 1)]) Q E s :=
  repl_K hu (by decide +kernel) (by rw [len_feed]; omega) fun t' k h => hq t' k (by rw [norm2_len]; exact hx) h
end
local macro_rules | `(tactic| walk_at "call builtin:str.replace") => `(tactic| (
  (with_reducible show wpAny _ _ (call (Value.builtin "str.replace") [Value.str _ _, Value.str _ _, Value.str _ _]) _ _ _);
  k_dflt (first | (refine' repl_crlf ?a ?b ?_; (case a => omega); (case b => omega)) | (refine' repl_ret ?a ?b ?_; (case a => omega); (case b => omega))); intro _ _ _ _; (try dsimp only at *)))
section
variable {w : World} {p : Program} {loose : List Str} {mean : ExcName → Option Value} {mg mb : Str → Option Value} {dp un : Nat} {gd : Option (List Code)} {cn : Str} {cs : Scope} {a : Addr} {ccd : Value} {cl : List (Str × Addr)} {outer : List Env} {A₀ : Around} {base h₀ : Heap} {L : Addr} {m : Str → Option Value} {s : Shared} {news : List (Addr × Obj)}
set_option maxRecDepth 100000 in
set_option maxHeartbeats 4000000 in
theorem sent_r {Q E : Value → Shared → Prop} {x : Str} {fi : Bool} {tx : Tok} (B : Below A₀ base outer h₀) (F : Fr h₀ L s.heap m) (X : (Mine.hd.heap_39 w.params).In h₀) (N : News h₀ L s.heap news) (T : Top p loose mean mg mb h₀) (hk : cs.kind = .function)
    (hx : x.length ≤ 1000) (hroom : dp + 5 < recursionLimit) (hunits : un + 80 < cLine)
    (ret : ∀ (t : Tok) (h' : Heap) (tk' : Nat), Fr h₀ L h' m → News h₀ L h' news → Q (.str (sentS fi x) t) { s with heap := h', toks := tk' }) :
    wpAny (model PySem.Challenge.rw_rs0052_01.prog w) (ktrTop dp un gd cn cs L a ccd cl outer) (call (.ref 115) [.str x tx, .bool fi]) Q E s := by
  k_with_none
  w_top off
  revert X
  k_fill
  intro X
  refine wpAny_call ?_
  k_dflt cell_enter
  rename Fr _ _ _ _ => F1
  obtain ⟨u, F2⟩ := fr_some [(Str.ofString "text", .str x tx), (Str.ofString "first", .bool fi)] (by kst_all) F1
  clear F1
  dsimp only [kstB] at F2
  rename News _ _ _ _ => N0
  have hlt0 := news_lt N0
  refine pos_in (Nat.le_trans (Nat.succ_le_succ (Nat.zero_le _)) (Nat.le_add_left _ _)) ?_
  intro tk0 htk0
  walk_at "go"
  rename List (Str × Tok) => l
  rename List.map _ _ = _ => hl
  have hl' : l.map (·.1) = Txt.split (normS x) (Str.ofString "\n") := hl
  have hnl : (normS x).length ≤ 1000 := by assumption
  obtain ⟨R, hR⟩ : ∃ R, R = l.map (·.1) := ⟨_, rfl⟩
  have hRlen : R.length ≤ 1001 ∧ 0 < R.length := rows_len (hR.trans hl') hnl
  have hRb : ∀ (b e : Nat) (y : Str), y ∈ mixRows b e R → y.length ≤ 1001 := rows_bound (hR.trans hl') hnl
  have hlen : l.length = R.length := by rw [hR, List.length_map]
  have hRn := hR.trans hl'
  cases fi
  all_goals (
    (rename Fr _ _ _ _ => lF');
    k_dflt (refine' For_invVF lF' ?k1 ?k2 ?_; (case k1 => exact rfl); (case k2 => exact rfl));
    walk_at "go")
  · (rename Fr _ _ _ _ => lF'); (rename News _ _ _ _ => lN'); (rename IsRange _ _ _ _ _ _ _ _ => rgX)
    (with_unfolding_all refine' kst_range (σ := List (Str × Tok)) (fun c => (_, PySem.W.listOf (strValues c).toArray 0) :: news) (fun _ => []) (fun _ => True) [] (fun pre c => c.map (·.1) = mixRows 1 (1 + pre.length) R) l (by rfl) rgX (small_one (by omega) (by omega) (by omega) (by omega)) (rangeSize_nat _ _) lF' lN' trivial (by kst_all) ?_ ?_ ?_)
    all_goals (clear lF' lN' rgX)
    · rw [List.length_nil, Nat.add_zero, mix_start, hR]
    · intro c pre k t u h tk own hk hlt hoff hI hP hF hN
      (try dsimp only at hP hN)
      dsimp only [kstB] at hF
      simp only [List.cons_append] at hN
      have hne : ∀ q ∈ news ++ own, q.1 ≠ _ := ne_own hlt0 hoff
      have hps : (mixRows 1 (1 + pre.length) R).length = R.length := mix_len ..
      have hcl : c.length = R.length := by rw [← hps, ← hP, List.length_map]
      have hbd := hRb 1 (1 + pre.length)
      have hk0 : 0 ≤ k := by omega
      have hk1 : k < (R.length : Int) := by omega
      have hg : (mixRows 1 (1 + pre.length) R).getD k.toNat Str.empty = R.getD k.toNat Str.empty := mix_getD (by omega) (by omega)
      have hkt : k.toNat = 1 + pre.length := by omega
      walk_at "go"
      · (rename Fr _ _ _ _ => F9); (rename News _ _ _ _ => N9)
        dsimp only [InvPostN]
        refine' kst_end (_ : List (Str × Tok)) F9 N9 ?hn ?ho ?ha ?hf ?hk ?hr ?hp
        (case hn => exact sub_cons (List.subset_append_left _ _))
        (case ho => exact fun p hp => List.mem_cons_of_mem _ (List.mem_append_right _ hp))
        (case ha => rfl)
        (case hf => trivial)
        (case hk => kst_all)
        (case hr => kst_same)
        (case hp => (with_reducible rename List.map _ _ = _ => hP); exact mix_turn hP hkt (by omega) (by omega) hg (by with_reducible assumption))
      · (rename Fr _ _ _ _ => F9); (rename News _ _ _ _ => N9)
        dsimp only [InvPostN]
        refine' kst_end c F9 N9 ?hn ?ho ?ha ?hf ?hk ?hr ?hp
        (case hn => exact sub_cons (List.subset_append_left _ _))
        (case ho => exact fun p hp => List.mem_cons_of_mem _ (List.mem_append_right _ hp))
        (case ha => rfl)
        (case hf => trivial)
        (case hk => kst_all)
        (case hr => kst_same)
        (case hp => (with_reducible rename List.map _ _ = _ => hP); exact mix_stay hP hkt (by omega) (by omega) hg (by with_reducible assumption))
    · intro c u h tk hI hP hF hN
      (try dsimp only at hP hN)
      dsimp only [kstB] at hF
      rw [rangeKs_length, show 1 + ((l.length : Int) - 1).toNat = R.length by omega] at hP
      have hlast : Txt.join (Str.ofString "\r\n") (c.map (·.1)) = sentS false x := by rw [hP]; exact sent_end false x hRn
      have hfit : JoinOk (Str.ofString "\r\n") (c.map (·.1)) = true := by
        rw [hP]; unfold JoinOk
        rw [StrLaws.joinFits (B := 1001) (fun y hy => hRb _ _ y hy) (by rw [mix_len, len_crlf]; omega)]; rfl
      walk_at "go"
      k_dflt (refine SC.join (PySem.IsL.isList (n := 0) (hN _ (.head _)).1) rfl hfit ?_)
      intro t' k9
      rw [hlast]
      walk_at "go"
      (rename Fr _ _ _ _ => F9); (rename News _ _ _ _ => N9)
      exact ret _ _ _ F9 (cb_drop N9 fun _ h => List.mem_cons_of_mem _ h)
  · (rename Fr _ _ _ _ => lF'); (rename News _ _ _ _ => lN'); (rename IsRange _ _ _ _ _ _ _ _ => rgX)
    (with_unfolding_all refine' kst_range (σ := List (Str × Tok)) (fun c => (_, PySem.W.listOf (strValues c).toArray 0) :: news) (fun _ => []) (fun _ => True) [] (fun pre c => c.map (·.1) = mixRows 0 (0 + pre.length) R) l (by rfl) rgX (small_one (by omega) (by omega) (by omega) (by omega)) (rangeSize_nat _ _) lF' lN' trivial (by kst_all) ?_ ?_ ?_)
    all_goals (clear lF' lN' rgX)
    · rw [List.length_nil, Nat.add_zero, mix_start, hR]
    · intro c pre k t u h tk own hk hlt hoff hI hP hF hN
      (try dsimp only at hP hN)
      dsimp only [kstB] at hF
      simp only [List.cons_append] at hN
      have hne : ∀ q ∈ news ++ own, q.1 ≠ _ := ne_own hlt0 hoff
      have hps : (mixRows 0 (0 + pre.length) R).length = R.length := mix_len ..
      have hcl : c.length = R.length := by rw [← hps, ← hP, List.length_map]
      have hbd := hRb 0 (0 + pre.length)
      have hk0 : 0 ≤ k := by omega
      have hk1 : k < (R.length : Int) := by omega
      have hg : (mixRows 0 (0 + pre.length) R).getD k.toNat Str.empty = R.getD k.toNat Str.empty := mix_getD (by omega) (by omega)
      have hkt : k.toNat = 0 + pre.length := by omega
      walk_at "go"
      · (rename Fr _ _ _ _ => F9); (rename News _ _ _ _ => N9)
        dsimp only [InvPostN]
        refine' kst_end (_ : List (Str × Tok)) F9 N9 ?hn ?ho ?ha ?hf ?hk ?hr ?hp
        (case hn => exact sub_cons (List.subset_append_left _ _))
        (case ho => exact fun p hp => List.mem_cons_of_mem _ (List.mem_append_right _ hp))
        (case ha => rfl)
        (case hf => trivial)
        (case hk => kst_all)
        (case hr => kst_same)
        (case hp => (with_reducible rename List.map _ _ = _ => hP); exact mix_turn hP hkt (by omega) (by omega) hg (by with_reducible assumption))
      · (rename Fr _ _ _ _ => F9); (rename News _ _ _ _ => N9)
        dsimp only [InvPostN]
        refine' kst_end c F9 N9 ?hn ?ho ?ha ?hf ?hk ?hr ?hp
        (case hn => exact sub_cons (List.subset_append_left _ _))
        (case ho => exact fun p hp => List.mem_cons_of_mem _ (List.mem_append_right _ hp))
        (case ha => rfl)
        (case hf => trivial)
        (case hk => kst_all)
        (case hr => kst_same)
        (case hp => (with_reducible rename List.map _ _ = _ => hP); exact mix_stay hP hkt (by omega) (by omega) hg (by with_reducible assumption))
    · intro c u h tk hI hP hF hN
      (try dsimp only at hP hN)
      dsimp only [kstB] at hF
      rw [rangeKs_length, show 0 + ((l.length : Int) - 0).toNat = R.length by omega] at hP
      have hlast : Txt.join (Str.ofString "\r\n") (c.map (·.1)) = sentS true x := by rw [hP]; exact sent_end true x hRn
      have hfit : JoinOk (Str.ofString "\r\n") (c.map (·.1)) = true := by
        rw [hP]; unfold JoinOk
        rw [StrLaws.joinFits (B := 1001) (fun y hy => hRb _ _ y hy) (by rw [mix_len, len_crlf]; omega)]; rfl
      walk_at "go"
      k_dflt (refine SC.join (PySem.IsL.isList (n := 0) (hN _ (.head _)).1) rfl hfit ?_)
      intro t' k9
      rw [hlast]
      walk_at "go"
      (rename Fr _ _ _ _ => F9); (rename News _ _ _ _ => N9)
      exact ret _ _ _ F9 (cb_drop N9 fun _ h => List.mem_cons_of_mem _ h)
end
end Mine
end
section
open PySem PySem.W PyProof.Rows PySem.Calls
namespace Mine
section
variable {prog : Program} {w : World} {A₀ A : Around} {s : Shared} {base h₀ : Heap} {L : Addr} {m : Str → Option Value} {env : Env} {news : List (Addr × Obj)} {K : Frag} {p : Program} {loose : List Str} {mean : ExcName → Option Value} {mg mb : Str → Option Value}
  {R : Result → Shared → Prop} {name qual : Str} {params : Arguments} {body : List Stmt} {scope : Scope} {dV kV doc pm cdv ct oc : Value} {an od : Option Addr} {osl : Array (Option Value)} {f : Addr} {args : Args} {binds : List (Str × Value)}
/-- a def that catches, called by the law's own frame, whatever cells that has -/
theorem code_defT (B : Below A₀ base [] h₀) (F : Fr h₀ L s.heap m) (X₀ : K.In h₀) (N : News h₀ L s.heap news) (T : Top p loose mean mg mb h₀) (hA : A.frames = some [env]) (hf : env.frame = some L) (hke : env.scope.kind = .function)
    (ho : K.lookup f = some ⟨oc, od, .func (fnOf name qual params body scope dV kV doc pm an cdv ct), osl⟩) (hcd : codeIn K cdv qual = true) (hroom : A.depth < recursionLimit)
    (hbind : BindsTo s (fnOf name qual params body scope dV kV doc pm an cdv ct) args binds) (hloc : ∀ y ∈ binds, scope.names.lookup y.1 = some .local)
    (h : ∀ g L' h₁, Fr h₀ L g m → Fr g L' h₁ (fun y => binds.reverse.lookup y) → News g L' h₁ news → Below A base [env] g → K.In g → Top p loose mean mg mb g → KtsDicts ([env].filterMap (·.frame)) g →
      wpAny (model prog w) (A.deeper (envOf qual scope L' f cdv)) (execs body (envOf qual scope L' f cdv))
        (fun fl s' => LeaveS0 ([env].filterMap (·.frame)) h₀ L m g R (match fl with | .ret v => v | _ => .none) s')
        (fun e s' => wpAny (model prog w) (A.deeper (envOf qual scope L' f cdv)) (leaving (envOf qual scope L' f cdv) e) (fun _ s'' => R (.error e) s'') (fun e' s'' => R (.error e') s'') s')
        { s with heap := h₁, toks := s.toks + binds.length })
    (hco : scope.isCoroutine = false) (hgen : scope.isGenerator = false) (hk : scope.kind = .function)
    (hcell : ∀ x ∈ scope.names, x.2 ≠ .cell) : codeAny (model prog w) A (.call (.ref f) args) R s := by
  have X := X₀.keeps F.keep
  have efs : [env].filterMap (·.frame) = [L] := by simp [hf]
  obtain ⟨FG, BG, st, _⟩ := groundX (R := R) B F N hA hf hke
  obtain ⟨oL, es, ep, hL, hLd, hLk, hLf⟩ := FG.ns
  have hL0 : h₀.get? L = none := kts_self F
  refine codeAny_call_def (fd := fnOf name qual params body scope dV kV doc pm an cdv ct) (body := body) (binds := binds) hroom (X _ _ ho) rfl (T.nolimit.keeps F.keep) (codeRec_of X hcd) rfl hbind hcell hloc (fun h₁ hns hk₁ => ?_) hco hgen hk
  refine wpAny_mono (h _ s.heap.objs.size h₁ FG ⟨hns, fun b o e => hk₁ b o (of_hideAll _ e), Nat.le_of_eq (hideAll_size _ _)⟩
    (fun q hq => ⟨hk₁ _ _ (N q hq).1, Nat.ne_of_lt (Heap.lt_size (N q hq).1), hideAll_none _ (List.mem_map_of_mem hq)⟩) BG (X₀.keeps st) (T.keeps st) ?_) (fun fl s' hl => ?_) fun _ _ y => y
  · rw [efs]
    intro b hb
    rw [List.mem_singleton.mp hb]
    exact ⟨oL, es, ep, hL, hLd⟩
  · obtain ⟨g', L', m', news', hT, F', N', k⟩ := hl
    rw [efs] at hT
    obtain ⟨sl, hs⟩ := hT.frame L oL hL (.head _)
    have keepT : ∀ b o, h₀.get? b = some o → g'.get? b = some o := fun b o e => hT.other b o (st b o e) fun hb => by
      rw [List.mem_singleton.mp hb, hL0] at e; cases e
    refine k ⟨⟨_, es, ep, F'.keep _ _ hs, hLd, hLk, hLf⟩, fun b o e => F'.keep b o (keepT b o e), F.above⟩ fun q hq => ⟨(N' q hq).1, fun e => ?_, ?_⟩
    · have := (N' q hq).2.2
      rw [e, hs] at this
      cases this
    · cases e : h₀.get? q.1 with
      | none => rfl
      | some o =>
        have := (N' q hq).2.2
        rw [keepT _ _ e] at this
        cases this
end
end Mine
end
section
open PySem PySem.W PyProof.Rows PySem.Calls PySem.Spec
set_option maxRecDepth 100000
namespace Mine
section
variable {prog : Program} {w : World} {A : Around} {E : Value → Shared → Prop} {s : Shared} {K : Frag} {e t C : Addr} {oe ot : Obj} {ws : Array Value} {nt : Nat} {m : Str} {tk : Tok}
theorem looks_cls {M : Model} (ho : s.heap.get? e = some oe) (hc : oe.cls = .ref C) : Looks M s.heap (typeOf (.ref e)) (.ref C) := hc ▸ (Looks.ld ho).andThen .now
open Builtin Builtin.Str Builtin.BaseException Builtin.Exceptions in
theorem exc_str_entry {Q : Fin → Shared → Prop} (ho : s.heap.get? e = some oe) (hd : oe.data = .fields ws) (h0 : ws[0]? = some (.ref t)) (ht : s.heap.get? t = some ot) (htd : ot.data = .seq #[.str m tk] nt) (hq : Q (.done (.ret (.str m tk))) s) :
    wpAny (model prog w) A (Builtin.«BaseException.__str__» ⟨[.ref e], []⟩) Q E s := by
  have key : ∀ {Q : Value × List Value → Shared → Prop}, Q (.ref t, [.str m tk]) s → wpAny (model prog w) A (bexcArgs (.ref e)) Q E s := by
    intro Q hQ
    unfold bexcArgs
    refine wpAny_bind (wpAny_field ho hd h0 (wpAny_bind (wpAny_seqItems ht htd ?_)))
    exact wpAny_pure hQ
  unfold Builtin.«BaseException.__str__»
  repeat (first | with_reducible refine key ?_ | wp_step)
  exact hq
theorem exc_str_slot {Q : Value → Shared → Prop} (X : K.In s.heap) (ho : s.heap.get? e = some oe) (hc : oe.cls = .ref C) (hm : mroIn K C (.type "BaseException") = some true) (hd : oe.data = .fields ws) (h0 : ws[0]? = some (.ref t)) (ht : s.heap.get? t = some ot) (htd : ot.data = .seq #[.str m tk] nt) (hq : Q (.str m tk) s) :
    wpAny (model prog w) A (call (.builtin "BaseException.__str__") [.ref e]) Q E s := by
  refine wpAny_call (codeAny_call_builtin PySem.F.excStr_Exception.str.plain PySem.F.entry_bexc_str (check_slot (i := "BaseException.__str__") (owner := "BaseException") (n := "__str__") (by decide +kernel) (by decide +kernel) ((looks_cls ho hc).andThen (looks_mroIn X hm)) (PySem.F.args_bexc_str _) ?_))
  exact exc_str_entry ho hd h0 ht htd hq
open Builtin Builtin.Str in
theorem exc_strOf {Q : Value → Shared → Prop} (hu : A.units < cLine) (X : K.In s.heap) (ho : s.heap.get? e = some oe) (hc : oe.cls = .ref C) (hs : findIn K (.ref C) "__str__" = some (some (.builtin "BaseException.__str__"))) (hm : mroIn K C (.type "BaseException") = some true) (hd : oe.data = .fields ws) (h0 : ws[0]? = some (.ref t)) (ht : s.heap.get? t = some ot) (htd : ot.data = .seq #[.str m tk] nt) (hq : Q (.str m tk) s) :
    wpAny (model prog w) A (PySem.Builtin.Str.strOf (.ref e)) Q E s := by
  unfold PySem.Builtin.Str.strOf
  rw [show isExactStr (.ref e) = false from rfl]
  refine wpAny_bind (m := cRoomFor _ _) (wpAny_cRoomFor hu ?_)
  refine wpAny_bind (m := callSpecial? (.ref e) (Str.ofString "__str__")) ?_
  refine wpAny_bind (wpAny_bind ((looks_cls ho hc).here ((looks_findIn X hs).here (wpAny_holding (wpAny_bind ((Looks.of_pure (PySem.F.excStr_Exception.str.bind _)).here (wpAny_bind ?_)))))))
  refine exc_str_slot X ho hc hm hd h0 ht htd ?_
  exact wpAny_pure (wpAny_pure hq)
open Builtin Builtin.Str in
theorem exc_str_call {Q : Value → Shared → Prop} (hu : A.in1.in1.units < cLine) (X : K.In s.heap) (ho : s.heap.get? e = some oe) (hc : oe.cls = .ref C) (hs : findIn K (.ref C) "__str__" = some (some (.builtin "BaseException.__str__"))) (hm : mroIn K C (.type "BaseException") = some true) (hd : oe.data = .fields ws) (h0 : ws[0]? = some (.ref t)) (ht : s.heap.get? t = some ot) (htd : ot.data = .seq #[.str m tk] nt) (hq : Q (.str m tk) s) :
    wpAny (model prog w) A (call (.type "str") [.ref e]) Q E s := by
  refine callType_codes (T := "str") (Bi := Builtin.«object.__init__») (Q₁ := fun r s₁ => ∃ y u, r = .str y u ∧ Q r s₁) PySem.F.called_str (PySem.F.typeCall_str_1 _) PySem.F.entry_object_init ?_ ?_
  · refine codeAny_of_tree ?_
    show wpAny _ A.in1.in1 (do checkBuiltinCall "str.__new__" ⟨[.type "str", .ref e], []⟩; again (.builtin "str.__new__" ⟨[.type "str", .ref e], []⟩)) _ _ s
    refine wpAny_bind (wpAny_of_eq (PySem.F.newCall_str_1 _) (wpAny_pure ⟨plainId_quiet (by decide +kernel) _, codeAny_builtin PySem.F.entry_str_new ?_⟩))
    rw [Around.under_plainId (by decide +kernel) _]
    rw [str_new_tree]
    refine wpAny_bind (wpAny_pure ?_)
    refine wpAny_bind (wpAny_of_eq isSubtype_str_str ?_)
    refine wpAny_bind (exc_strOf hu X ho hc hs hm hd h0 ht htd ?_)
    exact wpAny_pure ⟨_, _, rfl, hq⟩
  · rintro obj s₁ ⟨y, u, rfl, hq⟩
    exact ⟨typeIs_str _ _ _, PySem.F.args_object_init_2 _ _, object_init_meets PySem.F.called_str.init.lookup PySem.F.called_str.made (by decide) prog w A.in1 _ s₁ ⟨typeIs_str _ _ _, rfl, hq⟩⟩
/-- str of an exception that has been caught, in the walk's words -/
theorem exc_str_K {Q : Value → Shared → Prop} {h₀ : Heap} {L : Addr} {n₂ : List (Addr × Obj)} {tt : Addr} (hu : A.in1.in1.units < cLine) (X : K.In s.heap) (N : News h₀ L s.heap n₂) (G : Got n₂ e tt (.ref C) [.str m tk]) (hs : findIn K (.ref C) "__str__" = some (some (.builtin "BaseException.__str__"))) (hm : mroIn K C (.type "BaseException") = some true) (hq : Q (.str m tk) s) :
    wpAny (model prog w) A (call (.type "str") [.ref e]) Q E s := by
  obtain ⟨oe, ot, ws, nt, h1, h2, h3, h4, h5, _, h7⟩ := G
  exact exc_str_call hu X (N _ h1).1 h3 hs hm h4 h5 (N _ h2).1 h7 hq
end
end Mine
end
section
open PySem PySem.W PyProof.Rows
namespace Mine
local macro_rules | `(tactic| walk_at "call ref") => `(tactic| (
  (with_reducible show wpAny _ _ (call (Value.ref 80) _) _ _ _);
  (with_reducible rename Fr _ _ _ _ => F');
  (with_reducible rename News _ _ _ _ => N');
  k_dflt (refine' parse_r ?B F' ?X N' ?T ?K ?x ?y ?D ?U ?_; (case B => k_asm); (case X => k_asm); (case T => k_asm); (case K => exact rfl); (case x => omega); (case y => assumption); (case D => ktr_room); (case U => ktr_units)); intro t9 h9 tk9 F9 N9; (try dsimp only)))
section
variable {w : World} {p : Program} {loose : List Str} {mean : ExcName → Option Value} {mg mb : Str → Option Value} {dp un : Nat} {gd : Option (List Code)} {cn : Str} {cs : Scope} {a : Addr} {ccd : Value} {cl : List (Str × Addr)} {outer : List Env} {A₀ : Around} {base h₀ : Heap} {L : Addr} {m : Str → Option Value} {s : Shared} {news : List (Addr × Obj)}
set_option maxRecDepth 100000 in
set_option maxHeartbeats 4000000 in
/-- a reply that is refused, told -/
theorem told_x {Q E : Value → Shared → Prop} {x : Str} {tx : Tok} (B : Below A₀ base [] h₀) (XB : (Mine.hd.heap_39 w.params).In base) (TB : Top p loose mean mg mb base) (F : Fr h₀ L s.heap m) (X : (Mine.hd.heap_39 w.params).In h₀) (N : News h₀ L s.heap news) (T : Top p loose mean mg mb h₀) (hk : cs.kind = .function)
    (hx : x.length ≤ 1000) (h257 : (Txt.slice x none (some 3) != Str.ofString "257") = true) (hroom : dp + 5 < recursionLimit) (hunits : un + 80 < cLine)
    (ret : ∀ (l : Addr) (h' : Heap) (tk' : Nat), Fr h₀ L h' m → News h₀ L h' ((l, PySem.W.listOf #[.str x tx] 0) :: news) → Q (.ref l) { s with heap := h', toks := tk' }) :
    wpAny (model PySem.Challenge.rw_rs0052_01.prog w) (ktrTop dp un gd cn cs L a ccd cl []) (call (.ref 101) [.str x tx]) Q E s := by
  k_with_none
  w_top off
  revert X
  k_fill
  intro X
  refine wpAny_call ?_
  k_dflt (refine' code_defT (env := envX cn cs L a ccd cl) ?k1 ?k2 ?k3 ?k4 ?k5 ?kA ?kF ?kK ?k6 ?k7 ?k8 ?k9 ?kB ?_ ?c2 ?c3 ?c4 ?c5; (case kA => exact rfl); (case kF => exact rfl); (case kK => assumption); (case k1 => k_asm); (case k2 => k_asm); (case k3 => k_asm); (case k4 => k_asm); (case k5 => k_asm); (case k6 => k_is); (case k7 => k_is); (case k8 => ktr_room); (case k9 => exact BindsTo.of_eq rfl); (case c5 => decide); (case kB => exact locs rfl); (case c2 => exact rfl); (case c3 => exact rfl); (case c4 => exact rfl); k_whole; intro g' L' h' FG' F' N' B' X' T' D'; (try dsimp only); (try k_lift B'); (try k_fold))
  repeat' ((fail_if_success (with_reducible show wpAny _ _ (call (Value.ref _) _) _ _ _)); walk1)
  have hkk : (envOf (Str.ofString "_law_told") (scopeAt PySem.Challenge.rw_rs0052_01.prog 17) 0 101 (Value.ref 100)).scope.kind = .function := rfl
  refine wpAny_call ?_
  k_dflt cell_enter
  repeat' ((fail_if_success (with_reducible show wpAny _ _ (call (Value.type "str") _) _ _ _)); walk1)
  rename Got _ _ _ _ _ => G'
  k_dflt (refine' exc_str_K ?u ?X ?N G' ?s ?m ?_)
  case N => assumption
  case u => ktr_units
  case X => k_in
  case s => k_is
  case m => k_is
  k_steps
  (rename Fr _ _ _ _ => F9); (rename News _ _ _ _ => N9)
  exact ret _ _ _ F9 N9
set_option maxRecDepth 100000 in
set_option maxHeartbeats 4000000 in
/-- a reply 257, told -/
theorem told_ok {Q E : Value → Shared → Prop} {x : Str} {tx : Tok} (B : Below A₀ base outer h₀) (F : Fr h₀ L s.heap m) (X : (Mine.hd.heap_39 w.params).In h₀) (N : News h₀ L s.heap news) (T : Top p loose mean mg mb h₀) (hk : cs.kind = .function)
    (hx : x.length ≤ 1000) (h257 : Txt.slice x none (some 3) = Str.ofString "257") (hroom : dp + 5 < recursionLimit) (hunits : un + 80 < cLine)
    (ret : ∀ (t : Tok) (h' : Heap) (tk' : Nat), Fr h₀ L h' m → News h₀ L h' news → Q (.str (told257 x) t) { s with heap := h', toks := tk' }) :
    wpAny (model PySem.Challenge.rw_rs0052_01.prog w) (ktrTop dp un gd cn cs L a ccd cl outer) (call (.ref 101) [.str x tx]) Q E s := by
  k_with_none
  w_top off
  revert X
  k_fill
  intro X
  refine wpAny_call ?_
  k_dflt cell_enter
  k_steps
  (rename Fr _ _ _ _ => F9); (rename News _ _ _ _ => N9)
  exact ret _ _ _ F9 N9
end
end Mine
end
section
namespace Mine
theorem fmod_lo {a b : Int} (h : 0 < b) : 0 ≤ a.fmod b := Int.fmod_nonneg_of_pos a h
theorem fmod_hi {a b : Int} (h : 0 < b) : a.fmod b < b := Int.fmod_lt_of_pos a h
end Mine
end
section
open PySem PySem.W PyProof.Rows
namespace Mine
def eltOf : Stmt → Expr
  | .Assign _ (.ListComp e _ _ _) _ => e
  | _ => default
def lcScope : Stmt → Scope
  | .Assign _ (.ListComp _ _ s _) _ => s
  | _ => default
def iterOf : Stmt → Expr
  | .Assign _ (.ListComp _ (g :: _) _ _) _ => g.iter
  | _ => default
def stmtAt (p : Program) (k j : Nat) : Stmt := ((stmtsAt p k)[j]?).getD default
/-- a cell of the script -/
abbrev cellIs (y : Value) : Prop := ∃ c t, y = .int c t ∧ 0 ≤ c ∧ c < 1000000
section
variable {fa lc : Addr} {w : World} {p : Program} {loose : List Str} {mean : ExcName → Option Value} {mg mb : Str → Option Value} {h₀ : Heap} {m : Str → Option Value} {s : Shared}
set_option maxRecDepth 100000 in
set_option maxHeartbeats 1000000 in
theorem elt_w {L' C S : Addr} {oC cell : Obj} {m₂ : Str → Option Value} {ext : List (Addr × Obj)} {vs : List Value} {ns : List Int} {i : Nat} {own : Int} {ti to : Tok} {Q : Value → Shared → Prop}
    (X : (Mine.hd.heap_39 w.params).In h₀) (T : Top p loose mean mg mb h₀) (F : Fr h₀ L' s.heap m) (N : News h₀ L' s.heap ((C, oC) :: (L' + 1, cell) :: ext))
    (hcell : cell.data = .cell (some (.ref S))) (hC : LCg.NsObj oC m₂) (h1 : m₂ (Str.ofString "place") = some (.int i ti)) (h2 : m₂ (Str.ofString "own") = some (.int own to)) (hl : h₀.IsList S vs.toArray) (hi : IntsAre vs ns) (hlen : ns.length ≤ 63) (hi9 : i ≤ 8)
    (hQ : ∀ y h' tk', cellIs y → Fr h₀ L' h' m → News h₀ L' h' ((C, oC) :: (L' + 1, cell) :: ext) → Q y { s with heap := h', toks := tk' }) :
    wpAny (model PySem.Challenge.rw_rs0052_01.prog w) (callerA.deeper (envOfC (Str.ofString "law") (scopeAt PySem.Challenge.rw_rs0052_01.prog 20) L' fa (.ref lc)))
      (eval (eltOf (stmtAt PySem.Challenge.rw_rs0052_01.prog 20 0)) (compEnvC (lcScope (stmtAt PySem.Challenge.rw_rs0052_01.prog 20 0)) [(Str.ofString "script", L' + 1)] C (envOfC (Str.ofString "law") (scopeAt PySem.Challenge.rw_rs0052_01.prog 20) L' fa (.ref lc)))) Q (fun _ _ => False) s := by
  k_with_none
  w_top off
  revert X
  k_fill
  intro X
  conv in (occs := *) scopeAt _ _ => all_goals whnf
  conv in (occs := *) lcScope _ => all_goals whnf
  conv in (occs := *) eltOf _ => all_goals whnf
  k_steps
  (rename Fr _ _ _ _ => F9); (rename News _ _ _ _ => N9)
  refine sumK (vs := (slicePick vs.toArray (some (i : Int)) (some 63) (some 8)).toList) rfl F9 N9 (by rw [Array.toArray_toList]; exact News.isList N9 (.head _)) (hi.pick _ _ _) ?_
  intro h8 tk8 t8 F8 N8
  clear F9 N9
  k_steps
  refine hQ _ _ _ ⟨_, _, rfl, ?_, ?_⟩ F8 (cb_drop N8 fun _ h => List.mem_cons_of_mem _ h)
  · exact fmod_lo (by decide)
  · exact fmod_hi (by decide)
theorem int_at {l : List Value} (h : ∀ v ∈ l, ∃ n t, v = .int n t) (i : Nat) (v : Value) (e : l.toArray[i]? = some v) : ∃ n t, v = .int n t := h v (by
  rw [List.getElem?_toArray] at e; exact List.mem_of_getElem? e)
set_option maxRecDepth 100000 in
set_option maxHeartbeats 1000000 in
theorem iter_w {L' : Addr} {cell : Obj} {Q : Value → Shared → Prop}
    (X : (Mine.hd.heap_39 w.params).In h₀) (T : Top p loose mean mg mb h₀) (F : Fr h₀ L' s.heap m) (N : News h₀ L' s.heap [(L' + 1, cell)])
    (hQ : ∀ (items : Array Value) (xv : Value) (s₁ : Shared), items.size = 8 → (∀ (i : Nat) (v : Value), items[i]? = some v → ∃ n t, v = .int n t) → EnumSrc h₀ L' m [(L' + 1, cell)] items s xv s₁ → Q xv s₁) :
    wpAny (model PySem.Challenge.rw_rs0052_01.prog w) (callerA.deeper (envOfC (Str.ofString "law") (scopeAt PySem.Challenge.rw_rs0052_01.prog 20) L' fa (.ref lc)))
      (eval (iterOf (stmtAt PySem.Challenge.rw_rs0052_01.prog 20 0)) (envOfC (Str.ofString "law") (scopeAt PySem.Challenge.rw_rs0052_01.prog 20) L' fa (.ref lc))) Q (fun _ _ => False) s := by
  k_with_none
  w_top off
  revert X
  k_fill
  intro X
  conv in (occs := *) scopeAt _ _ => all_goals whnf
  conv in (occs := *) iterOf _ => all_goals whnf
  k_steps
  (rename Fr _ _ _ _ => F9); (rename News _ _ _ _ => N9)
  exact wpAny_mono (enum_src (s₀ := s) ⟨_, _, rfl⟩ F9 N9 fun p hp => by rw [List.mem_singleton.mp hp]; exact Nat.ne_of_lt (by assumption)) (fun xv s₁ h => hQ _ xv s₁ rfl (int_at (by simp)) h) fun _ _ h => h
set_option maxRecDepth 100000 in
set_option maxHeartbeats 1000000 in
theorem cells_st {L' S : Addr} {cell : Obj} {vs : List Value} {ns : List Int} {Q : Flow → Shared → Prop}
    (X : (Mine.hd.heap_39 w.params).In h₀) (T : Top p loose mean mg mb h₀) (F : Fr h₀ L' s.heap m) (N : News h₀ L' s.heap [(L' + 1, cell)])
    (hcell : cell.data = .cell (some (.ref S))) (hl : h₀.IsList S vs.toArray) (hi : IntsAre vs ns) (hlen : ns.length ≤ 63)
    (hQ : ∀ D ys h' tk', ys.length = 8 → (∀ (i : Nat) y, ys[i]? = some y → cellIs y) → Fr h₀ L' h' (fun z => if z = Str.ofString "cells" then some (.ref D) else m z) → News h₀ L' h' [(D, LCg.lst ys), (L' + 1, cell)] → L' + 1 < D → Q .next { s with heap := h', toks := tk' }) :
    wpAny (model PySem.Challenge.rw_rs0052_01.prog w) (callerA.deeper (envOfC (Str.ofString "law") (scopeAt PySem.Challenge.rw_rs0052_01.prog 20) L' fa (.ref lc)))
      (exec (stmtAt PySem.Challenge.rw_rs0052_01.prog 20 0) (envOfC (Str.ofString "law") (scopeAt PySem.Challenge.rw_rs0052_01.prog 20) L' fa (.ref lc))) Q (fun _ _ => False) s := by
  k_with_none
  w_top off
  have X0 := X
  revert X
  k_fill
  intro X
  conv in (occs := *) stmtAt _ _ _ => all_goals whnf
  refine' assign_enum (h₀ := h₀) (n := 8) (Pv := fun _ v => ∃ n t, v = .int n t) (news := [(L' + 1, cell)]) (cl := [(Str.ofString "script", L' + 1)]) (m := m) (Y := fun _ y => cellIs y) rfl (by with_unfolding_all rfl) (by with_unfolding_all rfl) (by with_unfolding_all rfl) (by with_unfolding_all rfl) (by decide) rfl (by decide) (by rfl) (by rfl) (by decide) rfl ?sz ?it ?el ?fin
  case it => exact iter_w X0 T F N fun items xv s₁ h1 h2 h3 => ⟨items, h1, h2, h3⟩
  case sz => decide
  case el =>
    intro i C oC m₂ h tk t v ext hi8 hv hC h1 h2 F' hsub N'
    obtain ⟨own, to, rfl⟩ := hv
    refine elt_w (ext := ext) X0 T F' (fun q hq => ?_) hcell hC h1 h2 hl hi hlen ?_ ?_
    · rcases List.mem_cons.mp hq with rfl | hq
      · exact N' _ (.head _)
      · rcases List.mem_cons.mp hq with rfl | hq
        · exact N' _ (.tail _ (hsub _ (.head _)))
        · exact N' _ (.tail _ hq)
    · omega
    · intro y h' tk' hy F9 N9
      refine ⟨h', tk', rfl, F9, fun q hq => ?_, hy⟩
      rcases List.mem_cons.mp hq with rfl | hq
      · exact N9 _ (.head _)
      · exact N9 _ (.tail _ (.tail _ hq))
  case fin =>
    intro D ys h tk hl hY F9 N9 hlt9
    exact hQ D ys h tk hl hY F9 N9 (hlt9 _ (.head _))
end
end Mine
end
section
open PySem PySem.W PyProof.Rows
namespace Mine
def op1 : Str := Str.ofString "257 \""
def op2 : Str := Str.ofString "257-\""
def op3 : Str := Str.ofString "257 '"
def op4 : Str := Str.ofString "250 \""
theorem lst_op1 : lst op1 = [50, 53, 55, 32, 34] := by decide +kernel
theorem lst_op2 : lst op2 = [50, 53, 55, 45, 34] := by decide +kernel
theorem lst_op3 : lst op3 = [50, 53, 55, 32, 39] := by decide +kernel
theorem lst_op4 : lst op4 = [50, 53, 48, 32, 34] := by decide +kernel
theorem lst_257 : lst (Str.ofString "257") = [50, 53, 55] := by decide +kernel
theorem lst_bq : lst (Str.ofString " \"") = [32, 34] := by decide +kernel
theorem lst_mk (l : List Nat) : lst ⟨l.toArray⟩ = l := by simp [lst]
theorem lst_sentS (b : Bool) (x : Str) : lst (sentS b x) = dots b (crlf (lst x)) := lst_mk _
theorem lst_quoted (x : Str) : lst (quoted x) = dots true (crlf (lst x)) := lst_mk _
theorem lst_lawName (x : Str) : lst (lawName x) = nameOf (lst x) := lst_mk _
/-- slices at the front -/
theorem slice_to (x : Str) (n : Nat) : lst (Txt.slice x none (some (n : Int))) = (lst x).take n := by
  rw [slice_list]
  unfold clipN
  simp only [show ¬ ((n : Int) < 0) by omega, if_false, List.drop_zero, Nat.sub_zero, Int.toNat_natCast]
  rw [← lst_length, ← List.take_take, List.take_of_length_le (Nat.le_of_eq rfl : (lst x).length ≤ (lst x).length)] <;> try rfl
theorem slice_mid (x : Str) (a b : Nat) : lst (Txt.slice x (some (a : Int)) (some (b : Int))) = ((lst x).drop a).take (b - a) := by
  rw [slice_list]
  unfold clipN
  simp only [show ¬ ((a : Int) < 0) by omega, show ¬ ((b : Int) < 0) by omega, if_false, Int.toNat_natCast]
  rw [← lst_length]
  by_cases ha : a ≤ (lst x).length
  · rw [Nat.min_eq_left ha]
    by_cases hb : b ≤ (lst x).length
    · rw [Nat.min_eq_left hb]
    · rw [Nat.min_eq_right (by omega), List.take_of_length_le (by rw [List.length_drop]; omega), List.take_of_length_le (by rw [List.length_drop]; omega)]
  · have e1 : min a (lst x).length = (lst x).length := by omega
    rw [e1, List.drop_of_length_le (Nat.le_refl _), List.drop_of_length_le (show (lst x).length ≤ a by omega)]; simp
theorem slice_from (x : Str) (a : Nat) : lst (Txt.slice x (some (a : Int)) none) = (lst x).drop a := by
  rw [slice_list]
  unfold clipN
  simp only [show ¬ ((a : Int) < 0) by omega, if_false, Int.toNat_natCast]
  rw [← lst_length]
  by_cases ha : a ≤ (lst x).length
  · rw [Nat.min_eq_left ha, List.take_of_length_le (by rw [List.length_drop]; omega)]
  · rw [Nat.min_eq_right (by omega), List.drop_of_length_le (Nat.le_refl _), List.drop_of_length_le (by omega)]; simp
/-- what the opening and the text tell -/
def dueOf (o x : Str) : Str := if (Txt.slice o (some 3) none != Str.ofString " \"") = true then Str.ofString "" else lawName x
theorem crlf_other {k : Nat} {r : List Nat} (h : k ≠ 10) (h' : k ≠ 13) : crlf (k :: r) = k :: crlf r := crlf_cons_other (by simp [h, h'])
theorem dots_other {k : Nat} {r : List Nat} {b : Bool} (h : k ≠ 10) (h' : k ≠ 46) : dots b (k :: r) = k :: dots false r := by
  rw [dots, if_neg (by simp [h']), show (k == 10) = false by simpa using h]
theorem dots_op {o : List Nat} (ho : o = [50, 53, 55, 32, 34] ∨ o = [50, 53, 55, 45, 34] ∨ o = [50, 53, 55, 32, 39] ∨ o = [50, 53, 48, 32, 34]) (t : List Nat) : dots true (crlf (o ++ t)) = o ++ dots false (crlf t) := by
  rcases ho with rfl | rfl | rfl | rfl <;> simp [crlf_other, dots_other]
/-- the quotation marks' reading and the sending, either first -/
theorem name_head {r : List Nat} (h : r.head? ≠ some 34) (b : Bool) : (dots b (crlf r)).head? ≠ some 34 := by
  cases r with
  | nil => cases b <;> simp [crlf, dots]
  | cons c r =>
    have hc : c ≠ 34 := by simpa using h
    by_cases h1 : c = 10
    · subst h1
      rw [show crlf (10 :: r) = 13 :: 10 :: crlf r by rw [crlf] <;> simp, dots_other (by decide) (by decide)]; simp
    · by_cases h2 : c = 13
      · subst h2
        have : ∃ q, crlf (13 :: r) = 13 :: q := by
          cases r with
          | nil => exact ⟨[10], by simp [crlf]⟩
          | cons a r =>
            by_cases ha : a = 10
            · subst ha; exact ⟨_, by rw [crlf]⟩
            · exact ⟨_, by rw [crlf]; · rw [if_pos (by simp)]
                           · intro r' _ e; cases e; exact ha rfl⟩
        obtain ⟨q, e⟩ := this
        rw [e, dots_other (by decide) (by decide)]; simp
      · rw [crlf_other h1 h2, dots]
        split
        · simp
        · simpa using hc
theorem nameOf_head {r : List Nat} : (nameOf r).head? = some 10 → r.head? = some 10 := by
  cases r with
  | nil => simp [nameOf]
  | cons c r =>
    by_cases hc : c = 34
    · subst hc
      cases r with
      | nil => simp [nameOf]
      | cons d r =>
        by_cases hd : d = 34
        · subst hd; rw [nameOf]; simp
        · rw [nameOf_end (by simpa using hd)]; simp
    · rw [nameOf_other hc]; simp
theorem nameOf_dots : ∀ (n : Nat) (t : List Nat) (b : Bool), t.length ≤ n → nameOf (dots b (crlf t)) = dots b (crlf (nameOf t))
  | _, [], b, _ => by cases b <;> simp [crlf, dots, nameOf]
  | 0, _ :: _, _, h => absurd h (by simp)
  | n + 1, c :: r, b, h => by
    have hr : r.length ≤ n := by simpa using h
    by_cases hq : c = 34
    · subst hq
      cases r with
      | nil =>
        rw [nameOf_end (by simp), crlf_other (by decide) (by decide), dots_other (by decide) (by decide), nameOf_end (by cases b <;> simp [crlf, dots])]
        cases b <;> simp [crlf, dots]
      | cons d r2 =>
        by_cases hd : d = 34
        · subst hd
          have ih := nameOf_dots n r2 false (by simp only [List.length_cons] at hr; omega)
          rw [nameOf, crlf_other (by decide) (by decide), crlf_other (by decide) (by decide), dots_other (by decide) (by decide), dots_other (by decide) (by decide), nameOf, ih, crlf_other (by decide) (by decide), dots_other (by decide) (by decide)]
        · rw [nameOf_end (by simpa using hd), crlf_other (by decide) (by decide), dots_other (by decide) (by decide), nameOf_end (name_head (by simpa using hd) false)]
          cases b <;> simp [crlf, dots]
    · by_cases h1 : c = 10
      · subst h1
        have ih := nameOf_dots n r true hr
        rw [nameOf_other (by decide)]
        have e : ∀ q : List Nat, crlf (10 :: q) = 13 :: 10 :: crlf q := fun q => by rw [crlf] <;> simp
        have e2 : ∀ q : List Nat, dots b (13 :: 10 :: q) = 13 :: 10 :: dots true q := fun q => by
          rw [dots_other (by decide) (by decide), dots, if_neg (by simp)]; rfl
        rw [e, e2, e, e2, nameOf_other (by decide), nameOf_other (by decide), ih]
      · by_cases h2 : c = 13
        · subst h2
          have e2 : ∀ q : List Nat, dots b (13 :: 10 :: q) = 13 :: 10 :: dots true q := fun q => by
            rw [dots_other (by decide) (by decide), dots, if_neg (by simp)]; rfl
          rw [nameOf_other (by decide)]
          by_cases h3 : r.head? = some 10
          · cases r with
            | nil => simp at h3
            | cons d r2 =>
              have hd : d = 10 := by simpa using h3
              subst hd
              have ih := nameOf_dots n r2 true (by simp only [List.length_cons] at hr; omega)
              rw [nameOf_other (by decide), show crlf (13 :: 10 :: r2) = 13 :: 10 :: crlf r2 by rw [crlf], e2, nameOf_other (by decide), nameOf_other (by decide), ih, show crlf (13 :: 10 :: nameOf r2) = 13 :: 10 :: crlf (nameOf r2) by rw [crlf], e2]
          · have e : ∀ q : List Nat, q.head? ≠ some 10 → crlf (13 :: q) = 13 :: 10 :: crlf q := by
              intro q hq
              rw [crlf]
              · rw [if_pos (by simp)]
              · intro r' _ e; subst e; exact hq rfl
            have ih := nameOf_dots n r true hr
            rw [e r h3, e2, nameOf_other (by decide), nameOf_other (by decide), ih, e _ (fun q => h3 (nameOf_head q)), e2]
        · have ih := nameOf_dots n r false hr
          rw [nameOf_other hq, crlf_other h1 h2, crlf_other h1 h2]
          by_cases h46 : (b && c == 46) = true
          · have hc : c = 46 := by simp at h46; exact h46.2
            subst hc
            rw [dots, if_pos h46, dots, if_pos h46, nameOf_other (by decide), nameOf_other (by decide), ih]
          · rw [dots, if_neg h46, dots, if_neg h46, show (c == 10) = false by simpa using h1, nameOf_other hq, ih]
end Mine
end
section
open PySem PySem.W PyProof.Rows
namespace Mine
theorem D_sub {s : Nat → Nat → Nat} (C : Cost s) {a b : List Nat} (h : a.Sublist b) : (D s a b : Int) = 2 * ((b.length : Int) - a.length) := by
  have key : Al s a b (2 * (b.length - a.length)) := by
    induction h with
    | slnil => exact .nil
    | @cons a b x h ih =>
      have := h.length_le
      have e := Al.ins x ih
      rw [show 2 * ((x :: b).length - a.length) = 2 * (b.length - a.length) + 2 by simp only [List.length_cons]; omega]
      exact e
    | @cons_cons a b x h ih =>
      have e := Al.sub x x ih
      rw [C.same, Nat.add_zero] at e
      rw [show 2 * ((x :: b).length - (x :: a).length) = 2 * (b.length - a.length) by simp only [List.length_cons]; omega]
      exact e
  have h1 := D_le key
  have h2 := D_len s a b
  have := h.length_le
  omega
theorem al_new {s : Nat → Nat → Nat} {c : Nat} (hs : ∀ x, x ≠ c → s x c = 2) {a b : List Nat} {k : Nat} (h : Al s a b k) : c ∉ a → c ∈ b → 2 ≤ k := by
  induction h with
  | nil => intro _ h; simp at h
  | @sub a b k x y h ih =>
    intro ha hb
    rcases List.mem_cons.mp hb with rfl | hb
    · rw [hs x (fun e => ha (e ▸ .head _))]; omega
    · have := ih (fun e => ha (.tail _ e)) hb; omega
  | @del a b k x h ih =>
    intro ha hb
    have := ih (fun e => ha (.tail _ e)) hb; omega
  | @ins a b k y h ih => intro _ _; omega
/-- a new sign moved from ahead to behind -/
theorem D_move {s : Nat → Nat → Nat} (C : Cost s) {c : Nat} (hs : ∀ x, x ≠ c → s x c = 2) {n : List Nat} (hn : c ∉ n) : D s (c :: n) (n ++ [c]) = if n = [] then 0 else 4 := by
  cases n with
  | nil =>
    rw [if_pos rfl, List.nil_append]
    have := D_front C c [] []
    rw [this, D_nil]; rfl
  | cons x r =>
    rw [if_neg (by simp), List.cons_append, D_cons]
    have hx : x ≠ c := fun e => hn (e ▸ .head _)
    have h1 : D s (x :: r) (x :: (r ++ [c])) = 2 := by
      have e := D_prefix C (x :: r) [] [c]
      rw [List.append_nil, List.cons_append, D_nil] at e
      rw [e]; rfl
    have h2 : 2 ≤ D s (x :: r) (r ++ [c]) := al_new hs (al_D _ _) hn (by simp)
    have h3 := (D_len s (c :: x :: r) (r ++ [c])).2
    simp only [List.length_cons, List.length_append, List.length_nil] at h3
    have h4 : s c x = 2 := by rw [C.symm]; exact hs x hx
    omega
/-- weights: what a sign of the name costs at the least against a text without the two -/
def wt (y : Nat) : Nat := if y = 97 then 1 else if y = 46 then 2 else 0
def wts : List Nat → Nat
  | [] => 0
  | y :: r => wt y + wts r
theorem wts_count : ∀ l : List Nat, wts l = l.count 97 + 2 * l.count 46
  | [] => rfl
  | y :: r => by
    rw [wts, wts_count r, List.count_cons, List.count_cons]
    unfold wt
    by_cases h1 : y = 97
    · subst h1; simp; omega
    · by_cases h2 : y = 46
      · subst h2; simp; omega
      · simp [h1, h2]
theorem al_loud {a b : List Nat} {k : Nat} (h : Al scost a b k) : (∀ x ∈ a, x ≠ 97 ∧ x ≠ 46) → 2 * a.length + wts b ≤ k + 2 * b.length := by
  induction h with
  | nil => intro _; simp [wts]
  | @sub a b k x y h ih =>
    intro ha
    have h1 := ih fun z hz => ha z (.tail _ hz)
    have h2 := ha x (.head _)
    have h3 : wt y ≤ scost x y := by
      unfold wt
      split
      · rename_i e; subst e; exact scost_ne h2.1
      · split
        · rename_i e; subst e; rw [scost_dot h2.2]; exact Nat.le_refl 2
        · exact Nat.zero_le _
    simp only [List.length_cons, wts]; omega
  | @del a b k x h ih =>
    intro ha
    have h1 := ih fun z hz => ha z (.tail _ hz)
    simp only [List.length_cons]; omega
  | @ins a b k y h ih =>
    intro ha
    have h1 := ih ha
    have h3 : wt y ≤ 2 := by unfold wt; split <;> (try split) <;> omega
    simp only [List.length_cons, wts]; omega
def loudOf (c : Nat) : Nat := if c = 97 then 65 else if c = 46 then 45 else c
theorem loud_cost (y : Nat) : scost (loudOf y) y ≤ wt y := by
  unfold loudOf wt
  by_cases h1 : y = 97
  · subst h1; rw [if_pos rfl, if_pos rfl, scost_Aa]; exact Nat.le_refl 1
  · rw [if_neg h1, if_neg h1]
    by_cases h2 : y = 46
    · subst h2; rw [if_pos rfl, if_pos rfl]; exact scost_cost.most _ _
    · rw [if_neg h2, if_neg h2, scost_self]; exact Nat.le_refl 0
theorem al_loud_le {a b : List Nat} (h : a.Sublist b) : ∃ k, Al scost (b.map loudOf) a k ∧ k + 2 * a.length ≤ 2 * b.length + wts a := by
  induction h with
  | slnil => exact ⟨0, .nil, by simp⟩
  | @cons a b x h ih =>
    obtain ⟨k, h1, h2⟩ := ih
    exact ⟨k + 2, .del _ h1, by simp only [List.length_cons]; omega⟩
  | @cons_cons a b x h ih =>
    obtain ⟨k, h1, h2⟩ := ih
    have := loud_cost x
    exact ⟨k + scost (loudOf x) x, .sub _ _ h1, by simp only [List.length_cons, wts]; omega⟩
theorem loudOf_ne (c : Nat) : loudOf c ≠ 97 ∧ loudOf c ≠ 46 := by
  unfold loudOf
  split
  · decide
  · split
    · decide
    · exact ⟨by assumption, by assumption⟩
theorem D_loud {a b : List Nat} (h : a.Sublist b) : (D scost (b.map loudOf) a : Int) = 2 * ((b.length : Int) - a.length) + a.count 97 + 2 * a.count 46 := by
  obtain ⟨k, h1, h2⟩ := al_loud_le h
  have h3 := D_le h1
  have h4 := al_loud (al_D (s := scost) (b.map loudOf) a) (by
    intro x hx
    obtain ⟨y, _, rfl⟩ := List.mem_map.mp hx
    exact loudOf_ne y)
  rw [List.length_map] at h4
  have h5 := wts_count a
  have := h.length_le
  omega
end Mine
end
section
open PySem PySem.W PyProof.Rows
namespace Mine
theorem nameOf_sub : ∀ (n : Nat) (t : List Nat), t.length ≤ n → (nameOf t).Sublist t
  | _, [], _ => by simp [nameOf]
  | 0, _ :: _, h => absurd h (by simp)
  | n + 1, c :: r, h => by
    have hr : r.length ≤ n := by simpa using h
    by_cases hq : c = 34
    · subst hq
      cases r with
      | nil => rw [nameOf_end (by simp)]; exact List.nil_sublist _
      | cons d r2 =>
        by_cases hd : d = 34
        · subst hd
          rw [nameOf]
          exact (List.Sublist.cons_cons _ ((nameOf_sub n r2 (by simp only [List.length_cons] at hr; omega)).cons _))
        · rw [nameOf_end (by simpa using hd)]; exact List.nil_sublist _
    · rw [nameOf_other hq]
      exact (nameOf_sub n r hr).cons_cons _
theorem crlf_sub : ∀ t : List Nat, t.Sublist (crlf t) := by
  intro t
  induction t using crlf.induct with
  | case1 => simp [crlf]
  | case2 r ih => rw [crlf]; exact (ih.cons_cons _).cons_cons _
  | case3 c r h1 h2 ih =>
    rw [crlf]
    · rw [if_pos h2]
      simp only [Bool.or_eq_true, beq_iff_eq] at h2
      rcases h2 with rfl | rfl
      · exact (ih.cons_cons _).cons _
      · exact (ih.cons _).cons_cons _
    · exact h1
  | case4 c r h1 h2 ih =>
    rw [crlf]
    · rw [if_neg h2]; exact ih.cons_cons _
    · exact h1
theorem dots_sub : ∀ (t : List Nat) (b : Bool), t.Sublist (dots b t)
  | [], b => by cases b <;> simp [dots]
  | c :: r, b => by
    rw [dots]
    split
    · rename_i h
      have hc : c = 46 := by simp at h; exact h.2
      subst hc
      exact ((dots_sub r _).cons_cons _).cons _
    · exact (dots_sub r _).cons_cons _
theorem dots_len : ∀ (t : List Nat) (b : Bool), (dots b t).length ≤ 2 * t.length
  | [], b => by cases b <;> simp [dots]
  | c :: r, b => by
    rw [dots]
    split
    · have := dots_len r false; simp only [List.length_cons]; omega
    · have := dots_len r (c == 10); simp only [List.length_cons]; omega
theorem sent_sub (b : Bool) (x : Str) : (lst x).Sublist (lst (sentS b x)) := by
  rw [lst_sentS]; exact (crlf_sub _).trans (dots_sub _ _)
theorem crlf_len' : ∀ x : List Nat, (crlf x).length ≤ 2 * x.length := by
  intro x
  induction x using crlf.induct with
  | case1 => simp [crlf]
  | case2 r ih => simp only [crlf, List.length_cons]; omega
  | case3 c r h1 h2 ih => rw [crlf]; · rw [if_pos h2]; simp only [List.length_cons]; omega
                          · exact h1
  | case4 c r h1 h2 ih => rw [crlf]; · rw [if_neg h2]; simp only [List.length_cons]; omega
                          · exact h1
theorem sent_len (b : Bool) (x : Str) : (sentS b x).length ≤ 4 * x.length := by
  rw [← lst_length, lst_sentS]
  have h1 := dots_len (crlf (lst x)) b
  have h2 := crlf_len' (lst x)
  rw [lst_length] at h2
  omega
theorem due_sub (o x : Str) : (lst (dueOf o x)).Sublist (lst x) := by
  unfold dueOf
  split
  · rw [empty_lst]; exact List.nil_sublist _
  · rw [lst_lawName]; exact nameOf_sub _ _ (Nat.le_refl _)
theorem due_len (o x : Str) : (dueOf o x).length ≤ x.length := by
  have := (due_sub o x).length_le
  rw [lst_length, lst_length] at this
  exact this
/-- what is sent of the name is part of what is sent of the text -/
theorem ahead_sub (o x : Str) : (lst (sentS true (dueOf o x))).Sublist (lst (sentS true x)) := by
  unfold dueOf
  split
  · rw [lst_sentS, empty_lst]; simp [crlf, dots]
  · rw [lst_sentS, lst_sentS, lst_lawName, ← nameOf_dots _ _ _ (Nat.le_refl _)]
    exact nameOf_sub _ _ (Nat.le_refl _)
abbrev goodOp (o : Str) : Prop := o = op1 ∨ o = op2 ∨ o = op3
theorem op_front {o : Str} (ho : goodOp o ∨ o = op4) (x : Str) : lst (o ++ x) = lst o ++ lst x ∧ (lst o).length = 5 ∧ lst (quoted (o ++ x)) = lst o ++ lst (sentS false x) := by
  have h0 : lst o = [50, 53, 55, 32, 34] ∨ lst o = [50, 53, 55, 45, 34] ∨ lst o = [50, 53, 55, 32, 39] ∨ lst o = [50, 53, 48, 32, 34] := by
    rcases ho with (rfl | rfl | rfl) | rfl
    · exact .inl lst_op1
    · exact .inr (.inl lst_op2)
    · exact .inr (.inr (.inl lst_op3))
    · exact .inr (.inr (.inr lst_op4))
  refine ⟨lst_app _ _, ?_, ?_⟩
  · rcases h0 with h | h | h | h <;> rw [h] <;> rfl
  · rw [lst_quoted, lst_app, dots_op h0, lst_sentS]
theorem front3 {o y z : Str} (h : lst y = lst o ++ lst z) (hl : (lst o).length = 5) : Txt.slice y none (some 3) = Txt.slice o none (some 3) := by
  refine str_ext ?_
  rw [show (3 : Int) = ((3 : Nat) : Int) from rfl, slice_to, slice_to, h, List.take_append_of_le_length (by omega)]
theorem front5 {o y z : Str} (h : lst y = lst o ++ lst z) (hl : (lst o).length = 5) : Txt.slice y (some 3) (some 5) = Txt.slice o (some 3) none := by
  refine str_ext ?_
  rw [show (3 : Int) = ((3 : Nat) : Int) from rfl, show (5 : Int) = ((5 : Nat) : Int) from rfl, slice_mid, slice_from, h, List.drop_append_of_le_length (by omega), List.take_append_of_le_length (by rw [List.length_drop]; omega), List.take_of_length_le (by rw [List.length_drop]; omega)]
theorem good_257 {o : Str} (ho : goodOp o) : Txt.slice o none (some 3) = Str.ofString "257" := by
  refine str_ext ?_
  rw [show (3 : Int) = ((3 : Nat) : Int) from rfl, slice_to, lst_257]
  rcases ho with rfl | rfl | rfl
  · rw [lst_op1]; rfl
  · rw [lst_op2]; rfl
  · rw [lst_op3]; rfl
theorem bad_257 : (Txt.slice op4 none (some 3) != Str.ofString "257") = true := by
  have h : Txt.slice op4 none (some 3) ≠ Str.ofString "257" := by
    intro e
    have := congrArg lst e
    rw [show (3 : Int) = ((3 : Nat) : Int) from rfl, slice_to, lst_257, lst_op4] at this
    revert this; decide
  simpa using h
theorem told_front {o y z : Str} (h : lst y = lst o ++ lst z) (hl : (lst o).length = 5) : told257 y = if (Txt.slice o (some 3) none != Str.ofString " \"") = true then Str.ofString "" else lawName z := by
  unfold told257
  rw [front5 h hl]
  by_cases hc : Txt.slice o (some 3) none = Str.ofString " \""
  · rw [if_pos hc, if_neg (by simp [hc])]
    refine str_ext ?_
    rw [lst_mk, lst_lawName, h, ← hl, List.drop_left]
  · rw [if_neg hc, if_pos (by simpa using hc)]
theorem g1 {o : Str} (ho : goodOp o) (x : Str) : Txt.slice (o ++ x) none (some 3) = Str.ofString "257" := by
  obtain ⟨h1, h2, _⟩ := op_front (.inl ho) x
  rw [front3 h1 h2, good_257 ho]
theorem g2 {o : Str} (ho : goodOp o) (x : Str) : told257 (o ++ x) = dueOf o x := by
  obtain ⟨h1, h2, _⟩ := op_front (.inl ho) x
  exact told_front h1 h2
theorem g3 {o : Str} (ho : goodOp o) (x : Str) : Txt.slice (quoted (o ++ x)) none (some 3) = Str.ofString "257" := by
  obtain ⟨_, h2, h3⟩ := op_front (.inl ho) x
  rw [front3 h3 h2, good_257 ho]
theorem sent_due (o x : Str) : (if (Txt.slice o (some 3) none != Str.ofString " \"") = true then Str.ofString "" else lawName (sentS false x)) = sentS false (dueOf o x) := by
  unfold dueOf
  split
  · refine str_ext ?_
    rw [lst_sentS, empty_lst]; simp [crlf, dots]
  · refine str_ext ?_
    rw [lst_lawName, lst_sentS, lst_sentS, lst_lawName, nameOf_dots _ _ _ (Nat.le_refl _)]
theorem g4 {o : Str} (ho : goodOp o) (x : Str) : told257 (quoted (o ++ x)) = sentS false (dueOf o x) := by
  obtain ⟨_, h2, h3⟩ := op_front (.inl ho) x
  rw [told_front h3 h2, sent_due]
theorem b1 (x : Str) : (Txt.slice (op4 ++ x) none (some 3) != Str.ofString "257") = true := by
  obtain ⟨h1, h2, _⟩ := op_front (.inr rfl) x
  rw [front3 h1 h2]; exact bad_257
theorem b3 (x : Str) : (Txt.slice (quoted (op4 ++ x)) none (some 3) != Str.ofString "257") = true := by
  obtain ⟨_, h2, h3⟩ := op_front (.inr rfl) x
  rw [front3 h3 h2]; exact bad_257
theorem b4 (x : Str) : quoted (op4 ++ x) = op4 ++ sentS false x := by
  obtain ⟨_, _, h3⟩ := op_front (.inr rfl) x
  exact str_ext (by rw [h3, lst_app])
/-- the two letters turned -/
def loudS (y : Str) : Str := Txt.replace (Txt.replace y (Str.ofString "a") (Str.ofString "A")) (Str.ofString ".") (Str.ofString "-")
theorem of_a : Str.ofString "a" = ⟨#[97]⟩ := by decide +kernel
theorem of_A : Str.ofString "A" = ⟨#[65]⟩ := by decide +kernel
theorem of_hy : Str.ofString "-" = ⟨#[45]⟩ := by decide +kernel
theorem loud_map : ∀ l : List Nat, replC 46 [45] (replC 97 [65] l) = l.map loudOf
  | [] => rfl
  | k :: r => by
    rw [List.map_cons, ← loud_map r]
    unfold loudOf
    by_cases h1 : k = 97
    · subst h1
      rw [show replC 97 [65] (97 :: r) = 65 :: replC 97 [65] r by rw [replC, if_pos rfl]; rfl, replC, if_neg (by decide), if_pos rfl]
    · rw [show replC 97 [65] (k :: r) = k :: replC 97 [65] r by rw [replC, if_neg h1], if_neg h1]
      by_cases h2 : k = 46
      · subst h2; rw [replC, if_pos rfl, if_pos rfl]; rfl
      · rw [replC, if_neg h2, if_neg h2]
theorem lst_loud (y : Str) : lst (loudS y) = (lst y).map loudOf := by
  unfold loudS
  rw [of_a, of_A, dot1, of_hy, replace_one, replace_one]
  exact loud_map _
theorem loud_len (y : Str) : (loudS y).length = y.length := by
  rw [← lst_length, lst_loud, List.length_map, lst_length]
/-- the distances, told -/
theorem told_eq {S T : Str} {m r d : Int} (h : Told scost (lst S) (lst T) m r) (hd : (D scost (lst S) (lst T) : Int) = d) (hm : d ≤ m) : r = d := by
  have := h.1 (by omega); omega
theorem t_sub {S T : Str} {m r : Int} (h : Told scost (lst S) (lst T) m r) (hs : (lst S).Sublist (lst T)) (hm : 2 * ((T.length : Int) - S.length) ≤ m) : r = 2 * ((T.length : Int) - S.length) := by
  refine told_eq h ?_ hm
  rw [D_sub scost_cost hs, lst_length, lst_length]
theorem t_sup {S T : Str} {m r : Int} (h : Told scost (lst S) (lst T) m r) (hs : (lst T).Sublist (lst S)) (hm : 2 * ((S.length : Int) - T.length) ≤ m) : r = 2 * ((S.length : Int) - T.length) := by
  refine told_eq h ?_ hm
  rw [D_symm scost_cost, D_sub scost_cost hs, lst_length, lst_length]
theorem t_move {c n : Str} {r : Int} (hc : lst c = [57344]) (hn : 57344 ∉ lst n) (h : Told scost (lst (c ++ n)) (lst (n ++ c)) 4 r) : r = if n.length = 0 then 0 else 4 := by
  refine told_eq h ?_ (by split <;> omega)
  have := D_move scost_cost (fun x hx => scost_own hx) hn
  rw [lst_app, lst_app, hc, List.singleton_append, this]
  have e : lst n = [] ↔ n.length = 0 := by rw [← lst_length]; exact List.length_eq_zero_iff.symm
  by_cases h0 : n.length = 0
  · rw [if_pos h0, if_pos (e.mpr h0)]; rfl
  · rw [if_neg h0, if_neg (fun h => h0 (e.mp h))]; rfl
theorem t_loud {y n : Str} {m r : Int} (hs : (lst n).Sublist (lst y)) (h : Told scost (lst (loudS y)) (lst n) m r) :
    (2 * ((y.length : Int) - n.length) + (lst n).count 97 + 2 * (lst n).count 46 ≤ m → r = 2 * ((y.length : Int) - n.length) + (lst n).count 97 + 2 * (lst n).count 46) ∧ (m < 2 * ((y.length : Int) - n.length) + (lst n).count 97 + 2 * (lst n).count 46 → m < r) := by
  have hd := D_loud hs
  rw [lst_length, lst_length, ← lst_loud] at hd
  exact ⟨fun hm => told_eq h hd hm, fun hm => h.2 (by omega)⟩
end Mine
end
section
open PySem PySem.W PyProof.Rows
namespace Mine
section
variable {M : Model} {A : Around} {env : Env} {E : Value → Shared → Prop} {s : Shared} {Q : Flow → Shared → Prop}
theorem wp_execs_app (Γ : Ctx) (hΓ : Γ.In A) : ∀ (l1 l2 : List Stmt) (p : Pos) (s : Shared), Sem.wp M Γ (execs l1 env) (fun f _ s' => match f with | .next => wpAny M A (execs l2 env) Q E s' | f => Q f s') (fun e _ s' => E e s') p s →
    Sem.wp M Γ (execs (l1 ++ l2) env) (fun f _ s' => Q f s') (fun e _ s' => E e s') p s
  | [], l2, p, s, h => (show wpAny M A (execs l2 env) Q E s from h) Γ p hΓ
  | a :: l1, l2, p, s, h => by
    rw [List.cons_append, execs_cons, Sem.wp_bind']
    rw [execs_cons, Sem.wp_bind'] at h
    refine Sem.wp_mono M Γ _ (fun f p' s' h' => ?_) (fun _ _ _ h' => h') _ _ h
    cases f <;> first | exact wp_execs_app Γ hΓ l1 l2 p' s' h' | exact h'
theorem execs_split {l1 l2 : List Stmt} (h1 : 1 ≤ s.toks) (h : wpAny M A (execs l1 env) (fun f s' => match f with | .next => 1 ≤ s'.toks → wpAny M A (execs l2 env) Q E s' | f => Q f s') E s) : wpAny M A (execs (l1 ++ l2) env) Q E s :=
  fun Γ p hΓ => wp_execs_app Γ hΓ l1 l2 p s (wpAny_toks (wpAny_mono h (fun f s' h' => by cases f <;> first | exact fun hs => h' (Nat.le_trans h1 hs) | exact fun _ => h') fun _ _ h' => h') Γ p hΓ)
theorem drop_split (l : List Stmt) (a b : Nat) : l.drop a = (l.drop a).take b ++ l.drop (a + b) := by
  rw [← List.drop_drop, List.take_append_drop]
end
end Mine
end
section
open PySem PySem.W PyProof.Rows
namespace Mine
section
variable {w : World} {p : Program} {loose : List Str} {mean : ExcName → Option Value} {mg mb : Str → Option Value} {dp un : Nat} {gd : Option (List Code)} {cn : Str} {cs : Scope} {a : Addr} {ccd : Value} {cl : List (Str × Addr)} {outer : List Env} {A₀ : Around} {base h₀ : Heap} {L : Addr} {m : Str → Option Value} {s : Shared} {news : List (Addr × Obj)} {Q E : Value → Shared → Prop}
theorem name_q {o x : Str} {to tx : Tok} (ho : goodOp o) (B : Below A₀ base outer h₀) (F : Fr h₀ L s.heap m) (X : (Mine.hd.heap_39 w.params).In h₀) (N : News h₀ L s.heap news) (T : Top p loose mean mg mb h₀) (hk : cs.kind = .function)
    (hl : o.length ≤ 100) (hx : x.length ≤ 1000) (hroom : dp + 5 < recursionLimit) (hunits : un + 80 < cLine)
    (ret : ∀ (t : Tok) (h' : Heap) (tk' : Nat), (dueOf o x).length ≤ x.length → Fr h₀ L h' m → News h₀ L h' news → Q (.str (dueOf o x) t) { s with heap := h', toks := tk' }) :
    wpAny (model PySem.Challenge.rw_rs0052_01.prog w) (ktrTop dp un gd cn cs L a ccd cl outer) (call (.ref 108) [.str o to, .str x tx]) Q E s := by
  refine name_r B F X N T hk hl hx hroom hunits (fun h => ?_) (fun _ h t h' tk' F' N' => ?_) (fun _ h t h' tk' F' N' => ?_)
  · rw [good_257 ho] at h
    simp at h
  · have := ret t h' tk' (due_len o x) F' N'
    unfold dueOf at this
    rw [if_pos h] at this
    exact this
  · have := ret t h' tk' (due_len o x) F' N'
    unfold dueOf at this
    rw [if_neg (by rw [h]; exact Bool.false_ne_true)] at this
    exact this
theorem told_q {y z : Str} {ty : Tok} (h257 : Txt.slice y none (some 3) = Str.ofString "257") (hz : told257 y = z) (B : Below A₀ base outer h₀) (F : Fr h₀ L s.heap m) (X : (Mine.hd.heap_39 w.params).In h₀) (N : News h₀ L s.heap news) (T : Top p loose mean mg mb h₀) (hk : cs.kind = .function)
    (hx : y.length ≤ 1000) (hroom : dp + 5 < recursionLimit) (hunits : un + 80 < cLine)
    (ret : ∀ (t : Tok) (h' : Heap) (tk' : Nat), Fr h₀ L h' m → News h₀ L h' news → Q (.str z t) { s with heap := h', toks := tk' }) :
    wpAny (model PySem.Challenge.rw_rs0052_01.prog w) (ktrTop dp un gd cn cs L a ccd cl outer) (call (.ref 101) [.str y ty]) Q E s := by
  subst hz
  exact told_ok B F X N T hk hx h257 hroom hunits ret
theorem quote_q {x : Str} {tx : Tok} (B : Below A₀ base outer h₀) (F : Fr h₀ L s.heap m) (X : (Mine.hd.heap_39 w.params).In h₀) (N : News h₀ L s.heap news) (T : Top p loose mean mg mb h₀) (hk : cs.kind = .function)
    (hx : x.length ≤ 100) (hd : dp + 1 < recursionLimit) (hu : un + 8 < cLine)
    (ret : ∀ (t : Tok) (h' : Heap) (tk' : Nat), (quoted x).length ≤ 4 * x.length → Fr h₀ L h' m → News h₀ L h' news → Q (.str (quoted x) t) { s with heap := h', toks := tk' }) :
    wpAny (model PySem.Challenge.rw_rs0052_01.prog w) (ktrTop dp un gd cn cs L a ccd cl outer) (call (.ref 48) [.str x tx]) Q E s :=
  quote_r B F X N T hk (by omega) hd hu fun t h' tk' F' N' => ret t h' tk' (sent_len true x) F' N'
theorem sent_q {x : Str} {fi : Bool} {tx : Tok} (B : Below A₀ base outer h₀) (F : Fr h₀ L s.heap m) (X : (Mine.hd.heap_39 w.params).In h₀) (N : News h₀ L s.heap news) (T : Top p loose mean mg mb h₀) (hk : cs.kind = .function)
    (hx : x.length ≤ 1000) (hroom : dp + 5 < recursionLimit) (hunits : un + 80 < cLine)
    (ret : ∀ (t : Tok) (h' : Heap) (tk' : Nat), (sentS fi x).length ≤ 4 * x.length → Fr h₀ L h' m → News h₀ L h' news → Q (.str (sentS fi x) t) { s with heap := h', toks := tk' }) :
    wpAny (model PySem.Challenge.rw_rs0052_01.prog w) (ktrTop dp un gd cn cs L a ccd cl outer) (call (.ref 115) [.str x tx, .bool fi]) Q E s :=
  sent_r B F X N T hk hx hroom hunits fun t h' tk' F' N' => ret t h' tk' (sent_len fi x) F' N'
theorem lev_q {x y : Str} {mx v : Int} {tx ty tm : Tok} (hv : ∀ r, Told scost (lst x) (lst y) mx r → r = v) (B : Below A₀ base outer h₀) (F : Fr h₀ L s.heap m) (X : (Mine.hd.heap_39 w.params).In h₀) (N : News h₀ L s.heap news) (T : Top p loose mean mg mb h₀) (hk : cs.kind = .function)
    (hx : x.length ≤ 40) (hy : y.length ≤ 40) (hd : dp + 5 < recursionLimit) (hu : un + 80 < cLine)
    (ret : ∀ (t : Tok) (h' : Heap) (tk' : Nat), Fr h₀ L h' m → News h₀ L h' news → Q (.int v t) { s with heap := h', toks := tk' }) :
    wpAny (model PySem.Challenge.rw_rs0052_01.prog w) (ktrTop dp un gd cn cs L a ccd cl outer) (call (.ref 94) [.str x tx, .str y ty, .int mx tm]) Q E s :=
  lev_r B F X N T hk hx hy hd hu fun r t h' tk' hT F' N' => by rw [hv r hT]; exact ret t h' tk' F' N'
theorem sent_true {x : Str} {tx : Tok} (B : Below A₀ base outer h₀) (F : Fr h₀ L s.heap m) (X : (Mine.hd.heap_39 w.params).In h₀) (N : News h₀ L s.heap news) (T : Top p loose mean mg mb h₀) (hk : cs.kind = .function)
    (hx : x.length ≤ 1000) (hroom : dp + 5 < recursionLimit) (hunits : un + 80 < cLine)
    (ret : ∀ (t : Tok) (h' : Heap) (tk' : Nat), Fr h₀ L h' m → News h₀ L h' news → Q (.str (quoted x) t) { s with heap := h', toks := tk' }) :
    wpAny (model PySem.Challenge.rw_rs0052_01.prog w) (ktrTop dp un gd cn cs L a ccd cl outer) (call (.ref 115) [.str x tx, .bool true]) Q E s :=
  sent_r B F X N T hk hx hroom hunits ret
theorem t_mv {c n : Str} {r : Int} (hc : lst c = [57344]) (hn : 57344 ∉ lst n) (h : Told scost (lst (c ++ n)) (lst (n ++ c)) 4 r) : r = if n.length = 0 then 0 else 4 := t_move hc hn h
end
end Mine
end
section
open PySem PySem.W PyProof.Rows
namespace Mine
theorem rep1_len (x : Str) : (Txt.replace x (Str.ofString "a") (Str.ofString "A")).length = x.length := by
  rw [← lst_length, ← lst_length, of_a, replace_one, of_A]
  exact replC_len _ _ _
theorem rep2_len (x : Str) : (Txt.replace x (Str.ofString ".") (Str.ofString "-")).length = x.length := by
  rw [← lst_length, ← lst_length, dot1, replace_one, of_hy]
  exact replC_len _ _ _
theorem len_A : (Str.ofString "A").length = 1 := by decide +kernel
theorem len_hy : (Str.ofString "-").length = 1 := by decide +kernel
theorem len_a : (Str.ofString "a").length = 1 := by decide +kernel
theorem len_dot : (Str.ofString ".").length = 1 := by decide +kernel
section
variable {prog : Program} {w : World} {A : Around} {E : Value → Shared → Prop} {s : Shared} {x : Str} {t : Tok} {u : Nat} {Q : Value → Shared → Prop}
theorem repl_aA (hu : 1 ≤ u) (hx : x.length ≤ 1000) (hq : ∀ (t' : Tok) (k : Nat), (Txt.replace x (Str.ofString "a") (Str.ofString "A")).length = x.length → s.toks ≤ k → Q (.str (Txt.replace x (Str.ofString "a") (Str.ofString "A")) t') { s with toks := k }) :
    wpAny (model prog w) A (call (.builtin "str.replace") [.str x t, .str (Str.ofString "a") u, .str (Str.ofString "A") (u + 1)]) Q E s :=
  repl_K hu (by decide +kernel) (by rw [len_A]; omega) fun t' k h => hq t' k (rep1_len x) h
theorem repl_dh (hu : 1 ≤ u) (hx : x.length ≤ 1000) (hq : ∀ (t' : Tok) (k : Nat), (Txt.replace x (Str.ofString ".") (Str.ofString "-")).length = x.length → s.toks ≤ k → Q (.str (Txt.replace x (Str.ofString ".") (Str.ofString "-")) t') { s with toks := k }) :
    wpAny (model prog w) A (call (.builtin "str.replace") [.str x t, .str (Str.ofString ".") u, .str (Str.ofString "-") (u + 1)]) Q E s :=
  repl_K hu (by decide +kernel) (by rw [len_hy]; omega) fun t' k h => hq t' k (rep2_len x) h
theorem cnt_a {y : Str} {u : Tok} (hq : ∀ t' k, Q (.int ((lst x).count 97) t') { s with toks := k }) : wpAny (model prog w) A (call (.builtin "str.count") [.str x t, .str (Str.ofString "a") u]) Q E s := KXw.count (by rw [of_a, count_one]) hq
theorem cnt_d {y : Str} {u : Tok} (hq : ∀ t' k, Q (.int ((lst x).count 46) t') { s with toks := k }) : wpAny (model prog w) A (call (.builtin "str.count") [.str x t, .str (Str.ofString ".") u]) Q E s := KXw.count (by rw [dot1, count_one]) hq
end
local macro_rules | `(tactic| walk_at "call builtin:str.replace") => `(tactic| (
  (with_reducible show wpAny _ _ (call (Value.builtin "str.replace") [Value.str _ _, Value.str _ _, Value.str _ _]) _ _ _);
  k_dflt (first | (refine' repl_aA ?a ?b ?_; (case a => omega); (case b => omega)) | (refine' repl_dh ?a ?b ?_; (case a => omega); (case b => omega))); intro _ _ _ _; (try dsimp only at *)))
local macro_rules | `(tactic| walk_at "call builtin:str.count") => `(tactic| (
  (with_reducible show wpAny _ _ (call (Value.builtin "str.count") [Value.str _ _, Value.str _ _]) _ _ _);
  k_dflt (first | refine' cnt_a ?_ | refine' cnt_d ?_); intro _ _))
local macro_rules | `(tactic| walk_at "own call") => `(tactic| (
  (with_reducible show wpAny _ _ (call (Value.ref _) _) _ _ _);
  (with_reducible rename Fr _ _ _ _ => F');
  (with_reducible rename News _ _ _ _ => N');
  k_dflt (refine' lev_r ?B F' ?X N' ?T ?K ?x ?y ?D ?U ?_; (case B => k_asm); (case X => k_asm); (case T => k_asm); (case K => exact rfl); (case x => omega); (case y => omega); (case D => ktr_room); (case U => ktr_units); intro r9 t9 h9 tk9 hT9 F9 N9);
  (try dsimp only)))
local macro_rules | `(tactic| walk_at "go") => `(tactic| repeat' (first | walk_at "own call" | ((fail_if_success (with_reducible show wpAny _ _ (call (Value.ref _) _) _ _ _)); first | (k_unfold; (try dsimp only)) | (k_end; wrow_close) | walk1 | (dsimp only; walk1) | (leave1; walk_say "STEP leave1"; try dsimp only) | fail "no step")))
section
variable {fa lc : Addr} {w : World} {p : Program} {loose : List Str} {mean : ExcName → Option Value} {mg mb : Str → Option Value} {base h₀ : Heap} {s : Shared} {Q : Flow → Shared → Prop}
set_option maxRecDepth 100000 in
set_option maxHeartbeats 4000000 in
theorem law_b {L' : Addr} {n x : Str} {bd : Int} {t1 t2 tb : Tok} {u : Str → Option Value} {news : List (Addr × Obj)} (hs : (lst n).Sublist (lst (quoted x))) (hl : (quoted x).length ≤ 40) (hn : n.length ≤ 40)
    (B : Below callerA base [] h₀) (X : (Mine.hd.heap_39 w.params).In h₀) (T : Top p loose mean mg mb h₀) (ht1 : 1 ≤ s.toks)
    (F : Fr h₀ L' s.heap (kstB u [(Str.ofString "mail", .str (quoted x) t1), (Str.ofString "name", .str n t2), (Str.ofString "bound", .int bd tb)])) (N : News h₀ L' s.heap news)
    (ret : ∀ h' tk' m' news', Fr h₀ L' h' m' → News h₀ L' h' news' → Q (.ret (.bool true)) { s with heap := h', toks := tk' }) :
    wpAny (model PySem.Challenge.rw_rs0052_01.prog w) (callerA.deeper (envOfC (Str.ofString "law") (scopeAt PySem.Challenge.rw_rs0052_01.prog 20) L' fa (.ref lc)))
      (execs ((stmtsAt PySem.Challenge.rw_rs0052_01.prog 20).drop 17) (envOfC (Str.ofString "law") (scopeAt PySem.Challenge.rw_rs0052_01.prog 20) L' fa (.ref lc))) Q (fun _ _ => False) s := by
  k_with_none
  w_top off
  revert X
  k_fill
  intro X
  conv in (occs := *) scopeAt _ _ => all_goals whnf
  conv in (occs := *) List.drop _ _ => all_goals whnf
  dsimp only [kstB] at F
  have ea : Txt.count n (Str.ofString "a") = ((lst n).count 97 : Int) := by rw [of_a, count_one]
  have ed : Txt.count n (Str.ofString ".") = ((lst n).count 46 : Int) := by rw [dot1, count_one]
  walk_at "go"
  all_goals (rename Told _ _ _ _ _ => hT9; rename Fr _ _ _ _ => F9; rename News _ _ _ _ => N9; rw [ea, ed] at *; have ht := t_loud (y := quoted x) hs hT9; (try dsimp only))
  · rename _ ≤ bd => hle
    rw [ht.1 hle, beq_self_eq_true]
    exact ret _ _ _ _ F9 N9
  · rename ¬ _ ≤ bd => hle
    rw [decide_eq_true (ht.2 (by omega))]
    exact ret _ _ _ _ F9 N9
end
end Mine
end
section
open PySem PySem.W PyProof.Rows
namespace Mine
local macro_rules | `(tactic| walk_at "own call") => `(tactic| (
  (with_reducible show wpAny _ _ (call (Value.ref _) _) _ _ _);
  (with_reducible rename Fr _ _ _ _ => F');
  (with_reducible rename News _ _ _ _ => N');
  k_dflt (first
  | ((with_reducible show wpAny _ _ (call (Value.ref 108) _) _ _ _); refine' name_q ?g ?B F' ?X N' ?T ?K ?x ?y ?D ?U ?_; (case g => assumption); (case B => k_asm); (case X => k_asm); (case T => k_asm); (case K => exact rfl); (case x => omega); (case y => omega); (case D => ktr_room); (case U => ktr_units); intro t9 h9 tk9 l9 F9 N9)
  | ((with_reducible show wpAny _ _ (call (Value.ref 101) _) _ _ _); refine' told_q ?g ?h ?B F' ?X N' ?T ?K ?x ?D ?U ?_; (case g => with_reducible first | exact g3 (by assumption) _ | exact g1 (by assumption) _); (case h => with_reducible first | exact g4 (by assumption) _ | exact g2 (by assumption) _); (case B => k_asm); (case X => k_asm); (case T => k_asm); (case K => exact rfl); (case x => omega); (case D => ktr_room); (case U => ktr_units); intro t9 h9 tk9 F9 N9)
  | ((with_reducible show wpAny _ _ (call (Value.ref 48) _) _ _ _); refine' quote_q ?B F' ?X N' ?T ?K ?x ?D ?U ?_; (case B => k_asm); (case X => k_asm); (case T => k_asm); (case K => exact rfl); (case x => omega); (case D => ktr_room); (case U => ktr_units); intro t9 h9 tk9 l9 F9 N9)
  | ((with_reducible show wpAny _ _ (call (Value.ref 115) [_, Value.bool true]) _ _ _); refine' sent_true ?B F' ?X N' ?T ?K ?x ?D ?U ?_; (case B => k_asm); (case X => k_asm); (case T => k_asm); (case K => exact rfl); (case x => omega); (case D => ktr_room); (case U => ktr_units); intro t9 h9 tk9 F9 N9)
  | ((with_reducible show wpAny _ _ (call (Value.ref 115) _) _ _ _); refine' sent_q ?B F' ?X N' ?T ?K ?x ?D ?U ?_; (case B => k_asm); (case X => k_asm); (case T => k_asm); (case K => exact rfl); (case x => omega); (case D => ktr_room); (case U => ktr_units); intro t9 h9 tk9 l9 F9 N9)
  | ((with_reducible show wpAny _ _ (call (Value.ref 94) _) _ _ _); refine' lev_q ?g ?B F' ?X N' ?T ?K ?x ?y ?D ?U ?_; (case g => intro r9 hT9; with_reducible first | exact t_sub hT9 (by assumption) (by omega) | exact t_mv (by assumption) (by assumption) hT9); (case B => k_asm); (case X => k_asm); (case T => k_asm); (case K => exact rfl); (case x => omega); (case y => omega); (case D => ktr_room); (case U => ktr_units); intro t9 h9 tk9 F9 N9)
  | ((with_reducible show wpAny _ _ (call (Value.ref 94) _) _ _ _); refine' lev_r ?B F' ?X N' ?T ?K ?x ?y ?D ?U ?_; (case B => k_asm); (case X => k_asm); (case T => k_asm); (case K => exact rfl); (case x => omega); (case y => omega); (case D => ktr_room); (case U => ktr_units); intro r9 t9 h9 tk9 hT9 F9 N9));
  (try dsimp only)))
local macro_rules | `(tactic| walk_at "go") => `(tactic| repeat' (first | walk_at "own call" | ((fail_if_success (with_reducible show wpAny _ _ (call (Value.ref _) _) _ _ _)); first | (k_unfold; (try dsimp only)) | (k_end; wrow_close) | walk1 | (dsimp only; walk1) | (leave1; walk_say "STEP leave1"; try dsimp only) | fail "no step")))
section
variable {fa lc : Addr} {w : World} {p : Program} {loose : List Str} {mean : ExcName → Option Value} {mg mb : Str → Option Value} {base h₀ : Heap} {s : Shared} {Q : Flow → Shared → Prop}
set_option maxRecDepth 100000 in
set_option maxHeartbeats 4000000 in
theorem law_good {L' : Addr} {o x : Str} {bd : Int} {to tx tb : Tok} {u : Str → Option Value} (ho : goodOp o) (hl5 : o.length = 5) (hx7 : x.length = 7) (hxs : 57344 ∉ lst x) (hb0 : 0 ≤ bd) (hb1 : bd < 30)
    (B : Below callerA base [] h₀) (XB : (Mine.hd.heap_39 w.params).In base) (TB : Top p loose mean mg mb base) (X : (Mine.hd.heap_39 w.params).In h₀) (T : Top p loose mean mg mb h₀)
    (F : Fr h₀ L' s.heap (kstB u [(Str.ofString "opening", .str o to), (Str.ofString "bound", .int bd tb), (Str.ofString "text", .str x tx)])) (N : News h₀ L' s.heap [])
    (ht1 : 1 ≤ s.toks) (ret : ∀ h' tk' m' news', Fr h₀ L' h' m' → News h₀ L' h' news' → Q (.ret (.bool true)) { s with heap := h', toks := tk' }) :
    wpAny (model PySem.Challenge.rw_rs0052_01.prog w) (callerA.deeper (envOfC (Str.ofString "law") (scopeAt PySem.Challenge.rw_rs0052_01.prog 20) L' fa (.ref lc)))
      (execs ((stmtsAt PySem.Challenge.rw_rs0052_01.prog 20).drop 4) (envOfC (Str.ofString "law") (scopeAt PySem.Challenge.rw_rs0052_01.prog 20) L' fa (.ref lc))) Q (fun _ _ => False) s := by
  rw [drop_split _ 4 13]
  refine execs_split ht1 ?_
  k_with_none
  w_top off
  have X0 := X
  revert X
  k_fill
  intro X
  conv in (occs := *) scopeAt _ _ => all_goals whnf
  conv in (occs := *) List.take _ _ => all_goals whnf
  dsimp only [kstB] at F
  have e1 := due_sub o x
  have e2 : (lst x).Sublist (lst (quoted x)) := sent_sub true x
  have e3 : (lst (dueOf o x)).Sublist (lst (quoted (dueOf o x))) := sent_sub true (dueOf o x)
  have e4 : (lst (quoted (dueOf o x))).Sublist (lst (quoted x)) := ahead_sub o x
  have e5 : (lst (dueOf o x)).Sublist (lst (quoted x)) := e1.trans e2
  have hc9 : lst (⟨#[Int.toNat 57344]⟩ : Str) = [57344] := rfl
  have hc8 : (⟨#[Int.toNat 57344]⟩ : Str).length = 1 := rfl
  have hn9 : 57344 ∉ lst (dueOf o x) := fun h => hxs (e1.subset h)
  walk_at "go"
  all_goals try (exfalso; first | (rename ¬ _ = _ => hne; exact absurd rfl hne) | (rename (bne _ _) = true => hb; rw [good_257 ho] at hb; simp at hb) | (rename (bne _ _) = true => hb; simp at hb) | (rename ite _ _ _ ≠ _ => hb; split at hb <;> omega))
  all_goals (rename Fr _ _ _ _ => F9; rename News _ _ _ _ => N9; (try dsimp only [List.take_zero]); refine wpAny_execs_nil ?_; (try dsimp only); intro ht; obtain ⟨u9, F8⟩ := fr_some [(Str.ofString "mail", .str (quoted x) _), (Str.ofString "name", .str (dueOf o x) _), (Str.ofString "bound", .int bd tb)] (by kst_all) F9; exact law_b e5 (by omega) (by omega) B X0 T ht F8 N9 fun h' tk' m' news' F' N' => ret h' tk' m' news' F' N')
end
end Mine
end
section
open PySem PySem.W PyProof.Rows
namespace Mine
section
variable {fa lc : Addr} {w : World} {p : Program} {loose : List Str} {mean : ExcName → Option Value} {mg mb : Str → Option Value} {dp un : Nat} {gd : Option (List Code)} {cn : Str} {cs : Scope} {a : Addr} {ccd : Value} {cl : List (Str × Addr)} {outer : List Env} {A₀ : Around} {base h₀ : Heap} {L : Addr} {m : Str → Option Value} {s : Shared} {news : List (Addr × Obj)} {Q E : Value → Shared → Prop}
theorem nameZ {x : Str} {to tx : Tok} (B : Below A₀ base outer h₀) (F : Fr h₀ L s.heap m) (X : (Mine.hd.heap_39 w.params).In h₀) (N : News h₀ L s.heap news) (T : Top p loose mean mg mb h₀) (hk : cs.kind = .function)
    (hl : op4.length ≤ 100) (hx : x.length ≤ 1000) (hroom : dp + 5 < recursionLimit) (hunits : un + 80 < cLine)
    (ret : ∀ (l : Addr) (t : Tok) (h' : Heap) (tk' : Nat), Fr h₀ L h' m → News h₀ L h' ((l, PySem.W.listOf #[.str (op4 ++ x) t] 0) :: news) → Q (.ref l) { s with heap := h', toks := tk' }) :
    wpAny (model PySem.Challenge.rw_rs0052_01.prog w) (ktrTop dp un gd cn cs L a ccd cl outer) (call (.ref 108) [.str op4 to, .str x tx]) Q E s := by
  refine name_r B F X N T hk hl hx hroom hunits (fun _ => ret) (fun h => ?_) (fun h => ?_)
  · rw [bad_257] at h
    simp at h
  · rw [bad_257] at h
    simp at h
theorem toldZ {y z : Str} {ty : Tok} (h257 : (Txt.slice y none (some 3) != Str.ofString "257") = true) (hz : y = z) (B : Below A₀ base [] h₀) (XB : (Mine.hd.heap_39 w.params).In base) (TB : Top p loose mean mg mb base) (F : Fr h₀ L s.heap m) (X : (Mine.hd.heap_39 w.params).In h₀) (N : News h₀ L s.heap news) (T : Top p loose mean mg mb h₀) (hk : cs.kind = .function)
    (hx : y.length ≤ 1000) (hroom : dp + 5 < recursionLimit) (hunits : un + 80 < cLine)
    (ret : ∀ (l : Addr) (t : Tok) (h' : Heap) (tk' : Nat), Fr h₀ L h' m → News h₀ L h' ((l, PySem.W.listOf #[.str z t] 0) :: news) → Q (.ref l) { s with heap := h', toks := tk' }) :
    wpAny (model PySem.Challenge.rw_rs0052_01.prog w) (ktrTop dp un gd cn cs L a ccd cl []) (call (.ref 101) [.str y ty]) Q E s := by
  subst hz
  exact told_x B XB TB F X N T hk hx h257 hroom hunits fun l h' tk' F' N' => ret l _ h' tk' F' N'
theorem eqS {prog : Program} {A : Around} {a b : Addr} {x : Str} {t u : Tok} {Q : Value → Shared → Prop} {E : Value → Shared → Prop} (hx : PyData.strOk x = true) (ha : s.heap.IsList a #[.str x t]) (hb : s.heap.IsList b #[.str x u]) (hu : A.units + 64 < cLine) (h : Q (.bool true) s) :
    wpAny (model prog w) A (compareOp .Eq (.ref a) (.ref b)) Q E s :=
  eq_dataH_same (reads_newData (ys := [.str x t]) ha (.cons (.str x t) .nil)) (reads_newData (ys := [.str x u]) hb (.cons (.str x u) .nil)) (by simp [SeqAt.shaped, PyData.canLay0, PyData.canLayAll0, PyData.depth, PyData.depthAll, hx]) (by simp [SeqAt.shaped, PyData.canLay0, PyData.canLayAll0, PyData.depth, PyData.depthAll, hx]) hu
    (SeqAt.noMix_of_shape (.list .str) rfl _ _ (list_map_has (l := [x]) (g := PyData.str) fun _ => rfl) (list_map_has (l := [x]) (g := PyData.str) fun _ => rfl)) (by rw [show (PySem.Spec.same (.list [.str x]) (.list [.str x])) = true from by simp [PySem.Spec.same, PySem.Spec.sameAll]]; exact h)
theorem neS {prog : Program} {A : Around} {a b : Addr} {x : Str} {t u : Tok} {Q : Value → Shared → Prop} {E : Value → Shared → Prop} (hx : PyData.strOk x = true) (ha : s.heap.IsList a #[.str x t]) (hb : s.heap.IsList b #[.str x u]) (hu : A.units + 64 < cLine) (h : Q (.bool false) s) :
    wpAny (model prog w) A (compareOp .NotEq (.ref a) (.ref b)) Q E s :=
  ne_dataH_same (reads_newData (ys := [.str x t]) ha (.cons (.str x t) .nil)) (reads_newData (ys := [.str x u]) hb (.cons (.str x u) .nil)) (by simp [SeqAt.shaped, PyData.canLay0, PyData.canLayAll0, PyData.depth, PyData.depthAll, hx]) (by simp [SeqAt.shaped, PyData.canLay0, PyData.canLayAll0, PyData.depth, PyData.depthAll, hx]) hu
    (SeqAt.noMix_of_shape (.list .str) rfl _ _ (list_map_has (l := [x]) (g := PyData.str) fun _ => rfl) (list_map_has (l := [x]) (g := PyData.str) fun _ => rfl)) (by rw [show (PySem.Spec.same (.list [.str x]) (.list [.str x])) = true from by simp [PySem.Spec.same, PySem.Spec.sameAll]]; exact h)
theorem strOk_of {x : Str} (h : ∀ c ∈ lst x, c < 55296) : PyData.strOk x = true := by
  unfold PyData.strOk
  rw [Array.all_eq_true_iff_forall_mem]
  intro c hc
  have := h c (Array.mem_toList_iff.mpr hc)
  exact decide_eq_true (by omega)
theorem crlf_mem : ∀ (l : List Nat) (c : Nat), c ∈ crlf l → c ∈ l ∨ c = 13 ∨ c = 10 := by
  intro l
  induction l using crlf.induct with
  | case1 => intro c h; simp [crlf] at h
  | case2 r ih => intro c h; rw [crlf] at h; simp only [List.mem_cons] at h ⊢; rcases h with h | h | h <;> first | (simp [h]; done) | (rcases ih c h with h | h | h <;> simp [h])
  | case3 k r h1 h2 ih =>
    intro c h; rw [crlf] at h
    · rw [if_pos h2] at h; simp only [List.mem_cons] at h ⊢; rcases h with h | h | h <;> first | (simp [h]; done) | (rcases ih c h with h | h | h <;> simp [h])
    · exact h1
  | case4 k r h1 h2 ih =>
    intro c h; rw [crlf] at h
    · rw [if_neg h2] at h; simp only [List.mem_cons] at h ⊢; rcases h with h | h <;> first | (simp [h]; done) | (rcases ih c h with h | h | h <;> simp [h])
    · exact h1
theorem dots_mem : ∀ (l : List Nat) (b : Bool) (c : Nat), c ∈ dots b l → c ∈ l ∨ c = 46
  | [], b, c, h => by cases b <;> simp [dots] at h
  | k :: r, b, c, h => by
    rw [dots] at h
    split at h
    · simp only [List.mem_cons] at h ⊢; rcases h with h | h | h <;> first | (simp [h]; done) | (rcases dots_mem r _ c h with h | h <;> simp [h])
    · simp only [List.mem_cons] at h ⊢; rcases h with h | h <;> first | (simp [h]; done) | (rcases dots_mem r _ c h with h | h <;> simp [h])
theorem sent_lo {x : Str} {b : Bool} (h : ∀ c ∈ lst x, c < 55296) : ∀ c ∈ lst (sentS b x), c < 55296 := by
  intro c hc
  rw [lst_sentS] at hc
  rcases dots_mem _ _ _ hc with hc | rfl
  · rcases crlf_mem _ _ hc with hc | rfl | rfl
    · exact h c hc
    · decide
    · decide
  · decide
theorem op4_lo {x : Str} (h : ∀ c ∈ lst x, c < 55296) : ∀ c ∈ lst (op4 ++ x), c < 55296 := by
  intro c hc
  rw [lst_app, lst_op4, List.mem_append] at hc
  rcases hc with hc | hc
  · revert hc; revert c; decide
  · exact h c hc
end
local macro_rules | `(tactic| walk_at "compareOp NotEq ref ref") => `(tactic| (
  (with_reducible show wpAny _ _ (compareOp CmpOp.NotEq (Value.ref _) (Value.ref _)) _ _ _);
  k_dflt (refine' neS ?h ?a ?b ?u ?_; (case a => is_list); (case b => is_list); (case h => with_reducible assumption); (case u => ke_room))))
local macro_rules | `(tactic| walk_at "compareOp Eq ref ref") => `(tactic| (
  (with_reducible show wpAny _ _ (compareOp CmpOp.Eq (Value.ref _) (Value.ref _)) _ _ _);
  k_dflt (refine' eqS ?h ?a ?b ?u ?_; (case a => is_list); (case b => is_list); (case h => with_reducible assumption); (case u => ke_room))))
local macro_rules | `(tactic| walk_at "own call") => `(tactic| (
  (with_reducible show wpAny _ _ (call (Value.ref _) _) _ _ _);
  (with_reducible rename Fr _ _ _ _ => F');
  (with_reducible rename News _ _ _ _ => N');
  k_dflt (first
  | ((with_reducible show wpAny _ _ (call (Value.ref 108) _) _ _ _); refine' nameZ ?B F' ?X N' ?T ?K ?x ?y ?D ?U ?_; (case B => k_asm); (case X => k_asm); (case T => k_asm); (case K => exact rfl); (case x => omega); (case y => omega); (case D => ktr_room); (case U => ktr_units); intro l9 t9 h9 tk9 F9 N9)
  | ((with_reducible show wpAny _ _ (call (Value.ref 101) _) _ _ _); refine' toldZ ?g ?h ?B ?XB ?TB F' ?X N' ?T ?K ?x ?D ?U ?_; (case g => with_reducible first | exact b3 _ | exact b1 _); (case h => with_reducible first | exact b4 _ | exact rfl); (case B => k_asm); (case XB => with_reducible assumption); (case TB => with_reducible assumption); (case X => k_asm); (case T => k_asm); (case K => exact rfl); (case x => omega); (case D => ktr_room); (case U => ktr_units); intro l9 t9 h9 tk9 F9 N9)
  | ((with_reducible show wpAny _ _ (call (Value.ref 48) _) _ _ _); refine' quote_q ?B F' ?X N' ?T ?K ?x ?D ?U ?_; (case B => k_asm); (case X => k_asm); (case T => k_asm); (case K => exact rfl); (case x => omega); (case D => ktr_room); (case U => ktr_units); intro t9 h9 tk9 l9 F9 N9)
  | ((with_reducible show wpAny _ _ (call (Value.ref 115) [_, Value.bool true]) _ _ _); refine' sent_true ?B F' ?X N' ?T ?K ?x ?D ?U ?_; (case B => k_asm); (case X => k_asm); (case T => k_asm); (case K => exact rfl); (case x => omega); (case D => ktr_room); (case U => ktr_units); intro t9 h9 tk9 F9 N9)
  | ((with_reducible show wpAny _ _ (call (Value.ref 115) _) _ _ _); refine' sent_q ?B F' ?X N' ?T ?K ?x ?D ?U ?_; (case B => k_asm); (case X => k_asm); (case T => k_asm); (case K => exact rfl); (case x => omega); (case D => ktr_room); (case U => ktr_units); intro t9 h9 tk9 l9 F9 N9)
  | ((with_reducible show wpAny _ _ (call (Value.ref 94) _) _ _ _); refine' lev_q ?g ?B F' ?X N' ?T ?K ?x ?y ?D ?U ?_; (case g => intro r9 hT9; with_reducible exact t_sup hT9 (by assumption) (by omega)); (case B => k_asm); (case X => k_asm); (case T => k_asm); (case K => exact rfl); (case x => omega); (case y => omega); (case D => ktr_room); (case U => ktr_units); intro t9 h9 tk9 F9 N9));
  (try dsimp only)))
local macro_rules | `(tactic| walk_at "go") => `(tactic| repeat' (first | walk_at "own call" | ((fail_if_success (with_reducible show wpAny _ _ (call (Value.ref _) _) _ _ _)); first | (k_unfold; (try dsimp only)) | (k_end; wrow_close) | walk1 | (dsimp only; walk1) | (leave1; walk_say "STEP leave1"; try dsimp only) | fail "no step")))
section
variable {fa lc : Addr} {w : World} {p : Program} {loose : List Str} {mean : ExcName → Option Value} {mg mb : Str → Option Value} {base h₀ : Heap} {s : Shared} {Q : Flow → Shared → Prop}
set_option maxRecDepth 100000 in
set_option maxHeartbeats 4000000 in
theorem law_bad {L' : Addr} {x : Str} {bd : Int} {to tx tb : Tok} {u : Str → Option Value} (hl5 : op4.length = 5) (hx7 : x.length = 7) (hlo : ∀ c ∈ lst x, c < 55296)
    (B : Below callerA base [] h₀) (XB : (Mine.hd.heap_39 w.params).In base) (TB : Top p loose mean mg mb base) (X : (Mine.hd.heap_39 w.params).In h₀) (T : Top p loose mean mg mb h₀)
    (F : Fr h₀ L' s.heap (kstB u [(Str.ofString "opening", .str op4 to), (Str.ofString "bound", .int bd tb), (Str.ofString "text", .str x tx)])) (N : News h₀ L' s.heap [])
    (ret : ∀ h' tk' m' news', Fr h₀ L' h' m' → News h₀ L' h' news' → Q (.ret (.bool true)) { s with heap := h', toks := tk' }) :
    wpAny (model PySem.Challenge.rw_rs0052_01.prog w) (callerA.deeper (envOfC (Str.ofString "law") (scopeAt PySem.Challenge.rw_rs0052_01.prog 20) L' fa (.ref lc)))
      (execs ((stmtsAt PySem.Challenge.rw_rs0052_01.prog 20).drop 4) (envOfC (Str.ofString "law") (scopeAt PySem.Challenge.rw_rs0052_01.prog 20) L' fa (.ref lc))) Q (fun _ _ => False) s := by
  k_with_none
  w_top off
  revert X
  k_fill
  intro X
  conv in (occs := *) scopeAt _ _ => all_goals whnf
  conv in (occs := *) List.drop _ _ => all_goals whnf
  dsimp only [kstB] at F
  have e2 : (lst x).Sublist (lst (quoted x)) := sent_sub true x
  have k1 : PyData.strOk (op4 ++ x) = true := strOk_of (op4_lo hlo)
  have k2 : PyData.strOk (op4 ++ sentS false x) = true := strOk_of (op4_lo (sent_lo hlo))
  walk_at "go"
  all_goals try (exfalso; first | (rename ¬ _ = _ => hne; exact absurd rfl hne) | (rename (bne _ _) = true => hb; simp at hb))
  all_goals (rename Fr _ _ _ _ => F9; rename News _ _ _ _ => N9; rw [beq_self_eq_true]; exact ret _ _ _ _ F9 N9)
end
end Mine
end
section
open PySem PySem.W PyProof.Rows
namespace Mine
section
variable {prog : Program} {w : World} {A : Around} {E : Value → Shared → Prop} {s : Shared} {h₀ : Heap} {L D : Addr} {news : List (Addr × Obj)}
theorem cell_item {value slice : PySem.Expr} {Q : Value → Shared → Prop} {ys : List Value} {k : Int} {u : Tok} {v : Value} (N : News h₀ L s.heap news) (hm : (D, LCg.lst ys) ∈ news) (h0 : 0 ≤ k) (hk : k ≤ 10) (hv : ys[k.toNat]? = some v) (h : Q v s)
    (hs : subscripted slice false (.ref D) (.int k u) = operate [.ref D, .int k u] (getItem (.ref D) (.int k u)) := by with_unfolding_all rfl) :
    wpAny (model prog w) A (subscriptTail value slice (.ref D) (.int k u)) Q E s := by
  have hl : s.heap.IsList D ys.toArray := PySem.IsL.isList (n := ys.length) (N _ hm).1
  exact tail_any hl.typeIs slot_list_getitem.lookup (wpAny_getItem_list hl h0 (by omega) (by rw [List.getElem?_toArray]; exact hv) h) hs
theorem op_item {value slice : PySem.Expr} {Q : Value → Shared → Prop} {k : Int} {u : Tok} {t0 t1 t2 t3 t4 t5 t6 : Tok} (N : News h₀ L s.heap news) (hm : (D, ({ cls := .type "tuple", data := .seq #[.str (Str.ofString "257 \"") t0, .str (Str.ofString "257 \"") t1, .str (Str.ofString "257 \"") t2, .str (Str.ofString "257 \"") t3, .str (Str.ofString "257-\"") t4, .str (Str.ofString "257 '") t5, .str (Str.ofString "250 \"") t6] } : Obj)) ∈ news) (h0 : 0 ≤ k) (hk : k < 7)
    (h : ∀ o t, o.length = 5 → goodOp o ∨ o = op4 → Q (.str o t) s)
    (hs : subscripted slice false (.ref D) (.int k u) = operate [.ref D, .int k u] (getItem (.ref D) (.int k u)) := by with_unfolding_all rfl) :
    wpAny (model prog w) A (subscriptTail value slice (.ref D) (.int k u)) Q E s := by
  have ht : IsTup s.heap D [Value.str (Str.ofString "257 \"") t0, .str (Str.ofString "257 \"") t1, .str (Str.ofString "257 \"") t2, .str (Str.ofString "257 \"") t3, .str (Str.ofString "257-\"") t4, .str (Str.ofString "257 '") t5, .str (Str.ofString "250 \"") t6].toArray := News.isTup N hm
  have l1 : op1.length = 5 := by decide +kernel
  have l2 : op2.length = 5 := by decide +kernel
  have l3 : op3.length = 5 := by decide +kernel
  have l4 : op4.length = 5 := by decide +kernel
  have hc : k = 0 ∨ k = 1 ∨ k = 2 ∨ k = 3 ∨ k = 4 ∨ k = 5 ∨ k = 6 := by omega
  rcases hc with rfl | rfl | rfl | rfl | rfl | rfl | rfl
  · exact item_tupleT (j := 0) ht (by decide) (by decide) rfl rfl (h op1 _ l1 (.inl (.inl rfl))) hs
  · exact item_tupleT (j := 1) ht (by decide) (by decide) rfl rfl (h op1 _ l1 (.inl (.inl rfl))) hs
  · exact item_tupleT (j := 2) ht (by decide) (by decide) rfl rfl (h op1 _ l1 (.inl (.inl rfl))) hs
  · exact item_tupleT (j := 3) ht (by decide) (by decide) rfl rfl (h op1 _ l1 (.inl (.inl rfl))) hs
  · exact item_tupleT (j := 4) ht (by decide) (by decide) rfl rfl (h op2 _ l2 (.inl (.inr (.inl rfl)))) hs
  · exact item_tupleT (j := 5) ht (by decide) (by decide) rfl rfl (h op3 _ l3 (.inl (.inr (.inr rfl)))) hs
  · exact item_tupleT (j := 6) ht (by decide) (by decide) rfl rfl (h op4 _ l4 (.inr rfl)) hs
end
local macro_rules | `(tactic| walk_at "own item") => `(tactic| first
  | ((with_reducible show wpAny _ _ (subscriptTail (Expr.Tuple _ _ _) _ (Value.ref _) (Value.int _ _)) _ _ _); (with_reducible rename News _ _ _ _ => N'); k_dflt (refine' op_item N' ?m ?a ?b ?_ ?d; (case m => exact List.Mem.head _); (case a => exact fmod_lo (by decide)); (case b => exact fmod_hi (by decide)); (case d => simp only [subscripted])); intro o9 t9 l9 g9)
  | ((with_reducible show wpAny _ _ (subscriptTail (Expr.Name (Str.ofString "cells") _) _ (Value.ref _) (Value.int _ _)) _ _ _); (with_reducible rename News _ _ _ _ => N'); k_dflt (refine' cell_item N' ?m ?a ?b ?c ?_ ?d; (case m => k_mem); (case a => decide); (case b => decide); (case c => exact rfl); (case d => with_unfolding_all rfl))))
local macro_rules | `(tactic| walk_at "go") => `(tactic| repeat' ((fail_if_success (with_reducible show wpAny _ _ (execs [] _) _ _ _)); first | walk_at "own item" | ((fail_if_success (with_reducible show wpAny _ _ (subscriptTail _ _ (Value.ref _) _) _ _ _)); first | walk1 | (dsimp only; walk1))))
section
variable {fa lc : Addr} {w : World} {p : Program} {loose : List Str} {mean : ExcName → Option Value} {mg mb : Str → Option Value} {base h₀ : Heap} {m : Str → Option Value} {s : Shared} {Q : Flow → Shared → Prop}
set_option maxRecDepth 100000 in
set_option maxHeartbeats 400000 in
theorem law_two {L' D : Addr} {cell : Obj} {c0 c1 c2 c3 c4 c5 c6 c7 : Int} {t0 t1 t2 t3 t4 t5 t6 t7 : Tok} (hc0 : 0 ≤ c7) (hc1 : c7 < 1000000)
    (B : Below callerA base [] h₀) (X : (Mine.hd.heap_39 w.params).In h₀) (T : Top p loose mean mg mb h₀)
    (F : Fr h₀ L' s.heap (fun z => if z = Str.ofString "cells" then some (.ref D) else m z)) (N : News h₀ L' s.heap [(D, LCg.lst [.int c0 t0, .int c1 t1, .int c2 t2, .int c3 t3, .int c4 t4, .int c5 t5, .int c6 t6, .int c7 t7]), (L' + 1, cell)])
    (ret : ∀ o bd to tb h' tk' u, o.length = 5 → (goodOp o ∨ o = op4) → 0 ≤ bd → bd < 30 → 1 ≤ tk' → Fr h₀ L' h' (kstB u [(Str.ofString "opening", .str o to), (Str.ofString "bound", .int bd tb), (Str.ofString "cells", .ref D)]) → News h₀ L' h' [(D, LCg.lst [.int c0 t0, .int c1 t1, .int c2 t2, .int c3 t3, .int c4 t4, .int c5 t5, .int c6 t6, .int c7 t7])] → Q .next { s with heap := h', toks := tk' }) :
    wpAny (model PySem.Challenge.rw_rs0052_01.prog w) (callerA.deeper (envOfC (Str.ofString "law") (scopeAt PySem.Challenge.rw_rs0052_01.prog 20) L' fa (.ref lc)))
      (execs (((stmtsAt PySem.Challenge.rw_rs0052_01.prog 20).drop 1).take 2) (envOfC (Str.ofString "law") (scopeAt PySem.Challenge.rw_rs0052_01.prog 20) L' fa (.ref lc))) Q (fun _ _ => False) s := by
  k_with_none
  w_top off
  revert X
  k_fill
  intro X
  conv in (occs := *) scopeAt _ _ => all_goals whnf
  conv in (occs := *) List.drop _ _ => all_goals whnf
  simp only [List.take_succ_cons, List.take_zero]
  walk_at "go"
  all_goals ((rename Fr _ _ _ _ => F9); (rename News _ _ _ _ => N9))
  all_goals (obtain ⟨u9, F8⟩ := fr_some [(Str.ofString "opening", .str _ _), (Str.ofString "bound", .int _ _), (Str.ofString "cells", .ref D)] (by kst_all) F9)
  all_goals (refine wpAny_execs_nil ?_; refine ret _ _ _ _ _ _ _ (by assumption) (by assumption) ?_ ?_ ?_ F8 (cb_drop N9 fun p hp => List.mem_cons_of_mem _ (by rw [List.mem_singleton.mp hp]; exact .head _)))
  · exact fmod_lo (by decide)
  · exact fmod_hi (by decide)
  · dsimp only; omega
end
end Mine
end
section
open PySem PySem.W PyProof.Rows
namespace Mine
def elt3 : Stmt → Expr
  | .Assign _ (.Call _ [.ListComp e _ _ _] _ _) _ => e
  | _ => default
def sco3 : Stmt → Scope
  | .Assign _ (.Call _ [.ListComp _ _ s _] _ _) _ => s
  | _ => default
section
variable {prog : Program} {w : World} {A : Around} {E : Value → Shared → Prop} {s : Shared} {Q : Value → Shared → Prop}
theorem sign_lst : lst (Str.ofString "\"\"..\n\x0da") = [34, 34, 46, 46, 10, 13, 97] := by decide +kernel
theorem sign_item {value slice : Expr} {k : Int} {t u : Tok} (h0 : 0 ≤ k) (h1 : k < 7) (h : ∀ d v, d < 55296 → Q (.str ⟨#[d]⟩ v) { s with toks := s.toks + 1 })
    (hs : subscripted slice false (.str (Str.ofString "\"\"..\n\x0da") t) (.int k u) = operate [.str (Str.ofString "\"\"..\n\x0da") t, .int k u] (getItem (.str (Str.ofString "\"\"..\n\x0da") t) (.int k u)))
    (ht : ∀ r, letTemporaryGo value (.str (Str.ofString "\"\"..\n\x0da") t) r = pure ()) :
    wpAny (model prog w) A (subscriptTail value slice (.str (Str.ofString "\"\"..\n\x0da") t) (.int k u)) Q E s := by
  have hl : (Str.ofString "\"\"..\n\x0da").length = 7 := by rw [← lst_length, sign_lst]; rfl
  obtain ⟨d, _, e, hd⟩ := item_cons (x := Str.ofString "\"\"..\n\x0da") h0 (by rw [hl]; exact h1)
  refine item_str (fitsSsize_of (N := 9223372036854775808) (by omega) (by omega) (Int.le_refl _)) (by omega) (by rw [hl]; exact h1) (fun _ => ?_) hs ht
  rw [e]
  refine h d _ ?_
  have hm := List.mem_of_getElem? hd
  rw [sign_lst] at hm
  have hall : ∀ d ∈ [34, 34, 46, 46, 10, 13, 97], d < 55296 := by decide
  exact hall d hm
end
local macro_rules | `(tactic| walk_at "own sign") => `(tactic| ((with_reducible show wpAny _ _ (subscriptTail (Expr.Constant _ _ _) _ (Value.str _ _) (Value.int _ _)) _ _ _); k_dflt (refine' sign_item ?a ?b ?_ ?d ?e; (case a => exact fmod_lo (by decide)); (case b => with_reducible assumption); (case d => simp only [subscripted]); (case e => intro _; rfl)); intro d9 u9 l9))
local macro_rules | `(tactic| walk_at "go") => `(tactic| repeat' (first | walk_at "own sign" | ((fail_if_success (with_reducible show wpAny _ _ (subscriptTail _ _ _ _) _ _ _)); walk1)))
section
variable {fa lc : Addr} {w : World} {p : Program} {loose : List Str} {mean : ExcName → Option Value} {mg mb : Str → Option Value} {base h₀ : Heap} {m : Str → Option Value} {s : Shared} {Q E : Value → Shared → Prop}
set_option maxRecDepth 100000 in
set_option maxHeartbeats 400000 in
theorem elt3_w {L' I C D : Addr} {oI oC : Obj} {ys : List Value} {m₂ : Str → Option Value} {news : List (Addr × Obj)} {c : Int} {t : Tok}
    (X : (Mine.hd.heap_39 w.params).In h₀) (T : Top p loose mean mg mb h₀) (F : Fr h₀ L' s.heap m) (N : News h₀ L' s.heap ((I, oI) :: (C, oC) :: (D, LCg.lst ys) :: news)) (hC : LCg.NsObj oC m₂) (hx : m₂ (Str.ofString "x") = some (.int c t))
    (hQ : ∀ d u h' tk', d < 55296 → Fr h₀ L' h' m → News h₀ L' h' ((I, oI) :: (C, oC) :: (D, LCg.lst ys) :: news) → Q (.str ⟨#[d]⟩ u) { s with heap := h', toks := tk' }) :
    wpAny (model PySem.Challenge.rw_rs0052_01.prog w) (callerA.deeper (envOfC (Str.ofString "law") (scopeAt PySem.Challenge.rw_rs0052_01.prog 20) L' fa (.ref lc)))
      (eval (elt3 (stmtAt PySem.Challenge.rw_rs0052_01.prog 20 3)) (compEnvC (sco3 (stmtAt PySem.Challenge.rw_rs0052_01.prog 20 3)) [] C (envOfC (Str.ofString "law") (scopeAt PySem.Challenge.rw_rs0052_01.prog 20) L' fa (.ref lc)))) Q E s := by
  k_with_none
  w_top off
  revert X
  k_fill
  intro X
  conv in (occs := *) scopeAt _ _ => all_goals whnf
  conv in (occs := *) elt3 _ => all_goals whnf
  conv in (occs := *) sco3 _ => all_goals whnf
  walk_at "go"
  all_goals ((rename Fr _ _ _ _ => F9); (rename News _ _ _ _ => N9))
  · exact hQ _ _ _ _ (by assumption) F9 N9
  · refine hQ _ _ _ _ ?_ F9 N9
    have h1 := fmod_lo (a := c.fdiv 8) (b := 55296) (by decide)
    have h2 := fmod_hi (a := c.fdiv 8) (b := 55296) (by decide)
    omega
theorem ints_item {l : List Value} {ns : List Int} (h : IntsAre l ns) {i : Nat} {v : Value} (e : l.toArray[i]? = some v) : ∃ c t, v = .int c t := by
  obtain ⟨k, t, e', _⟩ := IntsAre.at h i v (by simpa using e)
  exact ⟨k, t, e'⟩
/-- signs joined -/
theorem join_signs : ∀ (l : List (Str × Tok)), (∀ q ∈ l, ∃ d, q.1 = ⟨#[d]⟩ ∧ d < 55296) → ∀ sep : Str, sep.length = 0 → (Txt.join sep (l.map (·.1))).length = l.length ∧ ∀ c ∈ lst (Txt.join sep (l.map (·.1))), c < 55296 := by
  intro l hl sep hsep
  have hs : lst sep = [] := List.length_eq_zero_iff.mp (by rw [lst_length]; exact hsep)
  have key : ∀ (l : List (Str × Tok)), (∀ q ∈ l, ∃ d, q.1 = ⟨#[d]⟩ ∧ d < 55296) → (joinL [] ((l.map (·.1)).map lst)).length = l.length ∧ ∀ c ∈ joinL [] ((l.map (·.1)).map lst), c < 55296 := by
    intro l
    induction l with
    | nil => intro _; simp [joinL]
    | cons q r ih =>
      intro h
      obtain ⟨d, hd, hd2⟩ := h q (.head _)
      obtain ⟨h1, h2⟩ := ih fun x hx => h x (.tail _ hx)
      have hq : lst q.1 = [d] := by rw [hd]; rfl
      cases r with
      | nil => simp [joinL, hq, hd2]
      | cons a r =>
        rw [List.map_cons, List.map_cons, joinL_cons [] _ (by simp), hq]
        constructor
        · simp only [List.length_append, List.length_cons, List.length_nil, h1]; omega
        · intro c hc
          simp only [List.append_nil, List.singleton_append, List.mem_cons] at hc
          rcases hc with rfl | hc
          · exact hd2
          · exact h2 c hc
  rw [← lst_length, txt_join, hs]
  exact key l hl
theorem sig_vals : ∀ (ys : List Value), (∀ y ∈ ys, ∃ d u, y = .str ⟨#[d]⟩ u ∧ d < 55296) → ∃ l : List (Str × Tok), strValues l = ys ∧ (∀ q ∈ l, ∃ d, q.1 = ⟨#[d]⟩ ∧ d < 55296) ∧ l.length = ys.length ∧ ((l.map (·.1)).map (·.length)).sum = l.length
  | [], _ => ⟨[], rfl, (fun _ h => nomatch h), rfl, rfl⟩
  | y :: r, h => by
    obtain ⟨d, u, e, hd⟩ := h y (.head _)
    obtain ⟨l, h1, h2, h3, h4⟩ := sig_vals r fun z hz => h z (.tail _ hz)
    refine ⟨(⟨#[d]⟩, u) :: l, ?_, ?_, by simp [h3], ?_⟩
    · rw [e, ← h1]; rfl
    · intro q hq
      rcases List.mem_cons.mp hq with rfl | hq
      · exact ⟨d, rfl, hd⟩
      · exact h2 q hq
    · simp only [List.map_cons, List.sum_cons, List.length_cons, h4]
      show 1 + _ = _
      omega
theorem join_sig {prog : Program} {A : Around} {D : Addr} {ys : List Value} {t : Tok} (hl : s.heap.IsList D ys.toArray) (hy : ∀ y ∈ ys, ∃ d u, y = .str ⟨#[d]⟩ u ∧ d < 55296) (hn : ys.length = 7)
    (h : ∀ x t' k, x.length = 7 → (∀ c ∈ lst x, c < 55296) → Q (.str x t') { s with toks := k }) : wpAny (model prog w) A (call (.builtin "str.join") [.str (Str.ofString "") t, .ref D]) Q E s := by
  obtain ⟨l, h1, h2, h3, h4⟩ := sig_vals ys hy
  have hz : (Str.ofString "").length = 0 := by decide
  obtain ⟨h5, h6⟩ := join_signs l h2 (Str.ofString "") hz
  refine SC.join (l := l) (texts := l.map (·.1)) (by rw [h1]; exact hl) rfl (joinOk_of (by rw [h4, hz, h3, hn, Nat.mul_zero]; decide)) fun t' k => h _ t' k (by rw [h5, h3, hn]) h6
set_option maxRecDepth 100000 in
set_option maxHeartbeats 400000 in
theorem text_st {L' D : Addr} {c0 c1 c2 c3 c4 c5 c6 c7 : Int} {t0 t1 t2 t3 t4 t5 t6 t7 : Tok} {u : Str → Option Value} {o : Str} {bd : Int} {to tb : Tok} {Q : Flow → Shared → Prop}
    (B : Below callerA base [] h₀) (X : (Mine.hd.heap_39 w.params).In h₀) (T : Top p loose mean mg mb h₀)
    (F : Fr h₀ L' s.heap (kstB u [(Str.ofString "opening", .str o to), (Str.ofString "bound", .int bd tb), (Str.ofString "cells", .ref D)])) (N : News h₀ L' s.heap [(D, LCg.lst [.int c0 t0, .int c1 t1, .int c2 t2, .int c3 t3, .int c4 t4, .int c5 t5, .int c6 t6, .int c7 t7])])
    (ret : ∀ x tx h' tk' u', x.length = 7 → (∀ c ∈ lst x, c < 55296) → Fr h₀ L' h' (kstB u' [(Str.ofString "opening", .str o to), (Str.ofString "bound", .int bd tb), (Str.ofString "text", .str x tx)]) → News h₀ L' h' [] → Q .next { s with heap := h', toks := tk' }) :
    wpAny (model PySem.Challenge.rw_rs0052_01.prog w) (callerA.deeper (envOfC (Str.ofString "law") (scopeAt PySem.Challenge.rw_rs0052_01.prog 20) L' fa (.ref lc)))
      (exec (stmtAt PySem.Challenge.rw_rs0052_01.prog 20 3) (envOfC (Str.ofString "law") (scopeAt PySem.Challenge.rw_rs0052_01.prog 20) L' fa (.ref lc))) Q (fun _ _ => False) s := by
  k_with_none
  w_top off
  have X0 := X
  revert X
  k_fill
  intro X
  conv in (occs := *) stmtAt _ _ _ => all_goals whnf
  dsimp only [kstB] at F
  iterate 8 (try ((fail_if_success (with_reducible show wpAny _ _ (eval (Expr.ListComp _ _ _ _) _) _ _ _)); walk1))
  refine' LCg.ListComp_U (cl := []) F (by with_unfolding_all rfl) (by decide) (by rfl) (by decide) (by rfl) ?_
  iterate 9 (try ((fail_if_success (with_reducible show LCg.CompSrc _ _ _ _ _ _ _ _ _ _ _ _ _ _)); walk1))
  (rename Fr _ _ _ _ => F8); (rename News _ _ _ _ => N8)
  refine' LCg.CompSrc.ledger rfl F8 N8 (.head _) ?sz (fun g => comp_rel (fun y => ∃ d u, y = .str ⟨#[d]⟩ u ∧ d < 55296) ?turn ?fin)
  case sz => show 7 ≤ sizeLine; decide
  case turn =>
    intro i v I oI C oC D2 m₂ ys h tk E' hi hv hC hx F' N' off ne
    obtain ⟨c, t, rfl⟩ : ∃ c t, v = .int c t := int_at (l := [.int c0 t0, .int c1 t1, .int c2 t2, .int c3 t3, .int c4 t4, .int c5 t5, .int c6 t6]) (by simp) i v hv
    refine elt3_w X0 T F' N' hC hx ?_
    intro d u h' tk' hd F9 N9
    exact ⟨h', tk', _, rfl, F9, N9, off, .inr ⟨_, .head _, rfl, _, rfl⟩, rfl, d, u, rfl, hd⟩
  case fin =>
    intro ys hl hy
    intro D2 h tk F7 N7 o7
    dsimp only
    iterate 4 (try ((fail_if_success (with_reducible show wpAny _ _ (call _ _) _ _ _)); walk1))
    refine join_sig (PySem.IsL.isList (n := ys.length) (N7 _ (.head _)).1) hy (hl.trans rfl) ?_
    intro x t' k hx7 hlo
    dsimp only
    k_steps
    (rename Fr _ _ _ _ => F9); (rename News _ _ _ _ => N9)
    obtain ⟨u9, F5⟩ := fr_some [(Str.ofString "opening", .str o to), (Str.ofString "bound", .int bd tb), (Str.ofString "text", .str x _)] (by kst_all) F9
    exact ret _ _ _ _ _ hx7 hlo F5 (cb_drop N9 fun _ h => nomatch h)
end
end Mine
end
section
open PySem PySem.W PyProof.Rows
namespace Mine
section
variable {M : Model} {A : Around} {env : Env} {E : Value → Shared → Prop} {s : Shared} {Q : Flow → Shared → Prop}
theorem execs_app {l1 l2 : List Stmt} (h : wpAny M A (execs l1 env) (fun f s' => match f with | .next => wpAny M A (execs l2 env) Q E s' | f => Q f s') E s) : wpAny M A (execs (l1 ++ l2) env) Q E s :=
  fun Γ p hΓ => wp_execs_app Γ hΓ l1 l2 p s (h Γ p hΓ)
theorem drop_one (l : List Stmt) (k : Nat) (h : k < l.length) : l.drop k = (l[k]?).getD default :: l.drop (k + 1) := by
  rw [List.drop_eq_getElem_cons h, List.getElem?_eq_getElem h]; rfl
theorem eight {ys : List Value} (h : ys.length = 8) : ∃ a b c d e f g i, ys = [a, b, c, d, e, f, g, i] := by
  match ys, h with
  | [a, b, c, d, e, f, g, i], _ => exact ⟨a, b, c, d, e, f, g, i, rfl⟩
end
end Mine
end
section
open PySem PySem.W PyProof.Rows
namespace Mine
section
variable {fa lc : Addr} {w : World} {p : Program} {loose : List Str} {mean : ExcName → Option Value} {mg mb : Str → Option Value} {base h₀ : Heap} {m : Str → Option Value} {s : Shared} {Q : Flow → Shared → Prop}
set_option maxRecDepth 100000 in
set_option maxHeartbeats 4000000 in
theorem law_chain {L' S : Addr} {cell : Obj} {vs : List Value} {ns : List Int}
    (B : Below callerA base [] h₀) (XB : (Mine.hd.heap_39 w.params).In base) (TB : Top p loose mean mg mb base) (X : (Mine.hd.heap_39 w.params).In h₀) (T : Top p loose mean mg mb h₀)
    (F : Fr h₀ L' s.heap m) (N : News h₀ L' s.heap [(L' + 1, cell)]) (hcell : cell.data = .cell (some (.ref S))) (hl : h₀.IsList S vs.toArray) (hi : IntsAre vs ns) (hlen : ns.length ≤ 63)
    (ret : ∀ h' tk' m' news', Fr h₀ L' h' m' → News h₀ L' h' news' → Q (.ret (.bool true)) { s with heap := h', toks := tk' }) :
    wpAny (model PySem.Challenge.rw_rs0052_01.prog w) (callerA.deeper (envOfC (Str.ofString "law") (scopeAt PySem.Challenge.rw_rs0052_01.prog 20) L' fa (.ref lc)))
      (execs (stmtsAt PySem.Challenge.rw_rs0052_01.prog 20) (envOfC (Str.ofString "law") (scopeAt PySem.Challenge.rw_rs0052_01.prog 20) L' fa (.ref lc))) Q (fun _ _ => False) s := by
  have hn : (stmtsAt PySem.Challenge.rw_rs0052_01.prog 20).length = 21 := by rfl
  rw [show stmtsAt PySem.Challenge.rw_rs0052_01.prog 20 = (stmtsAt PySem.Challenge.rw_rs0052_01.prog 20).drop 0 from rfl, drop_one _ 0 (by rw [hn]; decide)]
  refine wpAny_execs_cons (cells_st X T F N hcell hl hi hlen ?_)
  intro D ys h1 tk1 hys hc F1 N1 _
  obtain ⟨y0, y1, y2, y3, y4, y5, y6, y7, rfl⟩ := eight hys
  obtain ⟨c0, t0, rfl, _⟩ := hc 0 y0 rfl
  obtain ⟨c1, t1, rfl, _⟩ := hc 1 y1 rfl
  obtain ⟨c2, t2, rfl, _⟩ := hc 2 y2 rfl
  obtain ⟨c3, t3, rfl, _⟩ := hc 3 y3 rfl
  obtain ⟨c4, t4, rfl, _⟩ := hc 4 y4 rfl
  obtain ⟨c5, t5, rfl, _⟩ := hc 5 y5 rfl
  obtain ⟨c6, t6, rfl, _⟩ := hc 6 y6 rfl
  obtain ⟨c7, t7, rfl, h70, h71⟩ := hc 7 y7 rfl
  clear hc hys
  show wpAny _ _ (execs ((stmtsAt PySem.Challenge.rw_rs0052_01.prog 20).drop 1) _) Q _ _
  rw [drop_split _ 1 2]
  refine execs_app (law_two h70 h71 B X T F1 N1 ?_)
  intro o bd to tb h2 tk2 u2 hl5 ho hb0 hb1 ht2 F2 N2
  show wpAny _ _ (execs ((stmtsAt PySem.Challenge.rw_rs0052_01.prog 20).drop 3) _) Q _ _
  rw [drop_one _ 3 (by rw [hn]; decide)]
  refine wpAny_execs_cons (wpAny_toks (text_st B X T F2 N2 ?_))
  intro x tx h3 tk3 u3 hx7 hlo F3 N3 hle
  have ht3 : 1 ≤ tk3 := Nat.le_trans ht2 hle
  show wpAny _ _ (execs ((stmtsAt PySem.Challenge.rw_rs0052_01.prog 20).drop 4) _) Q _ _
  rcases ho with ho | rfl
  · exact law_good ho hl5 hx7 (fun h => absurd (hlo _ h) (by decide)) hb0 hb1 B XB TB X T F3 N3 ht3 fun h' tk' m' news' F' N' => ret h' tk' m' news' F' N'
  · exact law_bad hl5 hx7 hlo B XB TB X T F3 N3 fun h' tk' m' news' F' N' => ret h' tk' m' news' F' N'
end
end Mine
end
section
open PySem PySem.W PyProof.Rows
namespace Mine
set_option maxRecDepth 100000 in
set_option maxHeartbeats 4000000 in
theorem law_t : PySem.Challenge.rw_rs0052_01.Holds := by
  refine hd ?_
  k_go0
  rename Shared => s1
  rename Heap => h1
  (rename Top _ _ _ _ _ _ => T9); (rename Below _ _ _ _ => B9); (rename Frag.In _ _ => X9); (rename Fr _ _ _ _ => F9); (rename News _ _ _ _ => N9); (rename IntsAre _ _ => hI); (rename Heap.IsList _ _ _ => hL); (rename Obj.data _ = _ => right9); (rename ¬ _ < _ => hcond)
  have key := fun Q fa lc tk => law_chain (Q := Q) (fa := fa) (lc := lc) (h₀ := s1.heap) (base := s1.heap) (L' := s1.heap.objs.size) (s := { s1 with heap := h1, toks := tk }) B9 X9 T9 X9 T9 F9 N9 (right9.trans rfl) hL hI (by omega)
  refine wpAny_mono (key (fun fl s' => fl = Flow.ret (.bool true) ∧ ∃ h' tk' m' news', s' = { s1 with heap := h', toks := tk' } ∧ Fr s1.heap s1.heap.objs.size h' m' ∧ News s1.heap s1.heap.objs.size h' news') _ _ _ (fun h' tk' m' news' F' N' => ⟨rfl, h', tk', m', news', rfl, F', N'⟩)) ?_ (fun _ _ h => h.elim)
  rintro fl s' ⟨rfl, h', tk', m', news', rfl, F', N'⟩
  dsimp only
  k_end
  wrow_close
end Mine
end
theorem PySem.Challenge.cw_rs0052_01_holds : PySem.Challenge.rw_rs0052_01.Holds := by
  exact Mine.law_t
