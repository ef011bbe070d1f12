import PyProof.Rows.All
import Wide.All
import OpenK.AllK
import Wide.FinOn
import KE.KLcPair
import Lean
import PySem.Challenge.RW_rs0052_03
set_option Elab.async false
set_option compiler.extract_closed false
section
open PySem PySem.W PyProof.Rows
namespace Mine
def CutQ (h₀ : Heap) (L : Addr) (m : Str → Option Value) (news : List (Addr × Obj)) (s : Shared) (P : Value → Prop) (v : Value) (s' : Shared) : Prop :=
  ∃ h' tk', s' = { s with heap := h', toks := tk' } ∧ Fr h₀ L h' m ∧ News h₀ L h' news ∧ P v
theorem cutQ_mk {h₀ : Heap} {L : Addr} {m : Str → Option Value} {news : List (Addr × Obj)} {s : Shared} {P : Value → Prop} {v : Value} {h' : Heap} {tk' : Nat} (F : Fr h₀ L h' m) (N : News h₀ L h' news) (p : P v) : CutQ h₀ L m news s P v { s with heap := h', toks := tk' } := ⟨h', tk', rfl, F, N, p⟩
theorem cut_val {M : Model} {A : Around} {E : Value → Shared → Prop} {s : Shared} {t : Sem Value} {Q : Value → Shared → Prop} {h₀ : Heap} {L : Addr} {m : Str → Option Value} {news : List (Addr × Obj)} (P : Value → Prop)
    (_F : Fr h₀ L s.heap m) (_N : News h₀ L s.heap news) (now : wpAny M A t (CutQ h₀ L m news s P) E s)
    (later : ∀ v h' tk', P v → Fr h₀ L h' m → News h₀ L h' news → Q v { s with heap := h', toks := tk' }) : wpAny M A t Q E s :=
  wpAny_mono now (fun v s' h => by obtain ⟨h', tk', rfl, F', N', p⟩ := h; exact later v h' tk' p F' N') fun _ _ h => h

def WOut {σ : Type} (h₀ : Heap) (L : Addr) (s : Shared) (Led : σ → List (Addr × Obj)) (ps : σ → List (Str × Value)) (stored : List Str) (m₀ : Str → Option Value) (X : σ → Prop) (f : Flow) (s₂ : Shared) : Prop :=
  f = .next ∧ ∃ (c : σ) (h : Heap) (tk : Nat) (m' : Str → Option Value) (news' : List (Addr × Obj)), s₂ = { s with heap := h, toks := tk } ∧ Fr h₀ L h m' ∧ News h₀ L h news' ∧ (∀ p ∈ Led c, p ∈ news') ∧ (∀ p ∈ ps c, m' p.1 = some p.2) ∧ (∀ z, (∀ p ∈ ps c, z ≠ p.1) → stored.contains z = false → m' z = m₀ z) ∧ X c
theorem wout_mk {σ : Type} {h₀ : Heap} {L : Addr} {s : Shared} {Led : σ → List (Addr × Obj)} {ps : σ → List (Str × Value)} {stored : List Str} {m₀ : Str → Option Value} {X : σ → Prop} {h : Heap} {tk : Nat} {m' : Str → Option Value} {news' : List (Addr × Obj)} (c : σ)
    (F : Fr h₀ L h m') (N : News h₀ L h news') (hn : ∀ p ∈ Led c, p ∈ news') (hk : ∀ p ∈ ps c, m' p.1 = some p.2) (hr : ∀ z, (∀ p ∈ ps c, z ≠ p.1) → stored.contains z = false → m' z = m₀ z) (hx : X c) :
    WOut h₀ L s Led ps stored m₀ X .next { s with heap := h, toks := tk } := ⟨rfl, c, h, tk, m', news', rfl, F, N, hn, hk, hr, hx⟩
theorem while_cut {σ : Type} {prog : Program} {w : World} {A : Around} {E : Value → Shared → Prop} {Q : Flow → Shared → Prop} {s : Shared} {env : Env} {h₀ : Heap} {L : Addr} {test : Expr} {body : List Stmt} {pos : Pos} {m₀ : Str → Option Value}
    (Led : σ → List (Addr × Obj)) (ps : σ → List (Str × Value)) (stored : List Str) (P X : σ → Prop) (μ : σ → Nat) (c₀ : σ)
    (F : Fr h₀ L s.heap m₀) (N : News h₀ L s.heap (Led c₀)) (hk : ∀ p ∈ ps c₀, m₀ p.1 = some p.2) (hp : P c₀)
    (done : ∀ c (u : Str → Option Value) h tk, X c → Fr h₀ L h (kstB (fun z => if stored.contains z then u z else m₀ z) (ps c)) → News h₀ L h (Led c) → Q .next { s with heap := h, toks := tk })
    (turn : ∀ (c : σ) (u : Str → Option Value) h tk, P c → Fr h₀ L h (kstB (fun z => if stored.contains z then u z else m₀ z) (ps c)) → News h₀ L h (Led c) →
      wpAny (model prog w) A (isTrue test env (eval test env)) (fun b s₂ =>
        if b = true then wpAny (model prog w) A (execs body env) (KswPost h₀ L s Led ps (fun _ => True) stored m₀ P μ (WOut h₀ L s Led ps stored m₀ X) c) E s₂ else WOut h₀ L s Led ps stored m₀ X .next s₂) E { s with heap := h, toks := tk })
    (hE : PassesOwn (model prog w) A env E := by passes_own) :
    wpAny (model prog w) A (exec (.While test body [] pos) env) Q E s := by
  refine wpAny_mono (ksw_while (Q := WOut h₀ L s Led ps stored m₀ X) Led ps (fun _ => True) stored P μ c₀ F N trivial hk hp (fun c u h tk _ hP hF hN => turn c u h tk hP hF hN) hE) ?_ fun _ _ h => h
  rintro f s' ⟨rfl, c, h, tk, m', news', rfl, F', N', hn, h1, h2, hX⟩
  exact done c m' h tk hX (ksw_fr h1 h2 F') fun p hp => N' p (hn p hp)
theorem stmt_cut {σ : Type} {M : Model} {A : Around} {E : Value → Shared → Prop} {Q : Flow → Shared → Prop} {s : Shared} {t : Sem Flow} {h₀ : Heap} {L : Addr} {m₀ : Str → Option Value}
    (Led : σ → List (Addr × Obj)) (ps : σ → List (Str × Value)) (stored : List Str) (X : σ → Prop) (_F : Fr h₀ L s.heap m₀)
    (now : wpAny M A t (WOut h₀ L s Led ps stored m₀ X) E s)
    (done : ∀ c (u : Str → Option Value) h tk, X c → Fr h₀ L h (kstB (fun z => if stored.contains z then u z else m₀ z) (ps c)) → News h₀ L h (Led c) → Q .next { s with heap := h, toks := tk }) :
    wpAny M A t Q E s := by
  refine wpAny_mono now ?_ fun _ _ h => h
  rintro f s' ⟨rfl, c, h, tk, m', news', rfl, F', N', hn, h1, h2, hX⟩
  exact done c m' h tk hX (ksw_fr h1 h2 F') fun p hp => N' p (hn p hp)
end Mine
end
section
open PySem PySem.W PyProof.Rows
set_option maxRecDepth 100000
namespace Mine
section
variable {prog : Program} {w : World} {A : Around} {E : Value → Shared → Prop} {s : Shared}
theorem tup_next {it t : Addr} {i : Nat} {items : Array Value} {x : Value} {Q : Value → Shared → Prop} (hit : s.heap.IsTupleIter it t i) (ht : s.heap.IsTuple t items) (hx : items[i]? = some x)
    (hQ : ∀ h', h'.IsTupleIter it t (i + 1) → Heap.SameBut it s.heap h' → Q x { s with heap := h' }) :
    wpAny (model prog w) A (Builtin.SmallTypes.nextOf (.ref it)) Q E s := by
  obtain ⟨o, ho, hc, hd⟩ := id hit
  obtain ⟨ol, hol, _, nl, hdl⟩ := ht
  unfold Builtin.SmallTypes.nextOf
  refine wpAny_bind (wpAny_callSpecial?_slot (name := Str.ofString "__next__") hit.typeIs F.slot_tuple_iterator_next
    (wpAny_call_entry F.slot_tuple_iterator_next hit.typeIs F.entry_tuple_iterator_next ?_ (F.args_tuple_iterator_next_1 _)))
  show wpAny _ _ (field (.ref it) 0 >>= _) _ _ s
  refine wpAny_bind (wpAny_field ho hd (x := .ref t) rfl ?_)
  show wpAny _ _ (if (Value.ref t == Value.none) = true then _ else _) _ _ s
  rw [if_neg (show ¬ ((Value.ref t == Value.none) = true) from Bool.false_ne_true)]
  show wpAny _ _ (field (.ref it) 1 >>= _) _ _ s
  refine wpAny_bind (wpAny_field ho hd (x := .int i 0) rfl ?_)
  show wpAny _ _ (seqItems? (.ref t) >>= _) _ _ s
  refine wpAny_bind (wpAny_seqItems hol hdl ?_)
  simp only [Int.toNat_natCast, hx]
  refine wpAny_bind (wpAny_setField ho hd (by simp) (wpAny_pure ⟨x, rfl, wpAny_pure (hQ _ ?_ (Heap.SameBut.update ..))⟩))
  exact ⟨_, Heap.get?_update_self _ ho (Obj.isFreed_of_fields (Obj.data_mapFields hd _)), (Obj.cls_mapFields ..).trans hc, by
    rw [Obj.data_mapFields hd]; simp [rawInt]⟩
theorem tup_end {it t : Addr} {i : Nat} {items : Array Value} {Q : Value → Shared → Prop} (hh : A.handled = none) (hit : s.heap.IsTupleIter it t i) (ht : s.heap.IsTuple t items) (hx : items[i]? = none)
    (hE : ∀ h' e, Heap.ExtBut it s.heap h' → (∃ o, h'.get? e = some o ∧ o.cls = .type "StopIteration") → E (.ref e) { s with heap := h' }) :
    wpAny (model prog w) A (Builtin.SmallTypes.nextOf (.ref it)) Q E s := by
  obtain ⟨o, ho, hc, hd⟩ := id hit
  obtain ⟨ol, hol, _, nl, hdl⟩ := ht
  unfold Builtin.SmallTypes.nextOf
  refine wpAny_bind (wpAny_callSpecial?_slot (name := Str.ofString "__next__") hit.typeIs F.slot_tuple_iterator_next
    (wpAny_call_entry F.slot_tuple_iterator_next hit.typeIs F.entry_tuple_iterator_next ?_ (F.args_tuple_iterator_next_1 _)))
  show wpAny _ _ (field (.ref it) 0 >>= _) _ _ s
  refine wpAny_bind (wpAny_field ho hd (x := .ref t) rfl ?_)
  show wpAny _ _ (if (Value.ref t == Value.none) = true then _ else _) _ _ s
  rw [if_neg (show ¬ ((Value.ref t == Value.none) = true) from Bool.false_ne_true)]
  show wpAny _ _ (field (.ref it) 1 >>= _) _ _ s
  refine wpAny_bind (wpAny_field ho hd (x := .int i 0) rfl ?_)
  show wpAny _ _ (seqItems? (.ref t) >>= _) _ _ s
  refine wpAny_bind (wpAny_seqItems hol hdl ?_)
  simp only [Int.toNat_natCast, hx]
  refine wpAny_bind (wpAny_rule (wpAny_bind (wpAny_setField ho hd (by simp) ?_)))
  show wpAny _ _ (newExc (.type "StopIteration") [] >>= _) _ _ _
  refine wpAny_bind ?_
  simp only [newExc, newTuple]
  refine wpAny_bind (wpAny_newObj_type ?_ (by size_fits))
  refine wpAny_bind (m := firstArgMember _ _) (wpAny_of_eq (a := Value.none) (by first | rfl | (simp only [firstArgMember]; rfl)) ?_)
  refine wpAny_newObj_type ?_ (by size_fits)
  simp only [raiseNew]
  refine wpAny_bind (wpAny_handled ?_)
  first | rw [show A.in1.handled = none from hh] | rw [hh]
  refine wpAny_bind (wpAny_pure (wpAny_throw ?_))
  exact hE _ _ (((Heap.SameBut.update ..).extBut.push _).push _) ⟨_, Heap.get?_push_size _ rfl, rfl⟩
theorem draws_tuple {A : Around} (hh : A.handled = none) (it t : Addr) (hne : t ≠ it) (items : Array Value) :
    Draws prog w A it [it, t] items.size (fun i v => items[i]? = some v) (fun i h => h.IsTupleIter it t i ∧ h.IsTuple t items) where
  live := fun _ _ st => let ⟨o, ho, _⟩ := st.1; ⟨o, ho⟩
  frame := fun _ _ _ st hk => by
    obtain ⟨⟨o, ho, r⟩, ⟨o', ho', r'⟩⟩ := st
    exact ⟨⟨o, hk it (by simp) o ho, r⟩, ⟨o', hk t (by simp) o' ho', r'⟩⟩
  item := fun i s Q E hi st hQ => by
    refine tup_next st.1 st.2 (x := items[i]) (by simp [hi]) fun h' hit' hs' => ?_
    exact hQ _ h' s.toks (by simp [hi]) ⟨hit', st.2.extBut hs'.extBut hne⟩ hs'
  done := fun s Q E st hE => tup_end hh st.1 st.2 (by simp) hE
end
open AutoSeq1 (wpAny_loadPart') in
theorem meets_enumerate_newT (t : Addr) (items : Array Value) (n : Nat) (dct : Option Addr) (sl : Array (Option Value)) :
    Meets (Builtin.«enumerate.__new__» ⟨[.type "enumerate", .ref t], []⟩) (fun _ R s => s.heap.get? t = some { cls := .type "tuple", dict := dct, data := .seq items n, slots := sl } ∧
      R (.ok (.ret (.ref (s.heap.push { cls := .type "tuple_iterator", data := .fields #[.ref t, .int 0 0] }).objs.size)))
        { s with heap := (s.heap.push { cls := .type "tuple_iterator", data := .fields #[.ref t, .int 0 0] }).push { cls := .type "enumerate", data := .fields #[.none, .bool false, .ref s.heap.objs.size, rawInt 0, .none, .none] } }) :=
  .of_wp fun prog w A R s h => by
    obtain ⟨hp, g, d, tk, os⟩ := s; obtain ⟨hl, h⟩ := h
    have hsub := sub_enumerate
    have hL : Heap.IsTuple (Shared.heap ⟨hp, g, d, tk, os⟩) t items := ⟨_, hl, rfl, n, rfl⟩
    wp_walk using wpAny_loadPart' hl
    refine wpAny_stack_any fun st => wpAny_pure ?_
    split
    · rename_i c _ _ _ _ _
      cases (c == Value.type "enumerate")
      · wp_walk using wpAny_loadPart' hl, wpAny_pyIter_tuple hL
        exact ⟨_, rfl, h⟩
      · wp_walk using wpAny_loadPart' hl, wpAny_pyIter_tuple hL
        exact ⟨_, rfl, h⟩
    · wp_walk using wpAny_loadPart' hl, wpAny_pyIter_tuple hL
      exact ⟨_, rfl, h⟩
theorem call_enumerate_tuple {prog : Program} {w : World} {A : Around} {E : Value → Shared → Prop} {s : Shared} {t : Addr} {items : Array Value} {Q : Value → Shared → Prop} (hL : s.heap.IsTuple t items)
    (h : ∀ h', IsEnum h' (s.heap.objs.size + 1) s.heap.objs.size 0 .none → h'.IsTupleIter s.heap.objs.size t 0 → h'.objs.size = s.heap.objs.size + 2 →
      (∀ b o, s.heap.get? b = some o → h'.get? b = some o) → Q (.ref (s.heap.objs.size + 1)) { s with heap := h' }) :
    wpAny (model prog w) A (call (.type "enumerate") [.ref t]) Q E s := by
  obtain ⟨⟨c, dct, dt, sl⟩, hl, hc, n, hd⟩ := hL
  replace hc : c = .type "tuple" := hc
  replace hd : dt = .seq items n := hd
  subst hc hd
  refine callType_new F.called_enumerate (by decide) (F.typeCall_enumerate_1 _) (F.newCall_enumerate_1 _) (fun obj => F.args_object_init_2 obj _) F.entry_enumerate_new
    (meets_enumerate_newT t items n dct sl) ⟨hl, ?_⟩
  have hz : (s.heap.push { cls := .type "tuple_iterator", data := .fields #[.ref t, .int 0 0] }).objs.size = s.heap.objs.size + 1 := Heap.size_push ..
  show _ ∧ _
  rw [hz]
  have he : IsEnum ((s.heap.push { cls := .type "tuple_iterator", data := .fields #[.ref t, .int 0 0] }).push
      { cls := .type "enumerate", data := .fields #[.none, .bool false, .ref s.heap.objs.size, rawInt 0, .none, .none] }) (s.heap.objs.size + 1) s.heap.objs.size 0 .none := by
    have := Heap.get?_push_size (s.heap.push { cls := .type "tuple_iterator", data := .fields #[.ref t, .int 0 0] })
      (o := { cls := .type "enumerate", data := .fields #[.none, .bool false, .ref s.heap.objs.size, rawInt 0, .none, .none] }) rfl
    rw [hz] at this; exact this
  refine ⟨⟨_, he, rfl⟩, h _ he ⟨_, Heap.get?_push_of_some _ (Heap.get?_push_size _ rfl), rfl, rfl⟩ (by rw [Heap.size_push, hz]) fun b o x => Heap.get?_push_of_some _ (Heap.get?_push_of_some _ x)⟩
end Mine
end
section
open PySem PySem.W PyProof.Rows PySem.Spec PySem.Calls
open PyProof.Rows.LCg PyProof.Rows.LCp
set_option maxRecDepth 100000
set_option maxHeartbeats 2000000
namespace Mine
section
variable {prog : Program} {w : World} {A : Around} {E : Value → Shared → Prop} {s : Shared} {h₀ : Heap} {L : Addr} {m : Str → Option Value} {env : Env}
theorem fp_entries {h : Heap} : ∀ (fp : List Addr), (∀ b ∈ fp, (∃ o, h.get? b = some o) ∧ b ≠ L) → ∃ es : List (Addr × Obj), News h₀ L h es ∧ ∀ b ∈ fp, h₀.get? b = none → ∀ o, h.get? b = some o → (b, o) ∈ es
  | [], _ => ⟨[], (fun _ h => nomatch h), (fun _ h => nomatch h)⟩
  | b :: r, hb => by
    obtain ⟨es, N, h1⟩ := fp_entries r fun c hc => hb c (.tail _ hc)
    obtain ⟨⟨o, ho⟩, hL⟩ := hb b (.head _)
    by_cases h0 : h₀.get? b = none
    · refine ⟨(b, o) :: es, fun p hp => ?_, fun c hc hc0 o' ho' => ?_⟩
      · rcases List.mem_cons.mp hp with rfl | hp
        · exact ⟨ho, hL, h0⟩
        · exact N p hp
      · rcases List.mem_cons.mp hc with rfl | hc
        · rw [ho] at ho'; cases ho'; exact .head _
        · exact .tail _ (h1 c hc hc0 o' ho')
    · refine ⟨es, N, fun c hc hc0 o' ho' => ?_⟩
      rcases List.mem_cons.mp hc with rfl | hc
      · exact absurd hc0 h0
      · exact h1 c hc hc0 o' ho'
theorem block_T {elt iter : Expr} {x x₂ : Str} {px px₂ tp : Pos} {tk} {scope : Scope} {cl : List (Str × Addr)} {pos : Pos} {s₂ : Shared} {I : Addr} {fp wr : List Addr} {n : Nat} {Pt : Nat → Array Value → Prop} {P : Nat → Value → Value → Prop} {St : Nat → Heap → Prop} {Mid : Nat → Addr → Heap → Prop}
    {news : List (Addr × Obj)} {Y : Nat → Value → Prop} {RR : Value → Addr → Result → Shared → Prop}
    (W : WalksT prog w A I fp wr n Pt St Mid) (hsz : n ≤ sizeLine) (hlive : ∀ i h, St i h → ∀ b ∈ fp, ∃ o, h.get? b = some o) (hfp : ∀ b ∈ fp, b < s₂.heap.objs.size) (hLf : ∀ b ∈ fp, b ≠ L)
    (hw0 : ∀ b ∈ wr, h₀.get? b = none) (hwn : ∀ p ∈ news, p.1 ∉ wr) (hPt : ∀ i vals, Pt i vals → ∃ a v, vals = #[a, v] ∧ P i a v)
    (hcell : ∀ y ∈ scope.names, y.2 ≠ .cell) (hkind : scope.kind = .function) (hx : scope.names.lookup x = some .local) (hx₂ : scope.names.lookup x₂ = some .local) (hxx : x ≠ x₂) (hh : A.handled = none) (hst : St 0 s₂.heap)
    (F : Fr h₀ L s₂.heap m) (N : News h₀ L s₂.heap news)
    (elt_ok : ∀ (i : Nat) (C : Addr) (oC : Obj) (m₂ : Str → Option Value) (h : Heap) (tk : Nat) (a v : Value) (ext : List (Addr × Obj)), i < n → P i a v → NsObj oC m₂ → m₂ x = some a → m₂ x₂ = some v → Fr h₀ L h m → (∀ p ∈ news, p ∈ ext) → News h₀ L h ((C, oC) :: ext) →
      wpAny (model prog w) A (eval elt (compEnvC scope cl C env)) (fun y s' => ∃ h' tk', s' = { s₂ with heap := h', toks := tk' } ∧ Fr h₀ L h' m ∧ News h₀ L h' ((C, oC) :: ext) ∧ Y i y) (fun _ _ => False) { s₂ with heap := h, toks := tk })
    (hRR : ∀ (D C : Addr) (h : Heap) (tk : Nat) (m' : Str → Option Value) (ys : List Value), ys.length = n → (∀ i y, ys[i]? = some y → Y i y) → Fr h₀ L h m → News h₀ L h ((D, lst ys) :: news) → h.Ns C m' → h₀.get? C = none → C ≠ L → C ≠ D → (∀ p ∈ news, p.1 ≠ C) → (∀ p ∈ news, p.1 < D) →
      RR (.ref D) C (.ok .next) { s₂ with heap := h, toks := tk }) :
    wpAny (model prog w) A (newList []) (fun acc s₃ => wpAny (model prog w) A (newFunctionEnv scope env.globals cl [] env.qual none .none (some env)) (fun cenv s₄ =>
      codeAny (model prog w) A (.compStart (.ListComp elt [⟨.Tuple [.Name x px, .Name x₂ px₂] tk tp, iter, [], 0⟩] scope pos) 0 (.ref I) acc { cenv with scope := relabel scope env }) (RR acc cenv.locals) s₄) E s₃) E s₂ := by
  refine wpAny_newObj_type (wpAny_newFunctionEnv hcell (by intro y hy; simp at hy) (fun h₁ hns₁ hsb₁ => ?_) hkind)
  dsimp only at hns₁ hsb₁ ⊢
  generalize hH2 : s₂.heap.push { cls := .type "list", dict := none, data := .seq ([] : List Value).toArray } = H2 at hns₁ hsb₁ ⊢
  have hC : H2.objs.size = s₂.heap.objs.size + 1 := by rw [← hH2, Heap.size_push]
  have hDC : s₂.heap.objs.size ≠ H2.objs.size := by rw [hC]; exact Nat.ne_of_lt (Nat.lt_succ_self _)
  have below : ∀ b, b < s₂.heap.objs.size → b ≠ H2.objs.size ∧ b ≠ s₂.heap.objs.size := fun b hb => ⟨by rw [hC]; exact Nat.ne_of_lt (Nat.lt_succ_of_lt hb), Nat.ne_of_lt hb⟩
  have hDf : s₂.heap.objs.size ∉ fp := fun hm => Nat.lt_irrefl _ (hfp _ hm)
  have hCf : H2.objs.size ∉ fp := fun hm => (below _ (hfp _ hm)).1 rfl
  have hDw : s₂.heap.objs.size ∉ wr := fun hm => hDf (W.sub _ hm)
  have hCw : H2.objs.size ∉ wr := fun hm => hCf (W.sub _ hm)
  have hLw : L ∉ wr := fun hm => hLf _ (W.sub _ hm) rfl
  have old : ∀ b o, s₂.heap.get? b = some o → h₁.get? b = some o := fun b o e => hsb₁.extBut b o (below b (Heap.lt_size e)).1 (Heap.get?_push_of_some _ (hH2 ▸ Heap.get?_push_of_some _ e))
  have hacc : h₁.get? s₂.heap.objs.size = some (lst []) := hsb₁.extBut _ _ hDC (Heap.get?_push_of_some _ (hH2 ▸ Heap.get?_push_size _ rfl))
  have hst₁ : St 0 h₁ := W.frame _ _ _ hst fun b _ o e => old b o e
  have fresh₀ : ∀ a, s₂.heap.objs.size ≤ a → h₀.get? a = none := fun a ha => by
    cases e : h₀.get? a with
    | none => rfl
    | some o' => exact absurd (Heap.lt_size (F.keep a o' e)) (Nat.not_lt.mpr ha)
  have hD₀ : h₀.get? s₂.heap.objs.size = none := fresh₀ _ (Nat.le_refl _)
  have hC₀ : h₀.get? H2.objs.size = none := fresh₀ _ (by rw [hC]; exact Nat.le_succ _)
  have hLlt : L < s₂.heap.objs.size := F.ns.lt
  have hDL : s₂.heap.objs.size ≠ L := Ne.symm (below L hLlt).2
  have hCL : H2.objs.size ≠ L := Ne.symm (below L hLlt).1
  have nlt : ∀ p ∈ news, p.1 < s₂.heap.objs.size := fun p hp => Heap.lt_size (N p hp).1
  have loop : ∀ s₃ : Shared, s₃ = { s₂ with heap := h₁, toks := s₂.toks + ([] : List (Str × Value)).length } →
      codeAny (model prog w) A (.compLoop (.ListComp elt [⟨.Tuple [.Name x px, .Name x₂ px₂] tk tp, iter, [], 0⟩] scope pos) 0 (.ref I) (.ref s₂.heap.objs.size) (compEnvC scope cl H2.objs.size env))
        (RR (.ref s₂.heap.objs.size) H2.objs.size) s₃ := by
    rintro s₃ rfl
    refine codeAny_compLoop_pair
      (fun k s' => ∃ h' tk i ys m', s' = { s₂ with heap := h', toks := tk } ∧ i ≤ n ∧ k = n + 1 - i ∧ ys.length = i ∧ (∀ j y, ys[j]? = some y → Y j y) ∧ St i h' ∧ Fr h₀ L h' m ∧ h'.Ns H2.objs.size m' ∧ News h₀ L h' ((s₂.heap.objs.size, lst ys) :: news)) ?_ (n + 1)
      ⟨h₁, _, 0, [], _, rfl, Nat.zero_le _, rfl, rfl, (fun j y e => by simp at e), hst₁, F.keeps old, hns₁, fun p hp => ?_⟩
    · rintro k s' ⟨h', tk, i, ys, m', rfl, hi, rfl, hyl, hY, hst', F', hn', N'⟩
      have move : ∀ {g g' : Heap}, (∀ b o, b ∉ wr → g.get? b = some o → g'.get? b = some o) → Fr h₀ L g m → Fr h₀ L g' m := fun hk F =>
        ⟨F.ns.at' fun o e => hk _ o hLw e, fun b o e => hk b o (fun hb => by rw [hw0 b hb] at e; cases e) (F.keep b o e), F.above⟩
      have moveN : ∀ {g g' : Heap}, (∀ b o, b ∉ wr → g.get? b = some o → g'.get? b = some o) → News h₀ L g ((s₂.heap.objs.size, lst ys) :: news) → News h₀ L g' ((s₂.heap.objs.size, lst ys) :: news) := fun hk N p hp =>
        ⟨hk _ _ (by
          rcases List.mem_cons.mp hp with rfl | hp
          · exact hDw
          · exact hwn p hp) (N p hp).1, (N p hp).2⟩
      by_cases hlt : i < n
      · refine W.item i _ _ _ hlt hst' fun T vals h₂ tk₂ hPv hge hTup hMid hk₂ => ?_
        obtain ⟨a, v, rfl, hP⟩ := hPt i vals hPv
        refine W.go _ _ _ i T _ _ _ hMid fun h₃ hst₃ hk₃ => ?_
        have ht : IsTup h₃ T #[a, v] := by
          obtain ⟨o, ho, r⟩ := hTup
          exact ⟨o, hk₃ T o (W.apart i T _ hMid) ho, r⟩
        have F₃ := move hk₃ (move hk₂ F')
        have N₃ := moveN hk₃ (moveN hk₂ N')
        have hn₃ := (hn'.at' fun o e => hk₂ _ o hCw e).at' fun o e => hk₃ _ o hCw e
        refine assign_Tuple_tuple hh ht rfl rfl fun h₅ he => ?_
        have he' : ∀ b o, h₃.get? b = some o → h₅.get? b = some o := fun b o e => he b o (Nat.ne_of_lt (Heap.lt_size e)) e
        refine assignInOrder_cons (wpAny_assign_Name (wpAny_storeName_local (lookup_relabel_local hx) (hn₃.at' fun o e => he' _ o e) (fun h₆ hn₆ hs₆ => ?_) (by simp [compEnvC, relabel, hkind])))
        refine assignInOrder_cons (wpAny_assign_Name (wpAny_storeName_local (lookup_relabel_local hx₂) hn₆ (fun h₇ hn₇ hs₇ => ?_) (by simp [compEnvC, relabel, hkind])))
        refine assignInOrder_nil ?_
        have old7 : ∀ b o, b ≠ H2.objs.size → h₃.get? b = some o → h₇.get? b = some o := fun b o hb e => hs₇.extBut b o hb (hs₆.extBut b o hb (he' b o e))
        have hst₇ : St (i + 1) h₇ := W.frame _ _ _ hst₃ fun b hb o e => old7 b o (fun q => hCf (by rw [← q]; exact hb)) e
        obtain ⟨oC, heC, hoC⟩ := ns_obj hn₇
        have F₇ : Fr h₀ L h₇ m := ((F₃.keeps he').change hs₆ hCL hC₀).change hs₇ hCL hC₀
        obtain ⟨es, Nes, hes⟩ := fp_entries (h₀ := h₀) (L := L) (h := h₇) fp fun b hb => ⟨hlive _ _ hst₇ b hb, hLf b hb⟩
        have N₇ : News h₀ L h₇ ((H2.objs.size, oC) :: (s₂.heap.objs.size, lst ys) :: (es ++ news)) := fun p hp => by
          rcases List.mem_cons.mp hp with rfl | hp
          · exact ⟨heC, hCL, hC₀⟩
          · rcases List.mem_cons.mp hp with rfl | hp
            · exact ⟨old7 _ _ hDC (N₃ (s₂.heap.objs.size, lst ys) (.head _)).1, hDL, hD₀⟩
            · rcases List.mem_append.mp hp with hp | hp
              · exact Nes p hp
              · have z := N₃ p (.tail _ hp)
                exact ⟨old7 _ _ (below _ (nlt p hp)).1 z.1, z.2⟩
        refine wpAny_mono (elt_ok i H2.objs.size oC _ h₇ _ a v _ hlt hP hoC (by simp [hxx]) (by simp) F₇ (fun p hp => .tail _ (List.mem_append_right _ hp)) N₇) (fun y s₄ h₄ => ?_) fun _ _ e => e.elim
        obtain ⟨h₄, tk₄, rfl, F₄, N₄, hy⟩ := h₄
        have zC := (N₄ (H2.objs.size, oC) List.mem_cons_self).1
        have zD := (N₄ (s₂.heap.objs.size, lst ys) (List.mem_cons_of_mem _ List.mem_cons_self)).1
        have hst₄ : St (i + 1) h₄ := W.frame _ _ _ hst₇ fun b hb o e => by
          cases e0 : h₀.get? b with
          | none => exact (N₄ (b, o) (.tail _ (.tail _ (List.mem_append_left _ (hes b hb e0 o e))))).1
          | some o' =>
            have := F₇.keep b o' e0
            rw [e] at this; cases this
            exact F₄.keep b o e0
        refine append_at (hsz := by show ys.toArray.size ≤ sizeLine; rw [List.size_toArray, hyl]; exact Nat.le_trans hi hsz) zD fun h₅' hs₅ hD₅ => ?_
        refine ⟨n + 1 - (i + 1), by omega, h₅', tk₄, i + 1, ys ++ [y], _, rfl, hlt, rfl, by rw [List.length_append, List.length_singleton, hyl], ?_, W.frame _ _ _ hst₄ fun b hb o e => hs₅.extBut b o (fun q => hDf (q ▸ hb)) e, F₄.change hs₅ hDL hD₀,
          (hoC.ns zC).sameBut hs₅ (Ne.symm hDC), fun p hp => ?_⟩
        · intro j z hz
          by_cases hj : j < ys.length
          · rw [List.getElem?_append_left hj] at hz
            exact hY j z hz
          · rw [List.getElem?_append_right (by omega)] at hz
            have hj0 : j - ys.length = 0 := by
              rcases Nat.eq_zero_or_pos (j - ys.length) with h | h
              · exact h
              · rw [List.getElem?_eq_none (by simp; omega)] at hz; cases hz
            rw [hj0] at hz
            simp at hz
            subst hz
            rw [show j = i by omega]
            exact hy
        · rcases List.mem_cons.mp hp with rfl | hp
          · exact ⟨hD₅.trans (congrArg some (lst_snoc ys y)), hDL, hD₀⟩
          · have z := N₄ p (.tail _ (.tail _ (List.mem_append_right _ hp)))
            exact ⟨hs₅.extBut _ _ (below _ (nlt p hp)).2 z.1, z.2⟩
      · obtain rfl : i = n := Nat.le_antisymm hi (Nat.not_lt.mp hlt)
        refine W.done _ _ _ hst' fun h₂ tk₂ hk₂ => ?_
        exact hRR _ _ h₂ tk₂ _ ys hyl hY (move hk₂ F') (moveN hk₂ N') (hn'.at' fun o e => hk₂ _ o hCw e) hC₀ hCL (Ne.symm hDC) (fun p hp => (below _ (nlt p hp)).1) nlt
    · rcases List.mem_cons.mp hp with rfl | hp
      · exact ⟨hacc, hDL, hD₀⟩
      · exact ⟨old _ _ (N p hp).1, (N p hp).2⟩
  exact codeAny_compStart_list (loop _ rfl) (W.self 0 _ _ _ hst₁ (loop _ rfl))
end
end Mine
namespace Mine
def EnumSrc (h₀ : Heap) (L : Addr) (m : Str → Option Value) (news : List (Addr × Obj)) (items : Array Value) (s : Shared) (xv : Value) (s₁ : Shared) : Prop :=
  ∃ e it t h₁ tk₁, xv = .ref e ∧ s₁ = { s with heap := h₁, toks := tk₁ } ∧ Fr h₀ L h₁ m ∧ News h₀ L h₁ news ∧ IsEnum h₁ e it 0 .none ∧ h₁.IsTupleIter it t 0 ∧ h₁.IsTuple t items ∧ e ≠ it ∧ e ≠ t ∧ t ≠ it ∧ ∀ b ∈ [e, it, t], h₀.get? b = none ∧ b ≠ L ∧ ∀ p ∈ news, p.1 ≠ b
section
variable {prog : Program} {w : World} {A : Around} {E : Value → Shared → Prop} {s : Shared} {h₀ : Heap} {L : Addr} {m : Str → Option Value} {env : Env}
theorem enum_src {t : Addr} {items : Array Value} {n : Nat} {news : List (Addr × Obj)} {s₀ : Shared} (hs : ∃ h tk, s = { s₀ with heap := h, toks := tk }) (F : Fr h₀ L s.heap m) (N : News h₀ L s.heap ((t, ({ cls := .type "tuple", data := .seq items n } : Obj)) :: news)) (hne : ∀ p ∈ news, p.1 ≠ t) :
    wpAny (model prog w) A (call (.type "enumerate") [.ref t]) (EnumSrc h₀ L m news items s₀) E s := by
  obtain ⟨h, tk, rfl⟩ := hs
  have zt := N _ (.head _)
  have ht : Heap.IsTuple (Shared.heap { s₀ with heap := h, toks := tk }) t items := ⟨_, zt.1, rfl, _, rfl⟩
  have htl := Heap.lt_size zt.1
  have hLl := F.ns.lt
  have new : ∀ b, (Shared.heap { s₀ with heap := h, toks := tk }).objs.size ≤ b → h₀.get? b = none ∧ b ≠ L ∧ ∀ p ∈ news, p.1 ≠ b := by
    intro b hb
    refine ⟨?_, fun e => ?_, fun p hp e => ?_⟩
    · cases e : h₀.get? b with
      | none => rfl
      | some o => exact absurd (Heap.lt_size (F.keep b o e)) (Nat.not_lt.mpr hb)
    · rw [e] at hb; exact absurd hLl (Nat.not_lt.mpr hb)
    · have := Heap.lt_size (N p (.tail _ hp)).1
      rw [e] at this; exact absurd this (Nat.not_lt.mpr hb)
  refine call_enumerate_tuple ht fun h' hE hI _ hk => ?_
  have hte : t ≠ (Shared.heap { s₀ with heap := h, toks := tk }).objs.size := Nat.ne_of_lt htl
  have hte2 : (Shared.heap { s₀ with heap := h, toks := tk }).objs.size + 1 ≠ t := fun e => by rw [← e] at htl; exact absurd htl (Nat.not_lt.mpr (Nat.le_succ _))
  obtain ⟨ot, hot, rt⟩ := ht
  refine ⟨_, _, t, h', tk, rfl, rfl, F.keeps hk, cb_drop (N.grown hk) (fun p hp => .tail _ hp), hE, hI, ⟨ot, hk _ _ hot, rt⟩, Nat.succ_ne_self _, hte2, hte, ?_⟩
  intro b hb
  rcases List.mem_cons.mp hb with rfl | hb
  · exact new _ (Nat.le_succ _)
  · rcases List.mem_cons.mp hb with rfl | hb
    · exact new _ (Nat.le_refl _)
    · rw [List.mem_singleton.mp hb]
      exact ⟨zt.2.2, zt.2.1, hne⟩
theorem core_enum {elt iter : Expr} {x x₂ : Str} {px px₂ tp : Pos} {tk} {scope : Scope} {cl : List (Str × Addr)} {pos : Pos} {news : List (Addr × Obj)} {n : Nat} {Pv : Nat → Value → Prop} {Y : Nat → Value → Prop} {RR : Value → Addr → Result → Shared → Prop}
    (hcell : ∀ y ∈ scope.names, y.2 ≠ .cell) (hkind : scope.kind = .function) (hx : scope.names.lookup x = some .local) (hx₂ : scope.names.lookup x₂ = some .local) (hxx : x ≠ x₂) (hh : A.handled = none) (hsz : n ≤ sizeLine)
    (hit : wpAny (model prog w) A (eval iter env) (fun xv s₁ => ∃ items : Array Value, items.size = n ∧ (∀ i v, items[i]? = some v → Pv i v) ∧ EnumSrc h₀ L m news items s xv s₁) E s)
    (elt_ok : ∀ (i : Nat) (C : Addr) (oC : Obj) (m₂ : Str → Option Value) (h : Heap) (tk : Nat) (t : Tok) (v : Value) (ext : List (Addr × Obj)), i < n → Pv i v → NsObj oC m₂ → m₂ x = some (.int i t) → m₂ x₂ = some v → Fr h₀ L h m → (∀ p ∈ news, p ∈ ext) → News h₀ L h ((C, oC) :: ext) →
      wpAny (model prog w) A (eval elt (compEnvC scope cl C env)) (fun y s' => ∃ h' tk', s' = { s with heap := h', toks := tk' } ∧ Fr h₀ L h' m ∧ News h₀ L h' ((C, oC) :: ext) ∧ Y i y) (fun _ _ => False) { s with heap := h, toks := tk })
    (hRR : ∀ (D C : Addr) (h : Heap) (tk : Nat) (m' : Str → Option Value) (ys : List Value), ys.length = n → (∀ i y, ys[i]? = some y → Y i y) → Fr h₀ L h m → News h₀ L h ((D, lst ys) :: news) → h.Ns C m' → h₀.get? C = none → C ≠ L → C ≠ D → (∀ p ∈ news, p.1 ≠ C) → (∀ p ∈ news, p.1 < D) →
      RR (.ref D) C (.ok .next) { s with heap := h, toks := tk }) :
    wpAny (model prog w) A (eval iter env) (fun xv s₁ => wpAny (model prog w) A (pyIter xv) (fun it s₂ => wpAny (model prog w) A (newList []) (fun acc s₃ => wpAny (model prog w) A (newFunctionEnv scope env.globals cl [] env.qual none .none (some env)) (fun cenv s₄ =>
      codeAny (model prog w) A (.compStart (.ListComp elt [⟨.Tuple [.Name x px, .Name x₂ px₂] tk tp, iter, [], 0⟩] scope pos) 0 it acc { cenv with scope := relabel scope env }) (RR acc cenv.locals) s₄) E s₃) E s₂) E s₁) E s := by
  refine wpAny_mono hit (fun xv s₁ h₁ => ?_) fun _ _ e => e
  obtain ⟨items, hn0, hpv, e, it, t, h₁, tk₁, rfl, rfl, F₁, N₁, hE, hI, hT, hei, het, hti, hnew⟩ := h₁
  subst hn0
  refine wpAny_pyIter_enum hE ?_
  have hln : ∀ b ∈ e :: [it, t], b < h₁.objs.size := by
    intro b hb
    rcases List.mem_cons.mp hb with rfl | hb
    · exact Heap.lt_size hE
    · rcases List.mem_cons.mp hb with rfl | hb
      · obtain ⟨o, ho, _⟩ := hI; exact Heap.lt_size ho
      · rw [List.mem_singleton.mp hb]
        obtain ⟨o, ho, _⟩ := hT; exact Heap.lt_size ho
  refine block_T (P := fun i a v => items[i]? = some v ∧ ∃ t', a = .int i t') (Y := Y) (WalksT.enumerateD (draws_tuple (A := A.in1) (show A.in1.handled = none from hh) it t hti items) e hei (by simp [hei, het]) (by simp)) hsz ?_ hln (fun b hb => (hnew b hb).2.1) (fun b hb => (hnew b ?_).1) (fun p hp hb => ?_) ?_ hcell hkind hx hx₂ hxx hh
    ⟨⟨_, hE⟩, hI, hT⟩ F₁ N₁ ?_ ?_
  · rintro i h ⟨⟨old, he⟩, ⟨o, ho, _⟩, ⟨o', ho', _⟩⟩ b hb
    rcases List.mem_cons.mp hb with rfl | hb
    · exact ⟨_, he⟩
    · rcases List.mem_cons.mp hb with rfl | hb
      · exact ⟨o, ho⟩
      · rw [List.mem_singleton.mp hb]; exact ⟨o', ho'⟩
  · rcases List.mem_cons.mp hb with rfl | hb
    · simp
    · rw [List.mem_singleton.mp hb]; simp
  · have hb' : p.1 ∈ [e, it, t] := by
      rcases List.mem_cons.mp hb with e1 | hb
      · rw [e1]; simp
      · rw [List.mem_singleton.mp hb]; simp
    exact (hnew _ hb').2.2 p hp rfl
  · rintro i vals ⟨t', v, hv, rfl⟩
    exact ⟨_, _, rfl, hv, t', rfl⟩
  · rintro i C oC m₂ h tk a v ext hi ⟨hv, t', rfl⟩ hC h1 h2 F N' N
    exact elt_ok i C oC m₂ h tk t' v ext hi (hpv i v hv) hC h1 h2 F N' N
  · exact hRR
theorem assign_enum {elt iter : Expr} {x x₂ y : Str} {px px₂ tp py : Pos} {tk} {scope : Scope} {cl : List (Str × Addr)} {pos spos : Pos} {Q : Flow → Shared → Prop} {news : List (Addr × Obj)} {n : Nat} {Pv : Nat → Value → Prop} {Y : Nat → Value → Prop} (hLe : env.locals = L)
    (hsw : swapsWith (.ListComp elt [⟨.Tuple [.Name x px, .Name x₂ px₂] tk tp, iter, [], 0⟩] scope pos) (some (.Name y py)) spos.line env = pure true)
    (hy : env.kindOf y = some .local) (hp : (env.scope.kind == .class || (env.scope.kind == .module && env.locals != env.globals)) = false)
    (hclos : closureFor scope env = pure cl) (hcell : ∀ y ∈ scope.names, y.2 ≠ .cell) (hkind : scope.kind = .function)
    (hnames : ∀ y ∈ scope.names, y.2 = .local → scope.names.lookup y.1 = some .local) (hx : scope.names.lookup x = some .local) (hx₂ : scope.names.lookup x₂ = some .local) (hxx : x ≠ x₂) (hh : A.handled = none) (hsz : n ≤ sizeLine)
    (hit : wpAny (model prog w) A (eval iter env) (fun xv s₁ => ∃ items : Array Value, items.size = n ∧ (∀ i v, items[i]? = some v → Pv i v) ∧ EnumSrc h₀ L m news items s xv s₁) E s)
    (elt_ok : ∀ (i : Nat) (C : Addr) (oC : Obj) (m₂ : Str → Option Value) (h : Heap) (tk : Nat) (t : Tok) (v : Value) (ext : List (Addr × Obj)), i < n → Pv i v → NsObj oC m₂ → m₂ x = some (.int i t) → m₂ x₂ = some v → Fr h₀ L h m → (∀ p ∈ news, p ∈ ext) → News h₀ L h ((C, oC) :: ext) →
      wpAny (model prog w) A (eval elt (compEnvC scope cl C env)) (fun y s' => ∃ h' tk', s' = { s with heap := h', toks := tk' } ∧ Fr h₀ L h' m ∧ News h₀ L h' ((C, oC) :: ext) ∧ Y i y) (fun _ _ => False) { s with heap := h, toks := tk })
    (hQ : ∀ (D : Addr) (ys : List Value) (h : Heap) (tk : Nat), ys.length = n → (∀ i y, ys[i]? = some y → Y i y) → Fr h₀ L h (fun z => if z = y then some (.ref D) else m z) → News h₀ L h ((D, lst ys) :: news) → (∀ p ∈ news, p.1 < D) → Q .next { s with heap := h, toks := tk })
    (hs : ∀ x, foldedSetIterable iter env x = pure x := by intro _; rfl) :
    wpAny (model prog w) A (exec (.Assign [.Name y py] (.ListComp elt [⟨.Tuple [.Name x px, .Name x₂ px₂] tk tp, iter, [], 0⟩] scope pos) spos) env) Q E s := by
  subst hLe
  rw [exec_Assign_Name_used _ _ _ _ hsw]
  refine wpAny_bind (wpAny_standAt (wpAny_bind ?_))
  show wpAny _ A (do let _ ← comprehension (.ListComp elt [⟨.Tuple [.Name x px, .Name x₂ px₂] tk tp, iter, [], 0⟩] scope pos) scope env _ (newList []) false (eval iter env) (some (assign (.Name y py) env))) _ _ s
  refine wpAny_bind (wpAny_mono (wpAny_comprehension_free (use := some (assign (.Name y py) env)) (Q := fun _ s' => Q .next s') rfl hs hclos hkind hnames
    (core_enum hcell hkind hx hx₂ hxx hh hsz hit elt_ok ?_)) (fun _ s' hq => wpAny_pure (wpAny_pure hq)) fun _ _ e => e)
  intro D C h' tk m' ys hl hY F' N' hn hC₀ hCL hCD offC hlt
  show wpAny _ A (assign (.Name y py) env (.ref D)) _ _ _
  refine wpAny_assign_Name (wpAny_storeName_local hy F'.ns (fun h₂ hn₂ hs₂ => ?_) hp)
  have hL₀ : h₀.get? env.locals = none := Heap.get?_none_of_le F'.above
  have F₂ : Fr h₀ env.locals h₂ (fun z => if z = y then some (.ref D) else m z) := ⟨hn₂, fun b o e => hs₂.extBut b o (fun q => by rw [q, hL₀] at e; cases e) (F'.keep b o e), F'.above⟩
  refine ⟨m', hn.sameBut hs₂ hCL, fun h'' hs'' => hQ D ys h'' _ hl hY (F₂.change hs'' hCL hC₀) (fun p hp => ?_) hlt⟩
  have z : h₂.get? p.1 = some p.2 := hs₂.extBut _ _ (N' p hp).2.1 (N' p hp).1
  refine ⟨hs''.extBut _ _ ?_ z, (N' p hp).2⟩
  rcases List.mem_cons.mp hp with rfl | hp
  · exact Ne.symm hCD
  · exact offC p hp
end
end Mine
end
section
open PySem PySem.W PyProof.Rows
namespace Mine
section
variable {prog : Program} {w : World} {A : Around} {h₀ : Heap} {L : Addr} {m : Str → Option Value} {env : Env} {elt : Expr} {x : Str} {scope : Scope} {cl : List (Str × Addr)} {s : Shared} {S : List (Addr × Obj) → Prop} {P : Nat → Value → Prop} {Fin : List Value → List (Addr × Obj) → Prop} {news : List (Addr × Obj)}
/-- a block over a list: what each item gives, told by a property alone -/
theorem comp_rel {n : Nat} (Y : Value → Prop)
    (turn : ∀ i v I oI C oC D m₂ ys h tk (E' : Value → Shared → Prop), i < n → P i v → LCg.NsObj oC m₂ → m₂ x = some v → Fr h₀ L h m → News h₀ L h ((I, oI) :: (C, oC) :: (D, LCg.lst ys) :: news) → LCg.Off3 I C D news → ((@Ne Nat I C) ∧ (@Ne Nat I D) ∧ (@Ne Nat C D)) →
      wpAny (model prog w) A (eval elt (compEnvC scope cl C env)) (LCg.CompEnd h₀ L m { s with heap := h, toks := tk } I oI C oC D (LCg.lst ys) S (fun y news' => news' = news ∧ Y y)) E' { s with heap := h, toks := tk })
    (fin : ∀ ys, ys.length = n → (∀ y ∈ ys, Y y) → Fin ys news) : LCg.CompRest prog w A h₀ L m env elt x scope cl s S P Fin n 0 [] news := by
  have key : ∀ (j i : Nat) (ys : List Value), i + j = n → ys.length = i → (∀ y ∈ ys, Y y) → LCg.CompRest prog w A h₀ L m env elt x scope cl s S P Fin j i ys news := by
    intro j
    induction j with
    | zero =>
      intro i ys hi hl hy
      exact LCg.CompRest.zero (fin ys (by omega) hy)
    | succ j ih =>
      intro i ys hi hl hy
      refine LCg.CompRest.succ ?_
      intro v I oI C oC D m₂ h tk E' hv hC hx F N off ne
      refine wpAny_mono (turn i v I oI C oC D m₂ ys h tk E' (by omega) hv hC hx F N off ne) (fun y s₂ hq => ?_) fun _ _ e => e
      obtain ⟨h', tk', nw, e, F', N', off', hS, hn, hy'⟩ := hq
      rw [hn] at N' off' hS
      refine ⟨h', tk', news, e, F', N', off', hS, ih (i + 1) _ (by omega) (by simp [hl]) ?_⟩
      intro z hz
      rcases List.mem_append.mp hz with hz | hz
      · exact hy z hz
      · rw [List.mem_singleton.mp hz]; exact hy'
  exact key n 0 [] (by omega) rfl fun _ h => nomatch h
end
end Mine
end
section
open PySem PySem.W PyProof.Rows
namespace Mine
section
variable {prog : Program} {w : World} {A : Around} {h₀ : Heap} {L : Addr} {m : Str → Option Value} {env : Env} {ct elt : Expr} {x : Str} {scope : Scope} {cl : List (Str × Addr)} {s : Shared} {S : List (Addr × Obj) → Prop} {P : Nat → Value → Prop} {Fin : List Value → List (Addr × Obj) → Prop} {news : List (Addr × Obj)}
/-- a block over a list or a range: what each item gives, told place by place -/
theorem comp_idx {n : Nat} (Y : Nat → Value → Prop)
    (turn : ∀ i v I oI C oC D m₂ ys h tk (E' : Value → Shared → Prop), i < n → P i v → LCg.NsObj oC m₂ → m₂ x = some v → Fr h₀ L h m → News h₀ L h ((I, oI) :: (C, oC) :: (D, LCg.lst ys) :: news) → LCg.Off3 I C D news → ((@Ne Nat I C) ∧ (@Ne Nat I D) ∧ (@Ne Nat C D)) →
      wpAny (model prog w) A (eval elt (compEnvC scope cl C env)) (LCg.CompEnd h₀ L m { s with heap := h, toks := tk } I oI C oC D (LCg.lst ys) S (fun y news' => news' = news ∧ Y i y)) E' { s with heap := h, toks := tk })
    (fin : ∀ ys, ys.length = n → (∀ i y, ys[i]? = some y → Y i y) → Fin ys news) : LCg.CompRest prog w A h₀ L m env elt x scope cl s S P Fin n 0 [] news := by
  have key : ∀ (j i : Nat) (ys : List Value), i + j = n → ys.length = i → (∀ i y, ys[i]? = some y → Y i y) → LCg.CompRest prog w A h₀ L m env elt x scope cl s S P Fin j i ys news := by
    intro j
    induction j with
    | zero =>
      intro i ys hi hl hy
      exact LCg.CompRest.zero (fin ys (by omega) hy)
    | succ j ih =>
      intro i ys hi hl hy
      refine LCg.CompRest.succ ?_
      intro v I oI C oC D m₂ h tk E' hv hC hx F N off ne
      refine wpAny_mono (turn i v I oI C oC D m₂ ys h tk E' (by omega) hv hC hx F N off ne) (fun y s₂ hq => ?_) fun _ _ e => e
      obtain ⟨h', tk', nw, e, F', N', off', hS, hn, hy'⟩ := hq
      rw [hn] at N' off' hS
      refine ⟨h', tk', news, e, F', N', off', hS, ih (i + 1) _ (by omega) (by simp [hl]) ?_⟩
      intro k z hz
      by_cases hk : k < ys.length
      · exact hy k z (by rw [← hz, List.getElem?_append_left hk])
      · have hk2 : k < (ys ++ [y]).length := by
          rcases Nat.lt_or_ge k (ys ++ [y]).length with h | h
          · exact h
          · rw [List.getElem?_eq_none h] at hz; cases hz
        rw [List.length_append, List.length_singleton] at hk2
        have hke : k = i := by omega
        subst hke
        rw [List.getElem?_append_right (by omega), hl, Nat.sub_self] at hz
        cases hz
        exact hy'
  exact key n 0 [] (by omega) rfl fun _ _ h => by simp at h
end
end Mine
end
section
open PySem PySem.W PyProof.Rows
namespace Mine
/-- no run lowers the count of tokens -/
theorem runs_toks {M : Model} {Γ : Ctx} {p : Pos} {t : Sem Fin} {fs : List Frame} {s s' : Shared} {e : End} (h : Runs M Γ p t fs s e s') : s.toks ≤ s'.toks := by
  induction h with
  | fresh _ ih => exact Nat.le_trans (Nat.le_succ _) ih
  | call _ _ ih1 ih2 => exact Nat.le_trans ih1 ih2
  | resumeFresh _ _ _ _ ih1 ih2 => exact Nat.le_trans ih1 ih2
  | resumeSuspended _ _ _ _ ih1 ih2 => exact Nat.le_trans ih1 ih2
  | segRet _ _ ih1 ih2 => exact Nat.le_trans ih1 ih2
  | segGen _ _ ih1 ih2 => exact Nat.le_trans ih1 ih2
  | segSuspGen _ _ _ _ ih1 ih2 => exact Nat.le_trans ih1 ih2
  | _ => first | exact Nat.le_refl _ | assumption
theorem wakes_toks {M : Model} {Γ : Ctx} {p : Pos} {g : Nat} {r : Resume} {s s' : Shared} {res : GenResult} (h : Wakes M Γ p g r s res s') : s.toks ≤ s'.toks := by
  unfold Wakes at h
  split at h
  · exact h.elim
  · split at h
    · obtain ⟨e₁, s₁, h1, _, _, rfl⟩ := h
      have := runs_toks h1; exact this
    · obtain ⟨_, rfl⟩ := h; exact Nat.le_refl _
    · obtain ⟨_, rfl⟩ := h; exact Nat.le_refl _
  · obtain ⟨e₁, s₁, h1, _, _, rfl⟩ := h
    have := runs_toks h1; exact this
  · obtain ⟨_, rfl⟩ := h; exact Nat.le_refl _
  · obtain ⟨_, rfl⟩ := h; exact Nat.le_refl _
theorem wp_toks {α : Type} {M : Model} {Γ : Ctx} (n : Nat) (t : Sem α) (Q : α → Pos → Shared → Prop) (E : Value → Pos → Shared → Prop) (p : Pos) (s : Shared) (hn : n ≤ s.toks) (h : Sem.wp M Γ t Q E p s) :
    Sem.wp M Γ t (fun a p' s' => Q a p' s' ∧ n ≤ s'.toks) E p s := by
  induction t generalizing p s with
  | pure a => exact ⟨h, hn⟩
  | raise e => exact h
  | unsupported => exact h
  | finish => exact h
  | rule _ k ih => exact ih _ p s hn h
  | «at» p' k ih => exact ih _ p' s hn h
  | load a b k ih => obtain ⟨o, ho, h⟩ := h; exact ⟨o, ho, ih _ p s hn h⟩
  | update a b f k ih => exact ⟨h.1, ih _ p _ hn h.2⟩
  | loadIfAlive a k ih => exact ih _ p s hn h
  | point l k ih => exact ih _ p s hn h
  | register => exact h
  | alloc o k ih => exact ih _ p _ hn h
  | fresh k ih => exact ih _ p _ (Nat.le_succ_of_le hn) h
  | ask k ih => exact ih _ p s hn h
  | choose src m k ih => exact ⟨h.1, ih _ p _ hn h.2⟩
  | os q l k ih => exact ih _ p _ hn h
  | call c hd g l k ih =>
    obtain ⟨r, s', hr, h⟩ := h
    exact ⟨r, s', hr, ih _ p s' (Nat.le_trans hn (runs_toks hr)) h⟩
  | handled own k ih => exact ih _ p s hn h
  | genState g k ih => obtain ⟨st, hs, h⟩ := h; exact ⟨st, hs, ih _ p s hn h⟩
  | newGen c k ih => exact ih _ p _ hn h
  | resume g r l k ih =>
    obtain ⟨res, s', hr, h⟩ := h
    exact ⟨res, s', hr, ih _ p s' (Nat.le_trans hn (wakes_toks hr)) h⟩
  | yield => exact h
  | stack k ih => exact ih _ p s hn h
  | fork => exact h
  | thread k ih => exact ih _ p s hn h
  | await => exact h
theorem wpAny_toks {α : Type} {M : Model} {A : Around} {t : Sem α} {Q : α → Shared → Prop} {E : Value → Shared → Prop} {s : Shared} (h : wpAny M A t (fun v s' => s.toks ≤ s'.toks → Q v s') E s) : wpAny M A t Q E s :=
  fun Γ p hΓ => Sem.wp_mono M Γ t (fun _ _ _ x => x.1 x.2) (fun _ _ _ x => x) p s (wp_toks s.toks t _ _ p s (Nat.le_refl _) (h Γ p hΓ))
theorem repl_K {prog : Program} {w : World} {A : Around} {E : Value → Shared → Prop} {s : Shared} {x y z : Str} {t : Tok} {u : Nat} {Q : Value → Shared → Prop} (hu : 1 ≤ u) (hyz : (y == z) = false) (hb : x.length + (x.length + 1) * z.length ≤ 16777216)
    (hq : ∀ (t' : Tok) (k : Nat), s.toks ≤ k → Q (.str (Txt.replace x y z) t') { s with toks := k }) : wpAny (model prog w) A (call (.builtin "str.replace") [.str x t, .str y u, .str z (u + 1)]) Q E s := by
  have h1 : u ≠ 0 := by omega
  have h2 : u + 1 ≠ 0 := by omega
  have h3 : u ≠ u + 1 := by omega
  exact wpAny_toks (SC.replace h1 h2 h3 hyz hb fun t' k hk => hq t' k hk)
end Mine
end
section
open PySem PySem.W PyProof.Rows PySem.Spec PySem.Calls
open PyProof.Rows.LCg
set_option maxRecDepth 100000
set_option maxHeartbeats 2000000
namespace Mine
section
variable {prog : Program} {w : World} {A : Around} {E : Value → Shared → Prop} {s : Shared} {h₀ : Heap} {L : Addr} {m : Str → Option Value} {env : Env}
/-- a block over a list, its turns with a count of tokens above 0 -/
theorem block_K {elt iter : Expr} {x : Str} {px : Pos} {scope : Scope} {cl : List (Str × Addr)} {pos : Pos} {s₂ : Shared} {I ax : Addr} {its : Array Value} {news : List (Addr × Obj)} {Y : Nat → Value → Prop} {RR : Value → Addr → Result → Shared → Prop}
    (hh : A.handled = none) (hne : ax ≠ I) (hsz : its.size ≤ sizeLine) (hpos : 1 ≤ s₂.toks)
    (hcell : ∀ y ∈ scope.names, y.2 ≠ .cell) (hkind : scope.kind = .function) (hx : scope.names.lookup x = some .local) (hst : s₂.heap.IsListIter I ax 0 ∧ s₂.heap.IsList ax its) (hIlt : I < s₂.heap.objs.size) (halt : ax < s₂.heap.objs.size)
    (F : Fr h₀ L s₂.heap m) (N : News h₀ L s₂.heap news) (hS : SrcAt h₀ ax its news) (hIL : L ≠ I) (hI₀ : h₀.get? I = none) (off : ∀ p ∈ news, p.1 ≠ I)
    (elt_ok : ∀ i v I oI C oC D m₂ ys h tk, i < its.size → its[i]? = some v → NsObj oC m₂ → m₂ x = some v → Fr h₀ L h m → News h₀ L h ((I, oI) :: (C, oC) :: (D, lst ys) :: news) → 1 ≤ tk →
      wpAny (model prog w) A (eval elt (compEnvC scope cl C env)) (fun y s' => ∃ h' tk', s' = { s₂ with heap := h', toks := tk' } ∧ Fr h₀ L h' m ∧ News h₀ L h' ((I, oI) :: (C, oC) :: (D, lst ys) :: news) ∧ Y i y) (fun _ _ => False) { s₂ with heap := h, toks := tk })
    (hRR : ∀ D C h tk m' ys, ys.length = its.size → (∀ i y, ys[i]? = some y → Y i y) → Fr h₀ L h m → News h₀ L h ((D, lst ys) :: news) → Off1 D news → h.Ns C m' → h₀.get? C = none → C ≠ L → C ≠ D → (∀ p ∈ news, p.1 ≠ C) → RR (.ref D) C (.ok .next) { s₂ with heap := h, toks := tk }) :
    wpAny (model prog w) A (newList []) (fun acc s₃ => wpAny (model prog w) A (newFunctionEnv scope env.globals cl [] env.qual none .none (some env)) (fun cenv s₄ =>
      codeAny (model prog w) A (.compStart (.ListComp elt [⟨.Name x px, iter, [], 0⟩] scope pos) 0 (.ref I) acc { cenv with scope := relabel scope env }) (RR acc cenv.locals) s₄) E s₃) E s₂ := by
  have W := Walks.list (prog := prog) (w := w) hh I ax hne its
  refine wpAny_newObj_type (wpAny_newFunctionEnv hcell (by intro y hy; simp at hy) (fun h₁ ns₁ sb₁ => ?_) hkind)
  dsimp only at ns₁ sb₁ ⊢
  generalize hG : s₂.heap.push { cls := .type "list", dict := none, data := .seq ([] : List Value).toArray } = G at ns₁ sb₁ ⊢
  have hGs : G.objs.size = s₂.heap.objs.size + 1 := by rw [← hG, Heap.size_push]
  have apart : ∀ b, b < s₂.heap.objs.size → b ≠ G.objs.size ∧ b ≠ s₂.heap.objs.size := fun b hb => ⟨by rw [hGs]; exact Nat.ne_of_lt (Nat.lt_succ_of_lt hb), Nat.ne_of_lt hb⟩
  have hDC : s₂.heap.objs.size ≠ G.objs.size := by rw [hGs]; exact Nat.ne_of_lt (Nat.lt_succ_self _)
  have kept : ∀ b o, s₂.heap.get? b = some o → h₁.get? b = some o := fun b o e => sb₁.extBut b o (apart b (Heap.lt_size e)).1 (Heap.get?_push_of_some _ (hG ▸ Heap.get?_push_of_some _ e))
  have start : h₁.get? s₂.heap.objs.size = some (lst []) := sb₁.extBut _ _ hDC (Heap.get?_push_of_some _ (hG ▸ Heap.get?_push_size _ rfl))
  have free : ∀ a, s₂.heap.objs.size ≤ a → h₀.get? a = none := fun a ha => by
    cases e : h₀.get? a with
    | none => rfl
    | some o => exact absurd (Heap.lt_size (F.keep a o e)) (Nat.not_lt.mpr ha)
  have hD₀ : h₀.get? s₂.heap.objs.size = none := free _ (Nat.le_refl _)
  have hC₀ : h₀.get? G.objs.size = none := free _ (by rw [hGs]; exact Nat.le_succ _)
  have hLlt : L < s₂.heap.objs.size := F.ns.lt
  have hDL : s₂.heap.objs.size ≠ L := Ne.symm (apart L hLlt).2
  have hCL : G.objs.size ≠ L := Ne.symm (apart L hLlt).1
  have hIC : I ≠ G.objs.size := (apart I hIlt).1
  have hID : I ≠ s₂.heap.objs.size := (apart I hIlt).2
  have nC : ∀ p ∈ news, p.1 ≠ G.objs.size := fun p hp => (apart _ (Heap.lt_size (N p hp).1)).1
  have nD : ∀ p ∈ news, p.1 ≠ s₂.heap.objs.size := fun p hp => (apart _ (Heap.lt_size (N p hp).1)).2
  have fpC : G.objs.size ∉ [I, ax] := fun hm => by
    rcases List.mem_cons.mp hm with e | hm
    · exact hIC e.symm
    · exact (apart ax halt).1 (List.mem_singleton.mp hm).symm
  have fpD : s₂.heap.objs.size ∉ [I, ax] := fun hm => by
    rcases List.mem_cons.mp hm with e | hm
    · exact hID e.symm
    · exact (apart ax halt).2 (List.mem_singleton.mp hm).symm
  have st₁ := W.frame 0 _ h₁ hst fun b _ o e => kept b o e
  have loop : ∀ s₃ : Shared, s₃ = { s₂ with heap := h₁, toks := s₂.toks + ([] : List (Str × Value)).length } →
      codeAny (model prog w) A (.compLoop (.ListComp elt [⟨.Name x px, iter, [], 0⟩] scope pos) 0 (.ref I) (.ref s₂.heap.objs.size) (compEnvC scope cl G.objs.size env)) (RR (.ref s₂.heap.objs.size) G.objs.size) s₃ := by
    rintro s₃ rfl
    refine codeAny_compLoop_tests
      (fun k s' => ∃ h' tk i ys m', s' = { s₂ with heap := h', toks := tk } ∧ 1 ≤ tk ∧ i ≤ its.size ∧ k = its.size + 1 - i ∧ ys.length = i ∧ (∀ j y, ys[j]? = some y → Y j y) ∧ (h'.IsListIter I ax i ∧ h'.IsList ax its) ∧ Fr h₀ L h' m ∧ h'.Ns G.objs.size m' ∧ News h₀ L h' ((s₂.heap.objs.size, lst ys) :: news)) ?_ (its.size + 1)
      ⟨h₁, _, 0, [], _, rfl, Nat.le_trans hpos (Nat.le_add_right _ _), Nat.zero_le _, rfl, rfl, (fun j y e => by simp at e), st₁, F.keeps kept, ns₁, fun p hp => ?_⟩
    · rintro k s' ⟨h', tk, i, ys, m', rfl, htk, hi, rfl, hyl, hY, st', F', n', N'⟩
      by_cases hlt : i < its.size
      · refine wpAny_toks (W.item i _ _ _ hlt st' fun v h₂ tk₂ hv st₂ k₂ => ?_)
        intro htk₂
        have htk2 : 1 ≤ tk₂ := Nat.le_trans htk htk₂
        refine wpAny_assign_Name (wpAny_storeName_local (lookup_relabel_local hx) (n'.at' fun o e => k₂ _ o (by simpa using Ne.symm hIC) e) (fun h₃ n₃ sb₃ => ?_) (by simp [compEnvC, relabel, hkind]))
        refine wpAny_tests_nil ?_
        simp only [if_true]
        have st₃ := W.frame (i + 1) _ h₃ st₂ fun b hb o e => sb₃.extBut b o (fun q => fpC (by have q' : b = G.objs.size := q; rw [← q']; exact hb)) e
        obtain ⟨oI, eI, _⟩ := id st₃.1
        obtain ⟨oC, eC, hoC⟩ := ns_obj n₃
        have F₃ : Fr h₀ L h₃ m := (fr_but F' k₂ hIL hI₀).change sb₃ hCL hC₀
        have N₂ : News h₀ L h₂ ((s₂.heap.objs.size, lst ys) :: news) := news_but N' k₂ fun p hp => by
          rcases List.mem_cons.mp hp with rfl | hp
          · exact Ne.symm hID
          · exact off p hp
        have N₃ : News h₀ L h₃ ((I, oI) :: (G.objs.size, oC) :: (s₂.heap.objs.size, lst ys) :: news) := fun p hp => by
          rcases List.mem_cons.mp hp with rfl | hp
          · exact ⟨eI, Ne.symm hIL, hI₀⟩
          · rcases List.mem_cons.mp hp with rfl | hp
            · exact ⟨eC, hCL, hC₀⟩
            · have z := N₂ p hp
              refine ⟨sb₃.extBut _ _ ?_ z.1, z.2⟩
              rcases List.mem_cons.mp hp with rfl | hp
              · exact hDC
              · exact nC p hp
        refine wpAny_mono (wpAny_toks (wpAny_mono (elt_ok i v I oI G.objs.size oC s₂.heap.objs.size _ ys h₃ (tk₂ + 1) hlt hv hoC (by simp) F₃ N₃ (Nat.le_add_left 1 _)) (fun y s₄ h₄ => fun (hle : _ ≤ s₄.toks) => And.intro h₄ hle) fun _ _ e => e)) (fun y s₄ h₄ => ?_) fun _ _ e => e.elim
        obtain ⟨⟨h₄, tk₄, rfl, F₄, N₄, hy⟩, hle⟩ := h₄
        have htk4 : 1 ≤ tk₄ := Nat.le_trans (Nat.le_add_left 1 tk₂) hle
        have zI := (N₄ (I, oI) List.mem_cons_self).1
        have zC := (N₄ (G.objs.size, oC) (List.mem_cons_of_mem _ List.mem_cons_self)).1
        have zD := (N₄ (s₂.heap.objs.size, lst ys) (List.mem_cons_of_mem _ (List.mem_cons_of_mem _ List.mem_cons_self))).1
        have N₄' : News h₀ L h₄ news := fun p hp => N₄ p (List.mem_cons_of_mem _ (List.mem_cons_of_mem _ (List.mem_cons_of_mem _ hp)))
        have st₄ := list_st _ _ h₄ _ _ st₃ eI zI F₄.keep N₄' hS
        refine append_at (hsz := by show ys.toArray.size ≤ sizeLine; rw [List.size_toArray, hyl]; exact Nat.le_trans hi hsz) zD fun h₅ sb₅ hD₅ => ?_
        refine ⟨its.size + 1 - (i + 1), by omega, h₅, tk₄, i + 1, ys ++ [y], _, rfl, htk4, hlt, rfl, by rw [List.length_append, List.length_singleton, hyl], ?_, W.frame _ _ _ st₄ fun b hb o e => sb₅.extBut b o (fun q => fpD (q ▸ hb)) e, F₄.change sb₅ hDL hD₀, (hoC.ns zC).sameBut sb₅ (Ne.symm hDC), fun p hp => ?_⟩
        · intro j z hz
          by_cases hj : j < ys.length
          · exact hY j z (by rw [← hz, List.getElem?_append_left hj])
          · have hj2 : j < (ys ++ [y]).length := by
              rcases Nat.lt_or_ge j (ys ++ [y]).length with h | h
              · exact h
              · rw [List.getElem?_eq_none h] at hz; cases hz
            rw [List.length_append, List.length_singleton] at hj2
            have hji : j = i := by omega
            subst hji
            rw [List.getElem?_append_right (by omega), hyl, Nat.sub_self] at hz
            cases hz
            exact hy
        · rcases List.mem_cons.mp hp with rfl | hp
          · exact ⟨hD₅.trans (congrArg some (lst_snoc ys y)), hDL, hD₀⟩
          · exact ⟨sb₅.extBut _ _ (nD p hp) (N₄' p hp).1, (N₄' p hp).2⟩
      · obtain rfl : i = its.size := Nat.le_antisymm hi (Nat.not_lt.mp hlt)
        refine W.done _ _ _ st' fun h₂ tk₂ k₂ => ?_
        exact hRR _ _ h₂ tk₂ _ ys hyl hY (fr_but F' k₂ hIL hI₀) (news_but N' k₂ fun p hp => by
          rcases List.mem_cons.mp hp with rfl | hp
          · exact Ne.symm hID
          · exact off p hp) (by
            have z : ∀ l : List (Addr × Obj), (∀ p ∈ l, p.1 ≠ s₂.heap.objs.size) → Off1 s₂.heap.objs.size l := by
              intro l
              induction l with
              | nil => intro _; trivial
              | cons q r ih => intro h; exact ⟨h _ (.head _), ih fun p hp => h p (.tail _ hp)⟩
            exact z news nD) (n'.at' fun o e => k₂ _ o (by simpa using Ne.symm hIC) e) hC₀ hCL (Ne.symm hDC) nC
    · rcases List.mem_cons.mp hp with rfl | hp
      · exact ⟨start, hDL, hD₀⟩
      · exact ⟨kept _ _ (N p hp).1, (N p hp).2⟩
  exact codeAny_compStart_list (loop _ rfl) (W.self 0 _ _ _ st₁ (loop _ rfl))
/-- the list that a block takes, with what its turns give -/
def KSrc (prog : Program) (w : World) (A : Around) (h₀ : Heap) (L : Addr) (m : Str → Option Value) (env : Env) (elt : Expr) (x : Str) (scope : Scope) (cl : List (Str × Addr)) (Q : Value → Shared → Prop) (xv : Value) (s₁ : Shared) : Prop :=
  ∃ (ax : Addr) (its : Array Value) (k : Nat) (news : List (Addr × Obj)) (Y : Nat → Value → Prop), xv = .ref ax ∧ 1 ≤ s₁.toks ∧ A.handled = none ∧ Fr h₀ L s₁.heap m ∧ News h₀ L s₁.heap news ∧ (ax, ({ cls := .type "list", data := .seq its k } : Obj)) ∈ news ∧ its.size ≤ sizeLine ∧
    (∀ i v I oI C oC D m₂ ys h tk, i < its.size → its[i]? = some v → NsObj oC m₂ → m₂ x = some v → Fr h₀ L h m → News h₀ L h ((I, oI) :: (C, oC) :: (D, lst ys) :: news) → 1 ≤ tk →
      wpAny (model prog w) A (eval elt (compEnvC scope cl C env)) (fun y s' => ∃ h' tk', s' = { s₁ with heap := h', toks := tk' } ∧ Fr h₀ L h' m ∧ News h₀ L h' ((I, oI) :: (C, oC) :: (D, lst ys) :: news) ∧ Y i y) (fun _ _ => False) { s₁ with heap := h, toks := tk }) ∧
    (∀ D ys h tk, ys.length = its.size → (∀ i y, ys[i]? = some y → Y i y) → Fr h₀ L h m → News h₀ L h ((D, lst ys) :: news) → Off1 D news → Q (.ref D) { s₁ with heap := h, toks := tk })
theorem ListComp_K {elt iter : Expr} {x : Str} {px : Pos} {scope : Scope} {cl : List (Str × Addr)} {pos : Pos} {Q : Value → Shared → Prop} (_F₀ : Fr h₀ L s.heap m)
    (hclos : closureFor scope env = pure cl) (hcell : ∀ y ∈ scope.names, y.2 ≠ .cell) (hkind : scope.kind = .function)
    (hnames : ∀ y ∈ scope.names, y.2 = .local → scope.names.lookup y.1 = some .local) (hx : scope.names.lookup x = some .local)
    (h : wpAny (model prog w) A (eval iter env) (KSrc prog w A h₀ L m env elt x scope cl Q) E s)
    (hs : ∀ x, foldedSetIterable iter env x = pure x := by intro _; rfl) :
    wpAny (model prog w) A (eval (.ListComp elt [⟨.Name x px, iter, [], 0⟩] scope pos) env) Q E s := by
  rw [eval_ListComp]
  refine wpAny_comprehension_free (use := none) rfl hs hclos hkind hnames (wpAny_mono h (fun xv s₁ h₁ => ?_) fun _ _ e => e)
  obtain ⟨ax, its, k, news, Y, rfl, hpos, hh, F, N, hm, hsz, turn, fin⟩ := h₁
  have hl : s₁.heap.IsList ax its := ⟨_, (N _ hm).1, rfl, _, rfl⟩
  have hlt : ax < s₁.heap.objs.size := Heap.lt_size (N _ hm).1
  refine wpAny_pyIter_list hl ?_
  have up : ∀ b o, s₁.heap.get? b = some o → (s₁.heap.push { cls := .type "list_iterator", data := .fields #[.ref ax, .int 0 0] }).get? b = some o := fun b o e => Heap.get?_push_of_some _ e
  have sz : (s₁.heap.push { cls := .type "list_iterator", data := .fields #[.ref ax, .int 0 0] }).objs.size = s₁.heap.objs.size + 1 := Heap.size_push ..
  refine block_K (Y := Y) hh (Nat.ne_of_lt hlt) hsz hpos hcell hkind hx ⟨⟨_, Heap.get?_push_size _ rfl, rfl, rfl⟩, hl.push _⟩ (by show _ < (s₁.heap.push _).objs.size; rw [sz]; exact Nat.lt_succ_self _) (by show _ < (s₁.heap.push _).objs.size; rw [sz]; exact Nat.lt_succ_of_lt hlt)
    (F.keeps up) (N.grown up) (.inr ⟨_, hm, rfl, _, rfl⟩) (Nat.ne_of_lt F.ns.lt) (next_is_new F) (fun p hp => Nat.ne_of_lt (Heap.lt_size (N p hp).1)) turn ?_
  intro D C h tk m' ys hyl hY F' N' o1 hn hC₀ hCL hCD offC
  refine ⟨m', hn, fun h'' hs'' => fin D ys h'' tk hyl hY (F'.change hs'' hCL hC₀) (fun p hp => ?_) o1⟩
  refine ⟨hs''.extBut _ _ ?_ (N' p hp).1, (N' p hp).2⟩
  rcases List.mem_cons.mp hp with rfl | hp
  · exact Ne.symm hCD
  · exact offC p hp
end
end Mine
end
section
open PySem PySem.W PyProof.Rows
namespace Mine
set_option maxRecDepth 100000 in
set_option maxHeartbeats 8000000 in
open_top hd for PySem.Challenge.rw_rs0052_03
end Mine
end
section
open PySem PySem.W PyProof.Rows
namespace Mine
open PySem.Sre.M

abbrev SM := PySem.Sre.M
abbrev SSeen := PySem.Sre.Seen
abbrev SFr := PySem.Sre.Frame
def code1 : Array Nat := #[14, 4, 0, 1, 1, 6, 1, 16, 46, 1]
def code2 : Array Nat := #[14, 9, 4, 1, 2, 16, 10, 16, 13, 0, 7, 7, 16, 13, 16, 10, 15, 18, 5, 16, 10, 15, 13, 11, 16, 13, 5, 5, 0, 16, 10, 1, 15, 2, 0, 1]

theorem runFor_stable {m : SM} (h : m.outcome.isSome = true) : ∀ k, runFor k m = m
  | 0 => rfl
  | k + 1 => by unfold runFor; rw [if_pos h]
theorem runFor_add (a : Nat) : ∀ (b : Nat) (m : SM), runFor (b + a) m = runFor a (runFor b m)
  | 0, m => by rw [Nat.zero_add]; rfl
  | b + 1, m => by
    rw [Nat.add_right_comm]
    show (if m.outcome.isSome = true then m else runFor (b + a) m.step) = runFor a (if m.outcome.isSome = true then m else runFor b m.step)
    by_cases h : m.outcome.isSome = true
    · rw [if_pos h, if_pos h, runFor_stable h]
    · rw [if_neg h, if_neg h, runFor_add a b]

/-- what a search tells: it ends, and where -/
def Tells1 (n : Nat) (m : SM) (r : Option (Nat × Nat)) : Prop :=
  match r with
  | some (b, e) => (runFor n m).outcome = some .matched ∧ (runFor n m).start = b ∧ (runFor n m).handed = e
  | none => (runFor n m).outcome = some .failed
theorem Tells1.step {n : Nat} {m m' : SM} {r : Option (Nat × Nat)} (hn : m.outcome = none) (e : m.step = m') (h : Tells1 n m' r) : Tells1 (n + 1) m r := by
  have e1 : runFor (n + 1) m = runFor n m' := by
    show (if m.outcome.isSome = true then m else runFor n m.step) = _
    rw [hn, e]; rfl
  unfold Tells1 at *
  rw [e1]
  exact h

/-- a state of the machine, by what turns -/
def mk (c text : Array Nat) (st pc pos hd : Nat) (om : Bool) (fr : List SFr) (wt : Nat) (an : Option Bool) (sn : SSeen) : SM :=
  { code := c, text := text, lim := text.size, start := st, lastStart := text.size, pc := pc, pos := pos, handed := hd, outermost := om, marks := #[],
    frames := fr, weight := wt, answer := an, seen := sn }
section
variable {c text : Array Nat} {st pc pos hd wt : Nat} {om : Bool} {fr : List SFr} {sn : SSeen}

theorem lit_step {v : Nat} (hpc : pc < c.size) (h0 : c.getD pc 0 = 16) (h1 : c.getD (pc + 1) 0 = v) :
    ∃ sn', (mk c text st pc pos hd om fr wt none sn).step = if (decide (pos < text.size) && text.getD pos 0 == v) = true then mk c text st (pc + 2) (pos + 1) hd om fr wt none sn' else mk c text st pc pos hd om fr wt (some false) sn' := by
  refine ⟨sn.add (c.getD pc 0), ?_⟩
  show (if pc < c.size then PySem.Sre.M.exec (mk c text st pc pos hd om fr wt none sn) else _) = _
  rw [if_pos hpc]
  unfold PySem.Sre.M.exec
  have hw : PySem.Sre.ops[(mk c text st pc pos hd om fr wt none sn).word 0]? = some .LITERAL := by
    show PySem.Sre.ops[c.getD pc 0]? = _
    rw [h0]; rfl
  have ha : ∀ ch s', PySem.Sre.accepts c pc ch s' = .ok (ch == v, s') := by
    intro ch s'
    unfold PySem.Sre.accepts
    rw [h0, h1]; rfl
  have hi : PySem.Sre.itemWidth c pc = 2 := by
    unfold PySem.Sre.itemWidth
    rw [h0]; rfl
  simp only [hw]
  show (if pos ≥ text.size then _ else match PySem.Sre.accepts c pc (text.getD pos 0) _ with | .error why => _ | .ok (false, sq) => _ | .ok (true, sq) => _) = _
  by_cases hp : pos < text.size
  · rw [if_neg (show ¬ (pos ≥ text.size) by omega)]
    show (match PySem.Sre.accepts c pc (text.getD pos 0) _ with | .error why => _ | .ok (false, sq) => _ | .ok (true, sq) => _) = _
    rw [ha]
    cases hv : (text.getD pos 0 == v)
    · rw [if_neg (by simp)]; rfl
    · rw [if_pos (by simp [hp])]
      show mk c text st (pc + PySem.Sre.itemWidth c pc) (pos + 1) hd om fr wt none _ = _
      rw [hi]; rfl
  · rw [if_pos (show pos ≥ text.size by omega), if_neg (by simp [hp])]
    rfl
theorem jump_step {v : Nat} (hpc : pc < c.size) (h0 : c.getD pc 0 = 15) (h1 : c.getD (pc + 1) 0 = v) :
    ∃ sn', (mk c text st pc pos hd om fr wt none sn).step = mk c text st (pc + 1 + v) pos hd om fr wt none sn' := by
  refine ⟨sn.add (c.getD pc 0), ?_⟩
  show (if pc < c.size then PySem.Sre.M.exec (mk c text st pc pos hd om fr wt none sn) else _) = _
  rw [if_pos hpc]
  unfold PySem.Sre.M.exec
  have hw : PySem.Sre.ops[(mk c text st pc pos hd om fr wt none sn).word 0]? = some .JUMP := by
    show PySem.Sre.ops[c.getD pc 0]? = _
    rw [h0]; rfl
  simp only [hw]
  show mk c text st (pc + 1 + c.getD (pc + 1) 0) pos hd om fr wt none _ = _
  rw [h1]; rfl
theorem success_step (hpc : pc < c.size) (h0 : c.getD pc 0 = 1) :
    ∃ sn', (mk c text st pc pos hd om fr wt none sn).step = mk c text st pc pos pos om fr wt (some true) sn' := by
  refine ⟨sn.add (c.getD pc 0), ?_⟩
  show (if pc < c.size then PySem.Sre.M.exec (mk c text st pc pos hd om fr wt none sn) else _) = _
  rw [if_pos hpc]
  unfold PySem.Sre.M.exec
  have hw : PySem.Sre.ops[(mk c text st pc pos hd om fr wt none sn).word 0]? = some .SUCCESS := by
    show PySem.Sre.ops[c.getD pc 0]? = _
    rw [h0]; rfl
  simp only [hw]
  have hf : ∀ a b : Bool, (om && (false && a || false && b)) = false := by intro a b; cases om <;> rfl
  show (if (om && (false && _ || false && _)) = true then _ else _) = _
  rw [hf, if_neg Bool.false_ne_true]
  rfl
theorem branch_step {v : Nat} (hpc : pc < c.size) (h0 : c.getD pc 0 = 7) (h1 : c.getD (pc + 1) 0 = v) (hv : (v == 0) = false) (hw9 : wt ≤ 100) :
    ∃ sn', (mk c text st pc pos hd om fr wt none sn).step = mk c text st (pc + 2) pos pos om ({ wait := .nextBranch, pc := pc + 1, pos := pos, outermost := om } :: fr) (wt + 1) none sn' := by
  refine ⟨sn.add (c.getD pc 0), ?_⟩
  show (if pc < c.size then PySem.Sre.M.exec (mk c text st pc pos hd om fr wt none sn) else _) = _
  rw [if_pos hpc]
  unfold PySem.Sre.M.exec
  have hw : PySem.Sre.ops[(mk c text st pc pos hd om fr wt none sn).word 0]? = some .BRANCH := by
    show PySem.Sre.ops[c.getD pc 0]? = _
    rw [h0]; rfl
  simp only [hw]
  show (if (c.getD (pc + 1) 0 == 0) = true then _ else _) = _
  rw [h1, hv, if_neg Bool.false_ne_true]
  show (if wt + 1 + 0 > 16777216 then _ else _) = _
  rw [if_neg (by omega)]
  rfl
theorem next_no {b v : Nat} {om' : Bool} {p : Nat} (h1 : c.getD b 0 = v) (h2 : (c.getD (b + v) 0 == 0) = false) (hw9 : wt ≤ 100) :
    (mk c text st pc pos hd om ({ wait := .nextBranch, pc := b, pos := p, outermost := om' } :: fr) (wt + 1) (some false) sn).step = mk c text st (b + v + 1) p p om' ({ wait := .nextBranch, pc := b + v, pos := p, outermost := om' } :: fr) (wt + 1) none sn := by
  subst h1
  show (if (c.getD (b + c.getD b 0) 0 == 0) = true then _ else _) = _
  rw [h2, if_neg Bool.false_ne_true]
  show (if wt + 1 - (1 + 0) + 1 + 0 > 16777216 then _ else _) = _
  rw [if_neg (by omega)]
  show mk c text st (b + c.getD b 0 + 1) p p om' ({ wait := .nextBranch, pc := b + c.getD b 0, pos := p, outermost := om' } :: fr) (wt + 1 - (1 + 0) + 1 + 0) none sn = _
  rw [show wt + 1 - (1 + 0) + 1 + 0 = wt + 1 by omega]
theorem next_yes {b : Nat} {om' : Bool} {p : Nat} :
    (mk c text st pc pos hd om ({ wait := .nextBranch, pc := b, pos := p, outermost := om' } :: fr) (wt + 1) (some true) sn).step = mk c text st b p hd om' fr wt (some true) sn := rfl
theorem start_yes {b : Nat} {om' : Bool} {p : Nat} :
    Tells1 2 (mk c text st pc pos hd om [{ wait := .nextStart, pc := b, pos := p, outermost := om' }] wt (some true) sn) (some (st, hd)) := ⟨rfl, rfl, rfl⟩
theorem assertNot_step (hpc : pc < c.size) (h0 : c.getD pc 0 = 5) (h2 : c.getD (pc + 2) 0 = 0) (hw9 : wt ≤ 100) :
    ∃ sn', (mk c text st pc pos hd om fr wt none sn).step = mk c text st (pc + 3) pos pos false ({ wait := .lookNot, pc := pc, pos := pos, outermost := om } :: fr) (wt + 1) none sn' := by
  refine ⟨sn.add (c.getD pc 0), ?_⟩
  show (if pc < c.size then PySem.Sre.M.exec (mk c text st pc pos hd om fr wt none sn) else _) = _
  rw [if_pos hpc]
  unfold PySem.Sre.M.exec
  have hw : PySem.Sre.ops[(mk c text st pc pos hd om fr wt none sn).word 0]? = some .ASSERT_NOT := by
    show PySem.Sre.ops[c.getD pc 0]? = _
    rw [h0]; rfl
  simp only [hw]
  show (if pos < c.getD (pc + 2) 0 then _ else _) = _
  rw [h2, if_neg (Nat.not_lt_zero _)]
  show (if wt + 1 + 0 > 16777216 then _ else _) = _
  rw [if_neg (by omega)]
  show mk c text st (pc + 3) (pos - c.getD (pc + 2) 0) (pos - c.getD (pc + 2) 0) false ({ wait := .lookNot, pc := pc, pos := pos, outermost := om } :: fr) (wt + 1) none (sn.add (c.getD pc 0)) = _
  rw [h2]; rfl
theorem look_no {b v : Nat} {om' : Bool} {p : Nat} (h1 : c.getD (b + 1) 0 = v) :
    (mk c text st pc pos hd om ({ wait := .lookNot, pc := b, pos := p, outermost := om' } :: fr) (wt + 1) (some false) sn).step = mk c text st (b + 1 + v) p hd om' fr wt none sn := by
  show mk c text st (b + 1 + c.getD (b + 1) 0) p hd om' fr wt none sn = _
  rw [h1]
theorem start_no {b : Nat} {om' : Bool} {p : Nat} (hc : ((match PySem.Sre.ops[c.getD 0 0]? with | some .INFO => true | _ => false) && c.getD 2 0 == 4) = false) (h : p < text.size) :
    (mk c text st pc pos hd om [{ wait := .nextStart, pc := b, pos := p, outermost := om' }] 1 (some false) sn).step = mk c text (p + 1) b (p + 1) (p + 1) false [{ wait := .nextStart, pc := b, pos := p + 1, outermost := false }] 1 none sn := by
  show (if p < text.size then _ else _) = _
  rw [if_pos h]
  show (if (!((match PySem.Sre.ops[c.getD 0 0]? with | some .INFO => true | _ => false) && c.getD 2 0 == 4)) = true then _ else _) = _
  rw [hc]
  rfl
theorem start_over {b : Nat} {om' : Bool} {p : Nat} (h : ¬ p < text.size) :
    Tells1 2 (mk c text st pc pos hd om [{ wait := .nextStart, pc := b, pos := p, outermost := om' }] 1 (some false) sn) none := by
  refine Tells1.step (m' := mk c text st b p hd om' [] 0 (some false) sn) rfl ?_ rfl
  show (if p < text.size then _ else _) = _
  rw [if_neg h]
  rfl
end
/-! pattern 1 -/
def at1 (text : Array Nat) (s : Nat) (first : Bool) (sn : SSeen) : SM := mk code1 text s 5 s s first [{ wait := .nextStart, pc := 5, pos := s, outermost := first }] 1 none sn
def bol (text : Array Nat) (s : Nat) : Bool := s == 0 || text.getD (s - 1) 0 == 10

theorem search1 (text : Array Nat) (pos : Nat) (h : pos < text.size) : ∃ sn, PySem.Sre.forSearch code1 text 0 pos text.size false = at1 text pos true sn := by
  have h1 : ¬ ((decide (pos > text.size) || decide (text.size - pos < 1)) = true) := by simp; omega
  exact ⟨_, if_neg h1⟩
theorem search1_end (text : Array Nat) (pos : Nat) (h : ¬ pos < text.size) : Tells1 1 (PySem.Sre.forSearch code1 text 0 pos text.size false) none := by
  have h1 : ((decide (pos > text.size) || decide (text.size - pos < 1)) = true) := by simp; omega
  have e : PySem.Sre.forSearch code1 text 0 pos text.size false = _ := if_pos h1
  unfold Tells1
  rw [e]
  rfl
theorem a1_at (text : Array Nat) (s : Nat) (first : Bool) (sn : SSeen) : ∃ sn', (at1 text s first sn).step = if bol text s = true then mk code1 text s 7 s s first [{ wait := .nextStart, pc := 5, pos := s, outermost := first }] 1 none sn' else mk code1 text s 5 s s first [{ wait := .nextStart, pc := 5, pos := s, outermost := first }] 1 (some false) sn' := by
  refine ⟨(sn.add 6).add 44, ?_⟩
  show (if bol text s = true then _ else _) = _
  by_cases h : bol text s = true
  · rw [if_pos h, if_pos h]; rfl
  · rw [if_neg h, if_neg h]; rfl

/-- the first place from s on where pattern 1 stands -/
def find1 (text : Array Nat) : Nat → Nat → Option (Nat × Nat)
  | 0, _ => none
  | f + 1, s => if (bol text s && text.getD s 0 == 46) = true then some (s, s + 1) else find1 text f (s + 1)

theorem at1_tells (text : Array Nat) : ∀ (f s : Nat) (first : Bool) (sn : SSeen), s + f = text.size → ∃ n, n ≤ 3 * f + 5 ∧ Tells1 n (at1 text s first sn) (find1 text f s)
  | 0, s, first, sn, h => by
    obtain ⟨sn1, e1⟩ := a1_at text s first sn
    by_cases hb : bol text s = true
    · rw [if_pos hb] at e1
      obtain ⟨sn2, e2⟩ := lit_step (c := code1) (text := text) (st := s) (pc := 7) (pos := s) (hd := s) (om := first) (fr := [{ wait := .nextStart, pc := 5, pos := s, outermost := first }]) (wt := 1) (sn := sn1) (v := 46) (by decide) rfl rfl
      rw [if_neg (by simp; omega)] at e2
      exact ⟨4, by omega, Tells1.step rfl e1 (Tells1.step rfl e2 (start_over (by omega)))⟩
    · rw [if_neg hb] at e1
      exact ⟨3, by omega, Tells1.step rfl e1 (start_over (by omega))⟩
  | f + 1, s, first, sn, h => by
    obtain ⟨sn1, e1⟩ := a1_at text s first sn
    rw [find1]
    by_cases hb : bol text s = true
    · rw [if_pos hb] at e1
      obtain ⟨sn2, e2⟩ := lit_step (c := code1) (text := text) (st := s) (pc := 7) (pos := s) (hd := s) (om := first) (fr := [{ wait := .nextStart, pc := 5, pos := s, outermost := first }]) (wt := 1) (sn := sn1) (v := 46) (by decide) rfl rfl
      by_cases hc : (text.getD s 0 == 46) = true
      · rw [if_pos (by rw [hc]; simp; omega)] at e2
        rw [if_pos (by rw [hb, hc]; rfl)]
        obtain ⟨sn3, e3⟩ := success_step (c := code1) (text := text) (st := s) (pc := 9) (pos := s + 1) (hd := s) (om := first) (fr := [{ wait := .nextStart, pc := 5, pos := s, outermost := first }]) (wt := 1) (sn := sn2) (by decide) rfl
        exact ⟨5, by omega, Tells1.step rfl e1 (Tells1.step rfl e2 (Tells1.step rfl e3 start_yes))⟩
      · rw [if_neg (fun x => hc (Bool.and_eq_true_iff.mp x).2)] at e2
        rw [if_neg (fun x => hc (Bool.and_eq_true_iff.mp x).2)]
        obtain ⟨n, hn, ht⟩ := at1_tells text f (s + 1) false sn2 (by omega)
        exact ⟨n + 3, by omega, Tells1.step rfl e1 (Tells1.step rfl e2 (Tells1.step rfl (start_no rfl (by omega)) ht))⟩
    · rw [if_neg hb] at e1
      rw [if_neg (fun x => hb (Bool.and_eq_true_iff.mp x).1)]
      obtain ⟨n, hn, ht⟩ := at1_tells text f (s + 1) false sn1 (by omega)
      exact ⟨n + 2, by omega, Tells1.step rfl e1 (Tells1.step rfl (start_no rfl (by omega)) ht)⟩

theorem tells_1 (text : Array Nat) (s : Nat) (hs : s ≤ text.size) : ∃ n, n ≤ 3 * text.size + 30 ∧ Tells1 n (PySem.Sre.forSearch code1 text 0 s text.size false) (find1 text (text.size - s) s) := by
  by_cases h : s < text.size
  · obtain ⟨sn, e⟩ := search1 text s h
    obtain ⟨n, hn, ht⟩ := at1_tells text (text.size - s) s true sn (by omega)
    exact ⟨n, by omega, by rw [e]; exact ht⟩
  · have : text.size - s = 0 := by omega
    rw [this]
    exact ⟨1, by omega, search1_end text s h⟩

/-! pattern 2 -/
def at2 (text : Array Nat) (s : Nat) (sn : SSeen) : SM := mk code2 text s 10 s s true [{ wait := .nextStart, pc := 10, pos := s, outermost := true }] 1 none sn
def end2 (text : Array Nat) (s : Nat) : Nat := if (text.getD s 0 == 13 && (decide (s + 1 < text.size) && text.getD (s + 1) 0 == 10)) = true then s + 2 else s + 1

theorem at2_tells (text : Array Nat) (s : Nat) (sn : SSeen) (h : s < text.size) (hc : (text.getD s 0 == 10 || text.getD s 0 == 13) = true) : ∃ n, n ≤ 20 ∧ Tells1 n (at2 text s sn) (some (s, end2 text s)) := by
  obtain ⟨sn1, e1⟩ := branch_step (c := code2) (text := text) (st := s) (pc := 10) (pos := s) (hd := s) (om := true) (fr := [{ wait := .nextStart, pc := 10, pos := s, outermost := true }]) (wt := 1) (sn := sn) (v := 7) (by decide) rfl rfl rfl (by omega)
  obtain ⟨sn2, e2⟩ := lit_step (c := code2) (text := text) (st := s) (pc := 12) (pos := s) (hd := s) (om := true) (fr := [{ wait := .nextBranch, pc := 11, pos := s, outermost := true }, { wait := .nextStart, pc := 10, pos := s, outermost := true }]) (wt := 2) (sn := sn1) (v := 13) (by decide) rfl rfl
  have fin : ∀ (q : Nat) (pc b : Nat) (sq : SSeen), (∃ n, n ≤ 4 ∧ Tells1 n (mk code2 text s 35 q pc true [{ wait := .nextBranch, pc := b, pos := s, outermost := true }, { wait := .nextStart, pc := 10, pos := s, outermost := true }] 2 none sq) (some (s, q))) := by
    intro q pc b sq
    obtain ⟨sn8, e8⟩ := success_step (c := code2) (text := text) (st := s) (pc := 35) (pos := q) (hd := pc) (om := true) (fr := [{ wait := .nextBranch, pc := b, pos := s, outermost := true }, { wait := .nextStart, pc := 10, pos := s, outermost := true }]) (wt := 2) (sn := sq) (by decide) rfl
    exact ⟨4, by omega, Tells1.step rfl e8 (Tells1.step rfl next_yes start_yes)⟩
  by_cases h13 : (text.getD s 0 == 13) = true
  · have h10 : (text.getD s 0 == 10) = false := by rw [beq_iff_eq.mp h13]; rfl
    rw [if_pos (by rw [h13]; simp; omega)] at e2
    obtain ⟨sn3, e3⟩ := lit_step (c := code2) (text := text) (st := s) (pc := 14) (pos := s + 1) (hd := s) (om := true) (fr := [{ wait := .nextBranch, pc := 11, pos := s, outermost := true }, { wait := .nextStart, pc := 10, pos := s, outermost := true }]) (wt := 2) (sn := sn2) (v := 10) (by decide) rfl rfl
    by_cases hd : (decide (s + 1 < text.size) && text.getD (s + 1) 0 == 10) = true
    · rw [if_pos hd] at e3
      obtain ⟨sn4, e4⟩ := jump_step (c := code2) (text := text) (st := s) (pc := 16) (pos := s + 2) (hd := s) (om := true) (fr := [{ wait := .nextBranch, pc := 11, pos := s, outermost := true }, { wait := .nextStart, pc := 10, pos := s, outermost := true }]) (wt := 2) (sn := sn3) (v := 18) (by decide) rfl rfl
      obtain ⟨n, hn, ht⟩ := fin (s + 2) s 11 sn4
      rw [show end2 text s = s + 2 from if_pos (by rw [h13, hd]; rfl)]
      exact ⟨n + 4, by omega, Tells1.step rfl e1 (Tells1.step rfl e2 (Tells1.step rfl e3 (Tells1.step rfl e4 ht)))⟩
    · rw [if_neg hd] at e3
      have e4 := next_no (c := code2) (text := text) (st := s) (pc := 14) (pos := s + 1) (hd := s) (om := true) (fr := [{ wait := .nextStart, pc := 10, pos := s, outermost := true }]) (wt := 1) (sn := sn3) (b := 11) (v := 7) (om' := true) (p := s) rfl rfl (by omega)
      obtain ⟨sn5, e5⟩ := lit_step (c := code2) (text := text) (st := s) (pc := 19) (pos := s) (hd := s) (om := true) (fr := [{ wait := .nextBranch, pc := 18, pos := s, outermost := true }, { wait := .nextStart, pc := 10, pos := s, outermost := true }]) (wt := 2) (sn := sn3) (v := 10) (by decide) rfl rfl
      rw [if_neg (by rw [h10]; simp)] at e5
      have e6 := next_no (c := code2) (text := text) (st := s) (pc := 19) (pos := s) (hd := s) (om := true) (fr := [{ wait := .nextStart, pc := 10, pos := s, outermost := true }]) (wt := 1) (sn := sn5) (b := 18) (v := 5) (om' := true) (p := s) rfl rfl (by omega)
      obtain ⟨sn7, e7⟩ := lit_step (c := code2) (text := text) (st := s) (pc := 24) (pos := s) (hd := s) (om := true) (fr := [{ wait := .nextBranch, pc := 23, pos := s, outermost := true }, { wait := .nextStart, pc := 10, pos := s, outermost := true }]) (wt := 2) (sn := sn5) (v := 13) (by decide) rfl rfl
      rw [if_pos (by rw [h13]; simp; omega)] at e7
      obtain ⟨sn8, e8⟩ := assertNot_step (c := code2) (text := text) (st := s) (pc := 26) (pos := s + 1) (hd := s) (om := true) (fr := [{ wait := .nextBranch, pc := 23, pos := s, outermost := true }, { wait := .nextStart, pc := 10, pos := s, outermost := true }]) (wt := 2) (sn := sn7) (by decide) rfl rfl (by omega)
      obtain ⟨sn9, e9⟩ := lit_step (c := code2) (text := text) (st := s) (pc := 29) (pos := s + 1) (hd := s + 1) (om := false) (fr := [{ wait := .lookNot, pc := 26, pos := s + 1, outermost := true }, { wait := .nextBranch, pc := 23, pos := s, outermost := true }, { wait := .nextStart, pc := 10, pos := s, outermost := true }]) (wt := 3) (sn := sn8) (v := 10) (by decide) rfl rfl
      rw [if_neg hd] at e9
      have e10 := look_no (c := code2) (text := text) (st := s) (pc := 29) (pos := s + 1) (hd := s + 1) (om := false) (fr := [{ wait := .nextBranch, pc := 23, pos := s, outermost := true }, { wait := .nextStart, pc := 10, pos := s, outermost := true }]) (wt := 2) (sn := sn9) (b := 26) (v := 5) (om' := true) (p := s + 1) rfl
      obtain ⟨sn11, e11⟩ := jump_step (c := code2) (text := text) (st := s) (pc := 32) (pos := s + 1) (hd := s + 1) (om := true) (fr := [{ wait := .nextBranch, pc := 23, pos := s, outermost := true }, { wait := .nextStart, pc := 10, pos := s, outermost := true }]) (wt := 2) (sn := sn9) (v := 2) (by decide) rfl rfl
      obtain ⟨n, hn, ht⟩ := fin (s + 1) (s + 1) 23 sn11
      rw [show end2 text s = s + 1 from if_neg (fun x => hd (Bool.and_eq_true_iff.mp x).2)]
      exact ⟨n + 11, by omega, Tells1.step rfl e1 (Tells1.step rfl e2 (Tells1.step rfl e3 (Tells1.step rfl e4 (Tells1.step rfl e5 (Tells1.step rfl e6 (Tells1.step rfl e7 (Tells1.step rfl e8 (Tells1.step rfl e9 (Tells1.step rfl e10 (Tells1.step rfl e11 ht))))))))))⟩
  · have h10 : (text.getD s 0 == 10) = true := by
      cases hq : (text.getD s 0 == 10)
      · rw [hq, Bool.false_or] at hc; exact absurd hc h13
      · rfl
    rw [if_neg (fun x => h13 (Bool.and_eq_true_iff.mp x).2)] at e2
    have e4 := next_no (c := code2) (text := text) (st := s) (pc := 12) (pos := s) (hd := s) (om := true) (fr := [{ wait := .nextStart, pc := 10, pos := s, outermost := true }]) (wt := 1) (sn := sn2) (b := 11) (v := 7) (om' := true) (p := s) rfl rfl (by omega)
    obtain ⟨sn5, e5⟩ := lit_step (c := code2) (text := text) (st := s) (pc := 19) (pos := s) (hd := s) (om := true) (fr := [{ wait := .nextBranch, pc := 18, pos := s, outermost := true }, { wait := .nextStart, pc := 10, pos := s, outermost := true }]) (wt := 2) (sn := sn2) (v := 10) (by decide) rfl rfl
    rw [if_pos (by rw [h10]; simp; omega)] at e5
    obtain ⟨sn6, e6⟩ := jump_step (c := code2) (text := text) (st := s) (pc := 21) (pos := s + 1) (hd := s) (om := true) (fr := [{ wait := .nextBranch, pc := 18, pos := s, outermost := true }, { wait := .nextStart, pc := 10, pos := s, outermost := true }]) (wt := 2) (sn := sn5) (v := 13) (by decide) rfl rfl
    obtain ⟨n, hn, ht⟩ := fin (s + 1) s 18 sn6
    rw [show end2 text s = s + 1 from if_neg (fun x => h13 (Bool.and_eq_true_iff.mp x).1)]
    exact ⟨n + 5, by omega, Tells1.step rfl e1 (Tells1.step rfl e2 (Tells1.step rfl e4 (Tells1.step rfl e5 (Tells1.step rfl e6 ht))))⟩

/-- the first place from s on where pattern 2 stands -/
def find2 (text : Array Nat) : Nat → Nat → Option (Nat × Nat)
  | 0, _ => none
  | f + 1, s => if (text.getD s 0 == 10 || text.getD s 0 == 13) = true then some (s, end2 text s) else find2 text f (s + 1)

theorem inSet2 (ch : Nat) (sn : SSeen) : ∃ sn', PySem.Sre.inSet code2 ch code2.size 5 true sn = .ok ((ch == 10 || ch == 13), sn') := by
  by_cases h10 : (ch == 10) = true
  · refine ⟨sn.add 16, ?_⟩
    show (if (ch == 10) = true then _ else _) = _
    rw [if_pos h10, h10]; rfl
  · by_cases h13 : (ch == 13) = true
    · refine ⟨(sn.add 16).add 16, ?_⟩
      show (if (ch == 10) = true then _ else _) = _
      rw [if_neg h10]
      show (if (ch == 13) = true then _ else _) = _
      rw [if_pos h13, h13, Bool.or_true]; rfl
    · refine ⟨((sn.add 16).add 16).add 0, ?_⟩
      show (if (ch == 10) = true then _ else _) = _
      rw [if_neg h10]
      show (if (ch == 13) = true then _ else _) = _
      rw [if_neg h13, Bool.not_eq_true _ |>.mp h10, Bool.not_eq_true _ |>.mp h13]; rfl
theorem admitted2 (m : SM) (text : Array Nat) (hm : m.code = code2) (ht : m.text = text) (hl : m.lim = text.size) : ∀ (f s : Nat) (sn : SSeen), s + f = text.size → ∃ sn', PySem.Sre.M.admitted m (f + 1) s sn = .ok ((find2 text f s).map (·.1), sn')
  | 0, s, sn, h => by
    refine ⟨sn, ?_⟩
    show (if s ≥ m.lim then _ else _) = _
    rw [hl, if_pos (by omega)]; rfl
  | f + 1, s, sn, h => by
    obtain ⟨sn1, e1⟩ := inSet2 (text.getD s 0) sn
    rw [PySem.Sre.M.admitted, hm, ht, hl, e1, if_neg (by omega), find2]
    by_cases hc : (text.getD s 0 == 10 || text.getD s 0 == 13) = true
    · rw [hc, if_pos rfl]; exact ⟨_, rfl⟩
    · rw [Bool.not_eq_true _ |>.mp hc, if_neg Bool.false_ne_true]
      exact admitted2 m text hm ht hl f (s + 1) sn1 (by omega)
theorem find2_some (text : Array Nat) : ∀ (f s b e : Nat), s + f = text.size → find2 text f s = some (b, e) → s ≤ b ∧ b < text.size ∧ (text.getD b 0 == 10 || text.getD b 0 == 13) = true ∧ e = end2 text b
  | 0, _, _, _, _, h => by cases h
  | f + 1, s, b, e, hs, h => by
    rw [find2] at h
    by_cases hc : (text.getD s 0 == 10 || text.getD s 0 == 13) = true
    · rw [if_pos hc] at h
      cases h
      exact ⟨Nat.le_refl _, by omega, hc, rfl⟩
    · rw [if_neg hc] at h
      obtain ⟨a1, a2⟩ := find2_some text f (s + 1) b e (by omega) h
      exact ⟨by omega, a2⟩
theorem tells_2 (text : Array Nat) (s : Nat) (hs : s ≤ text.size) : ∃ n, n ≤ 3 * text.size + 30 ∧ Tells1 n (PySem.Sre.forSearch code2 text 0 s text.size false) (find2 text (text.size - s) s) := by
  by_cases h : s < text.size
  · have h1 : ¬ ((decide (s > text.size) || decide (text.size - s < 1)) = true) := by simp; omega
    have e : PySem.Sre.forSearch code2 text 0 s text.size false = PySem.Sre.M.attemptFrom (mk code2 text s 10 s s true [] 0 none (({} : SSeen).add 14)) s true := if_neg h1
    obtain ⟨sn1, e1⟩ := admitted2 (mk code2 text s 10 s s true [] 0 none (({} : SSeen).add 14)) text rfl rfl rfl (text.size - s) s (({} : SSeen).add 14) (by omega)
    have e2 : PySem.Sre.M.attemptFrom (mk code2 text s 10 s s true [] 0 none (({} : SSeen).add 14)) s true = match PySem.Sre.M.admitted (mk code2 text s 10 s s true [] 0 none (({} : SSeen).add 14)) (text.size + 1 - s) s (({} : SSeen).add 14) with
      | .ok (some q, sq) => at2 text q sq
      | .ok (none, sq) => mk code2 text s 10 s s true [] 0 (some false) sq
      | .error why => _ := rfl
    rw [show text.size + 1 - s = text.size - s + 1 by omega, e1] at e2
    rw [e, e2]
    cases hf : find2 text (text.size - s) s with
    | none => exact ⟨1, by omega, rfl⟩
    | some r =>
      obtain ⟨b, en⟩ := r
      obtain ⟨a1, a2, a3, a4⟩ := find2_some text _ _ _ _ (by omega) hf
      subst a4
      obtain ⟨n, hn, ht⟩ := at2_tells text b sn1 a2 a3
      exact ⟨n, by omega, ht⟩
  · have h1 : ((decide (s > text.size) || decide (text.size - s < 1)) = true) := by simp; omega
    have e : PySem.Sre.forSearch code2 text 0 s text.size false = _ := if_pos h1
    have : text.size - s = 0 := by omega
    rw [this]
    refine ⟨1, by omega, ?_⟩
    unfold Tells1
    rw [e]
    rfl
end Mine
end
section
open PySem PySem.W PyProof.Rows PySem.Builtin PySem.Builtin.Re
namespace Mine
open PySem.Sre.M

section
variable {M : Model} {A : Around} {E : Value → Shared → Prop} {s : Shared}

theorem wp_drive {Q : SM → Shared → Prop} : ∀ (turns n : Nat) (m : SM), n ≤ 4 * turns → 0 < turns → (runFor n m).outcome.isSome = true → Q (runFor n m) s → wpAny M A (reDrive turns m) Q E s
  | 0, _, _, _, h0, _, _ => absurd h0 (Nat.lt_irrefl _)
  | turns + 1, n, m, hn, _, ho, hq => by
    unfold reDrive
    by_cases h4 : (runFor 4 m).outcome.isSome = true
    · show wpAny M A (if (runFor 4 m).outcome.isSome = true then pure (runFor 4 m) else _) Q E s
      rw [if_pos h4]
      have e : runFor 4 m = runFor n m := by
        by_cases hle : n ≤ 4
        · obtain ⟨k, hk⟩ := Nat.le.dest hle
          have := runFor_add k n m
          rw [runFor_stable ho, hk] at this
          exact this
        · obtain ⟨k, rfl⟩ := Nat.le.dest (Nat.le_of_not_le hle)
          rw [runFor_add, runFor_stable h4]
      rw [e]
      exact wpAny_pure hq
    · show wpAny M A (if (runFor 4 m).outcome.isSome = true then pure (runFor 4 m) else _) Q E s
      rw [if_neg h4]
      have hle : 4 ≤ n := by
        by_cases hle : 4 ≤ n
        · exact hle
        · exfalso
          obtain ⟨k, hk⟩ := Nat.le.dest (show n ≤ 4 by omega)
          have := runFor_add k n m
          rw [runFor_stable ho, hk] at this
          rw [this] at h4
          exact h4 ho
      obtain ⟨k, rfl⟩ := Nat.le.dest hle
      rw [runFor_add] at ho hq
      by_cases h0 : 0 < turns
      · exact wpAny_bind (wpAny_rule (wp_drive turns k _ (by omega) h0 ho hq))
      · have hk : k = 0 := by omega
        subst hk
        exact absurd ho h4

theorem wp_notes (m : SM) {Q : PUnit → Shared → Prop} (hq : Q ⟨⟩ s) : ∀ l : List Nat, wpAny M A (forIn l PUnit.unit fun i _ => do
      if m.seen.has i then rule (PySem.Sre.names.getD i "")
      pure (ForInStep.yield PUnit.unit)) Q E s
  | [] => by rw [List.forIn_nil]; exact wpAny_pure hq
  | i :: l => by
    rw [List.forIn_cons]
    refine wpAny_bind ?_
    by_cases h : m.seen.has i = true
    · rw [if_pos h]
      exact wpAny_bind (wpAny_rule (wpAny_pure (wp_notes m hq l)))
    · rw [if_neg h]
      exact wpAny_pure (wp_notes m hq l)

theorem wp_toEnd {m : SM} {n : Nat} {r : Option (Nat × Nat)} {Q : Option SM → Shared → Prop} (hn : n ≤ 2 ^ 60) (ht : Tells1 n m r)
    (hq : ∀ m' : Option SM, m'.map (fun m => (m.start, m.handed)) = r → Q m' s) : wpAny M A (reRunToEnd m) Q E s := by
  unfold reRunToEnd
  refine wpAny_bind (wp_drive (2 ^ 64) n m (by omega) (by decide) (by unfold Tells1 at ht; cases r with | none => rw [ht]; rfl | some x => rw [ht.1]; rfl) ?_)
  refine wpAny_bind (wp_notes _ ?_ _)
  unfold Tells1 at ht
  cases r with
  | none =>
    simp only [ht]
    exact wpAny_pure (hq none rfl)
  | some x =>
    simp only [ht.1]
    exact wpAny_pure (hq (some _) (by rw [Option.map_some, ht.2.1, ht.2.2]))
end

/-- a pattern without groups, for texts -/
structure IsPat (h : Heap) (pat : Addr) (code : Array Nat) : Prop where
  ex : ∃ (o oc : Obj) (vs : Array Value) (ca : Addr) (cv : Array Value) (n : Nat), h.get? pat = some o ∧ o.cls = .type "re.Pattern" ∧ o.data = .fields vs ∧ vs.getD 5 .none = .ref ca ∧ reRawNat (vs.getD 2 .none) = 0 ∧ reRawNat (vs.getD 6 .none) = 0 ∧
    h.get? ca = some oc ∧ oc.data = .seq cv n ∧ (cv.map reRawOf).map (·.toNat) = code
theorem IsPat.keeps {h h' : Heap} {pat : Addr} {code : Array Nat} (I : IsPat h pat code) (hk : ∀ b o, h.get? b = some o → h'.get? b = some o) : IsPat h' pat code := by
  obtain ⟨o, oc, vs, ca, cv, n, h1, h2, h3, h4, h5, h6, h7, h8, h9⟩ := I.ex
  exact ⟨o, oc, vs, ca, cv, n, hk _ _ h1, h2, h3, h4, h5, h6, hk _ _ h7, h8, h9⟩

section
variable {M : Model} {A : Around} {E : Value → Shared → Prop} {s : Shared}
theorem wp_target {pat : Addr} {code : Array Nat} {x : Str} {tx : Tok} {Q : ReTarget → Shared → Prop} (I : IsPat s.heap pat code)
    (h : Q { pattern := .ref pat, string := .str x tx, code := code, text := x.cps, kind := 0, groups := 0, pos := 0, lim := x.cps.size } s) : wpAny M A (reWholeTarget (.ref pat) (.str x tx)) Q E s := by
  obtain ⟨o, oc, vs, ca, cv, n, h1, h2, h3, h4, h5, h6, h7, h8, h9⟩ := I.ex
  unfold reWholeTarget
  refine wpAny_bind (wpAny_fieldsOf h1 h3 ?_)
  refine wpAny_bind (m := reTextOf (.str x tx)) ?_
  show wpAny M A (pure (x.cps, 0)) _ E s
  refine wpAny_pure ?_
  simp only [h6]
  show wpAny M A (reRawItems (vs.getD 5 .none) >>= _) Q E s
  rw [h4]
  unfold reRawItems
  refine wpAny_bind (wpAny_bind (wpAny_seqItems h7 h8 (wpAny_pure (wpAny_pure ?_))))
  simp only [Option.getD_some, h9, h5]
  exact h
theorem glued_empty : ∀ (ps : List Str), (Str.join ⟨#[]⟩ ps).cps.toList = (ps.map (·.cps.toList)).flatten
  | [] => rfl
  | [x] => by simp [Str.join]
  | x :: y :: r => by
    have ih := glued_empty (y :: r)
    show ((x ++ (⟨#[]⟩ : Str)) ++ Str.join ⟨#[]⟩ (y :: r)).cps.toList = _
    rw [List.map_cons, List.flatten_cons, ← ih]
    show ((x.cps ++ #[]) ++ (Str.join ⟨#[]⟩ (y :: r)).cps).toList = _
    simp
def pcat (ps : List (Str × Tok)) : List Nat := (ps.map (·.1.cps.toList)).flatten
theorem pcat_snoc (ps : List (Str × Tok)) (x : Str) (t : Tok) : pcat (ps ++ [(x, t)]) = pcat ps ++ x.cps.toList := by simp [pcat]
theorem lens_pcat : ∀ ps : List (Str × Tok), ((ps.map (·.1)).map (·.length)).sum = (pcat ps).length
  | [] => rfl
  | p :: r => by
    have := lens_pcat r
    simp only [pcat, List.map_cons, List.sum_cons, List.flatten_cons, List.length_append] at this ⊢
    rw [this]; rfl
theorem strValues_snoc (ps : List (Str × Tok)) (x : Str) (t : Tok) : (strValues ps).toArray.push (.str x t) = (strValues (ps ++ [(x, t)])).toArray := by simp [strValues]
end

theorem entry_loop : entryFor table "re.Pattern.sub.loop" = some Builtin.«re.Pattern.sub.loop» := entryFor_of_tree (by kernel_rfl)
theorem under_loop (A : Around) (a : Args) : A.under (.builtin "re.Pattern.sub.loop" a) = A.in1 := Around.under_plainId (by decide +kernel) a
theorem quiet_loop (a : Args) : (Code.builtin "re.Pattern.sub.loop" a).quiet = true := plainId_quiet (by decide +kernel) a

abbrev lObj (xs : Array Value) (n : Nat) : Obj := { cls := .type "list", data := .seq xs n }
theorem upd_list {h : Heap} {l : Addr} {xs : Array Value} {n : Nat} (hl : h.get? l = some (lObj xs n)) (v : Value) : (h.update l (Obj.mapSeq (·.push v))).get? l = some (lObj (xs.push v) (n + 1)) := by
  have e := Heap.get?_update_self (h := h) (a := l) (o := lObj xs n) (Obj.mapSeq (·.push v)) hl rfl
  rw [e]
  show some (⟨.type "list", none, .seq (xs.push v) (if (xs.push v).size == xs.size then n else n + 1), #[]⟩ : Obj) = _
  rw [if_neg (by simp)]
theorem upd_base {h₀ h : Heap} {l : Addr} {f : Obj → Obj} (hb : ∀ b o, h₀.get? b = some o → h.get? b = some o) (hn : h₀.get? l = none) : ∀ b o, h₀.get? b = some o → (h.update l f).get? b = some o := by
  intro b o e
  rw [Heap.get?_update_other _ _ (fun e9 => by subst e9; rw [hn] at e; cases e)]
  exact hb b o e

section
variable {prog : Program} {w : World} {A : Around} {R : Result → Shared → Prop}
theorem sub_loop (code : Array Nat) (x r : Str) (tx tr : Tok) (pat : Addr) (find : Nat → Option (Nat × Nat)) (F : Nat → List Nat) (h₀ : Heap) (s₀ : Shared) (I : IsPat h₀ pat code)
    (hx : x.cps.size ≤ 2 ^ 20) (hr : r.cps.size ≤ 2)
    (hfind : ∀ i, i ≤ x.cps.size → ∃ n, n ≤ 2 ^ 60 ∧ Tells1 n (PySem.Sre.forSearch code x.cps 0 i x.cps.size false) (find i))
    (hsome : ∀ i b e, i ≤ x.cps.size → find i = some (b, e) → i ≤ b ∧ b < e ∧ e ≤ x.cps.size)
    (hF : ∀ i, i ≤ x.cps.size → F i = match find i with | none => (x.cps.extract i x.cps.size).toList | some (b, e) => (x.cps.extract i b).toList ++ r.cps.toList ++ F e)
    (res : List Nat) (hR : ∀ t h' tk', (∀ b o, h₀.get? b = some o → h'.get? b = some o) → R (.ok (.ret (.str ⟨res.toArray⟩ t))) { s₀ with heap := h', toks := tk' }) :
    ∀ (k i : Nat), x.cps.size - i = k → i ≤ x.cps.size → ∀ (h : Heap) (tk : Nat) (l : Addr) (ps : List (Str × Tok)) (nn : Nat) (cnt : Int), (∀ b o, h₀.get? b = some o → h.get? b = some o) → h₀.get? l = none → h.get? l = some (lObj (strValues ps).toArray nn) →
      ps.length ≤ 2 * i → (pcat ps).length ≤ 3 * i → pcat ps ++ F i = res →
      codeAny (model prog w) A (.builtin "re.Pattern.sub.loop" ⟨[.ref pat, .str x tx, .str r tr, rawInt 0, rawInt 0, rawInt cnt, rawInt i, rawInt i, .bool false, .ref l, .bool false], []⟩) R { s₀ with heap := h, toks := tk } := by
  intro k
  induction k using Nat.strongRecOn with
  | ind k ih =>
  intro i hk hi h tk l ps nn cnt hb hnl hl hps hpc hres
  refine codeAny_builtin entry_loop ?_
  rw [under_loop]
  show wpAny _ _ (reWholeTarget (.ref pat) (.str x tx) >>= _) _ _ _
  refine wpAny_bind (wp_target (I.keeps hb) ?_)
  obtain ⟨n, hn, ht⟩ := hfind i hi
  show wpAny _ _ (reNextFound _ (Int.toNat (i : Int)) false >>= _) _ _ _
  rw [Int.toNat_natCast]
  refine wpAny_bind (wp_toEnd hn ht ?_)
  have hFi := hF i hi
  intro m' hm'
  cases m' with
  | none =>
    rw [← show none = find i from hm'] at hFi
    dsimp only at hFi ⊢
    have hsz : x.length ≤ sizeLine := by rw [sizeLine_eq]; show x.cps.size ≤ _; omega
    have tail : ∀ (h : Heap) (tk : Nat) (ps : List (Str × Tok)) (nn : Nat), (∀ b o, h₀.get? b = some o → h.get? b = some o) → h.get? l = some (lObj (strValues ps).toArray nn) → (pcat ps).length ≤ 2 ^ 23 → pcat ps = res →
        wpAny (model prog w) A.in1 (do
          let joiner ← reSlice x.cps 0 0 0
          let y ← seqItems? (.ref l)
          let text ← if (y.getD #[]).isEmpty = true then pure joiner else call (.builtin "str.join") [joiner, .ref l]
          ret text) (fun fin s' => match fin with | .done f => R (.ok f) s' | .again c' => c'.quiet = true ∧ codeAny (model prog w) A c' R s') (fun e s' => R (.error e) s') { s₀ with heap := h, toks := tk } := by
      intro h tk ps nn hb hl hpc hres
      show wpAny _ _ (mkStr ⟨x.cps.extract 0 0⟩ >>= _) _ _ _
      have e0 : x.cps.extract 0 0 = #[] := by simp
      rw [e0]
      refine wpAny_bind (wpAny_mkStr ?_ (by decide))
      refine wpAny_bind (wpAny_seqItems hl rfl ?_)
      dsimp only [Option.getD_some]
      cases ps with
      | nil =>
        rw [if_pos (by simp [strValues])]
        refine wpAny_bind (wpAny_pure (wpAny_pure ?_))
        have := hR tk h (tk + 1) hb
        rw [← hres] at this
        exact this
      | cons p ps =>
        rw [if_neg (by simp [strValues])]
        refine wpAny_bind (SC.join (l := p :: ps) ⟨_, hl, rfl, _, rfl⟩ rfl ?_ fun t' k' => wpAny_pure ?_)
        · unfold JoinOk
          rw [StrLaws.joinTotal, lens_pcat]
          show (!decide (_ > sizeLine)) = true
          rw [sizeLine_eq, show (⟨#[]⟩ : Str).length = 0 from rfl]
          simp; omega
        · have e1 : Txt.join ⟨#[]⟩ ((p :: ps).map (·.1)) = ⟨res.toArray⟩ := by
            show PySem.Builtin.Str.glued _ _ = _
            rw [StrLaws.glued_eq_join, ← hres]
            have := glued_empty ((p :: ps).map (·.1))
            rw [List.map_map] at this
            show Str.mk (Str.join ⟨#[]⟩ ((p :: ps).map (·.1))).cps = _
            congr 1
            rw [← Array.toList_inj]
            exact this
          rw [e1]
          exact hR _ h _ hb
    by_cases hlt : i < x.cps.size
    · rw [if_pos hlt]
      show wpAny _ _ (mkStr ⟨x.cps.extract i x.cps.size⟩ >>= _) _ _ _
      refine wpAny_bind (wpAny_mkStr ?_ (by rw [sizeLine_eq]; show (x.cps.extract i x.cps.size).size ≤ _; rw [Array.size_extract]; omega))
      refine wpAny_bind (wpAny_updateSeq hl rfl ?_ (by rw [sizeLine_eq]; simp [strValues]; omega) (by rw [sizeLine_eq]; simp [strValues]; omega))
      refine tail _ _ (ps ++ [(⟨x.cps.extract i x.cps.size⟩, tk)]) (nn + 1) (upd_base hb hnl) ?_ ?_ ?_
      · rw [← strValues_snoc]; exact upd_list hl _
      · rw [pcat_snoc, List.length_append]; simp; omega
      · rw [pcat_snoc, ← hFi, hres]
    · rw [if_neg hlt]
      refine tail _ _ ps nn hb hl (by omega) ?_
      rw [← hres, hFi]
      simp; omega
  | some m' =>
    have hfi : find i = some (m'.start, m'.handed) := hm'.symm
    obtain ⟨a1, a2, a3⟩ := hsome i _ _ hi hfi
    rw [hfi] at hFi
    dsimp only at hFi ⊢
    have tail : ∀ (h : Heap) (tk : Nat) (ps : List (Str × Tok)) (nn : Nat), (∀ b o, h₀.get? b = some o → h.get? b = some o) → h.get? l = some (lObj (strValues ps).toArray nn) → ps.length ≤ 2 * i + 1 → (pcat ps).length ≤ 2 * i + m'.start → pcat ps ++ r.cps.toList ++ F m'.handed = res →
        wpAny (model prog w) A.in1 (do
          updateSeq l (·.push (.str r tr))
          again (Code.builtin "re.Pattern.sub.loop" ⟨[.ref pat, .str x tx, .str r tr, rawInt 0, rawInt 0, rawInt (cnt + 1), rawInt ↑m'.handed, rawInt ↑m'.handed, .bool (m'.handed == m'.start), .ref l, .bool false], []⟩)) (fun fin s' => match fin with | .done f => R (.ok f) s' | .again c' => c'.quiet = true ∧ codeAny (model prog w) A c' R s') (fun e s' => R (.error e) s') { s₀ with heap := h, toks := tk } := by
      intro h tk ps nn hb hl hps hpc hres
      refine wpAny_bind (wpAny_updateSeq hl rfl ?_ (by rw [sizeLine_eq]; simp [strValues]; omega) (by rw [sizeLine_eq]; simp [strValues]; omega))
      refine wpAny_pure ⟨quiet_loop _, ?_⟩
      rw [show (m'.handed == m'.start) = false by simp; omega]
      refine ih (x.cps.size - m'.handed) (by omega) m'.handed rfl a3 _ _ l (ps ++ [(r, tr)]) (nn + 1) _ (upd_base hb hnl) hnl ?_ ?_ ?_ ?_
      · rw [← strValues_snoc]; exact upd_list hl _
      · rw [List.length_append]; simp; omega
      · rw [pcat_snoc, List.length_append]
        have hq : r.cps.toList.length = r.cps.size := Array.length_toList
        omega
      · rw [pcat_snoc, hres]
    by_cases hlt : i < m'.start
    · rw [if_pos hlt]
      show wpAny _ _ (mkStr ⟨x.cps.extract i m'.start⟩ >>= _) _ _ _
      refine wpAny_bind (wpAny_mkStr ?_ (by rw [sizeLine_eq]; show (x.cps.extract i m'.start).size ≤ _; rw [Array.size_extract]; omega))
      refine wpAny_bind (wpAny_updateSeq hl rfl ?_ (by rw [sizeLine_eq]; simp [strValues]; omega) (by rw [sizeLine_eq]; simp [strValues]; omega))
      refine tail _ _ (ps ++ [(⟨x.cps.extract i m'.start⟩, tk)]) (nn + 1) (upd_base hb hnl) ?_ ?_ ?_ ?_
      · rw [← strValues_snoc]; exact upd_list hl _
      · rw [List.length_append]; simp; omega
      · rw [pcat_snoc, List.length_append]; simp; omega
      · rw [pcat_snoc, ← hres, hFi]; simp
    · rw [if_neg hlt]
      refine tail _ _ ps nn hb hl (by omega) (by omega) ?_
      rw [← hres, hFi]
      have : i = m'.start := by omega
      rw [← this]; simp
end
end Mine
end
section
open PySem PySem.W PyProof.Rows PySem.Builtin PySem.Builtin.Re
namespace Mine
open PySem.Sre.M

theorem pa_pat : PlainAttrs "re.Pattern" :=
  ⟨⟨"object.__getattribute__", by rw [typeLookup_type, builtinLookup_eq_fast]; kernel_rfl, by decide +kernel⟩, by rw [typeLookup_type, builtinLookup_eq_fast]; kernel_rfl⟩
theorem slot_sub : Slot "re.Pattern" "sub" "re.Pattern.sub" :=
  .of (owner := "re.Pattern") (n := "sub") (by rw [typeLookup_type, builtinLookup_eq_fast]; kernel_rfl) (by decide +kernel) (by decide +kernel) (by decide +kernel)
    (by first | exact .inl (by decide +kernel) | exact .inr (by decide +kernel)) (by rw [isSubtype_type]; kernel_rfl)
theorem entry_sub : entryFor table "re.Pattern.sub" = some Builtin.«re.Pattern.sub» := entryFor_of_tree (by kernel_rfl)
theorem args_sub (a b c : Value) : argsOk "re.Pattern.sub" ⟨[a, b, c], []⟩ := by unfold argsOk; kernel_rfl
theorem type_sub : typeOf (.builtin "re.Pattern.sub") = pure (.type "method_descriptor") := by show builtinType _ = _; rw [builtinType_eq_fast]; kernel_rfl
theorem str_nocall : typeLookup (.type "str") "__call__" = pure none := by rw [typeLookup_type, builtinLookup_eq_fast]; kernel_rfl

section
variable {prog : Program} {w : World} {A : Around} {E : Value → Shared → Prop} {s : Shared}
theorem named_sub (r x : Str) (tr tx : Tok) : reNamed "re.Pattern.sub" "sub" ["repl", "string", "count"] 2 [.str r tr, .str x tx] [] = pure [some (.str r tr), some (.str x tx), none] := rfl
theorem meth_sub {pat : Addr} {code : Array Nat} {pl : Sem Bool} {Q : Value × List Value → Shared → Prop} (I : IsPat s.heap pat code) (hd : ∃ o, s.heap.get? pat = some o ∧ o.dict = none) (h : Q (.builtin "re.Pattern.sub", [.ref pat]) s) :
    wpAny (model prog w) A (getMethod (.ref pat) "sub" pl) Q E s := by
  obtain ⟨o, oc, vs, ca, cv, n, h1, h2, h3, h4, h5, h6, h7, h8, h9⟩ := I.ex
  exact getMethod_builtin ⟨o, h1, h2⟩ pa_pat slot_sub type_sub (fun a e => by cases e; exact hd) h
theorem sub_call (code : Array Nat) (x r : Str) (tx tr : Tok) (pat : Addr) (find : Nat → Option (Nat × Nat)) (F : Nat → List Nat) (I : IsPat s.heap pat code)
    (hx : x.cps.size ≤ 2 ^ 20) (hr : r.cps.size ≤ 2) (hbs : r.cps.contains 92 = false)
    (hfind : ∀ i, i ≤ x.cps.size → ∃ n, n ≤ 2 ^ 60 ∧ Tells1 n (PySem.Sre.forSearch code x.cps 0 i x.cps.size false) (find i))
    (hsome : ∀ i b e, i ≤ x.cps.size → find i = some (b, e) → i ≤ b ∧ b < e ∧ e ≤ x.cps.size)
    (hF : ∀ i, i ≤ x.cps.size → F i = match find i with | none => (x.cps.extract i x.cps.size).toList | some (b, e) => (x.cps.extract i b).toList ++ r.cps.toList ++ F e)
    {Q : Value → Shared → Prop}
    (hR : ∀ t h' tk', (∀ b o, s.heap.get? b = some o → h'.get? b = some o) → Q (.str ⟨(F 0).toArray⟩ t) { s with heap := h', toks := tk' }) :
    wpAny (model prog w) A (call (.builtin "re.Pattern.sub") [.ref pat, .str r tr, .str x tx]) Q E s := by
  obtain ⟨o, oc, vs, ca, cv, n, h1, h2, h3, h4, h5, h6, h7, h8, h9⟩ := I.ex
  refine wpAny_call (codeAny_call_builtin slot_sub.plain entry_sub (slot_sub.check _ _ _ _ _ _ _ _ ⟨o, h1, h2⟩ (args_sub _ _ _) ?_))
  show wpAny _ _ (reSubstitute "re.Pattern.sub" "sub" false ⟨[.ref pat, .str r tr, .str x tx], []⟩) _ _ s
  unfold reSubstitute
  show wpAny _ _ (reNamed "re.Pattern.sub" "sub" ["repl", "string", "count"] 2 [.str r tr, .str x tx] [] >>= _) _ _ s
  rw [named_sub]
  refine wpAny_bind (wpAny_pure ?_)
  refine wpAny_bind (wpAny_pure ?_)
  refine wpAny_bind (wpAny_specialOf (typeIs_str _ _ _) str_nocall ?_)
  simp only [Option.isSome_none, Bool.false_eq_true, if_false]
  refine wpAny_bind (wpAny_of_eq (show asStr? (.str r tr) = pure (some r) from rfl) ?_)
  dsimp only
  rw [hbs]
  refine wpAny_bind (wpAny_pure ?_)
  rw [if_pos (show (!false) = true from rfl)]
  refine wpAny_bind (wpAny_pure ?_)
  refine wpAny_bind (wpAny_holding (wp_target I ?_))
  refine wpAny_bind (wpAny_newList ?_ (by decide))
  refine wpAny_pure ⟨quiet_loop _, ?_⟩
  refine sub_loop code x r tx tr pat find F s.heap s I hx hr hfind hsome hF (F 0) ?_ x.cps.size 0 (by omega) (by omega) _ s.toks s.heap.objs.size [] 0 0 (fun b o e => Heap.get?_push_of_some _ e) ?_ (Heap.get?_push_size _ rfl) (by simp) (by simp [pcat]) rfl
  · intro t h' tk' hk
    exact hR t h' tk' hk
  · cases hq : s.heap.get? s.heap.objs.size with
    | none => rfl
    | some o' => exact absurd (Heap.lt_size hq) (Nat.lt_irrefl _)
end

/-! what the two patterns do, in plain words -/
def crlf : List Nat → List Nat
  | [] => []
  | 13 :: 10 :: r => 13 :: 10 :: crlf r
  | c :: r => if c == 10 || c == 13 then 13 :: 10 :: crlf r else c :: crlf r
def dots : Bool → List Nat → List Nat
  | _, [] => []
  | b, c :: r => if b && c == 46 then 46 :: 46 :: dots false r else c :: dots (c == 10) r
def qd (x : List Nat) : List Nat := dots true (crlf x)
def quoted (x : Str) : Str := ⟨(qd x.cps.toList).toArray⟩

theorem getD_drop {x : Array Nat} {i : Nat} (h : i < x.size) : x.toList.drop i = x.getD i 0 :: x.toList.drop (i + 1) := by
  rw [List.drop_eq_getElem_cons (by simpa using h)]
  simp [Array.getD, h]
theorem ext_nil (x : Array Nat) (i : Nat) : (x.extract i i).toList = [] := by simp
theorem ext_all (x : Array Nat) (i : Nat) : (x.extract i x.size).toList = x.toList.drop i := by
  rw [Array.toList_extract, ← Array.length_toList, List.extract_eq_take_drop, List.take_of_length_le (by simp)]
theorem ext_cons {x : Array Nat} {i b : Nat} (h : i < b) (hb : b ≤ x.size) : (x.extract i b).toList = x.getD i 0 :: (x.extract (i + 1) b).toList := by
  rw [Array.toList_extract, Array.toList_extract, List.extract_eq_take_drop, List.extract_eq_take_drop, getD_drop (by omega), show b - i = (b - (i + 1)) + 1 by omega, List.take_succ_cons]

theorem crlf_cons_other {c : Nat} {r : List Nat} (h : (c == 10 || c == 13) = false) : crlf (c :: r) = c :: crlf r := by
  have h13 : c ≠ 13 := by intro e; subst e; simp at h
  rw [crlf]
  · rw [if_neg (by rw [h]; exact Bool.false_ne_true)]
  · intro r' e; exact absurd e h13
theorem crlf_10 (r : List Nat) : crlf (10 :: r) = 13 :: 10 :: crlf r := by
  rw [crlf]
  · rfl
  · intro r' e; cases e
theorem crlf_13 {r : List Nat} (h : r.head? ≠ some 10) : crlf (13 :: r) = 13 :: 10 :: crlf r := by
  rw [crlf]
  · rfl
  · intro r' _ e; subst e; exact h rfl

/-- what pattern 2 leaves from place i on -/
theorem crlf_find (x : Array Nat) : ∀ (f i : Nat), i + f = x.size → crlf (x.toList.drop i) = match find2 x f i with | none => (x.extract i x.size).toList | some (b, e) => (x.extract i b).toList ++ [13, 10] ++ crlf (x.toList.drop e)
  | 0, i, h => by
    rw [find2, ext_all, List.drop_of_length_le (by simp; omega)]; rfl
  | f + 1, i, h => by
    rw [find2]
    have hd := getD_drop (x := x) (i := i) (by omega)
    by_cases hc : (x.getD i 0 == 10 || x.getD i 0 == 13) = true
    · rw [if_pos hc]
      dsimp only
      rw [ext_nil, List.nil_append, hd]
      by_cases h13 : (x.getD i 0 == 13) = true
      · have e13 := beq_iff_eq.mp h13
        by_cases hn : (decide (i + 1 < x.size) && x.getD (i + 1) 0 == 10) = true
        · have hlt : i + 1 < x.size := by simpa using (Bool.and_eq_true_iff.mp hn).1
          have e10 := beq_iff_eq.mp (Bool.and_eq_true_iff.mp hn).2
          rw [show end2 x i = i + 2 from if_pos (by rw [h13, hn]; rfl), getD_drop hlt, e13, e10, crlf]; rfl
        · rw [show end2 x i = i + 1 from if_neg (fun q => hn (Bool.and_eq_true_iff.mp q).2), e13, crlf_13]; · rfl
          intro he
          by_cases hlt : i + 1 < x.size
          · rw [getD_drop hlt] at he
            exact hn (by rw [Option.some.inj he]; simp [hlt])
          · rw [List.drop_of_length_le (by simp; omega)] at he; cases he
      · have h10 : x.getD i 0 = 10 := by
          cases hq : (x.getD i 0 == 10)
          · rw [hq, Bool.false_or] at hc; exact absurd hc h13
          · exact beq_iff_eq.mp hq
        rw [show end2 x i = i + 1 from if_neg (fun q => h13 (Bool.and_eq_true_iff.mp q).1), h10, crlf_10]; rfl
    · rw [if_neg hc, hd, crlf_cons_other (by cases h9 : (x.getD i 0 == 10 || x.getD i 0 == 13) <;> simp_all), crlf_find x f (i + 1) (by omega)]
      cases hf : find2 x f (i + 1) with
      | none => dsimp only; rw [← ext_cons (by omega) (Nat.le_refl _)]
      | some be =>
        obtain ⟨b, e⟩ := be
        obtain ⟨a1, a2, _, _⟩ := find2_some x _ _ _ _ (by omega) hf
        dsimp only
        rw [← List.cons_append, ← List.cons_append, ← ext_cons (by omega) (by omega)]
theorem find1_some (text : Array Nat) : ∀ (f s b e : Nat), s + f = text.size → find1 text f s = some (b, e) → s ≤ b ∧ b < text.size ∧ bol text b = true ∧ text.getD b 0 = 46 ∧ e = b + 1
  | 0, _, _, _, _, h => by cases h
  | f + 1, s, b, e, hs, h => by
    rw [find1] at h
    by_cases hc : (bol text s && text.getD s 0 == 46) = true
    · rw [if_pos hc] at h
      cases h
      exact ⟨Nat.le_refl _, by omega, (Bool.and_eq_true_iff.mp hc).1, beq_iff_eq.mp (Bool.and_eq_true_iff.mp hc).2, rfl⟩
    · rw [if_neg hc] at h
      obtain ⟨a1, a2⟩ := find1_some text f (s + 1) b e (by omega) h
      exact ⟨by omega, a2⟩
theorem dots_find (x : Array Nat) : ∀ (f i : Nat), i + f = x.size → dots (bol x i) (x.toList.drop i) = match find1 x f i with | none => (x.extract i x.size).toList | some (b, e) => (x.extract i b).toList ++ [46, 46] ++ dots (bol x e) (x.toList.drop e)
  | 0, i, h => by
    rw [find1, ext_all, List.drop_of_length_le (by simp; omega)]; rfl
  | f + 1, i, h => by
    rw [find1]
    have hd := getD_drop (x := x) (i := i) (by omega)
    have hb : bol x (i + 1) = (x.getD i 0 == 10) := by simp [bol]
    by_cases hc : (bol x i && x.getD i 0 == 46) = true
    · rw [if_pos hc]
      dsimp only
      rw [ext_nil, List.nil_append, hd, dots, if_pos hc, hb, beq_iff_eq.mp (Bool.and_eq_true_iff.mp hc).2]; rfl
    · rw [if_neg hc, hd, dots, if_neg hc, ← hb, dots_find x f (i + 1) (by omega)]
      cases hf : find1 x f (i + 1) with
      | none => dsimp only; rw [← ext_cons (by omega) (Nat.le_refl _)]
      | some be =>
        obtain ⟨b, e⟩ := be
        obtain ⟨a1, a2, _, _⟩ := find1_some x _ _ _ _ (by omega) hf
        dsimp only
        rw [← List.cons_append, ← List.cons_append, ← ext_cons (by omega) (by omega)]

section
variable {prog : Program} {w : World} {A : Around} {E : Value → Shared → Prop} {s : Shared} {Q : Value → Shared → Prop}
theorem sub_crlf {x r : Str} {tx tr : Tok} {pat : Addr} (I : IsPat s.heap pat code2) (hx : x.cps.size ≤ 2 ^ 20) (hr : r.cps = #[13, 10])
    (hR : ∀ t h' tk', (∀ b o, s.heap.get? b = some o → h'.get? b = some o) → Q (.str ⟨(crlf x.cps.toList).toArray⟩ t) { s with heap := h', toks := tk' }) :
    wpAny (model prog w) A (call (.builtin "re.Pattern.sub") [.ref pat, .str r tr, .str x tx]) Q E s := by
  refine sub_call code2 x r tx tr pat (fun i => find2 x.cps (x.cps.size - i) i) (fun i => crlf (x.cps.toList.drop i)) I hx (by rw [hr]; decide) (by rw [hr]; decide +kernel) ?_ ?_ ?_ hR
  · intro i hi
    obtain ⟨n, hn, ht⟩ := tells_2 x.cps i hi
    exact ⟨n, by omega, ht⟩
  · intro i b e hi h
    obtain ⟨a1, a2, a3, a4⟩ := find2_some x.cps _ _ _ _ (by omega) h
    subst a4
    by_cases q : (x.cps.getD b 0 == 13 && (decide (b + 1 < x.cps.size) && x.cps.getD (b + 1) 0 == 10)) = true
    · have := (Bool.and_eq_true_iff.mp (Bool.and_eq_true_iff.mp q).2).1
      have h2 : b + 1 < x.cps.size := of_decide_eq_true this
      rw [show end2 x.cps b = b + 2 from if_pos q]
      exact ⟨a1, by omega, by omega⟩
    · rw [show end2 x.cps b = b + 1 from if_neg q]
      exact ⟨a1, by omega, by omega⟩
  · intro i hi
    rw [hr]
    exact crlf_find x.cps (x.cps.size - i) i (by omega)
theorem sub_dots {x r : Str} {tx tr : Tok} {pat : Addr} (I : IsPat s.heap pat code1) (hx : x.cps.size ≤ 2 ^ 20) (hr : r.cps = #[46, 46])
    (hR : ∀ t h' tk', (∀ b o, s.heap.get? b = some o → h'.get? b = some o) → Q (.str ⟨(dots true x.cps.toList).toArray⟩ t) { s with heap := h', toks := tk' }) :
    wpAny (model prog w) A (call (.builtin "re.Pattern.sub") [.ref pat, .str r tr, .str x tx]) Q E s := by
  refine sub_call code1 x r tx tr pat (fun i => find1 x.cps (x.cps.size - i) i) (fun i => dots (bol x.cps i) (x.cps.toList.drop i)) I hx (by rw [hr]; decide) (by rw [hr]; decide +kernel) ?_ ?_ ?_ hR
  · intro i hi
    obtain ⟨n, hn, ht⟩ := tells_1 x.cps i hi
    exact ⟨n, by omega, ht⟩
  · intro i b e hi h
    obtain ⟨a1, a2, a3, a4, a5⟩ := find1_some x.cps _ _ _ _ (by omega) h
    subst a5
    exact ⟨a1, by omega, by omega⟩
  · intro i hi
    rw [hr]
    exact dots_find x.cps (x.cps.size - i) i (by omega)
end
end Mine
end
section
open PySem PySem.W PyProof.Rows
namespace Mine
theorem pat_1 {w : World} {h : Heap} (X : (Mine.hd.heap_39 w.params).In h) : IsPat h 68 code1 := ⟨_, _, _, 67, _, _, X 68 _ rfl, rfl, rfl, rfl, rfl, rfl, X 67 _ rfl, rfl, by decide +kernel⟩
theorem pat_2 {w : World} {h : Heap} (X : (Mine.hd.heap_39 w.params).In h) : IsPat h 73 code2 := ⟨_, _, _, 72, _, _, X 73 _ rfl, rfl, rfl, rfl, rfl, rfl, X 72 _ rfl, rfl, by decide +kernel⟩
theorem patd_1 {w : World} {h : Heap} (X : (Mine.hd.heap_39 w.params).In h) : ∃ o, h.get? 68 = some o ∧ o.dict = none := ⟨_, X 68 _ rfl, rfl⟩
theorem patd_2 {w : World} {h : Heap} (X : (Mine.hd.heap_39 w.params).In h) : ∃ o, h.get? 73 = some o ∧ o.dict = none := ⟨_, X 73 _ rfl, rfl⟩
theorem kin {w : World} {h₀ h : Heap} {L : Addr} {m : Str → Option Value} (X : (Mine.hd.heap_39 w.params).In h₀) (F : Fr h₀ L h m) : (Mine.hd.heap_39 w.params).In h := X.keeps F.keep

theorem crlf_len : ∀ x : List Nat, (crlf x).length ≤ 2 * x.length := by
  intro x
  induction x using crlf.induct with
  | case1 => simp [crlf]
  | case2 r ih => simp only [crlf, List.length_cons]; omega
  | case3 c r h1 h2 ih => rw [crlf]; · rw [if_pos h2]; simp only [List.length_cons]; omega
                          · exact h1
  | case4 c r h1 h2 ih => rw [crlf]; · rw [if_neg h2]; simp only [List.length_cons]; omega
                          · exact h1

local macro_rules | `(tactic| walk_at "getMethod ref") => `(tactic| first
  | (refine' meth_sub (pat_1 (kin (by k_asm) (by k_asm))) (patd_1 (kin (by k_asm) (by k_asm))) ?_)
  | (refine' meth_sub (pat_2 (kin (by k_asm) (by k_asm))) (patd_2 (kin (by k_asm) (by k_asm))) ?_))

theorem subK_crlf {prog : Program} {w : World} {A : Around} {E : Value → Shared → Prop} {s : Shared} {Q : Value → Shared → Prop} {h₀ : Heap} {L : Addr} {m : Str → Option Value} {news : List (Addr × Obj)} {x r : Str} {tx tr : Tok}
    (X : (Mine.hd.heap_39 w.params).In h₀) (F : Fr h₀ L s.heap m) (N : News h₀ L s.heap news) (hx : x.cps.size ≤ 2 ^ 20) (hr : r.cps = #[13, 10])
    (hR : ∀ t h' tk', Fr h₀ L h' m → News h₀ L h' news → Q (.str ⟨(crlf x.cps.toList).toArray⟩ t) { s with heap := h', toks := tk' }) :
    wpAny (model prog w) A (call (.builtin "re.Pattern.sub") [.ref 73, .str r tr, .str x tx]) Q E s :=
  sub_crlf (pat_2 (kin X F)) hx hr fun t h' tk' hk => hR t h' tk' (F.keeps hk) (N.grown hk)
theorem subK_dots {prog : Program} {w : World} {A : Around} {E : Value → Shared → Prop} {s : Shared} {Q : Value → Shared → Prop} {h₀ : Heap} {L : Addr} {m : Str → Option Value} {news : List (Addr × Obj)} {x r : Str} {tx tr : Tok}
    (X : (Mine.hd.heap_39 w.params).In h₀) (F : Fr h₀ L s.heap m) (N : News h₀ L s.heap news) (hx : x.cps.size ≤ 2 ^ 20) (hr : r.cps = #[46, 46])
    (hR : ∀ t h' tk', Fr h₀ L h' m → News h₀ L h' news → Q (.str ⟨(dots true x.cps.toList).toArray⟩ t) { s with heap := h', toks := tk' }) :
    wpAny (model prog w) A (call (.builtin "re.Pattern.sub") [.ref 68, .str r tr, .str x tx]) Q E s :=
  sub_dots (pat_1 (kin X F)) hx hr fun t h' tk' hk => hR t h' tk' (F.keeps hk) (N.grown hk)
theorem sz_crlf {x : Str} (h : x.cps.size ≤ 2 ^ 18) : (⟨(crlf x.cps.toList).toArray⟩ : Str).cps.size ≤ 2 ^ 20 := by
  have h1 := crlf_len x.cps.toList
  have h2 : x.cps.toList.length = x.cps.size := Array.length_toList
  show (crlf x.cps.toList).toArray.size ≤ _
  rw [List.size_toArray]
  omega
local macro_rules | `(tactic| walk_at "call builtin:re.Pattern.sub") => `(tactic| first
  | (refine' subK_crlf (by k_asm) (by k_asm) (by k_asm) (by omega) (by decide +kernel) ?_; intro t9 h9 tk9 F9 N9; (try dsimp only))
  | (refine' subK_dots (by k_asm) (by k_asm) (by k_asm) (sz_crlf (by assumption)) (by decide +kernel) ?_; intro t9 h9 tk9 F9 N9; (try dsimp only)))

set_option maxRecDepth 100000 in
set_option maxHeartbeats 4000000 in
theorem quote_c (w : World) (p : Program) (loose : List Str) (mean : ExcName → Option Value) (mg mb : Str → Option Value) (news : List (Addr × Obj)) (x : Str) (tx : Tok) :
   CbClaim PySem.Challenge.rw_rs0052_03.prog w (Mine.hd.heap_39 w.params) p loose mean mg mb 80 news [] (x.cps.size ≤ 2 ^ 18) [.str x tx] (fun t => .str (quoted x) t) := by
  k_with_none
  w_top off
  k_fill
  dsimp only [CbClaim, CbLists, CbRet]
  intros
  rename_i hret
  refine wpAny_call ?_
  k_dflt cell_enter
  k_steps
  all_goals cb_end hret
end Mine
end
section
open PySem PySem.W PyProof.Rows PySem.Builtin.Str
namespace Mine
/-- a slice's bound as a place -/
def clipN (v : Option Int) (d n : Nat) : Nat := match v with
  | none => d
  | some i => if i < 0 then (i + n).toNat else min i.toNat n
def lst (x : Str) : List Nat := x.cps.toList
theorem lst_length (x : Str) : (lst x).length = x.length := Array.length_toList
theorem str_ext {x y : Str} (h : lst x = lst y) : x = y := by
  cases x; cases y; congr 1; exact Array.toList_inj.mp h
theorem filterMap_range (l : List Nat) : ∀ (n a : Nat), a + n ≤ l.length → (List.range n).filterMap (fun k => l[a + k]?) = (l.drop a).take n
  | 0, a, _ => by simp
  | n + 1, a, h => by
    rw [List.range_succ_eq_map, List.filterMap_cons, List.filterMap_map]
    have e : (fun k => l[a + k]?) ∘ Nat.succ = fun k => l[(a + 1) + k]? := by funext k; simp only [Function.comp]; congr 1; omega
    have hl : a < l.length := by omega
    rw [e, filterMap_range l n (a + 1) (by omega), Nat.add_zero, List.getElem?_eq_getElem hl, List.drop_eq_getElem_cons hl, List.take_succ_cons]
theorem slice_list (x : Str) (l u : Option Int) : lst (Txt.slice x l u) = ((lst x).drop (clipN l 0 x.length)).take (clipN u x.length x.length - clipN l 0 x.length) := by
  have hr : ∀ a b : Nat, b ≤ x.length → (sliceRange (a : Int) (b : Int) 1).filterMap (x.cps[·]?) = ((lst x).drop a).take (b - a) := by
    intro a b hb
    unfold sliceRange
    rw [if_pos (by decide)]
    by_cases hab : (a : Int) < b
    · rw [if_pos hab, List.filterMap_map, show (((b : Int) - a + 1 - 1) / 1).toNat = b - a by rw [Int.ediv_one]; omega]
      have e : ((fun k => x.cps[k]?) ∘ fun (k : Nat) => ((a : Int) + 1 * (k : Int)).toNat) = fun k => (lst x)[a + k]? := by
        funext k
        simp only [Function.comp, lst]
        rw [show ((a : Int) + 1 * (k : Int)).toNat = a + k by omega]
        simp
      rw [e, filterMap_range (lst x) (b - a) a (by rw [lst_length]; omega)]
    · rw [if_neg hab, show b - a = 0 by omega]; simp
  have hi : strSliceIndices l u 1 x.length = sliceRange (clipN l 0 x.length : Int) (clipN u x.length x.length : Int) 1 := by
    unfold strSliceIndices clipN
    simp only [show ((1 : Int) > 0) by decide, if_true]
    cases l <;> cases u <;> simp only [] <;> (congr 1 <;> (repeat' split) <;> omega)
  have hu : clipN u x.length x.length ≤ x.length := by unfold clipN; cases u <;> simp only [] <;> (try split) <;> omega
  unfold Txt.slice
  rw [hi]
  split
  · rename_i h
    have hlen : (sliceRange (clipN l 0 x.length : Int) (clipN u x.length x.length : Int) 1).length = x.length := by simpa using h
    have h2 : (clipN u x.length x.length - clipN l 0 x.length) = x.length := by
      unfold sliceRange at hlen
      rw [if_pos (by decide), List.length_map, List.length_range, Int.ediv_one] at hlen
      split at hlen <;> omega
    by_cases h0 : x.length = 0
    · have : lst x = [] := List.eq_nil_of_length_eq_zero (by rw [lst_length, h0])
      rw [this]; simp
    · rw [h2, show clipN l 0 x.length = 0 by omega, List.drop_zero, List.take_of_length_le (by rw [lst_length]; omega)]
  · exact (hr _ _ hu)
theorem item_cons {x : Str} {i : Int} (h0 : 0 ≤ i) (h1 : i < x.length) : ∃ c, (lst x).drop i.toNat = c :: (lst x).drop (i.toNat + 1) ∧ Txt.item x i = ⟨#[c]⟩ ∧ (lst x)[i.toNat]? = some c := by
  have hl : i.toNat < (lst x).length := by rw [lst_length]; omega
  refine ⟨(lst x)[i.toNat], List.drop_eq_getElem_cons hl, ?_, List.getElem?_eq_getElem hl⟩
  unfold Txt.item Txt.charAt seqIndex?
  have e : x.cps[i.toNat]? = some (lst x)[i.toNat] := by
    have := List.getElem?_eq_getElem hl
    rw [← this]; simp [lst]
  simp only [show ¬ (i < 0) by omega, if_false, h0, h1, decide_true, Bool.and_self, if_true, Option.bind_some, e, Option.getD_some]
end Mine
end
section
open PySem PySem.W PyProof.Rows PySem.Builtin.Str
namespace Mine
def nameOf : List Nat → List Nat
  | [] => []
  | 34 :: 34 :: r => 34 :: nameOf r
  | c :: r => if c == 34 then [] else c :: nameOf r
def told257 (x : Str) : Str := if Txt.slice x (some 3) (some 5) = Str.ofString " \"" then ⟨(nameOf ((lst x).drop 5)).toArray⟩ else Str.ofString ""
abbrev pIs (x : Str) (i : Int) (d : Str) : Prop := 5 ≤ i ∧ i ≤ (x.length : Int) ∧ d.length ≤ i.toNat ∧ lst d ++ nameOf ((lst x).drop i.toNat) = nameOf ((lst x).drop 5)
theorem qt : Str.ofString "\"" = ⟨#[34]⟩ := by decide +kernel
theorem nameOf_other {c : Nat} {r : List Nat} (h : c ≠ 34) : nameOf (c :: r) = c :: nameOf r := by
  rw [nameOf]
  · rw [if_neg (by simpa using h)]
  · intro r' e; exact absurd e h
theorem nameOf_end {r : List Nat} (h : r.head? ≠ some 34) : nameOf (34 :: r) = [] := by
  rw [nameOf]
  · rfl
  · intro r' _ e; subst e; exact h rfl
theorem sl_in {x : Str} {a b : Nat} {y : Str} (h : Txt.slice x (some a) (some b) = y) (hy : y.length = b - a) (hab : a < b) : b ≤ x.length := by
  have e := congrArg (fun z => (lst z).length) h
  simp only [slice_list, List.length_take, List.length_drop, lst_length, hy, clipN] at e
  rw [if_neg (by omega), if_neg (by omega)] at e
  omega
theorem p_start {x : Str} (h : (Txt.slice x (some 3) (some 5) != Str.ofString " \"") = false) : pIs x 5 (Str.ofString "") := by
  have h' : Txt.slice x (some 3) (some 5) = Str.ofString " \"" := by simpa using h
  have := sl_in (a := 3) (b := 5) h' (by decide +kernel) (by omega)
  exact ⟨by omega, by omega, by decide +kernel, rfl⟩
theorem lst_app (x y : Str) : lst (x ++ y) = lst x ++ lst y := by
  show (x.cps ++ y.cps).toList = _
  simp [lst]
theorem p_other {x d : Str} {i : Int} (h1 : 5 ≤ i) (h3 : d.length ≤ i.toNat) (h4 : lst d ++ nameOf ((lst x).drop i.toNat) = nameOf ((lst x).drop 5))
    (hl : i < (x.length : Int)) (hc : (Txt.item x i == Str.ofString "\"") = false) : pIs x (i + 1) (d ++ Txt.item x i) := by
  obtain ⟨c, e1, e2, _⟩ := item_cons (x := x) (i := i) (by omega) hl
  have hc' : c ≠ 34 := by
    intro e; subst e; rw [e2, qt] at hc; simp at hc
  rw [e1, nameOf_other hc'] at h4
  refine ⟨by omega, by omega, ?_, ?_⟩
  · rw [Str.length_append, e2]; show d.length + 1 ≤ _; omega
  · rw [lst_app, e2, show (i + 1).toNat = i.toNat + 1 by omega, ← h4]; simp [lst]
theorem p_pair {x d : Str} {i : Int} (h1 : 5 ≤ i) (h3 : d.length ≤ i.toNat) (h4 : lst d ++ nameOf ((lst x).drop i.toNat) = nameOf ((lst x).drop 5))
    (hl : i < (x.length : Int)) (hc : (Txt.item x i == Str.ofString "\"") = true) (hn : ¬ ((x.length : Int) ≤ i + 1)) (hd : (Txt.item x (i + 1) != Str.ofString "\"") = false) : pIs x (i + 1 + 1) (d ++ Txt.item x i) := by
  obtain ⟨c, e1, e2, _⟩ := item_cons (x := x) (i := i) (by omega) hl
  obtain ⟨c', e1', e2', _⟩ := item_cons (x := x) (i := i + 1) (by omega) (by omega)
  have hc' : c = 34 := by rw [e2, qt] at hc; simpa using hc
  have hd' : c' = 34 := by rw [e2', qt] at hd; simpa using hd
  rw [show (i + 1).toNat = i.toNat + 1 by omega] at e1'
  rw [e1, e1', hc', hd', nameOf] at h4
  refine ⟨by omega, by omega, ?_, ?_⟩
  · rw [Str.length_append, e2]; show d.length + 1 ≤ _; omega
  · rw [lst_app, e2, hc', show (i + 1 + 1).toNat = i.toNat + 1 + 1 by omega, ← h4]; simp [lst]
theorem p_told {x d : Str} (hs : (Txt.slice x (some 3) (some 5) != Str.ofString " \"") = false) (h4 : lst d = nameOf ((lst x).drop 5)) : d = told257 x := by
  unfold told257
  rw [if_pos (by simpa using hs), ← h4]
  exact str_ext (by simp [lst])
theorem p_none {x : Str} (hs : (Txt.slice x (some 3) (some 5) != Str.ofString " \"") = true) : Str.ofString "" = told257 x := by
  unfold told257
  rw [if_neg (by simpa using hs)]
theorem p_end {x d : Str} {i : Int} (hs : (Txt.slice x (some 3) (some 5) != Str.ofString " \"") = false) (h4 : lst d ++ nameOf ((lst x).drop i.toNat) = nameOf ((lst x).drop 5)) (hl : ¬ i < (x.length : Int)) : d = told257 x := by
  rw [List.drop_of_length_le (by rw [lst_length]; omega), nameOf, List.append_nil] at h4
  exact p_told hs h4
theorem p_brk {x d : Str} {i : Int} (hs : (Txt.slice x (some 3) (some 5) != Str.ofString " \"") = false) (h1 : 5 ≤ i) (h4 : lst d ++ nameOf ((lst x).drop i.toNat) = nameOf ((lst x).drop 5))
    (hl : i < (x.length : Int)) (hc : (Txt.item x i == Str.ofString "\"") = true) (hn : (x.length : Int) ≤ i + 1) : d = told257 x := by
  obtain ⟨c, e1, e2, _⟩ := item_cons (x := x) (i := i) (by omega) hl
  have hc' : c = 34 := by rw [e2, qt] at hc; simpa using hc
  rw [e1, hc', nameOf_end (by rw [List.drop_of_length_le (by rw [lst_length]; omega)]; simp), List.append_nil] at h4
  exact p_told hs h4
theorem p_brk2 {x d : Str} {i : Int} (hs : (Txt.slice x (some 3) (some 5) != Str.ofString " \"") = false) (h1 : 5 ≤ i) (h4 : lst d ++ nameOf ((lst x).drop i.toNat) = nameOf ((lst x).drop 5))
    (hl : i < (x.length : Int)) (hc : (Txt.item x i == Str.ofString "\"") = true) (hn : ¬ ((x.length : Int) ≤ i + 1)) (hd : (Txt.item x (i + 1) != Str.ofString "\"") = true) : d = told257 x := by
  obtain ⟨c, e1, e2, _⟩ := item_cons (x := x) (i := i) (by omega) hl
  obtain ⟨c', e1', e2', _⟩ := item_cons (x := x) (i := i + 1) (by omega) (by omega)
  have hc' : c = 34 := by rw [e2, qt] at hc; simpa using hc
  have hd' : c' ≠ 34 := by rw [e2', qt] at hd; simpa using hd
  rw [show (i + 1).toNat = i.toNat + 1 by omega] at e1'
  rw [e1, hc', nameOf_end (by rw [e1']; simpa using hd'), List.append_nil] at h4
  exact p_told hs h4
end Mine
end
section
open PySem PySem.W PyProof.Rows
namespace Mine
local macro_rules | `(tactic| walk_at "p state") => `(tactic| first
  | exact p_start (by assumption)
  | exact p_other (by assumption) (by assumption) (by assumption) (by assumption) (by assumption)
  | exact p_pair (by assumption) (by assumption) (by assumption) (by assumption) (by assumption) (by assumption) (by assumption))
local macro_rules | `(tactic| walk_at "p end") => `(tactic| first
  | exact p_none (by assumption)
  | exact p_end (by assumption) (by assumption) (by assumption)
  | exact p_brk (by assumption) (by assumption) (by assumption) (by assumption) (by assumption) (by assumption)
  | exact p_brk2 (by assumption) (by assumption) (by assumption) (by assumption) (by assumption) (by assumption) (by assumption))
theorem no_257 {x : Str} (h : Txt.slice x none (some 3) = Str.ofString "257") (h' : (Txt.slice x none (some 3) != Str.ofString "257") = true) : False := by simp [h] at h'
set_option maxRecDepth 100000 in
set_option maxHeartbeats 4000000 in
theorem parse_c (w : World) (p : Program) (loose : List Str) (mean : ExcName → Option Value) (mg mb : Str → Option Value) (news : List (Addr × Obj)) (x : Str) (tx : Tok) :
   CbClaim PySem.Challenge.rw_rs0052_03.prog w (Mine.hd.heap_39 w.params) p loose mean mg mb 63 news [] (x.length ≤ 1048576 ∧ Txt.slice x none (some 3) = Str.ofString "257") [.str x tx] (fun t => .str (told257 x) t) := by
  k_with_none
  w_top off
  k_fill
  dsimp only [CbClaim, CbLists, CbRet]
  intros
  rename_i hpre hroom hunits hret
  obtain ⟨hx, h257⟩ := hpre
  k_with "exec While Compare cons nil" => k_while (fun _ i d => pIs x i d) (fun _ i _ => x.length - i.toNat) "i" "dirname"
  k_with "state" => (walk_at "p state")
  k_with "tree" => (walk_at "p end")
  refine wpAny_call ?_
  k_dflt cell_enter
  k_steps
  all_goals first | cb_end hret | exact (no_257 (by assumption) (by assumption)).elim
end Mine
end
section
namespace Mine
/-- what one sign in another's place costs -/
structure Cost (s : Nat → Nat → Nat) : Prop where
  same : ∀ x, s x x = 0
  most : ∀ x y, s x y ≤ 2
  symm : ∀ x y, s x y = s y x

/-- an alignment and its cost -/
inductive Al (s : Nat → Nat → Nat) : List Nat → List Nat → Nat → Prop
  | nil : Al s [] [] 0
  | sub {a b k} (x y) : Al s a b k → Al s (x :: a) (y :: b) (k + s x y)
  | del {a b k} (x) : Al s a b k → Al s (x :: a) b (k + 2)
  | ins {a b k} (y) : Al s a b k → Al s a (y :: b) (k + 2)

/-- the least cost -/
def D (s : Nat → Nat → Nat) : List Nat → List Nat → Nat
  | [], b => 2 * b.length
  | _ :: a, [] => 2 * (a.length + 1)
  | x :: a, y :: b => min (D s a b + s x y) (min (D s a (y :: b) + 2) (D s (x :: a) b + 2))
termination_by a b => a.length + b.length

section
variable {s : Nat → Nat → Nat}
theorem D_nil (b : List Nat) : D s [] b = 2 * b.length := by rw [D]
theorem D_nil' (a : List Nat) : D s a [] = 2 * a.length := by cases a <;> rw [D] <;> rfl
theorem D_cons (x y : Nat) (a b : List Nat) : D s (x :: a) (y :: b) = min (D s a b + s x y) (min (D s a (y :: b) + 2) (D s (x :: a) b + 2)) := by rw [D]
theorem al_ins : ∀ b : List Nat, Al s [] b (2 * b.length)
  | [] => .nil
  | y :: b => by have := Al.ins y (al_ins b); simpa [Nat.mul_add] using this
theorem al_del : ∀ a : List Nat, Al s a [] (2 * a.length)
  | [] => .nil
  | y :: b => by have := Al.del y (al_del b); simpa [Nat.mul_add] using this
theorem al_D : ∀ a b : List Nat, Al s a b (D s a b)
  | [], b => by rw [D_nil]; exact al_ins b
  | x :: a, [] => by rw [D_nil']; exact al_del (x :: a)
  | x :: a, y :: b => by
    rw [D_cons]
    have h1 := Al.sub x y (al_D a b)
    have h2 := Al.del x (al_D a (y :: b))
    have h3 := Al.ins y (al_D (x :: a) b)
    by_cases c1 : D s a b + s x y ≤ min (D s a (y :: b) + 2) (D s (x :: a) b + 2)
    · rw [Nat.min_eq_left c1]; exact h1
    · rw [Nat.min_eq_right (by omega)]
      by_cases c2 : D s a (y :: b) + 2 ≤ D s (x :: a) b + 2
      · rw [Nat.min_eq_left c2]; exact h2
      · rw [Nat.min_eq_right (by omega)]; exact h3
termination_by a b => a.length + b.length
theorem D_le {a b : List Nat} {k : Nat} (h : Al s a b k) : D s a b ≤ k := by
  induction h with
  | nil => rw [D_nil]; exact Nat.le_refl _
  | sub x y _ ih => rw [D_cons]; omega
  | @del a b k x h ih =>
    cases b with
    | nil => rw [D_nil'] at ih ⊢; simp only [List.length_cons]; omega
    | cons y b => rw [D_cons]; omega
  | @ins a b k y h ih =>
    cases a with
    | nil => rw [D_nil] at ih ⊢; simp only [List.length_cons]; omega
    | cons x a => rw [D_cons]; omega
theorem Al.symm (C : Cost s) {a b : List Nat} {k : Nat} (h : Al s a b k) : Al s b a k := by
  induction h with
  | nil => exact .nil
  | sub x y _ ih => rw [C.symm]; exact .sub y x ih
  | del x _ ih => exact .ins x ih
  | ins y _ ih => exact .del y ih
theorem D_symm (C : Cost s) (a b : List Nat) : D s a b = D s b a := Nat.le_antisymm (D_le (al_D b a |>.symm C)) (D_le (al_D a b |>.symm C))
theorem Al.append {a b : List Nat} {k : Nat} (h : Al s a b k) {a' b' : List Nat} {k' : Nat} (h' : Al s a' b' k') : Al s (a ++ a') (b ++ b') (k + k') := by
  induction h with
  | nil => simpa using h'
  | @sub a b k x y _ ih => have := Al.sub x y ih; rw [show k + s x y + k' = k + k' + s x y by omega]; exact this
  | @del a b k x _ ih => have := Al.del x ih; rw [show k + 2 + k' = k + k' + 2 by omega]; exact this
  | @ins a b k y _ ih => have := Al.ins y ih; rw [show k + 2 + k' = k + k' + 2 by omega]; exact this
theorem Al.reverse {a b : List Nat} {k : Nat} (h : Al s a b k) : Al s a.reverse b.reverse k := by
  induction h with
  | nil => exact .nil
  | sub x y _ ih => rw [List.reverse_cons, List.reverse_cons]; have := ih.append (Al.sub x y .nil); simpa using this
  | del x _ ih => rw [List.reverse_cons]; have := ih.append (Al.del x .nil); simpa using this
  | ins y _ ih => rw [List.reverse_cons]; have := ih.append (Al.ins y .nil); simpa using this
theorem D_reverse (a b : List Nat) : D s a.reverse b.reverse = D s a b := by
  refine Nat.le_antisymm (D_le (al_D a b).reverse) ?_
  have := D_le (al_D (s := s) a.reverse b.reverse).reverse
  rwa [List.reverse_reverse, List.reverse_reverse] at this
theorem Al.dropR {a b : List Nat} {k : Nat} (h : Al s a b k) : ∀ {c b'}, b = c :: b' → ∃ k', k' ≤ k + 2 ∧ Al s a b' k' := by
  induction h with
  | nil => intro c b' e; cases e
  | @sub a b k x y h ih => intro c b' e; cases e; exact ⟨_, by omega, .del x h⟩
  | @del a b k x h ih => intro c b' e; obtain ⟨k', h1, h2⟩ := ih e; exact ⟨_, by omega, .del x h2⟩
  | @ins a b k y h ih => intro c b' e; cases e; exact ⟨_, by omega, h⟩
theorem Al.dropL {a b : List Nat} {k : Nat} (h : Al s a b k) : ∀ {c a'}, a = c :: a' → ∃ k', k' ≤ k + 2 ∧ Al s a' b k' := by
  induction h with
  | nil => intro c b' e; cases e
  | @sub a b k x y h ih => intro c b' e; cases e; exact ⟨_, by omega, .ins y h⟩
  | @ins a b k x h ih => intro c b' e; obtain ⟨k', h1, h2⟩ := ih e; exact ⟨_, by omega, .ins x h2⟩
  | @del a b k y h ih => intro c b' e; cases e; exact ⟨_, by omega, h⟩
theorem D_front (C : Cost s) (c : Nat) (a b : List Nat) : D s (c :: a) (c :: b) = D s a b := by
  refine Nat.le_antisymm (D_le (by have := Al.sub c c (al_D (s := s) a b); rwa [C.same, Nat.add_zero] at this)) ?_
  have h := al_D (s := s) (c :: a) (c :: b)
  generalize D s (c :: a) (c :: b) = k at h
  cases h with
  | sub _ _ h => exact Nat.le_trans (D_le h) (by omega)
  | del _ h => obtain ⟨k', h1, h2⟩ := h.dropR rfl; exact Nat.le_trans (D_le h2) (by omega)
  | ins _ h => obtain ⟨k', h1, h2⟩ := h.dropL rfl; exact Nat.le_trans (D_le h2) (by omega)
theorem D_prefix (C : Cost s) : ∀ (p a b : List Nat), D s (p ++ a) (p ++ b) = D s a b
  | [], _, _ => rfl
  | c :: p, a, b => by rw [List.cons_append, List.cons_append, D_front C, D_prefix C p]
theorem D_suffix (C : Cost s) (q a b : List Nat) : D s (a ++ q) (b ++ q) = D s a b := by
  rw [← D_reverse, List.reverse_append, List.reverse_append, D_prefix C, D_reverse]
theorem Al.split {A B : List Nat} {k : Nat} (h : Al s A B k) : ∀ B1 B2, B = B1 ++ B2 → ∃ A2 k2, A2 <:+ A ∧ k2 ≤ k ∧ Al s A2 B2 k2 := by
  induction h with
  | nil => intro B1 B2 e; obtain ⟨rfl, rfl⟩ := List.append_eq_nil_iff.mp e.symm; exact ⟨[], 0, List.suffix_refl _, Nat.le_refl _, .nil⟩
  | @sub a b k x y h ih =>
    intro B1 B2 e
    cases B1 with
    | nil => simp only [List.nil_append] at e; subst e; exact ⟨x :: a, _, List.suffix_refl _, Nat.le_refl _, .sub x y h⟩
    | cons z B1 => cases e; obtain ⟨A2, k2, h1, h2, h3⟩ := ih B1 B2 rfl; exact ⟨A2, k2, h1.trans (List.suffix_cons _ _), by omega, h3⟩
  | @del a b k x h ih =>
    intro B1 B2 e
    obtain ⟨A2, k2, h1, h2, h3⟩ := ih B1 B2 e
    exact ⟨A2, k2, h1.trans (List.suffix_cons _ _), by omega, h3⟩
  | @ins a b k y h ih =>
    intro B1 B2 e
    cases B1 with
    | nil => simp only [List.nil_append] at e; subst e; exact ⟨a, _, List.suffix_refl _, Nat.le_refl _, .ins y h⟩
    | cons z B1 => cases e; obtain ⟨A2, k2, h1, h2, h3⟩ := ih B1 B2 rfl; exact ⟨A2, k2, h1, by omega, h3⟩
theorem Al.len {a b : List Nat} {k : Nat} (h : Al s a b k) : 2 * a.length ≤ 2 * b.length + k ∧ 2 * b.length ≤ 2 * a.length + k := by
  induction h with
  | nil => exact ⟨Nat.le_refl _, Nat.le_refl _⟩
  | sub x y _ ih => simp only [List.length_cons]; omega
  | del x _ ih => simp only [List.length_cons]; omega
  | ins y _ ih => simp only [List.length_cons]; omega
end
end Mine
end
section
namespace Mine
def cell (s : Nat → Nat → Nat) (a b : List Nat) (i j : Nat) : Nat := D s (a.take i).reverse (b.take j).reverse
def rowAt (s : Nat → Nat → Nat) (a b : List Nat) (j : Nat) : List Int := (List.range a.length).map fun k => (cell s a b (k + 1) j : Int)
def rowMix (s : Nat → Nat → Nat) (a b : List Nat) (j k : Nat) : List Int := (List.range a.length).map fun i => (cell s a b (i + 1) (if i < k then j + 1 else j) : Int)
section
variable {s : Nat → Nat → Nat} {a b : List Nat}
theorem take_rev {l : List Nat} {i : Nat} (h : i < l.length) : (l.take (i + 1)).reverse = l[i] :: (l.take i).reverse := by
  rw [List.take_add_one, List.getElem?_eq_getElem h]; simp
theorem cell_0 (j : Nat) (h : j ≤ b.length) : cell s a b 0 j = 2 * j := by
  unfold cell; rw [List.take_zero, List.reverse_nil, D_nil, List.length_reverse, List.length_take, Nat.min_eq_left h]
theorem cell_j0 (i : Nat) (h : i ≤ a.length) : cell s a b i 0 = 2 * i := by
  unfold cell; rw [List.take_zero, List.reverse_nil, D_nil', List.length_reverse, List.length_take, Nat.min_eq_left h]
theorem cell_step {i j : Nat} (hi : i < a.length) (hj : j < b.length) : cell s a b (i + 1) (j + 1) = min (cell s a b i j + s a[i] b[j]) (min (cell s a b i (j + 1) + 2) (cell s a b (i + 1) j + 2)) := by
  unfold cell; rw [take_rev hi, take_rev hj, D_cons]
theorem cell_whole : cell s a b a.length b.length = D s a b := by
  unfold cell; rw [List.take_length, List.take_length, D_reverse]
/-- the program's own reckoning of a place: what stands to the left is 2 * j in the first column -/
theorem cell_turn (C : Cost s) {k j : Nat} {res : Int} (hk : k < a.length) (hj : j < b.length) (hr : res = if k = 0 then (2 * j : Int) else (cell s a b k (j + 1) : Int)) :
    (cell s a b (k + 1) (j + 1) : Int) = min (min res (cell s a b (k + 1) j : Int) + 2) ((cell s a b k j : Int) + (s b[j] a[k] : Nat)) := by
  rw [cell_step hk hj, C.symm]
  have h2 := C.most b[j] a[k]
  by_cases h0 : k = 0
  · subst h0
    rw [if_pos rfl] at hr
    have e1 := cell_0 (s := s) (a := a) (b := b) j (by omega)
    have e2 := cell_0 (s := s) (a := a) (b := b) (j + 1) (by omega)
    subst hr
    omega
  · rw [if_neg h0] at hr
    subst hr
    omega
theorem cell_out (C : Cost s) {j : Nat} {m mn : Int} (ha : 0 < a.length) (hj : j < b.length) (h : ∀ i, 1 ≤ i → i ≤ a.length → mn ≤ (cell s a b i (j + 1) : Int)) (hm : m < mn) : m < (D s a b : Int) := by
  have hal := al_D (s := s) a.reverse b.reverse
  rw [D_reverse] at hal
  have hb : b.reverse = (b.drop (j + 1)).reverse ++ (b.take (j + 1)).reverse := by rw [← List.reverse_append, List.take_append_drop]
  obtain ⟨A2, k2, h1, h2, h3⟩ := hal.split _ _ hb
  have hlen : A2.length ≤ a.length := by have := h1.length_le; simpa using this
  have e : A2 = (a.take A2.length).reverse := by
    have := List.suffix_iff_eq_drop.mp h1
    rw [List.length_reverse] at this
    rw [List.drop_reverse] at this
    rw [show a.length - (a.length - A2.length) = A2.length by omega] at this
    exact this
  rw [e] at h3
  have h4 : cell s a b A2.length (j + 1) ≤ k2 := D_le h3
  by_cases h0 : A2.length = 0
  · rw [h0, cell_0 _ (by omega)] at h4
    have h5 := cell_step (s := s) (a := a) (b := b) (i := 0) (j := j) ha hj
    have h6 := C.most a[0] b[j]
    have h7 := cell_0 (s := s) (a := a) (b := b) j (by omega)
    have h8 := h 1 (by omega) (by omega)
    simp only [Nat.zero_add] at h5
    omega
  · have := h A2.length (by omega) hlen
    omega
theorem D_len (s : Nat → Nat → Nat) (a b : List Nat) : 2 * (b.length : Int) ≤ 2 * a.length + D s a b ∧ 2 * (a.length : Int) ≤ 2 * b.length + D s a b := by
  have := (al_D (s := s) a b).len
  omega
theorem rowMix_0 (j : Nat) : rowMix s a b j 0 = rowAt s a b j := by unfold rowMix rowAt; simp
theorem rowMix_all (j : Nat) : rowMix s a b j a.length = rowAt s a b (j + 1) := by
  unfold rowMix rowAt
  refine List.map_congr_left fun i hi => ?_
  rw [if_pos (List.mem_range.mp hi)]
theorem rowMix_get {j k : Nat} (h : k < a.length) : (rowMix s a b j k)[k]? = some (cell s a b (k + 1) j : Int) := by unfold rowMix; simp [h]
theorem rowMix_len (j k : Nat) : (rowMix s a b j k).length = a.length := by unfold rowMix; simp
theorem rowMix_set {j k : Nat} (h : k < a.length) : (rowMix s a b j k).set k (cell s a b (k + 1) (j + 1) : Int) = rowMix s a b j (k + 1) := by
  refine List.ext_getElem? fun i => ?_
  rw [List.getElem?_set]
  by_cases hi : k = i
  · subst hi
    rw [if_pos rfl, if_pos (by rw [rowMix_len]; exact h)]
    unfold rowMix; simp [h]
  · rw [if_neg hi]
    unfold rowMix
    by_cases hl : i < a.length
    · simp only [List.getElem?_map, List.getElem?_range hl, Option.map_some]
      by_cases h2 : i < k
      · rw [if_pos h2, if_pos (by omega)]
      · rw [if_neg h2, if_neg (by omega)]
    · simp [hl]
theorem row_start : rowAt s a b 0 = (List.range a.length).map fun (k : Nat) => ((2 : Int) + (k : Int) * 2) := by
  unfold rowAt
  refine List.map_congr_left fun i hi => ?_
  rw [cell_j0 _ (by have := List.mem_range.mp hi; omega)]
  omega
end
/-- what the distance tells: the least cost, or more than the bound -/
def Told (s : Nat → Nat → Nat) (a b : List Nat) (m r : Int) : Prop := ((D s a b : Int) ≤ m → r = D s a b) ∧ (m < (D s a b : Int) → m < r)
end Mine
end
section
open PySem PySem.W PyProof.Rows
namespace Mine
def subCost (a b : Str) : Int := if a = b then 0 else if Txt.lower a = Txt.lower b then 1 else 2
theorem s_eq {a b : Str} (h : (a == b) = true) : 0 = subCost a b := by unfold subCost; rw [if_pos (by simpa using h)]
theorem s_lo {a b : Str} (h : (a == b) = false) (h2 : (Txt.lower a == Txt.lower b) = true) : 1 = subCost a b := by unfold subCost; rw [if_neg (by simpa using h), if_pos (by simpa using h2)]
theorem s_no {a b : Str} (h : (a == b) = false) (h2 : (Txt.lower a == Txt.lower b) = false) : 2 = subCost a b := by unfold subCost; rw [if_neg (by simpa using h), if_neg (by simpa using h2)]
def scost (x y : Nat) : Nat := (subCost ⟨#[x]⟩ ⟨#[y]⟩).toNat
theorem subCost_as (x y : Nat) : subCost ⟨#[x]⟩ ⟨#[y]⟩ = (scost x y : Int) := by
  unfold scost subCost
  split
  · rfl
  · split <;> rfl
theorem subCost_symm (a b : Str) : subCost a b = subCost b a := by
  unfold subCost
  simp only [eq_comm (a := a), eq_comm (a := Txt.lower a)]
theorem scost_cost : Cost scost := by
  refine ⟨fun x => ?_, fun x y => ?_, fun x y => ?_⟩
  · unfold scost subCost; rw [if_pos rfl]; rfl
  · unfold scost subCost
    split
    · exact Nat.zero_le _
    · split <;> decide
  · unfold scost
    rw [subCost_symm]
end Mine
end
section
open PySem PySem.W PyProof.Rows
namespace Mine
set_option maxRecDepth 100000 in
set_option maxHeartbeats 4000000 in
theorem subst_c (w : World) (p : Program) (loose : List Str) (mean : ExcName → Option Value) (mg mb : Str → Option Value) (news : List (Addr × Obj)) (a b : Str) (ta tb : Tok) :
   CbClaim PySem.Challenge.rw_rs0052_03.prog w (Mine.hd.heap_39 w.params) p loose mean mg mb 87 news [] (a.length ≤ 1 ∧ b.length ≤ 1) [.str a ta, .str b tb] (fun t => .int (subCost a b) t) := by
  k_with_none
  w_top off
  k_fill
  dsimp only [CbClaim, CbLists, CbRet]
  intros
  rename_i hpre hroom hunits hret
  obtain ⟨hx, hy⟩ := hpre
  k_with "tree" => first | exact s_eq (by assumption) | exact s_lo (by assumption) (by assumption) | exact s_no (by assumption) (by assumption)
  refine wpAny_call ?_
  k_dflt cell_enter
  k_steps
  all_goals first | cb_end hret
end Mine
end
section
open PySem PySem.W PyProof.Rows PySem.Builtin.Str
namespace Mine
abbrev preIs (x y : Str) (i : Int) : Prop := 0 ≤ i ∧ i ≤ (x.length : Int) ∧ i ≤ (y.length : Int) ∧ (lst x).take i.toNat = (lst y).take i.toNat
theorem from_list {x : Str} {i : Int} (h0 : 0 ≤ i) (h1 : i ≤ x.length) : lst (Txt.slice x (some i) none) = (lst x).drop i.toNat := by
  rw [slice_list]
  unfold clipN
  simp only [show ¬ (i < 0) by omega, if_false]
  rw [show min i.toNat x.length = i.toNat by omega, List.take_of_length_le (by rw [List.length_drop, lst_length]; omega)]
theorem len_of_lst {x : Str} {l : List Nat} (h : lst x = l) : x.length = l.length := by rw [← lst_length, h]
theorem from_ne {x : Str} {i : Int} (h0 : 0 ≤ i) (h1 : i ≤ x.length) (hn : ((Txt.slice x (some i) none).length : Int) ≠ 0) : i < x.length := by
  have := len_of_lst (from_list h0 h1)
  rw [List.length_drop, lst_length] at this
  omega
theorem item_inj {x y : Str} {i j : Int} {c d : Nat} (h1 : Txt.item x i = ⟨#[c]⟩) (h2 : Txt.item y j = ⟨#[d]⟩) (h : (Txt.item x i == Txt.item y j) = true) : c = d := by
  rw [h1, h2] at h
  simpa using h
theorem pre_turn {x y : Str} {i : Int} (h1 : 0 ≤ i) (h2 : i ≤ (x.length : Int)) (h3 : i ≤ (y.length : Int)) (h4 : (lst x).take i.toNat = (lst y).take i.toNat)
    (n1 : ((Txt.slice x (some i) none).length : Int) ≠ 0) (n2 : ((Txt.slice y (some i) none).length : Int) ≠ 0) (he : (Txt.item x i == Txt.item y i) = true) : preIs x y (i + 1) := by
  have l1 := from_ne h1 h2 n1
  have l2 := from_ne h1 h3 n2
  obtain ⟨c, _, e2, e3⟩ := item_cons (x := x) (i := i) h1 l1
  obtain ⟨d, _, f2, f3⟩ := item_cons (x := y) (i := i) h1 l2
  have hcd := item_inj e2 f2 he
  refine ⟨by omega, by omega, by omega, ?_⟩
  rw [show (i + 1).toNat = i.toNat + 1 by omega, List.take_add_one, List.take_add_one, h4, e3, f3, hcd]
/-- the rest behind a common front is as far apart -/
theorem pre_D {s : Nat → Nat → Nat} (C : Cost s) {x y : Str} {i : Int} (h : preIs x y i) : D s (lst (Txt.slice x (some i) none)) (lst (Txt.slice y (some i) none)) = D s (lst x) (lst y) := by
  obtain ⟨h1, h2, h3, h4⟩ := h
  rw [from_list h1 h2, from_list h1 h3]
  conv => rhs; rw [← List.take_append_drop i.toNat (lst x), ← List.take_append_drop i.toNat (lst y), ← h4]
  rw [D_prefix C]

/-- a[:post or None] -/
def cutEnd (x : Str) (p : Int) : Str := if p = 0 then Txt.slice x none none else Txt.slice x none (some p)
abbrev postIs (x y : Str) (p : Int) : Prop := p ≤ 0 ∧ 0 ≤ (x.length : Int) + p ∧ 0 ≤ (y.length : Int) + p ∧ (lst x).drop ((x.length : Int) + p).toNat = (lst y).drop ((y.length : Int) + p).toNat
theorem cutEnd_list {x : Str} {p : Int} (h0 : p ≤ 0) (h1 : 0 ≤ (x.length : Int) + p) : lst (cutEnd x p) = (lst x).take ((x.length : Int) + p).toNat := by
  unfold cutEnd
  by_cases hp : p = 0
  · rw [if_pos hp, slice_list]
    unfold clipN
    rw [List.drop_zero, Nat.sub_zero, hp]; congr 1
  · rw [if_neg hp, slice_list]
    unfold clipN
    simp only [show p < 0 by omega, if_true, List.drop_zero, Nat.sub_zero]
    congr 1; omega
theorem cutEnd_0 (x : Str) : Txt.slice x none none = cutEnd x 0 := by unfold cutEnd; rw [if_pos rfl]
theorem cutEnd_n {x : Str} {p : Int} (h : p ≠ 0) : Txt.slice x none (some p) = cutEnd x p := by unfold cutEnd; rw [if_neg h]
theorem cutEnd_len {x : Str} {p : Int} (h0 : p ≤ 0) (h1 : 0 ≤ (x.length : Int) + p) : ((cutEnd x p).length : Int) = x.length + p := by
  have := len_of_lst (cutEnd_list h0 h1)
  rw [List.length_take, lst_length] at this
  omega
theorem item_neg {x : Str} {p : Int} (h0 : p ≤ 0) (h1 : 0 < (x.length : Int) + p) : ∃ c, Txt.item x (p - 1) = ⟨#[c]⟩ ∧ (lst x).drop ((x.length : Int) + (p - 1)).toNat = c :: (lst x).drop ((x.length : Int) + p).toNat := by
  obtain ⟨c, e1, e2, e3⟩ := item_cons (x := x) (i := (x.length : Int) + (p - 1)) (by omega) (by omega)
  refine ⟨c, ?_, ?_⟩
  · rw [← e2]
    unfold Txt.item Txt.charAt seqIndex?
    simp only [show (p - 1 < 0) by omega, show ¬ ((x.length : Int) + (p - 1) < 0) by omega, if_true, if_false]
    rw [Int.add_comm]
  · rw [e1]; congr 2; omega
theorem post_turn {x y : Str} {p : Int} (h1 : p ≤ 0) (h2 : 0 ≤ (x.length : Int) + p) (h3 : 0 ≤ (y.length : Int) + p) (h4 : (lst x).drop ((x.length : Int) + p).toNat = (lst y).drop ((y.length : Int) + p).toNat)
    (n1 : ((cutEnd x p).length : Int) ≠ 0) (n2 : ((cutEnd y p).length : Int) ≠ 0) (he : (Txt.item x (p - 1) == Txt.item y (p - 1)) = true) : postIs x y (p - 1) := by
  have l1 := cutEnd_len h1 h2
  have l2 := cutEnd_len h1 h3
  obtain ⟨c, e2, e3⟩ := item_neg (x := x) (p := p) h1 (by omega)
  obtain ⟨d, f2, f3⟩ := item_neg (x := y) (p := p) h1 (by omega)
  have hcd := item_inj e2 f2 he
  exact ⟨by omega, by omega, by omega, by rw [e3, f3, h4, hcd]⟩
theorem post_D {s : Nat → Nat → Nat} (C : Cost s) {x y : Str} {p : Int} (h : postIs x y p) : D s (lst (cutEnd x p)) (lst (cutEnd y p)) = D s (lst x) (lst y) := by
  obtain ⟨h1, h2, h3, h4⟩ := h
  rw [cutEnd_list h1 h2, cutEnd_list h1 h3]
  conv => rhs; rw [← List.take_append_drop ((x.length : Int) + p).toNat (lst x), ← List.take_append_drop ((y.length : Int) + p).toNat (lst y), ← h4]
  rw [D_suffix C]
end Mine
end
section
open PySem PySem.W PyProof.Rows PySem.Builtin.Str
namespace Mine
theorem ints_from (f : Nat → Int) : ∀ (vs : List Value) (a : Nat), (∀ (j : Nat) (v : Value), vs[j]? = some v → ∃ t, v = .int (f (a + j)) t) → IntsAre vs ((List.range vs.length).map fun k => f (a + k))
  | [], _, _ => IntsAre.nil
  | v :: r, a, h => by
    obtain ⟨t, ht⟩ := h 0 v rfl
    subst ht
    rw [List.length_cons, List.range_succ_eq_map, List.map_cons, List.map_map]
    refine IntsAre.cons _ _ ?_
    have := ints_from f r (a + 1) fun j v hj => by
      obtain ⟨t', ht'⟩ := h (j + 1) v hj
      exact ⟨t', by rw [ht', show a + (j + 1) = a + 1 + j by omega]⟩
    have e : (fun k => f (a + k)) ∘ Nat.succ = fun k => f (a + 1 + k) := by funext k; simp only [Function.comp]; congr 1; omega
    rw [e]; exact this
theorem list_rangeK {prog : Program} {w : World} {A : Around} {E : Value → Shared → Prop} {s : Shared} {h₀ : Heap} {L r : Addr} {m : Str → Option Value} {news : List (Addr × Obj)} {a b c : Int} {t₀ u₀ v₀ : Tok} {n : Nat} {Q : Value → Shared → Prop}
    (hh : A.handled = none) (F : Fr h₀ L s.heap m) (N : News h₀ L s.heap news) (hr : IsRange s.heap r a b c t₀ u₀ v₀) (hsmall : Builtin.Range.small a b c = true) (hn : Builtin.Range.rangeSize a b c = (n : Int)) (hz : n ≤ 2 ^ 24)
    (h : ∀ D us c' h' tk, Fr h₀ L h' m → News h₀ L h' ((D, listOf (List.toArray us) c') :: news) → (∀ p ∈ news, p.1 < D) → IntsAre us ((List.range n).map fun (k : Nat) => a + (k : Int) * c) → Q (.ref D) { s with heap := h', toks := tk }) :
    wpAny (model prog w) A (call (.type "list") [.ref r]) Q E s := by
  refine call_list_range hh hr hsmall hn hz fun h' tk acc c' hk hD hI => ?_
  have hD' : h'.get? s.heap.objs.size = some (listOf (List.toArray acc.toList) c') := by rw [Array.toArray_toList]; exact hD
  refine h _ acc.toList c' h' tk (F.keeps hk) (news_pushed F N hk hD' rfl) (fun p hp => Heap.lt_size (N p hp).1) ?_
  have := ints_from (fun k => a + (k : Int) * c) acc.toList 0 fun j v hj => by
    obtain ⟨t, ht⟩ := hI.2 j v (by rw [← hj, Array.getElem?_toList])
    exact ⟨t, by rw [ht, Nat.zero_add]⟩
  rw [Array.length_toList, hI.1] at this
  simpa using this
/-- the first row's range -/
theorem row_range (n : Nat) (h : n ≤ 40) : Builtin.Range.small 2 (2 * ((n : Int) + 1)) 2 = true ∧ Builtin.Range.rangeSize 2 (2 * ((n : Int) + 1)) 2 = (n : Int) := by
  have : ∀ k : Fin 41, Builtin.Range.small 2 (2 * ((k.val : Int) + 1)) 2 = true ∧ Builtin.Range.rangeSize 2 (2 * ((k.val : Int) + 1)) 2 = (k.val : Int) := by decide +kernel
  exact this ⟨n, by omega⟩
end Mine
end
section
open PySem PySem.W PyProof.Rows
namespace Mine
/-- the body of the k-th statement of a program's main text, a def -/
def stmtsAt (p : Program) (k : Nat) : List Stmt := match p.main.body[k]? with
  | some (.FunctionDef _ _ b _ _ _ _ _ _ _) => b
  | _ => []
/-- and its scope -/
def scopeAt (p : Program) (k : Nat) : Scope := match p.main.body[k]? with
  | some (.FunctionDef _ _ _ _ _ _ sc _ _ _) => sc
  | _ => default
/-- the frame as far as it is named -/
theorem fr_as {h₀ h : Heap} {L : Addr} {m : Str → Option Value} (ps : List (Str × Value)) (h1 : ∀ p ∈ ps, m p.1 = some p.2) (F : Fr h₀ L h m) : Fr h₀ L h (kstB m ps) := by
  have e : kstB m ps = m := funext fun z => kstB_eq h1 fun _ => rfl
  rw [e]; exact F
end Mine
end
section
open PySem PySem.W PyProof.Rows
namespace Mine
section
variable {w : World} {p : Program} {loose : List Str} {mean : ExcName → Option Value} {mg mb : Str → Option Value} {dp un : Nat} {gd : Option (List Code)} {cn : Str} {cs : Scope} {a : Addr} {ccd : Value} {cl : List (Str × Addr)} {outer : List Env} {A₀ : Around} {base h₀ : Heap} {L : Addr} {m : Str → Option Value} {s : Shared} {news : List (Addr × Obj)}
/-- substitution's cost, called -/
theorem subst_r {Q E : Value → Shared → Prop} {x y : Str} {tx ty : Tok} (B : Below A₀ base outer h₀) (F : Fr h₀ L s.heap m) (X : (Mine.hd.heap_39 w.params).In h₀) (N : News h₀ L s.heap news) (T : Top p loose mean mg mb h₀) (hk : cs.kind = .function)
    (hx : x.length ≤ 1) (hy : y.length ≤ 1) (hd : dp + 1 < recursionLimit) (hu : un + 8 < cLine)
    (ret : ∀ (t : Tok) (h' : Heap) (tk' : Nat), Fr h₀ L h' m → News h₀ L h' news → Q (.int (subCost x y) t) { s with heap := h', toks := tk' }) :
    wpAny (model PySem.Challenge.rw_rs0052_03.prog w) (ktrTop dp un gd cn cs L a ccd cl outer) (call (.ref 87) [.str x tx, .str y ty]) Q E s :=
  subst_c w p loose mean mg mb news x y tx ty dp un gd cn cs a ccd cl outer A₀ base h₀ L m s Q E B F X N T hk ⟨hx, hy⟩ hd hu ret
/-- quotedata, called -/
theorem quote_r {Q E : Value → Shared → Prop} {x : Str} {tx : Tok} (B : Below A₀ base outer h₀) (F : Fr h₀ L s.heap m) (X : (Mine.hd.heap_39 w.params).In h₀) (N : News h₀ L s.heap news) (T : Top p loose mean mg mb h₀) (hk : cs.kind = .function)
    (hx : x.length ≤ 2 ^ 18) (hd : dp + 1 < recursionLimit) (hu : un + 8 < cLine)
    (ret : ∀ (t : Tok) (h' : Heap) (tk' : Nat), Fr h₀ L h' m → News h₀ L h' news → Q (.str (quoted x) t) { s with heap := h', toks := tk' }) :
    wpAny (model PySem.Challenge.rw_rs0052_03.prog w) (ktrTop dp un gd cn cs L a ccd cl outer) (call (.ref 80) [.str x tx]) Q E s :=
  quote_c w p loose mean mg mb news x tx dp un gd cn cs a ccd cl outer A₀ base h₀ L m s Q E B F X N T hk hx hd hu ret
/-- parse257 of a reply 257, called -/
theorem parse_r {Q E : Value → Shared → Prop} {x : Str} {tx : Tok} (B : Below A₀ base outer h₀) (F : Fr h₀ L s.heap m) (X : (Mine.hd.heap_39 w.params).In h₀) (N : News h₀ L s.heap news) (T : Top p loose mean mg mb h₀) (hk : cs.kind = .function)
    (hx : x.length ≤ 1048576) (h257 : Txt.slice x none (some 3) = Str.ofString "257") (hd : dp + 1 < recursionLimit) (hu : un + 8 < cLine)
    (ret : ∀ (t : Tok) (h' : Heap) (tk' : Nat), Fr h₀ L h' m → News h₀ L h' news → Q (.str (told257 x) t) { s with heap := h', toks := tk' }) :
    wpAny (model PySem.Challenge.rw_rs0052_03.prog w) (ktrTop dp un gd cn cs L a ccd cl outer) (call (.ref 63) [.str x tx]) Q E s :=
  parse_c w p loose mean mg mb news x tx dp un gd cn cs a ccd cl outer A₀ base h₀ L m s Q E B F X N T hk ⟨hx, h257⟩ hd hu ret
end
end Mine
end
section
open PySem PySem.W PyProof.Rows
namespace Mine
abbrev outerIs (S T : Str) (j : Nat) (ns : List Int) (r : Int) : Prop := ns = rowAt scost (lst S) (lst T) j ∧ r = if j = 0 then 0 else (cell scost (lst S) (lst T) S.length j : Int)
theorem told_of {S T : Str} {mx r : Int} (h : r = (D scost (lst S) (lst T) : Int)) : Told scost (lst S) (lst T) mx r := ⟨fun _ => h, fun h' => by omega⟩
theorem told_out {S T : Str} {mx : Int} (h : mx < (D scost (lst S) (lst T) : Int)) : Told scost (lst S) (lst T) mx (mx + 1) := ⟨fun h' => by omega, fun _ => by omega⟩
theorem outer_end {S T : Str} {ns : List Int} {r mx : Int} (h : outerIs S T (rangeKs 0 T.length).length ns r) (hT : 0 < T.length) : Told scost (lst S) (lst T) mx r := by
  obtain ⟨_, h2⟩ := h
  rw [rangeKs_length, if_neg (by omega)] at h2
  refine told_of ?_
  rw [h2, ← cell_whole, lst_length, lst_length]
abbrev innerIs (S T : Str) (j i : Nat) (ns : List Int) (d r mn : Int) : Prop := ns = rowMix scost (lst S) (lst T) j i ∧ d = (cell scost (lst S) (lst T) i j : Int) ∧ r = (if i = 0 then (2 * j : Int) else (cell scost (lst S) (lst T) i (j + 1) : Int)) ∧ ∀ q, 1 ≤ q → q ≤ i → mn ≤ (cell scost (lst S) (lst T) q (j + 1) : Int)
theorem inner_start {S T : Str} {j : Nat} {k mn : Int} {ns : List Int} (h : ns = rowAt scost (lst S) (lst T) j) (hk : k = j) (hj : j ≤ T.length) : innerIs S T j 0 ns (k * 2) (k * 2) mn := by
  refine ⟨by rw [rowMix_0]; exact h, ?_, by rw [if_pos rfl]; omega, fun q h1 h2 => by omega⟩
  rw [cell_0 _ (by rw [lst_length]; exact hj)]; omega
local macro_rules | `(tactic| walk_at "call ref") => `(tactic| (
  (with_reducible show wpAny _ _ (call (Value.ref 87) _) _ _ _);
  (with_reducible rename Fr _ _ _ _ => F');
  (with_reducible rename News _ _ _ _ => N');
  k_dflt (refine' subst_r ?B F' ?X N' ?T ?K ?x ?y ?D ?U ?_; (case B => k_asm); (case X => k_asm); (case T => k_asm); (case K => exact rfl); (case x => omega); (case y => omega); (case D => ktr_room); (case U => ktr_units)); intro t9 h9 tk9 F9 N9; (try dsimp only)))
theorem inner_turn {S T : Str} {j q : Nat} {ns : List Int} {d res mn mn' k i R : Int} (hns : ns = rowMix scost (lst S) (lst T) j q) (hd : d = (cell scost (lst S) (lst T) q j : Int)) (hr : res = (if q = 0 then (2 * j : Int) else (cell scost (lst S) (lst T) q (j + 1) : Int)))
    (hm : ∀ z, 1 ≤ z → z ≤ q → mn ≤ (cell scost (lst S) (lst T) z (j + 1) : Int)) (hk : k = j) (hi : i = q) (hq : q < S.length) (hj : j < T.length)
    (hR : R = if d + subCost (Txt.item T k) (Txt.item S i) < (if ns.getD i.toNat 0 < res then ns.getD i.toNat 0 else res) + 2 then d + subCost (Txt.item T k) (Txt.item S i) else (if ns.getD i.toNat 0 < res then ns.getD i.toNat 0 else res) + 2) (h1 : mn' ≤ mn) (h2 : mn' ≤ R) :
    innerIs S T j (q + 1) (ns.set i.toNat R) (ns.getD i.toNat 0) R mn' := by
  have hqa : q < (lst S).length := by rw [lst_length]; exact hq
  have hjb : j < (lst T).length := by rw [lst_length]; exact hj
  have hiq : i.toNat = q := by omega
  have hg : ns.getD i.toNat 0 = (cell scost (lst S) (lst T) (q + 1) j : Int) := by
    rw [hns, hiq, List.getD_eq_getElem?_getD, rowMix_get hqa]; rfl
  obtain ⟨c, _, e2, e3⟩ := item_cons (x := S) (i := i) (by omega) (by omega)
  obtain ⟨c', _, f2, f3⟩ := item_cons (x := T) (i := k) (by omega) (by omega)
  rw [hiq, List.getElem?_eq_getElem hqa] at e3
  rw [show k.toNat = j by omega, List.getElem?_eq_getElem hjb] at f3
  have hs : subCost (Txt.item T k) (Txt.item S i) = (scost (lst T)[j] (lst S)[q] : Int) := by
    rw [e2, f2, subCost_as, Option.some.inj e3, Option.some.inj f3]
  have ht := cell_turn scost_cost hqa hjb hr
  have hRc : R = (cell scost (lst S) (lst T) (q + 1) (j + 1) : Int) := by
    rw [ht, hR, hg, hs, ← hd]
    omega
  refine ⟨?_, hg, by rw [if_neg (by omega)]; exact hRc, fun z z1 z2 => ?_⟩
  · rw [hiq, hRc, hns, rowMix_set hqa]
  · by_cases hz : z ≤ q
    · exact Int.le_trans h1 (hm z z1 hz)
    · rw [show z = q + 1 by omega, ← hRc]; exact h2
theorem outer_turn {S T : Str} {j : Nat} {ns : List Int} {d r mn : Int} (hS : 0 < S.length) (h : innerIs S T j S.length ns d r mn) : outerIs S T (j + 1) ns r := by
  obtain ⟨h1, _, h3, _⟩ := h
  refine ⟨?_, ?_⟩
  · rw [h1]
    have := rowMix_all (s := scost) (a := lst S) (b := lst T) j
    rw [lst_length] at this
    exact this
  · rw [if_neg (by omega)]
    rw [if_neg (by omega)] at h3
    exact h3
theorem outer_out {S T : Str} {j : Nat} {ns : List Int} {d r mn mx : Int} (hS : 0 < S.length) (hj : j < T.length) (h : innerIs S T j S.length ns d r mn) (hm : mx < mn) : Told scost (lst S) (lst T) mx (mx + 1) := by
  obtain ⟨_, _, _, h4⟩ := h
  refine told_out (cell_out scost_cost (by rw [lst_length]; exact hS) (by rw [lst_length]; exact hj) (fun i i1 i2 => h4 i i1 (by rw [lst_length] at i2; exact i2)) hm)
theorem sub_cons {α : Type} {x : α} {l l' : List α} (h : l ⊆ l') : ∀ p ∈ x :: l, p ∈ x :: l' := fun p hp => (List.cons_subset_cons x h) hp
theorem ne_all {news own own2 : List (Addr × Obj)} {D' : Addr} {r1 r2 : List Addr} (l1 : ∀ p ∈ news, p.1 < D') (h1 : OwnOff own (D' :: r1)) (h2 : OwnOff own2 (D' :: r2)) : ∀ q ∈ (news ++ own) ++ own2, q.1 ≠ D' := by
  intro q hq
  rcases List.mem_append.mp hq with hq | hq
  · rcases List.mem_append.mp hq with hq | hq
    · exact Nat.ne_of_lt (l1 q hq)
    · exact h1 q hq _ (.head _)
  · exact h2 q hq _ (.head _)
local macro_rules | `(tactic| walk_at "setItem") => `(tactic| (
  (with_reducible show wpAny _ _ (setItem (Value.ref _) (Value.int _ _) (Value.int _ _)) _ _ _);
  (with_reducible rename Fr _ _ _ _ => F'); (with_reducible rename News _ _ _ _ => N');
  k_dflt (refine' ksa_set F' N' (Upd.head ?h) ?i ?a ?b ?c ?_; (case h => assumption); (case i => assumption); (case a => omega); (case b => omega); (case c => omega)); intro h9 F9 N9 I9 L9 _))
section
variable {w : World} {p : Program} {loose : List Str} {mean : ExcName → Option Value} {mg mb : Str → Option Value} {dp un : Nat} {gd : Option (List Code)} {cn : Str} {cs : Scope} {a : Addr} {ccd : Value} {cl : List (Str × Addr)} {outer : List Env} {base h₀ : Heap} {L : Addr} {m : Str → Option Value} {s : Shared} {news : List (Addr × Obj)}
set_option maxRecDepth 100000 in
set_option maxHeartbeats 4000000 in
theorem lev_dp {Q : Flow → Shared → Prop} {S T : Str} {tS tT t0 tm : Tok} {mx : Int} {D' : Addr} {us : List Value} {c' : Nat} {u : Str → Option Value}
    (B' : Below (ktrTop dp un gd cn cs L a ccd cl outer) base (envX cn cs L a ccd cl :: outer) h₀) (X' : (Mine.hd.heap_39 w.params).In h₀) (T' : Top p loose mean mg mb h₀)
    {L' : Addr} (F' : Fr h₀ L' s.heap (kstB u [(Str.ofString "result", .int 0 t0), (Str.ofString "row", .ref D'), (Str.ofString "a", .str S tS), (Str.ofString "b", .str T tT), (Str.ofString "max_cost", .int mx tm)]))
    (N' : News h₀ L' s.heap ((D', PySem.W.listOf us.toArray c') :: news)) (hI : IntsAre us (rowAt scost (lst S) (lst T) 0))
    (l1 : ∀ p ∈ news, p.1 < D') (hST : S.length ≤ T.length) (hS0 : 0 < S.length) (hT40 : T.length ≤ 40) (hd : dp + 4 < recursionLimit) (hu : un + 64 < cLine)
    (ret : ∀ (r : Int) (t : Tok) (h' : Heap) (tk' : Nat) (m' : Str → Option Value), Told scost (lst S) (lst T) mx r → Fr h₀ L' h' m' → News h₀ L' h' news → Q (.ret (.int r t)) { s with heap := h', toks := tk' }) :
    wpAny (model PySem.Challenge.rw_rs0052_03.prog w) ((ktrTop dp un gd cn cs L a ccd cl outer).deeper (envOf (Str.ofString "_levenshtein_distance") (scopeAt PySem.Challenge.rw_rs0052_03.prog 15) L' 94 (.ref 93)))
      (execs ((stmtsAt PySem.Challenge.rw_rs0052_03.prog 15).drop 15) (envOf (Str.ofString "_levenshtein_distance") (scopeAt PySem.Challenge.rw_rs0052_03.prog 15) L' 94 (.ref 93))) Q (fun _ _ => False) s := by
  k_with_none
  w_top off
  revert X'
  k_fill
  intro X'
  conv in (occs := *) scopeAt _ _ => all_goals whnf
  conv in List.drop _ _ => whnf
  dsimp only [kstB] at F'
  (repeat' ((fail_if_success (with_reducible show wpAny _ _ (pyIter _) _ _ _)); (fail_if_success (with_reducible show InvPostN _ _ _ _ _ _ _ _ _)); (fail_if_success (with_reducible show InvEndN _ _ _ _ _ _ _)); first | (k_unfold; (try dsimp only)) | (k_end; wrow_close) | walk1 | (dsimp only; walk1) | (leave1; walk_say "STEP leave1"; try dsimp only) | fail "no step"))
  (rename Fr _ _ _ _ => lF'); (rename News _ _ _ _ => lN'); (rename IsRange _ _ _ _ _ _ _ _ => rgX)
  (with_unfolding_all refine' kst_range (σ := (List Value × List Int × Nat) × (Int × Tok)) (fun c => (D', PySem.W.listOf c.1.1.toArray c.1.2.2) :: news) (fun c => [(Str.ofString "result", .int c.2.1 c.2.2)]) (fun c => IntsAre c.1.1 c.1.2.1) [Str.ofString "bchar", Str.ofString "distance", Str.ofString "minimum", Str.ofString "index", Str.ofString "substitute", Str.ofString "insert_delete"] (fun pre c => outerIs S T pre.length c.1.2.1 c.2.1) ((us, rowAt scost (lst S) (lst T) 0, c'), (0, t0)) (by rfl) rgX (small_one (by omega) (by omega) (by omega) (by omega)) (rangeSize_nat _ _) lF' lN' hI (by kst_all) ?_ ?_ ?_)
  all_goals (clear lF' lN' rgX)
  · exact ⟨rfl, rfl⟩
  · rintro ⟨⟨us, ns, c'⟩, ⟨res, rt⟩⟩ pre k t u h tk own hk hlt hoff hI hP hF hN
    dsimp only at hI hP hN
    obtain ⟨hns, hres⟩ := hP
    try dsimp only at hns hres
    dsimp only [kstB] at hF
    (repeat' ((fail_if_success (with_reducible show wpAny _ _ (pyIter _) _ _ _)); (fail_if_success (with_reducible show InvPostN _ _ _ _ _ _ _ _ _)); (fail_if_success (with_reducible show InvEndN _ _ _ _ _ _ _)); first | (k_unfold; (try dsimp only)) | (k_end; wrow_close) | walk1 | (dsimp only; walk1) | (leave1; walk_say "STEP leave1"; try dsimp only) | fail "no step"))
    (rename Fr _ _ _ _ => lF'); (rename News _ _ _ _ => lN'); (rename IsRange _ _ _ _ _ _ _ _ => rgX)
    (with_unfolding_all refine' kst_range (σ := (List Value × List Int × Nat) × (Int × Tok) × (Int × Tok) × (Int × Tok)) (fun c => (D', PySem.W.listOf c.1.1.toArray c.1.2.2) :: news ++ own) (fun c => [(Str.ofString "distance", .int c.2.1.1 c.2.1.2), (Str.ofString "result", .int c.2.2.1.1 c.2.2.1.2), (Str.ofString "minimum", .int c.2.2.2.1 c.2.2.2.2)]) (fun c => IntsAre c.1.1 c.1.2.1) [Str.ofString "substitute", Str.ofString "insert_delete"] (fun pr c => innerIs S T pre.length pr.length c.1.2.1 c.2.1.1 c.2.2.1.1 c.2.2.2.1) ((us, ns, c'), (k * 2, _), (k * 2, _), (9223372036854775807, _)) (by rfl) rgX (small_one (by omega) (by omega) (by omega) (by omega)) (rangeSize_nat _ _) lF' lN' hI (by kst_all) ?_ ?_ ?_)
    all_goals (clear lF' lN' rgX)
    · exact inner_start hns (by omega) (by omega)
    · rintro ⟨⟨us, ns, c'⟩, ⟨d, dt⟩, ⟨res, rt⟩, ⟨mn, mt⟩⟩ pr i ti u h tk own2 hi hil hoff2 hI hP hF hN
      dsimp only at hI hP hN
      obtain ⟨hns, hd, hr, hm⟩ := hP
      try dsimp only at hns hd hr hm
      have hlen : ns.length = S.length := by rw [hns, rowMix_len, lst_length]
      have hi0 : 0 ≤ i := by omega
      have hne := ne_all l1 hoff hoff2
      simp only [List.cons_append] at hN
      have hi1 : i < (S.length : Int) := by omega
      dsimp only [kstB] at hF
      (repeat' ((fail_if_success (with_reducible show wpAny _ _ (pyIter _) _ _ _)); (fail_if_success (with_reducible show InvPostN _ _ _ _ _ _ _ _ _)); (fail_if_success (with_reducible show InvEndN _ _ _ _ _ _ _)); first | (k_unfold; (try dsimp only)) | (k_end; wrow_close) | walk1 | (dsimp only; walk1) | (leave1; walk_say "STEP leave1"; try dsimp only) | fail "no step"))
      all_goals (
        (rename Fr _ _ _ _ => F9); (rename News _ _ _ _ => N9)
        dsimp only [InvPostN]
        refine' kst_end ⟨⟨_, _, _⟩, ⟨_, _⟩, ⟨_, _⟩, ⟨_, _⟩⟩ F9 N9 ?hn ?ho ?ha ?hf ?hk ?hr ?hp
        (case hk => kst_all)
        (case hn => exact sub_cons (List.subset_append_left _ _))
        (case hf => exact ints_set hI _)
        (case ho => exact fun p hp => List.mem_cons_of_mem _ (List.mem_append_right _ hp))
        (case ha => rfl)
        (case hr => kst_same)
        (case hp => (dsimp only; rw [show (pr ++ [i]).length = pr.length + 1 by simp]; exact inner_turn hns hd hr hm (by omega) (by omega) (by omega) (by omega) rfl (by omega) (by omega))))
    · rintro ⟨⟨us, ns, c'⟩, ⟨d, dt⟩, ⟨res, rt⟩, ⟨mn, mt⟩⟩ u h tk hI hP hF hN
      dsimp only at hI hP hN
      rw [rangeKs_length] at hP
      have hP2 : innerIs S T pre.length S.length ns d res mn := hP
      dsimp only [kstB] at hF
      (repeat' ((fail_if_success (with_reducible show wpAny _ _ (pyIter _) _ _ _)); (fail_if_success (with_reducible show InvPostN _ _ _ _ _ _ _ _ _)); (fail_if_success (with_reducible show InvEndN _ _ _ _ _ _ _)); first | (k_unfold; (try dsimp only)) | (k_end; wrow_close) | walk1 | (dsimp only; walk1) | (leave1; walk_say "STEP leave1"; try dsimp only) | fail "no step"))
      · dsimp only [InvPostN]
        refine ret _ _ _ _ _ (outer_out hS0 (by omega) hP2 (by assumption)) hF (cb_drop hN fun _ h => ?_)
        exact List.mem_append_left _ (List.mem_cons_of_mem _ h)
      · (rename Fr _ _ _ _ => F9); (rename News _ _ _ _ => N9)
        dsimp only [InvPostN]
        refine' kst_end ⟨⟨us, ns, c'⟩, ⟨_, _⟩⟩ F9 N9 ?hn ?ho ?ha ?hf ?hk ?hr ?hp
        (case hk => kst_all)
        (case hf => exact hI)
        (case hn => exact fun p hp => List.mem_append_left _ hp)
        (case ho => exact fun p hp => List.mem_append_right _ hp)
        (case ha => rfl)
        (case hr => kst_same)
        (case hp => (dsimp only; rw [show (pre ++ [k]).length = pre.length + 1 by simp]; exact outer_turn hS0 hP2))
  · rintro ⟨⟨us, ns, c'⟩, ⟨res, rt⟩⟩ u h tk hI hP hF hN
    dsimp only at hI hP hN
    dsimp only [kstB] at hF
    (repeat' ((fail_if_success (with_reducible show wpAny _ _ (pyIter _) _ _ _)); (fail_if_success (with_reducible show InvPostN _ _ _ _ _ _ _ _ _)); (fail_if_success (with_reducible show InvEndN _ _ _ _ _ _ _)); first | (k_unfold; (try dsimp only)) | (k_end; wrow_close) | walk1 | (dsimp only; walk1) | (leave1; walk_say "STEP leave1"; try dsimp only) | fail "no step"))
    refine ret res rt h tk _ ?_ hF (cb_drop hN fun _ h => List.mem_cons_of_mem _ h)
    exact outer_end hP (by omega)
end
end Mine
open Lean Elab Command in
end
section
open PySem PySem.W PyProof.Rows
namespace Mine

local macro_rules | `(tactic| walk_at "subscriptTail Name Slice str ref") => `(tactic| ((with_reducible show wpAny _ _ (subscriptTail _ (Expr.Slice none (some (Expr.BoolOp _ _ _)) none _) _ _) _ _ _); (with_reducible rename Fr _ _ _ _ => F'); (with_reducible rename News _ _ _ _ => N'); refine slice_strN_nn_len (s := ⟨_, _, _, _, _⟩) F' N' ?_; intro _ _ _ _ _ _))
theorem cut_p {x : Str} {p : Int} {t : Tok} (h : p ≠ 0) : ∃ t', Value.str (Txt.slice x none (some p)) t = .str (cutEnd x p) t' := ⟨t, by rw [cutEnd_n h]⟩
theorem cut_0 {x : Str} {p : Int} {t : Tok} (h : p = 0) : ∃ t', Value.str (Txt.slice x none none) t = .str (cutEnd x p) t' := ⟨t, by rw [h, cutEnd_0]⟩
local macro_rules | `(tactic| walk_at "cut end") => `(tactic| ((rename Fr _ _ _ _ => F7); (rename News _ _ _ _ => N7); refine cutQ_mk F7 N7 ?_; first | with_reducible exact cut_p (by assumption) | with_reducible exact cut_0 (by assumption)))
section
variable {w : World} {p : Program} {loose : List Str} {mean : ExcName → Option Value} {mg mb : Str → Option Value} {dp un : Nat} {gd : Option (List Code)} {cn : Str} {cs : Scope} {a : Addr} {ccd : Value} {cl : List (Str × Addr)} {outer : List Env} {A₀ : Around} {base h₀ : Heap} {L : Addr} {m : Str → Option Value} {s : Shared} {news : List (Addr × Obj)}
theorem told_same {x y : Str} {mx : Int} (h : (x == y) = true) : Told scost (lst x) (lst y) mx 0 := by
  have e : x = y := by simpa using h
  subst e
  have := D_prefix (s := scost) scost_cost (lst x) [] []
  rw [List.append_nil, D_nil] at this
  exact ⟨fun _ => by rw [this]; rfl, fun h => by rw [this] at h; exact h⟩
theorem told_nil {x y A B : Str} {mx r : Int} (hD : ∀ s', Cost s' → D s' (lst A) (lst B) = D s' (lst x) (lst y)) (h0 : A.length = 0 ∨ B.length = 0) (hr : r = 2 * ((A.length : Int) + B.length)) : Told scost (lst x) (lst y) mx r := by
  have hd := hD scost scost_cost
  have e : D scost (lst A) (lst B) = 2 * (A.length + B.length) := by
    rcases h0 with h0 | h0
    · have : lst A = [] := List.eq_nil_of_length_eq_zero (by rw [lst_length, h0])
      rw [this, D_nil, lst_length, h0]; omega
    · have : lst B = [] := List.eq_nil_of_length_eq_zero (by rw [lst_length, h0])
      rw [this, D_nil', lst_length, h0]; omega
  rw [e] at hd
  exact ⟨fun _ => by rw [← hd]; omega, fun h => by rw [← hd] at h; omega⟩
theorem told_far {x y S T : Str} {mx : Int} (hD : ∀ s', Cost s' → D s' (lst S) (lst T) = D s' (lst x) (lst y)) (h : mx < ((T.length : Int) - S.length) * 2) : Told scost (lst x) (lst y) mx (mx + 1) := by
  have hd := hD scost scost_cost
  have := D_len scost (lst S) (lst T)
  rw [lst_length, lst_length, hd] at this
  exact ⟨fun h' => by omega, fun _ => by omega⟩
theorem told_move {x y S T : Str} {mx r : Int} (hD : ∀ s', Cost s' → D s' (lst S) (lst T) = D s' (lst x) (lst y)) (h : Told scost (lst S) (lst T) mx r) : Told scost (lst x) (lst y) mx r := by
  unfold Told at h ⊢
  rw [hD scost scost_cost] at h
  exact h
theorem row_as {us : List Value} {S T : Str} (h : IntsAre us ((List.range S.length).map fun (k : Nat) => (2 : Int) + (k : Int) * 2)) : IntsAre us (rowAt scost (lst S) (lst T) 0) := by
  rw [row_start, lst_length]; exact h
set_option maxRecDepth 100000 in
set_option maxHeartbeats 4000000 in
theorem lev_r {Q E : Value → Shared → Prop} {x y : Str} {mx : Int} {tx ty tm : Tok} (B : Below A₀ base outer h₀) (F : Fr h₀ L s.heap m) (X : (Mine.hd.heap_39 w.params).In h₀) (N : News h₀ L s.heap news) (T : Top p loose mean mg mb h₀) (hk : cs.kind = .function)
    (hx : x.length ≤ 40) (hy : y.length ≤ 40) (hroom : dp + 5 < recursionLimit) (hunits : un + 80 < cLine)
    (ret : ∀ (r : Int) (t : Tok) (h' : Heap) (tk' : Nat), Told scost (lst x) (lst y) mx r → Fr h₀ L h' m → News h₀ L h' news → Q (.int r t) { s with heap := h', toks := tk' }) :
    wpAny (model PySem.Challenge.rw_rs0052_03.prog w) (ktrTop dp un gd cn cs L a ccd cl outer) (call (.ref 94) [.str x tx, .str y ty, .int mx tm]) Q E s := by
  k_with_none
  w_top off
  revert X
  k_fill
  intro X
  refine wpAny_call ?_
  k_dflt cell_enter
  (repeat' ((fail_if_success (with_reducible show wpAny _ _ (exec (Stmt.While _ _ _ _) _) _ _ _)); (fail_if_success (with_reducible show wpAny _ _ (exec (Stmt.If _ [Stmt.Assign [Expr.Tuple _ _ _] _ _] [] _) _) _ _ _)); (fail_if_success (with_reducible show wpAny _ _ (pyIter _) _ _ _)); (fail_if_success (with_reducible show CutQ _ _ _ _ _ _ _ _)); (fail_if_success (with_reducible show wpAny _ _ (eval (Expr.Subscript _ (Expr.Slice none (some (Expr.BoolOp _ _ _)) none _) _) _) _ _ _)); (fail_if_success (with_reducible show wpAny _ _ (execs (Stmt.AugAssign (Expr.Name _ _) Operator.Sub _ _ :: _) _) _ _ _)); (fail_if_success (with_reducible show wpAny _ _ (execs (Stmt.For _ _ _ _ _ :: _) _) _ _ _)); (fail_if_success (with_reducible show WOut _ _ _ _ _ _ _ _ _ _)); (fail_if_success (with_reducible show KswPost _ _ _ _ _ _ _ _ _ _ _ _ _ _)); first | (k_unfold; (try dsimp only)) | (k_end; wrow_close) | walk1 | (dsimp only; walk1) | (leave1; walk_say "STEP leave1"; try dsimp only) | fail "no step"))
  · ((rename Fr _ _ _ _ => F9); (rename News _ _ _ _ => N9); exact ret _ _ _ _ (told_same (by assumption)) F9 N9)
  · (rename Fr _ _ _ _ => lF'); (rename News _ _ _ _ => lN')
    (with_unfolding_all refine' while_cut (fun _ => news) (fun c : Int × Tok => [(Str.ofString "pre", .int c.1 c.2)]) [] (fun c => preIs x y c.1) (fun c => preIs x y c.1) (fun c => x.length - c.1.toNat) ⟨0, _⟩ lF' lN' (by kst_all) ?_ ?_ ?_)
    all_goals clear lF' lN'
    · exact ⟨by omega, by omega, by omega, by simp⟩
    rotate_left
    · rintro ⟨i, ti⟩ u h tk hP hF hN
      obtain ⟨h1, h2, h3, h4⟩ := hP
      dsimp only at h1 h2 h3 h4
      dsimp only [kstB] at hF
      (repeat' ((fail_if_success (with_reducible show wpAny _ _ (exec (Stmt.While _ _ _ _) _) _ _ _)); (fail_if_success (with_reducible show wpAny _ _ (exec (Stmt.If _ [Stmt.Assign [Expr.Tuple _ _ _] _ _] [] _) _) _ _ _)); (fail_if_success (with_reducible show wpAny _ _ (pyIter _) _ _ _)); (fail_if_success (with_reducible show CutQ _ _ _ _ _ _ _ _)); (fail_if_success (with_reducible show wpAny _ _ (eval (Expr.Subscript _ (Expr.Slice none (some (Expr.BoolOp _ _ _)) none _) _) _) _ _ _)); (fail_if_success (with_reducible show wpAny _ _ (execs (Stmt.AugAssign (Expr.Name _ _) Operator.Sub _ _ :: _) _) _ _ _)); (fail_if_success (with_reducible show wpAny _ _ (execs (Stmt.For _ _ _ _ _ :: _) _) _ _ _)); (fail_if_success (with_reducible show WOut _ _ _ _ _ _ _ _ _ _)); (fail_if_success (with_reducible show KswPost _ _ _ _ _ _ _ _ _ _ _ _ _ _)); first | (k_unfold; (try dsimp only)) | (k_end; wrow_close) | walk1 | (dsimp only; walk1) | (leave1; walk_say "STEP leave1"; try dsimp only) | fail "no step"))
      · (rename Fr _ _ _ _ => F9); (rename News _ _ _ _ => N9)
        have hP := pre_turn h1 h2 h3 h4 (by with_reducible assumption) (by with_reducible assumption) (by with_reducible assumption)
        have hl := from_ne h1 h2 (by with_reducible assumption)
        dsimp only [KswPost]
        refine ksw_end ⟨i + 1, ?tt⟩ F9 N9 (fun _ h => h) trivial ?ka ?kb hP ?kc
        (case ka => kst_all)
        (case kb => ksw_same)
        (case kc => (dsimp only; omega))
      all_goals (
        (rename Fr _ _ _ _ => F9); (rename News _ _ _ _ => N9)
        refine wout_mk ⟨i, ti⟩ F9 N9 (fun _ h => h) ?_ ?_ ⟨h1, h2, h3, h4⟩
        · kst_all
        · ksw_same)
    · rintro ⟨i, ti⟩ u h tk hP hF hN
      dsimp only [kstB] at hF
      (repeat' ((fail_if_success (with_reducible show wpAny _ _ (exec (Stmt.While _ _ _ _) _) _ _ _)); (fail_if_success (with_reducible show wpAny _ _ (exec (Stmt.If _ [Stmt.Assign [Expr.Tuple _ _ _] _ _] [] _) _) _ _ _)); (fail_if_success (with_reducible show wpAny _ _ (pyIter _) _ _ _)); (fail_if_success (with_reducible show CutQ _ _ _ _ _ _ _ _)); (fail_if_success (with_reducible show wpAny _ _ (eval (Expr.Subscript _ (Expr.Slice none (some (Expr.BoolOp _ _ _)) none _) _) _) _ _ _)); (fail_if_success (with_reducible show wpAny _ _ (execs (Stmt.AugAssign (Expr.Name _ _) Operator.Sub _ _ :: _) _) _ _ _)); (fail_if_success (with_reducible show wpAny _ _ (execs (Stmt.For _ _ _ _ _ :: _) _) _ _ _)); (fail_if_success (with_reducible show WOut _ _ _ _ _ _ _ _ _ _)); (fail_if_success (with_reducible show KswPost _ _ _ _ _ _ _ _ _ _ _ _ _ _)); first | (k_unfold; (try dsimp only)) | (k_end; wrow_close) | walk1 | (dsimp only; walk1) | (leave1; walk_say "STEP leave1"; try dsimp only) | fail "no step"))
      generalize hA : Txt.slice x (some i) none = A at *
      generalize hB : Txt.slice y (some i) none = B at *
      have hD : ∀ s', Cost s' → D s' (lst A) (lst B) = D s' (lst x) (lst y) := by intro s' C; rw [← hA, ← hB]; exact pre_D C hP
      have hAl : A.length ≤ 40 := by omega
      have hBl : B.length ≤ 40 := by omega
      clear hA hB hP
      (rename Fr _ _ _ _ => lF'); (rename News _ _ _ _ => lN')
      (with_unfolding_all refine' while_cut (fun _ => news) (fun c : Int × Tok => [(Str.ofString "post", .int c.1 c.2)]) [] (fun c => postIs A B c.1) (fun c => postIs A B c.1) (fun c => ((A.length : Int) + c.1).toNat) ⟨0, _⟩ lF' lN' (by kst_all) ?_ ?_ ?_)
      all_goals clear lF' lN'
      · exact ⟨by omega, by omega, by omega, by simp [← lst_length]⟩
      rotate_left
      · rintro ⟨p, tp⟩ u h tk hP hF hN
        obtain ⟨h1, h2, h3, h4⟩ := hP
        dsimp only at h1 h2 h3 h4
        have hc1 := cutEnd_len h1 h2
        have hc2 := cutEnd_len h1 h3
        have hl1 : (cutEnd A p).length ≤ 40 := by omega
        have hl2 : (cutEnd B p).length ≤ 40 := by omega
        dsimp only [kstB] at hF
        (repeat' ((fail_if_success (with_reducible show wpAny _ _ (exec (Stmt.While _ _ _ _) _) _ _ _)); (fail_if_success (with_reducible show wpAny _ _ (exec (Stmt.If _ [Stmt.Assign [Expr.Tuple _ _ _] _ _] [] _) _) _ _ _)); (fail_if_success (with_reducible show wpAny _ _ (pyIter _) _ _ _)); (fail_if_success (with_reducible show CutQ _ _ _ _ _ _ _ _)); (fail_if_success (with_reducible show wpAny _ _ (eval (Expr.Subscript _ (Expr.Slice none (some (Expr.BoolOp _ _ _)) none _) _) _) _ _ _)); (fail_if_success (with_reducible show wpAny _ _ (execs (Stmt.AugAssign (Expr.Name _ _) Operator.Sub _ _ :: _) _) _ _ _)); (fail_if_success (with_reducible show wpAny _ _ (execs (Stmt.For _ _ _ _ _ :: _) _) _ _ _)); (fail_if_success (with_reducible show WOut _ _ _ _ _ _ _ _ _ _)); (fail_if_success (with_reducible show KswPost _ _ _ _ _ _ _ _ _ _ _ _ _ _)); first | (k_unfold; (try dsimp only)) | (k_end; wrow_close) | walk1 | (dsimp only; walk1) | (leave1; walk_say "STEP leave1"; try dsimp only) | fail "no step"))
        (rename Fr _ _ _ _ => F8); (rename News _ _ _ _ => N8)
        refine cut_val (fun v => ∃ t, v = .str (cutEnd A p) t) F8 N8 ?_ ?_
        · refine Subscript_ ?_
          (repeat' ((fail_if_success (with_reducible show wpAny _ _ (exec (Stmt.While _ _ _ _) _) _ _ _)); (fail_if_success (with_reducible show wpAny _ _ (exec (Stmt.If _ [Stmt.Assign [Expr.Tuple _ _ _] _ _] [] _) _) _ _ _)); (fail_if_success (with_reducible show wpAny _ _ (pyIter _) _ _ _)); (fail_if_success (with_reducible show CutQ _ _ _ _ _ _ _ _)); (fail_if_success (with_reducible show wpAny _ _ (eval (Expr.Subscript _ (Expr.Slice none (some (Expr.BoolOp _ _ _)) none _) _) _) _ _ _)); (fail_if_success (with_reducible show wpAny _ _ (execs (Stmt.AugAssign (Expr.Name _ _) Operator.Sub _ _ :: _) _) _ _ _)); (fail_if_success (with_reducible show wpAny _ _ (execs (Stmt.For _ _ _ _ _ :: _) _) _ _ _)); (fail_if_success (with_reducible show WOut _ _ _ _ _ _ _ _ _ _)); (fail_if_success (with_reducible show KswPost _ _ _ _ _ _ _ _ _ _ _ _ _ _)); first | (k_unfold; (try dsimp only)) | (k_end; wrow_close) | walk1 | (dsimp only; walk1) | (leave1; walk_say "STEP leave1"; try dsimp only) | fail "no step"))
          all_goals walk_at "cut end"
        rintro _ h' tk' ⟨t, rfl⟩ F' N'
        clear F8 N8
        (repeat' ((fail_if_success (with_reducible show wpAny _ _ (exec (Stmt.While _ _ _ _) _) _ _ _)); (fail_if_success (with_reducible show wpAny _ _ (exec (Stmt.If _ [Stmt.Assign [Expr.Tuple _ _ _] _ _] [] _) _) _ _ _)); (fail_if_success (with_reducible show wpAny _ _ (pyIter _) _ _ _)); (fail_if_success (with_reducible show CutQ _ _ _ _ _ _ _ _)); (fail_if_success (with_reducible show wpAny _ _ (eval (Expr.Subscript _ (Expr.Slice none (some (Expr.BoolOp _ _ _)) none _) _) _) _ _ _)); (fail_if_success (with_reducible show wpAny _ _ (execs (Stmt.AugAssign (Expr.Name _ _) Operator.Sub _ _ :: _) _) _ _ _)); (fail_if_success (with_reducible show wpAny _ _ (execs (Stmt.For _ _ _ _ _ :: _) _) _ _ _)); (fail_if_success (with_reducible show WOut _ _ _ _ _ _ _ _ _ _)); (fail_if_success (with_reducible show KswPost _ _ _ _ _ _ _ _ _ _ _ _ _ _)); first | (k_unfold; (try dsimp only)) | (k_end; wrow_close) | walk1 | (dsimp only; walk1) | (leave1; walk_say "STEP leave1"; try dsimp only) | fail "no step"))
        · (rename Fr _ _ _ _ => F8); (rename News _ _ _ _ => N8)
          refine cut_val (fun v => ∃ t, v = .str (cutEnd B p) t) F8 N8 ?_ ?_
          · refine Subscript_ ?_
            (repeat' ((fail_if_success (with_reducible show wpAny _ _ (exec (Stmt.While _ _ _ _) _) _ _ _)); (fail_if_success (with_reducible show wpAny _ _ (exec (Stmt.If _ [Stmt.Assign [Expr.Tuple _ _ _] _ _] [] _) _) _ _ _)); (fail_if_success (with_reducible show wpAny _ _ (pyIter _) _ _ _)); (fail_if_success (with_reducible show CutQ _ _ _ _ _ _ _ _)); (fail_if_success (with_reducible show wpAny _ _ (eval (Expr.Subscript _ (Expr.Slice none (some (Expr.BoolOp _ _ _)) none _) _) _) _ _ _)); (fail_if_success (with_reducible show wpAny _ _ (execs (Stmt.AugAssign (Expr.Name _ _) Operator.Sub _ _ :: _) _) _ _ _)); (fail_if_success (with_reducible show wpAny _ _ (execs (Stmt.For _ _ _ _ _ :: _) _) _ _ _)); (fail_if_success (with_reducible show WOut _ _ _ _ _ _ _ _ _ _)); (fail_if_success (with_reducible show KswPost _ _ _ _ _ _ _ _ _ _ _ _ _ _)); first | (k_unfold; (try dsimp only)) | (k_end; wrow_close) | walk1 | (dsimp only; walk1) | (leave1; walk_say "STEP leave1"; try dsimp only) | fail "no step"))
            all_goals walk_at "cut end"
          rintro _ h'' tk'' ⟨t', rfl⟩ F'' N''
          clear F8 N8
          (repeat' ((fail_if_success (with_reducible show wpAny _ _ (exec (Stmt.While _ _ _ _) _) _ _ _)); (fail_if_success (with_reducible show wpAny _ _ (exec (Stmt.If _ [Stmt.Assign [Expr.Tuple _ _ _] _ _] [] _) _) _ _ _)); (fail_if_success (with_reducible show wpAny _ _ (pyIter _) _ _ _)); (fail_if_success (with_reducible show CutQ _ _ _ _ _ _ _ _)); (fail_if_success (with_reducible show wpAny _ _ (eval (Expr.Subscript _ (Expr.Slice none (some (Expr.BoolOp _ _ _)) none _) _) _) _ _ _)); (fail_if_success (with_reducible show wpAny _ _ (execs (Stmt.AugAssign (Expr.Name _ _) Operator.Sub _ _ :: _) _) _ _ _)); (fail_if_success (with_reducible show wpAny _ _ (execs (Stmt.For _ _ _ _ _ :: _) _) _ _ _)); (fail_if_success (with_reducible show WOut _ _ _ _ _ _ _ _ _ _)); (fail_if_success (with_reducible show KswPost _ _ _ _ _ _ _ _ _ _ _ _ _ _)); first | (k_unfold; (try dsimp only)) | (k_end; wrow_close) | walk1 | (dsimp only; walk1) | (leave1; walk_say "STEP leave1"; try dsimp only) | fail "no step"))
          · refine wpAny_execs_cons ?_
            refine wpAny_AugAssign_Name ?_
            walk1
            walk1
            walk1
            walk1
            dsimp only
            refine wpAny_execs_nil ?_
            (rename Fr _ _ _ _ => F9); (rename News _ _ _ _ => N9)
            have hP := post_turn h1 h2 h3 h4 (by with_reducible assumption) (by with_reducible assumption) (by with_reducible assumption)
            dsimp only [KswPost]
            refine ksw_end ⟨p - 1, ?tt2⟩ F9 N9 (fun _ h => h) trivial ?ka ?kb hP ?kc
            (case ka => kst_all)
            (case kb => ksw_same)
            (case kc => (dsimp only; omega))
          all_goals (
            (rename Fr _ _ _ _ => F9); (rename News _ _ _ _ => N9)
            refine wout_mk ⟨p, tp⟩ F9 N9 (fun _ h => h) ?_ ?_ ⟨h1, h2, h3, h4⟩
            · kst_all
            · ksw_same)
        · (rename Fr _ _ _ _ => F9); (rename News _ _ _ _ => N9)
          refine wout_mk ⟨p, tp⟩ F9 N9 (fun _ h => h) ?_ ?_ ⟨h1, h2, h3, h4⟩
          · kst_all
          · ksw_same
      · rintro ⟨p, tp⟩ u h tk hP hF hN
        dsimp only [kstB] at hF
        (repeat' ((fail_if_success (with_reducible show wpAny _ _ (exec (Stmt.While _ _ _ _) _) _ _ _)); (fail_if_success (with_reducible show wpAny _ _ (exec (Stmt.If _ [Stmt.Assign [Expr.Tuple _ _ _] _ _] [] _) _) _ _ _)); (fail_if_success (with_reducible show wpAny _ _ (pyIter _) _ _ _)); (fail_if_success (with_reducible show CutQ _ _ _ _ _ _ _ _)); (fail_if_success (with_reducible show wpAny _ _ (eval (Expr.Subscript _ (Expr.Slice none (some (Expr.BoolOp _ _ _)) none _) _) _) _ _ _)); (fail_if_success (with_reducible show wpAny _ _ (execs (Stmt.AugAssign (Expr.Name _ _) Operator.Sub _ _ :: _) _) _ _ _)); (fail_if_success (with_reducible show wpAny _ _ (execs (Stmt.For _ _ _ _ _ :: _) _) _ _ _)); (fail_if_success (with_reducible show WOut _ _ _ _ _ _ _ _ _ _)); (fail_if_success (with_reducible show KswPost _ _ _ _ _ _ _ _ _ _ _ _ _ _)); first | (k_unfold; (try dsimp only)) | (k_end; wrow_close) | walk1 | (dsimp only; walk1) | (leave1; walk_say "STEP leave1"; try dsimp only) | fail "no step"))
        (rename Fr _ _ _ _ => F8); (rename News _ _ _ _ => N8)
        refine cut_val (fun v => ∃ t, v = .str (cutEnd A p) t) F8 N8 ?_ ?_
        · refine Subscript_ ?_
          (repeat' ((fail_if_success (with_reducible show wpAny _ _ (exec (Stmt.While _ _ _ _) _) _ _ _)); (fail_if_success (with_reducible show wpAny _ _ (exec (Stmt.If _ [Stmt.Assign [Expr.Tuple _ _ _] _ _] [] _) _) _ _ _)); (fail_if_success (with_reducible show wpAny _ _ (pyIter _) _ _ _)); (fail_if_success (with_reducible show CutQ _ _ _ _ _ _ _ _)); (fail_if_success (with_reducible show wpAny _ _ (eval (Expr.Subscript _ (Expr.Slice none (some (Expr.BoolOp _ _ _)) none _) _) _) _ _ _)); (fail_if_success (with_reducible show wpAny _ _ (execs (Stmt.AugAssign (Expr.Name _ _) Operator.Sub _ _ :: _) _) _ _ _)); (fail_if_success (with_reducible show wpAny _ _ (execs (Stmt.For _ _ _ _ _ :: _) _) _ _ _)); (fail_if_success (with_reducible show WOut _ _ _ _ _ _ _ _ _ _)); (fail_if_success (with_reducible show KswPost _ _ _ _ _ _ _ _ _ _ _ _ _ _)); first | (k_unfold; (try dsimp only)) | (k_end; wrow_close) | walk1 | (dsimp only; walk1) | (leave1; walk_say "STEP leave1"; try dsimp only) | fail "no step"))
          all_goals walk_at "cut end"
        rintro _ h' tk' ⟨t, rfl⟩ F' N'
        clear F8 N8
        (repeat' ((fail_if_success (with_reducible show wpAny _ _ (exec (Stmt.While _ _ _ _) _) _ _ _)); (fail_if_success (with_reducible show wpAny _ _ (exec (Stmt.If _ [Stmt.Assign [Expr.Tuple _ _ _] _ _] [] _) _) _ _ _)); (fail_if_success (with_reducible show wpAny _ _ (pyIter _) _ _ _)); (fail_if_success (with_reducible show CutQ _ _ _ _ _ _ _ _)); (fail_if_success (with_reducible show wpAny _ _ (eval (Expr.Subscript _ (Expr.Slice none (some (Expr.BoolOp _ _ _)) none _) _) _) _ _ _)); (fail_if_success (with_reducible show wpAny _ _ (execs (Stmt.AugAssign (Expr.Name _ _) Operator.Sub _ _ :: _) _) _ _ _)); (fail_if_success (with_reducible show wpAny _ _ (execs (Stmt.For _ _ _ _ _ :: _) _) _ _ _)); (fail_if_success (with_reducible show WOut _ _ _ _ _ _ _ _ _ _)); (fail_if_success (with_reducible show KswPost _ _ _ _ _ _ _ _ _ _ _ _ _ _)); first | (k_unfold; (try dsimp only)) | (k_end; wrow_close) | walk1 | (dsimp only; walk1) | (leave1; walk_say "STEP leave1"; try dsimp only) | fail "no step"))
        (rename Fr _ _ _ _ => F8); (rename News _ _ _ _ => N8)
        refine cut_val (fun v => ∃ t, v = .str (cutEnd B p) t) F8 N8 ?_ ?_
        · refine Subscript_ ?_
          (repeat' ((fail_if_success (with_reducible show wpAny _ _ (exec (Stmt.While _ _ _ _) _) _ _ _)); (fail_if_success (with_reducible show wpAny _ _ (exec (Stmt.If _ [Stmt.Assign [Expr.Tuple _ _ _] _ _] [] _) _) _ _ _)); (fail_if_success (with_reducible show wpAny _ _ (pyIter _) _ _ _)); (fail_if_success (with_reducible show CutQ _ _ _ _ _ _ _ _)); (fail_if_success (with_reducible show wpAny _ _ (eval (Expr.Subscript _ (Expr.Slice none (some (Expr.BoolOp _ _ _)) none _) _) _) _ _ _)); (fail_if_success (with_reducible show wpAny _ _ (execs (Stmt.AugAssign (Expr.Name _ _) Operator.Sub _ _ :: _) _) _ _ _)); (fail_if_success (with_reducible show wpAny _ _ (execs (Stmt.For _ _ _ _ _ :: _) _) _ _ _)); (fail_if_success (with_reducible show WOut _ _ _ _ _ _ _ _ _ _)); (fail_if_success (with_reducible show KswPost _ _ _ _ _ _ _ _ _ _ _ _ _ _)); first | (k_unfold; (try dsimp only)) | (k_end; wrow_close) | walk1 | (dsimp only; walk1) | (leave1; walk_say "STEP leave1"; try dsimp only) | fail "no step"))
          all_goals walk_at "cut end"
        rintro _ h'' tk'' ⟨t', rfl⟩ F'' N''
        clear F8 N8
        have hD2 : ∀ s', Cost s' → D s' (lst (cutEnd A p)) (lst (cutEnd B p)) = D s' (lst x) (lst y) := by intro s' C; rw [post_D C hP, hD s' C]
        have hl1 : (cutEnd A p).length ≤ 40 := by have := cutEnd_len hP.1 hP.2.1; have := hP.1; dsimp only at *; omega
        have hl2 : (cutEnd B p).length ≤ 40 := by have := cutEnd_len hP.1 hP.2.2.1; have := hP.1; dsimp only at *; omega
        clear hP hD
        generalize cutEnd A p = A' at *
        generalize cutEnd B p = B' at *
        (repeat' ((fail_if_success (with_reducible show wpAny _ _ (exec (Stmt.While _ _ _ _) _) _ _ _)); (fail_if_success (with_reducible show wpAny _ _ (exec (Stmt.If _ [Stmt.Assign [Expr.Tuple _ _ _] _ _] [] _) _) _ _ _)); (fail_if_success (with_reducible show wpAny _ _ (pyIter _) _ _ _)); (fail_if_success (with_reducible show CutQ _ _ _ _ _ _ _ _)); (fail_if_success (with_reducible show wpAny _ _ (eval (Expr.Subscript _ (Expr.Slice none (some (Expr.BoolOp _ _ _)) none _) _) _) _ _ _)); (fail_if_success (with_reducible show wpAny _ _ (execs (Stmt.AugAssign (Expr.Name _ _) Operator.Sub _ _ :: _) _) _ _ _)); (fail_if_success (with_reducible show wpAny _ _ (execs (Stmt.For _ _ _ _ _ :: _) _) _ _ _)); (fail_if_success (with_reducible show WOut _ _ _ _ _ _ _ _ _ _)); (fail_if_success (with_reducible show KswPost _ _ _ _ _ _ _ _ _ _ _ _ _ _)); first | (k_unfold; (try dsimp only)) | (k_end; wrow_close) | walk1 | (dsimp only; walk1) | (leave1; walk_say "STEP leave1"; try dsimp only) | fail "no step"))
        · (rename Fr _ _ _ _ => lF'); (rename News _ _ _ _ => lN')
          refine stmt_cut (σ := (Str × Tok) × (Str × Tok)) (fun _ => news) (fun c => [(Str.ofString "a", .str c.1.1 c.1.2), (Str.ofString "b", .str c.2.1 c.2.2)]) [] (fun c => c.1.1.length ≤ c.2.1.length ∧ 0 < c.1.1.length ∧ c.2.1.length ≤ 40 ∧ ∀ s', Cost s' → D s' (lst c.1.1) (lst c.2.1) = D s' (lst x) (lst y)) lF' ?now ?done
          case now =>
            (rename Fr _ _ _ _ => lF9)
            refine wpAny_If ?_
            (repeat' ((fail_if_success (with_reducible show wpAny _ _ (exec (Stmt.While _ _ _ _) _) _ _ _)); (fail_if_success (with_reducible show wpAny _ _ (exec (Stmt.If _ [Stmt.Assign [Expr.Tuple _ _ _] _ _] [] _) _) _ _ _)); (fail_if_success (with_reducible show wpAny _ _ (pyIter _) _ _ _)); (fail_if_success (with_reducible show CutQ _ _ _ _ _ _ _ _)); (fail_if_success (with_reducible show wpAny _ _ (eval (Expr.Subscript _ (Expr.Slice none (some (Expr.BoolOp _ _ _)) none _) _) _) _ _ _)); (fail_if_success (with_reducible show wpAny _ _ (execs (Stmt.AugAssign (Expr.Name _ _) Operator.Sub _ _ :: _) _) _ _ _)); (fail_if_success (with_reducible show wpAny _ _ (execs (Stmt.For _ _ _ _ _ :: _) _) _ _ _)); (fail_if_success (with_reducible show WOut _ _ _ _ _ _ _ _ _ _)); (fail_if_success (with_reducible show KswPost _ _ _ _ _ _ _ _ _ _ _ _ _ _)); first | (k_unfold; (try dsimp only)) | (k_end; wrow_close) | walk1 | (dsimp only; walk1) | (leave1; walk_say "STEP leave1"; try dsimp only) | fail "no step"))
            · (rename Fr _ _ _ _ => F9); (rename News _ _ _ _ => N9)
              refine wout_mk ((B', t'), (A', t)) F9 N9 (fun _ h => List.mem_cons_of_mem _ h) ?_ ?_ ⟨by dsimp only; omega, by dsimp only; omega, hl1, fun s' C => by rw [D_symm C]; exact hD2 s' C⟩
              · kst_all
              · ksw_same
            · (rename Fr _ _ _ _ => F9); (rename News _ _ _ _ => N9)
              refine wout_mk ((A', t), (B', t')) F9 N9 (fun _ h => h) ?_ ?_ ⟨by dsimp only; omega, by dsimp only; omega, hl2, hD2⟩
              · kst_all
              · ksw_same
          case done =>
            rintro ⟨⟨S, tS⟩, ⟨T, tT⟩⟩ u h tk hX hF hN
            obtain ⟨hST, hS0, hT40, hDST⟩ := hX
            dsimp only at hST hS0 hT40 hDST
            dsimp only [kstB] at hF
            clear hD2 hl1 hl2 lF' lN'
            (repeat' ((fail_if_success (with_reducible show wpAny _ _ (exec (Stmt.While _ _ _ _) _) _ _ _)); (fail_if_success (with_reducible show wpAny _ _ (exec (Stmt.If _ [Stmt.Assign [Expr.Tuple _ _ _] _ _] [] _) _) _ _ _)); (fail_if_success (with_reducible show wpAny _ _ (pyIter _) _ _ _)); (fail_if_success (with_reducible show CutQ _ _ _ _ _ _ _ _)); (fail_if_success (with_reducible show wpAny _ _ (eval (Expr.Subscript _ (Expr.Slice none (some (Expr.BoolOp _ _ _)) none _) _) _) _ _ _)); (fail_if_success (with_reducible show wpAny _ _ (execs (Stmt.AugAssign (Expr.Name _ _) Operator.Sub _ _ :: _) _) _ _ _)); (fail_if_success (with_reducible show wpAny _ _ (execs (Stmt.For _ _ _ _ _ :: _) _) _ _ _)); (fail_if_success (with_reducible show WOut _ _ _ _ _ _ _ _ _ _)); (fail_if_success (with_reducible show KswPost _ _ _ _ _ _ _ _ _ _ _ _ _ _)); first | (k_unfold; (try dsimp only)) | (k_end; wrow_close) | walk1 | (dsimp only; walk1) | (leave1; walk_say "STEP leave1"; try dsimp only) | fail "no step"))
            · ((rename Fr _ _ _ _ => F9); (rename News _ _ _ _ => N9); exact ret _ _ _ _ (told_far hDST (by omega)) F9 N9)
            · (rename Fr _ _ _ _ => F8); (rename News _ _ _ _ => N8); (rename IsRange _ _ _ _ _ _ _ _ => rg)
              refine list_rangeK (n := S.length) rfl F8 N8 rg (row_range _ (by omega)).1 (row_range _ (by omega)).2 (by omega) ?_
              intro D' us c' h9 tk9 F9 N9 l1 hI
              clear F8 N8 rg
              (repeat' ((fail_if_success (with_reducible show wpAny _ _ (exec (Stmt.While _ _ _ _) _) _ _ _)); (fail_if_success (with_reducible show wpAny _ _ (exec (Stmt.If _ [Stmt.Assign [Expr.Tuple _ _ _] _ _] [] _) _) _ _ _)); (fail_if_success (with_reducible show wpAny _ _ (pyIter _) _ _ _)); (fail_if_success (with_reducible show CutQ _ _ _ _ _ _ _ _)); (fail_if_success (with_reducible show wpAny _ _ (eval (Expr.Subscript _ (Expr.Slice none (some (Expr.BoolOp _ _ _)) none _) _) _) _ _ _)); (fail_if_success (with_reducible show wpAny _ _ (execs (Stmt.AugAssign (Expr.Name _ _) Operator.Sub _ _ :: _) _) _ _ _)); (fail_if_success (with_reducible show wpAny _ _ (execs (Stmt.For _ _ _ _ _ :: _) _) _ _ _)); (fail_if_success (with_reducible show WOut _ _ _ _ _ _ _ _ _ _)); (fail_if_success (with_reducible show KswPost _ _ _ _ _ _ _ _ _ _ _ _ _ _)); first | (k_unfold; (try dsimp only)) | (k_end; wrow_close) | walk1 | (dsimp only; walk1) | (leave1; walk_say "STEP leave1"; try dsimp only) | fail "no step"))
              (rename Fr _ _ _ _ => F7); (rename News _ _ _ _ => N7)
              refine wpAny_mono (lev_dp (by assumption) (by assumption) (by assumption) (fr_as [(Str.ofString "result", .int 0 _), (Str.ofString "row", .ref D'), (Str.ofString "a", .str S tS), (Str.ofString "b", .str T tT), (Str.ofString "max_cost", .int mx tm)] (by kst_all) F7) N7 (row_as hI) l1 hST hS0 hT40 (by omega) (by omega) ?_) (fun _ _ h => h) (fun _ _ h => h.elim)
              intro r t h' tk' m' hT F6 N6
              (repeat' ((fail_if_success (with_reducible show wpAny _ _ (exec (Stmt.While _ _ _ _) _) _ _ _)); (fail_if_success (with_reducible show wpAny _ _ (exec (Stmt.If _ [Stmt.Assign [Expr.Tuple _ _ _] _ _] [] _) _) _ _ _)); (fail_if_success (with_reducible show wpAny _ _ (pyIter _) _ _ _)); (fail_if_success (with_reducible show CutQ _ _ _ _ _ _ _ _)); (fail_if_success (with_reducible show wpAny _ _ (eval (Expr.Subscript _ (Expr.Slice none (some (Expr.BoolOp _ _ _)) none _) _) _) _ _ _)); (fail_if_success (with_reducible show wpAny _ _ (execs (Stmt.AugAssign (Expr.Name _ _) Operator.Sub _ _ :: _) _) _ _ _)); (fail_if_success (with_reducible show wpAny _ _ (execs (Stmt.For _ _ _ _ _ :: _) _) _ _ _)); (fail_if_success (with_reducible show WOut _ _ _ _ _ _ _ _ _ _)); (fail_if_success (with_reducible show KswPost _ _ _ _ _ _ _ _ _ _ _ _ _ _)); first | (k_unfold; (try dsimp only)) | (k_end; wrow_close) | walk1 | (dsimp only; walk1) | (leave1; walk_say "STEP leave1"; try dsimp only) | fail "no step"))
              ((rename Fr _ _ _ _ => F9); (rename News _ _ _ _ => N9); exact ret _ _ _ _ (told_move hDST hT) F9 N9)
        all_goals ((rename Fr _ _ _ _ => F9); (rename News _ _ _ _ => N9); exact ret _ _ _ _ (told_nil hD2 (by omega) rfl) F9 N9)
end
end Mine
open Lean Elab Command in
end
section
namespace Mine
theorem fmod_lo {a b : Int} (h : 0 < b) : 0 ≤ a.fmod b := Int.fmod_nonneg_of_pos a h
theorem fmod_hi {a b : Int} (h : 0 < b) : a.fmod b < b := Int.fmod_lt_of_pos a h
end Mine
end
section
open PySem PySem.W PyProof.Rows
namespace Mine
def eltOf : Stmt → Expr
  | .Assign _ (.ListComp e _ _ _) _ => e
  | _ => default
def lcScope : Stmt → Scope
  | .Assign _ (.ListComp _ _ s _) _ => s
  | _ => default
def iterOf : Stmt → Expr
  | .Assign _ (.ListComp _ (g :: _) _ _) _ => g.iter
  | _ => default
def stmtAt (p : Program) (k j : Nat) : Stmt := ((stmtsAt p k)[j]?).getD default
/-- a cell of the script -/
abbrev cellIs (y : Value) : Prop := ∃ c t, y = .int c t ∧ 0 ≤ c ∧ c < 1000000
section
variable {fa lc : Addr} {w : World} {p : Program} {loose : List Str} {mean : ExcName → Option Value} {mg mb : Str → Option Value} {h₀ : Heap} {m : Str → Option Value} {s : Shared}
set_option maxRecDepth 100000 in
set_option maxHeartbeats 1000000 in
theorem elt_w {L' C S : Addr} {oC cell : Obj} {m₂ : Str → Option Value} {ext : List (Addr × Obj)} {vs : List Value} {ns : List Int} {i : Nat} {own : Int} {ti to : Tok} {Q : Value → Shared → Prop}
    (X : (Mine.hd.heap_39 w.params).In h₀) (T : Top p loose mean mg mb h₀) (F : Fr h₀ L' s.heap m) (N : News h₀ L' s.heap ((C, oC) :: (L' + 1, cell) :: ext))
    (hcell : cell.data = .cell (some (.ref S))) (hC : LCg.NsObj oC m₂) (h1 : m₂ (Str.ofString "place") = some (.int i ti)) (h2 : m₂ (Str.ofString "own") = some (.int own to)) (hl : h₀.IsList S vs.toArray) (hi : IntsAre vs ns) (hlen : ns.length ≤ 63) (hi9 : i ≤ 8)
    (hQ : ∀ y h' tk', cellIs y → Fr h₀ L' h' m → News h₀ L' h' ((C, oC) :: (L' + 1, cell) :: ext) → Q y { s with heap := h', toks := tk' }) :
    wpAny (model PySem.Challenge.rw_rs0052_03.prog w) (callerA.deeper (envOfC (Str.ofString "law") (scopeAt PySem.Challenge.rw_rs0052_03.prog 20) L' fa (.ref lc)))
      (eval (eltOf (stmtAt PySem.Challenge.rw_rs0052_03.prog 20 0)) (compEnvC (lcScope (stmtAt PySem.Challenge.rw_rs0052_03.prog 20 0)) [(Str.ofString "script", L' + 1)] C (envOfC (Str.ofString "law") (scopeAt PySem.Challenge.rw_rs0052_03.prog 20) L' fa (.ref lc)))) Q (fun _ _ => False) s := by
  k_with_none
  w_top off
  revert X
  k_fill
  intro X
  conv in (occs := *) scopeAt _ _ => all_goals whnf
  conv in (occs := *) lcScope _ => all_goals whnf
  conv in (occs := *) eltOf _ => all_goals whnf
  k_steps
  (rename Fr _ _ _ _ => F9); (rename News _ _ _ _ => N9)
  refine sumK (vs := (slicePick vs.toArray (some (i : Int)) (some 63) (some 4)).toList) rfl F9 N9 (by rw [Array.toArray_toList]; exact News.isList N9 (.head _)) (hi.pick _ _ _) ?_
  intro h8 tk8 t8 F8 N8
  clear F9 N9
  k_steps
  refine hQ _ _ _ ⟨_, _, rfl, ?_, ?_⟩ F8 (cb_drop N8 fun _ h => List.mem_cons_of_mem _ h)
  · exact fmod_lo (by decide)
  · exact fmod_hi (by decide)
theorem int_at {l : List Value} (h : ∀ v ∈ l, ∃ n t, v = .int n t) (i : Nat) (v : Value) (e : l.toArray[i]? = some v) : ∃ n t, v = .int n t := h v (by
  rw [List.getElem?_toArray] at e; exact List.mem_of_getElem? e)
set_option maxRecDepth 100000 in
set_option maxHeartbeats 1000000 in
theorem iter_w {L' : Addr} {cell : Obj} {rest : List (Addr × Obj)} {Q : Value → Shared → Prop}
    (X : (Mine.hd.heap_39 w.params).In h₀) (T : Top p loose mean mg mb h₀) (F : Fr h₀ L' s.heap m) (N : News h₀ L' s.heap ((L' + 1, cell) :: rest))
    (hQ : ∀ (items : Array Value) (xv : Value) (s₁ : Shared), items.size = 4 → (∀ (i : Nat) (v : Value), items[i]? = some v → ∃ n t, v = .int n t) → EnumSrc h₀ L' m ((L' + 1, cell) :: rest) items s xv s₁ → Q xv s₁) :
    wpAny (model PySem.Challenge.rw_rs0052_03.prog w) (callerA.deeper (envOfC (Str.ofString "law") (scopeAt PySem.Challenge.rw_rs0052_03.prog 20) L' fa (.ref lc)))
      (eval (iterOf (stmtAt PySem.Challenge.rw_rs0052_03.prog 20 0)) (envOfC (Str.ofString "law") (scopeAt PySem.Challenge.rw_rs0052_03.prog 20) L' fa (.ref lc))) Q (fun _ _ => False) s := by
  k_with_none
  w_top off
  revert X
  k_fill
  intro X
  conv in (occs := *) scopeAt _ _ => all_goals whnf
  conv in (occs := *) iterOf _ => all_goals whnf
  k_steps
  (rename Fr _ _ _ _ => F9); (rename News _ _ _ _ => N9)
  exact wpAny_mono (enum_src (s₀ := s) ⟨_, _, rfl⟩ F9 N9 fun p hp => by
      rename _ < _ ∧ AllLt _ _ => l1
      rcases List.mem_cons.mp hp with rfl | hp
      · exact Nat.ne_of_lt l1.1
      · exact Nat.ne_of_lt (kst_ltOf l1.2 p hp)) (fun xv s₁ h => hQ _ xv s₁ rfl (int_at (by simp)) h) fun _ _ h => h
set_option maxRecDepth 100000 in
set_option maxHeartbeats 1000000 in
theorem cells_st {L' S : Addr} {cell : Obj} {rest : List (Addr × Obj)} {vs : List Value} {ns : List Int} {Q : Flow → Shared → Prop}
    (X : (Mine.hd.heap_39 w.params).In h₀) (T : Top p loose mean mg mb h₀) (F : Fr h₀ L' s.heap m) (N : News h₀ L' s.heap ((L' + 1, cell) :: rest))
    (hcell : cell.data = .cell (some (.ref S))) (hl : h₀.IsList S vs.toArray) (hi : IntsAre vs ns) (hlen : ns.length ≤ 63)
    (hQ : ∀ D ys h' tk', ys.length = 4 → (∀ (i : Nat) y, ys[i]? = some y → cellIs y) → Fr h₀ L' h' (fun z => if z = Str.ofString "cells" then some (.ref D) else m z) → News h₀ L' h' ((D, LCg.lst ys) :: (L' + 1, cell) :: rest) → (∀ p ∈ (L' + 1, cell) :: rest, p.1 < D) → Q .next { s with heap := h', toks := tk' }) :
    wpAny (model PySem.Challenge.rw_rs0052_03.prog w) (callerA.deeper (envOfC (Str.ofString "law") (scopeAt PySem.Challenge.rw_rs0052_03.prog 20) L' fa (.ref lc)))
      (exec (stmtAt PySem.Challenge.rw_rs0052_03.prog 20 0) (envOfC (Str.ofString "law") (scopeAt PySem.Challenge.rw_rs0052_03.prog 20) L' fa (.ref lc))) Q (fun _ _ => False) s := by
  k_with_none
  w_top off
  have X0 := X
  revert X
  k_fill
  intro X
  conv in (occs := *) stmtAt _ _ _ => all_goals whnf
  refine' assign_enum (h₀ := h₀) (n := 4) (Pv := fun _ v => ∃ n t, v = .int n t) (news := (L' + 1, cell) :: rest) (cl := [(Str.ofString "script", L' + 1)]) (m := m) (Y := fun _ y => cellIs y) rfl (by with_unfolding_all rfl) (by with_unfolding_all rfl) (by with_unfolding_all rfl) (by with_unfolding_all rfl) (by decide) rfl (by decide) (by rfl) (by rfl) (by decide) rfl ?sz ?it ?el ?fin
  case it => exact iter_w X0 T F N fun items xv s₁ h1 h2 h3 => ⟨items, h1, h2, h3⟩
  case sz => decide
  case el =>
    intro i C oC m₂ h tk t v ext hi8 hv hC h1 h2 F' hsub N'
    obtain ⟨own, to, rfl⟩ := hv
    refine elt_w (ext := ext) X0 T F' (fun q hq => ?_) hcell hC h1 h2 hl hi hlen ?_ ?_
    · rcases List.mem_cons.mp hq with rfl | hq
      · exact N' _ (.head _)
      · rcases List.mem_cons.mp hq with rfl | hq
        · exact N' _ (.tail _ (hsub _ (.head _)))
        · exact N' _ (.tail _ hq)
    · omega
    · intro y h' tk' hy F9 N9
      refine ⟨h', tk', rfl, F9, fun q hq => ?_, hy⟩
      rcases List.mem_cons.mp hq with rfl | hq
      · exact N9 _ (.head _)
      · exact N9 _ (.tail _ (.tail _ hq))
  case fin =>
    intro D ys h tk hl hY F9 N9 hlt9
    exact hQ D ys h tk hl hY F9 N9 hlt9
end
end Mine
end
section
open PySem PySem.W PyProof.Rows PySem.Builtin.Str PySem.Builtin
namespace Mine
/-- cut at each c -/
def splitC (c : Nat) : List Nat → List (List Nat)
  | [] => [[]]
  | k :: r => if k = c then [] :: splitC c r else match splitC c r with
    | [] => [[k]]
    | q :: s => (k :: q) :: s
def joinL (z : List Nat) : List (List Nat) → List Nat
  | [] => []
  | [q] => q
  | q :: r => q ++ z ++ joinL z r
/-- c turned to z -/
def replC (c : Nat) (z : List Nat) : List Nat → List Nat
  | [] => []
  | k :: r => if k = c then z ++ replC c z r else k :: replC c z r
/-- return and feed turned to z -/
def repl2 (z : List Nat) : List Nat → List Nat
  | [] => []
  | 13 :: 10 :: r => z ++ repl2 z r
  | k :: r => k :: repl2 z r
theorem splitC_ne (c : Nat) : ∀ l, splitC c l ≠ []
  | [] => by simp [splitC]
  | k :: r => by
    rw [splitC]
    split
    · simp
    · have := splitC_ne c r
      split <;> simp
theorem splitC_self (c : Nat) (r : List Nat) : splitC c (c :: r) = [] :: splitC c r := by rw [splitC, if_pos rfl]
theorem splitC_other {c k : Nat} (h : k ≠ c) (r : List Nat) : ∃ q s, splitC c r = q :: s ∧ splitC c (k :: r) = (k :: q) :: s := by
  cases e : splitC c r with
  | nil => exact absurd e (splitC_ne c r)
  | cons q s => exact ⟨q, s, rfl, by rw [splitC, if_neg h, e]⟩
theorem splitC_free {c : Nat} : ∀ {l : List Nat}, c ∉ l → splitC c l = [l]
  | [], _ => rfl
  | k :: r, h => by
    have hk : k ≠ c := fun e => h (e ▸ .head _)
    rw [splitC, if_neg hk, splitC_free (fun e => h (.tail _ e))]
theorem splitC_app {c : Nat} : ∀ {l : List Nat} (r : List Nat), c ∉ l → splitC c (l ++ c :: r) = l :: splitC c r
  | [], r, _ => splitC_self c r
  | k :: l, r, h => by
    have hk : k ≠ c := fun e => h (e ▸ .head _)
    rw [List.cons_append, splitC, if_neg hk, splitC_app r (fun e => h (.tail _ e))]
theorem joinL_cons (z q : List Nat) {r : List (List Nat)} (h : r ≠ []) : joinL z (q :: r) = q ++ z ++ joinL z r := by
  cases r with
  | nil => exact absurd rfl h
  | cons a b => rfl
theorem join_splitC (c : Nat) (z : List Nat) : ∀ l, joinL z (splitC c l) = replC c z l
  | [] => rfl
  | k :: r => by
    by_cases h : k = c
    · subst h
      rw [splitC_self, joinL_cons _ _ (splitC_ne _ _), join_splitC, replC, if_pos rfl]; rfl
    · obtain ⟨q, s, e1, e2⟩ := splitC_other h r
      have ih := join_splitC c z r
      rw [e1] at ih
      rw [e2, replC, if_neg h, ← ih]
      cases s with
      | nil => rfl
      | cons a b => simp [joinL]
theorem splitC_join {c : Nat} : ∀ {ps : List (List Nat)}, ps ≠ [] → (∀ q ∈ ps, c ∉ q) → splitC c (joinL [c] ps) = ps
  | [], h, _ => absurd rfl h
  | [q], _, h => splitC_free (h q (.head _))
  | q :: a :: b, _, h => by
    rw [joinL_cons _ _ (by simp), List.append_assoc, List.singleton_append, splitC_app _ (h q (.head _)), splitC_join (by simp) fun x hx => h x (.tail _ hx)]
theorem lst_join (sep : Str) : ∀ ps : List Str, lst (Str.join sep ps) = joinL (lst sep) (ps.map lst)
  | [] => rfl
  | [_] => rfl
  | q :: a :: b => by
    show lst (q ++ sep ++ Str.join sep (a :: b)) = _
    rw [lst_app, lst_app, lst_join sep (a :: b)]
    rfl
theorem split_ne (x y : Str) : Txt.split x y ≠ [] := by
  unfold Txt.split
  split
  · simp
  · split
    · simp
    · obtain ⟨a, b, e⟩ := StrLaws.partsFrom_ne x y.length 0 (occurrences x y 0 x.length (x.length + 1))
      rw [StrLaws.partsBetween_eq, e]; simp
theorem split_one (x : Str) (c : Nat) : (Txt.split x ⟨#[c]⟩).map lst = splitC c (lst x) := by
  have h := congrArg lst (StrLaws.join_split x ⟨#[c]⟩)
  rw [lst_join] at h
  rw [← h]
  refine (splitC_join (by simpa using split_ne x _) ?_).symm
  intro q hq
  obtain ⟨a, ha, rfl⟩ := List.mem_map.mp hq
  exact StrLaws.split_free x c a ha
theorem replace_one (x z : Str) (c : Nat) : lst (Txt.replace x ⟨#[c]⟩ z) = replC c (lst z) (lst x) := by
  rw [StrLaws.replace_one, lst_join, split_one, join_splitC]
/-- how often -/
theorem count_chain (x : Str) (c : Nat) : ∀ (cuts : List Nat) (a f : Nat), StrLaws.ChainG x ⟨#[c]⟩ x.length a cuts f → (∀ k, f ≤ k → ¬ StrLaws.At x ⟨#[c]⟩ x.length k) → ((lst x).drop a).count c = cuts.length
  | [], a, f, h, hn => by
    have e : f = a := h
    subst e
    refine List.count_eq_zero.mpr fun hm => ?_
    obtain ⟨i, hi⟩ := List.getElem?_of_mem hm
    rw [List.getElem?_drop] at hi
    exact hn (f + i) (by omega) ((StrLaws.subAt_one x c _).mpr hi)
  | k :: r, a, f, h, hn => by
    obtain ⟨h1, h2, h3, h4⟩ := h
    have hk := (StrLaws.subAt_one x c k).mp h2
    have ih := count_chain x c r _ f h4 hn
    have hkl : k < (lst x).length := by
      have := (List.getElem?_eq_some_iff.mp hk).1
      exact this
    have e : (lst x).drop a = ((lst x).drop a).take (k - a) ++ c :: (lst x).drop (k + 1) := by
      have e1 := List.take_append_drop (k - a) ((lst x).drop a)
      rw [List.drop_drop, show a + (k - a) = k by omega, List.drop_eq_getElem_cons hkl] at e1
      have e2 : (lst x)[k] = c := by
        have := (List.getElem?_eq_some_iff.mp hk).2
        exact this
      rw [e2] at e1
      exact e1.symm
    have h0 : (((lst x).drop a).take (k - a)).count c = 0 := by
      refine List.count_eq_zero.mpr fun hm => ?_
      obtain ⟨i, hi⟩ := List.getElem?_of_mem hm
      have hlt : i < k - a := by
        have := (List.getElem?_eq_some_iff.mp hi).1
        rw [List.length_take] at this
        omega
      rw [List.getElem?_take_of_lt hlt, List.getElem?_drop] at hi
      exact h3 (a + i) (by omega) (by omega) ((StrLaws.subAt_one x c _).mpr hi)
    rw [e, List.count_append, h0, List.count_cons_self]
    have ih' : List.count c ((lst x).drop (k + 1)) = r.length := ih
    rw [ih', List.length_cons]; omega
theorem count_one (x : Str) (c : Nat) : Txt.count x ⟨#[c]⟩ = ((lst x).count c : Int) := by
  obtain ⟨f, h, hn⟩ := StrLaws.occ_tight x ⟨#[c]⟩ (Nat.le_refl 1)
  have := count_chain x c _ 0 f h hn
  rw [List.drop_zero] at this
  unfold Txt.count
  rw [this]
theorem repl2_other {z : List Nat} {k : Nat} {r : List Nat} (h : ¬ (k = 13 ∧ r.head? = some 10)) : repl2 z (k :: r) = k :: repl2 z r := by
  rw [repl2]
  intro r' e1 e2
  subst e1 e2
  exact h ⟨rfl, rfl⟩
theorem repl2_free (z : List Nat) : ∀ (l : List Nat), (∀ i, ¬ (l[i]? = some 13 ∧ l[i + 1]? = some 10)) → repl2 z l = l
  | [], _ => rfl
  | k :: r, h => by
    rw [repl2_other (fun ⟨e1, e2⟩ => h 0 (by cases r with | nil => simp at e2 | cons q s => simp at e2; simp [e1, e2])), repl2_free z r fun i => h (i + 1)]
theorem repl2_app (z : List Nat) : ∀ (l r : List Nat), (∀ i, i < l.length → ¬ ((l ++ 13 :: r)[i]? = some 13 ∧ (l ++ 13 :: r)[i + 1]? = some 10)) → repl2 z (l ++ 13 :: 10 :: r) = l ++ z ++ repl2 z r
  | [], r, _ => by rw [List.nil_append, repl2]; rfl
  | k :: l, r, h => by
    have h0 := h 0 (by simp)
    rw [List.cons_append, repl2_other, repl2_app z l r]
    · rfl
    · intro i hi
      have := h (i + 1) (by simpa using hi)
      simpa using this
    · rintro ⟨e1, e2⟩
      refine h0 ⟨by simp [e1], ?_⟩
      cases l with
      | nil => simp at e2
      | cons q s => simp at e2; simp [e2]
theorem subAt_two (x : Str) (c d i : Nat) : StrLaws.At x ⟨#[c, d]⟩ x.length i ↔ ((lst x)[i]? = some c ∧ (lst x)[i + 1]? = some d) := by
  unfold StrLaws.At
  rw [StrLaws.subAt_eq]
  have hl : (⟨#[c, d]⟩ : Str).length = 2 := rfl
  rw [hl]
  show (i + 2 ≤ x.length ∧ (((lst x).drop i).take 2 == [c, d]) = true) ↔ _
  rw [beq_iff_eq]
  have hx : (lst x).length = x.length := lst_length x
  constructor
  · rintro ⟨h1, h2⟩
    rw [List.drop_eq_getElem_cons (by omega), List.drop_eq_getElem_cons (by omega)] at h2
    simp only [List.take_succ_cons, List.take_zero, List.cons.injEq, and_true] at h2
    rw [List.getElem?_eq_getElem (by omega), List.getElem?_eq_getElem (by omega), h2.1, h2.2]
    exact ⟨rfl, rfl⟩
  · rintro ⟨h1, h2⟩
    obtain ⟨l1, e1⟩ := List.getElem?_eq_some_iff.mp h1
    obtain ⟨l2, e2⟩ := List.getElem?_eq_some_iff.mp h2
    refine ⟨by omega, ?_⟩
    rw [List.drop_eq_getElem_cons l1, List.drop_eq_getElem_cons l2, e1, e2]
    rfl
theorem repl2_chain (x z : Str) : ∀ (cuts : List Nat) (a f : Nat), StrLaws.ChainG x ⟨#[13, 10]⟩ x.length a cuts f → (∀ k, f ≤ k → ¬ StrLaws.At x ⟨#[13, 10]⟩ x.length k) → lst (Str.join z (StrLaws.partsFrom x 2 a cuts)) = repl2 (lst z) ((lst x).drop a)
  | [], a, f, h, hn => by
    have e : f = a := h
    subst e
    have e2 : lst (strSub x f x.length) = (lst x).drop f := by
      show (strSub x f x.length).cps.toList = _
      rw [StrLaws.strSub_toList, List.take_of_length_le (by rw [List.length_drop]; exact Nat.le_of_eq (by rw [show x.cps.toList.length = x.length from lst_length x]))]
      rfl
    show lst (strSub x f x.length) = _
    rw [e2, repl2_free]
    intro i hi
    rw [List.getElem?_drop, List.getElem?_drop] at hi
    exact hn (f + i) (by omega) ((subAt_two x 13 10 _).mpr hi)
  | k :: r, a, f, h, hn => by
    obtain ⟨h1, h2, h3, h4⟩ := h
    have hk := (subAt_two x 13 10 k).mp h2
    have ih := repl2_chain x z r _ f h4 hn
    obtain ⟨l1, e1⟩ := List.getElem?_eq_some_iff.mp hk.1
    obtain ⟨l2, e2⟩ := List.getElem?_eq_some_iff.mp hk.2
    have e : (lst x).drop a = ((lst x).drop a).take (k - a) ++ 13 :: 10 :: (lst x).drop (k + 2) := by
      have q := List.take_append_drop (k - a) ((lst x).drop a)
      rw [List.drop_drop, show a + (k - a) = k by omega, List.drop_eq_getElem_cons l1, List.drop_eq_getElem_cons l2, e1, e2] at q
      exact q.symm
    obtain ⟨q, s, es⟩ := StrLaws.partsFrom_ne x 2 (k + 2) r
    have hj : lst (Str.join z (StrLaws.partsFrom x 2 a (k :: r))) = lst (strSub x a k) ++ lst z ++ lst (Str.join z (StrLaws.partsFrom x 2 (k + 2) r)) := by
      show lst (Str.join z (strSub x a k :: StrLaws.partsFrom x 2 (k + 2) r)) = _
      rw [es]
      show lst (strSub x a k ++ z ++ Str.join z (q :: s)) = _
      rw [lst_app, lst_app]
    have ih' : lst (Str.join z (StrLaws.partsFrom x 2 (k + 2) r)) = repl2 (lst z) ((lst x).drop (k + 2)) := ih
    have hp : lst (strSub x a k) = ((lst x).drop a).take (k - a) := StrLaws.strSub_toList x a k
    rw [hj, ih', hp, e, repl2_app]
    · rw [← e]
    · intro i hi
      have hi' : i < k - a := by
        rw [List.length_take] at hi
        omega
      have hg : ∀ j, j ≤ k - a → (((lst x).drop a).take (k - a) ++ 13 :: (lst x).drop (k + 2))[j]? = (lst x)[a + j]? := by
        intro j hj
        have hlen : (((lst x).drop a).take (k - a)).length = k - a := by rw [List.length_take, List.length_drop]; omega
        by_cases hjk : j < k - a
        · rw [List.getElem?_append_left (by rw [hlen]; exact hjk), List.getElem?_take_of_lt hjk, List.getElem?_drop]
        · rw [List.getElem?_append_right (by rw [hlen]; omega), hlen, show j - (k - a) = 0 by omega, show a + j = k by omega, hk.1]
          rfl
      rw [hg i (by omega), hg (i + 1) (by omega)]
      intro hh
      exact h3 (a + i) (by omega) (by omega) ((subAt_two x 13 10 _).mpr hh)
end Mine
end
section
open PySem PySem.W PyProof.Rows
namespace Mine
theorem fr_some {h₀ h : Heap} {L : Addr} {m : Str → Option Value} (ps : List (Str × Value)) (h1 : ∀ p ∈ ps, m p.1 = some p.2) (F : Fr h₀ L h m) : ∃ u, Fr h₀ L h (kstB u ps) := ⟨m, fr_as ps h1 F⟩
section
variable {prog : Program} {w : World} {A : Around} {E : Value → Shared → Prop} {s : Shared} {h₀ : Heap} {L D : Addr} {news : List (Addr × Obj)}
end
end Mine
end
section
open PySem PySem.W PyProof.Rows
namespace Mine
def lawName (x : Str) : Str := ⟨(nameOf (lst x)).toArray⟩
theorem qt1 : Str.ofString "\"" = ⟨#[34]⟩ := by decide +kernel
theorem empty_lst : lst (Str.ofString "") = [] := by decide +kernel
end Mine
end
section
open PySem PySem.W PyProof.Rows
namespace Mine
/-- a row with one dot more where it begins with one -/
def dotl : List Nat → List Nat
  | 46 :: r => 46 :: 46 :: r
  | r => r
theorem dotl_other {k : Nat} (h : k ≠ 46) (r : List Nat) : dotl (k :: r) = k :: r := by
  unfold dotl
  split
  · rename_i e; cases e; exact absurd rfl h
  · rfl
/-- the text as it is sent -/
def sentS (first : Bool) (x : Str) : Str := ⟨(dots first (crlf (lst x))).toArray⟩
theorem sent_quoted (x : Str) : sentS true x = quoted x := rfl
theorem dot1 : Str.ofString "." = ⟨#[46]⟩ := by decide +kernel
theorem crlf_of : Str.ofString "\r\n" = ⟨#[13, 10]⟩ := by decide +kernel
end Mine
end
section
open PySem PySem.W PyProof.Rows PySem.Builtin.Str PySem.Builtin
namespace Mine
theorem mem_joinL {z : List Nat} {c : Nat} : ∀ {ps : List (List Nat)} {q : List Nat}, q ∈ ps → c ∈ q → c ∈ joinL z ps
  | [p], q, hq, hc => by rw [List.mem_singleton.mp hq] at hc; exact hc
  | p :: a :: r, q, hq, hc => by
    rw [joinL_cons z p (by simp)]
    rcases List.mem_cons.mp hq with rfl | hq
    · simp [hc]
    · have := mem_joinL (z := z) hq hc
      simp [this]
/-- a text cut at its line ends, by a sign that it has not -/
theorem split_two (x : Str) {M : Nat} (hM : M ∉ lst x) : (Txt.split x ⟨#[13, 10]⟩).map lst = splitC M (repl2 [M] (lst x)) := by
  have hj : joinL [M] ((Txt.split x ⟨#[13, 10]⟩).map lst) = repl2 [M] (lst x) := by
    obtain ⟨f, h, hn⟩ := StrLaws.occ_tight x ⟨#[13, 10]⟩ (by decide)
    have key := repl2_chain x ⟨#[M]⟩ _ 0 f h hn
    rw [List.drop_zero] at key
    rw [← show lst ⟨#[M]⟩ = [M] from rfl, ← lst_join]
    unfold Txt.split
    split
    · rename_i hc
      show lst x = _
      refine (repl2_free _ _ ?_).symm
      intro i hi
      have h1 : x.length < 2 := by
        have hk : Builtin.Str.strKind ⟨#[13, 10]⟩ = 1 := by decide +kernel
        rw [hk, Bool.or_eq_true, decide_eq_true_eq, decide_eq_true_eq] at hc
        rcases hc with hc | hc
        · exact hc
        · exfalso
          have : 1 ≤ Builtin.Str.strKind x := by unfold Builtin.Str.strKind; split <;> (try split) <;> omega
          omega
      obtain ⟨l2, _⟩ := List.getElem?_eq_some_iff.mp hi.2
      rw [lst_length] at l2
      omega
    · split
      · rename_i hc
        rw [List.isEmpty_iff.mp hc] at key
        have e : StrLaws.partsFrom x 2 0 [] = [x] := by
          show [strSub x 0 x.length] = [x]
          rw [StrLaws.sub_whole]
        rw [e] at key
        exact key
      · rw [StrLaws.partsBetween_eq]
        exact key
  rw [← hj]
  refine (splitC_join (by simpa using split_ne x _) ?_).symm
  intro q hq hc
  have hl : joinL [13, 10] ((Txt.split x ⟨#[13, 10]⟩).map lst) = lst x := by
    have := lst_join ⟨#[13, 10]⟩ (Txt.split x ⟨#[13, 10]⟩)
    rw [StrLaws.join_split] at this
    exact this.symm
  exact hM (by rw [← hl]; exact mem_joinL hq hc)
theorem repl2_rows (z : List Nat) : ∀ (ps : List (List Nat)), (∀ q ∈ ps, 13 ∉ q) → repl2 z (joinL [13, 10] ps) = joinL z ps
  | [], _ => rfl
  | [q], h => repl2_free z q fun i hi => h q (.head _) (List.mem_of_getElem? hi.1)
  | q :: a :: r, h => by
    rw [joinL_cons [13, 10] q (by simp), joinL_cons z q (by simp), List.append_assoc]
    show repl2 z (q ++ 13 :: 10 :: joinL [13, 10] (a :: r)) = _
    rw [repl2_app, repl2_rows z (a :: r) fun p hp => h p (.tail _ hp)]
    intro i hi hh
    have := hh.1
    rw [List.getElem?_append_left hi] at this
    exact h q (.head _) (List.mem_of_getElem? this)
/-- rows joined by line ends are cut into the rows -/
theorem split_rows {x : Str} {ps : List (List Nat)} (h0 : ps ≠ []) (hx : lst x = joinL [13, 10] ps) (h : ∀ q ∈ ps, 13 ∉ q) : (Txt.split x ⟨#[13, 10]⟩).map lst = ps := by
  obtain ⟨M, hM⟩ : ∃ M, M ∉ lst x := ⟨(lst x).sum + 1, fun hm => by
    have : ∀ (l : List Nat) (a : Nat), a ∈ l → a ≤ l.sum := by
      intro l
      induction l with
      | nil => intro a h; simp at h
      | cons k r ih => intro a h; rcases List.mem_cons.mp h with rfl | h <;> simp <;> first | omega | (have := ih a h; omega)
    have := this _ _ hm; omega⟩
  rw [split_two x hM, hx, repl2_rows [M] ps h]
  refine splitC_join h0 ?_
  intro q hq hc
  exact hM (by rw [hx]; exact mem_joinL hq hc)
theorem crlf_row {t : List Nat} : ∀ {r : List Nat}, 10 ∉ r → 13 ∉ r → crlf (r ++ t) = r ++ crlf t
  | [], _, _ => rfl
  | k :: r, h1, h2 => by
    simp only [List.mem_cons, not_or] at h1 h2
    rw [List.cons_append, crlf_cons_other (by simp [Ne.symm h1.1, Ne.symm h2.1]), crlf_row h1.2 h2.2]; rfl
abbrev isEnd (e : List Nat) : Prop := e = [10] ∨ e = [13] ∨ e = [13, 10]
theorem crlf_end {e t : List Nat} (h : isEnd e) (ht : t.head? ≠ some 10) : crlf (e ++ t) = 13 :: 10 :: crlf t := by
  rcases h with rfl | rfl | rfl
  · show crlf (10 :: t) = _
    rw [crlf] <;> simp
  · show crlf (13 :: t) = _
    rw [crlf]
    · rw [if_pos (by simp)]
    · intro r' _ e; subst e; exact ht rfl
  · show crlf (13 :: 10 :: t) = _
    rw [crlf]
theorem dots_free : ∀ {r : List Nat}, 10 ∉ r → dots false r = r
  | [], _ => by simp [dots]
  | k :: r, h => by
    simp only [List.mem_cons, not_or] at h
    rw [dots, if_neg (by simp), show (k == 10) = false by simpa using Ne.symm h.1, dots_free h.2]
theorem dots_row0 {t : List Nat} : ∀ {r : List Nat}, 10 ∉ r → dots false (r ++ 13 :: 10 :: t) = r ++ 13 :: 10 :: dots true t
  | [], _ => by
    show dots false (13 :: 10 :: t) = _
    rw [dots, if_neg (by simp), dots, if_neg (by simp)]; rfl
  | k :: r, h => by
    simp only [List.mem_cons, not_or] at h
    rw [List.cons_append, dots, if_neg (by simp), show (k == 10) = false by simpa using Ne.symm h.1, dots_row0 h.2]; rfl
theorem dots_row {t : List Nat} {r : List Nat} (h : 10 ∉ r) : dots true (r ++ 13 :: 10 :: t) = dotl r ++ 13 :: 10 :: dots true t := by
  cases r with
  | nil =>
    show dots true (13 :: 10 :: t) = _
    rw [dots, if_neg (by simp), dots, if_neg (by simp)]; rfl
  | cons k r =>
    simp only [List.mem_cons, not_or] at h
    by_cases hk : k = 46
    · subst hk
      rw [List.cons_append, dots, if_pos (by simp), dots_row0 h.2]; rfl
    · rw [List.cons_append, dots, if_neg (by simp [hk]), show (k == 10) = false by simpa using Ne.symm h.1, dots_row0 h.2, dotl_other hk]; rfl
theorem dots_last {r : List Nat} (h : 10 ∉ r) : dots true r = dotl r := by
  cases r with
  | nil => simp [dots, dotl]
  | cons k r =>
    simp only [List.mem_cons, not_or] at h
    by_cases hk : k = 46
    · subst hk
      rw [dots, if_pos (by simp), dots_free h.2]; rfl
    · rw [dots, if_neg (by simp [hk]), show (k == 10) = false by simpa using Ne.symm h.1, dots_free h.2, dotl_other hk]
/-- three rows with ends of any kind, sent -/
theorem sent_rows {r0 r1 r2 e0 e1 : List Nat} (h0 : 13 ∉ r0 ∧ 10 ∉ r0) (h1 : 13 ∉ r1 ∧ 10 ∉ r1) (h2 : 13 ∉ r2 ∧ 10 ∉ r2) (n1 : r1 ≠ []) (he0 : isEnd e0) (he1 : isEnd e1) :
    dots true (crlf (r0 ++ e0 ++ r1 ++ e1 ++ r2)) = joinL [13, 10] [dotl r0, dotl r1, dotl r2] := by
  have a1 : (r1 ++ e1 ++ r2).head? ≠ some 10 := by
    cases r1 with
    | nil => exact absurd rfl n1
    | cons k r => intro e; exact h1.2 (by simp at e; simp [e])
  have a2 : r2.head? ≠ some 10 := by
    cases r2 with
    | nil => simp
    | cons k r => intro e; exact h2.2 (by simp at e; simp [e])
  have e : r0 ++ e0 ++ r1 ++ e1 ++ r2 = r0 ++ (e0 ++ (r1 ++ (e1 ++ r2))) := by simp [List.append_assoc]
  rw [List.append_assoc] at a1
  rw [e, crlf_row h0.2 h0.1, crlf_end he0 a1, crlf_row h1.2 h1.1, crlf_end he1 a2, show crlf r2 = r2 by have := crlf_row (t := []) h2.2 h2.1; simpa [crlf] using this, dots_row h0.2, dots_row h1.2, dots_last h2.2]
  rw [joinL_cons _ _ (by simp), joinL_cons _ _ (by simp)]
  simp [joinL]
end Mine
end
section
open PySem PySem.W PyProof.Rows
namespace Mine
def op1 : Str := Str.ofString "257 \""
theorem lst_op1 : lst op1 = [50, 53, 55, 32, 34] := by decide +kernel
theorem lst_257 : lst (Str.ofString "257") = [50, 53, 55] := by decide +kernel
theorem lst_bq : lst (Str.ofString " \"") = [32, 34] := by decide +kernel
theorem lst_mk (l : List Nat) : lst ⟨l.toArray⟩ = l := by simp [lst]
theorem lst_sentS (b : Bool) (x : Str) : lst (sentS b x) = dots b (crlf (lst x)) := lst_mk _
theorem lst_lawName (x : Str) : lst (lawName x) = nameOf (lst x) := lst_mk _
/-- slices at the front -/
theorem slice_to (x : Str) (n : Nat) : lst (Txt.slice x none (some (n : Int))) = (lst x).take n := by
  rw [slice_list]
  unfold clipN
  simp only [show ¬ ((n : Int) < 0) by omega, if_false, List.drop_zero, Nat.sub_zero, Int.toNat_natCast]
  rw [← lst_length, ← List.take_take, List.take_of_length_le (Nat.le_of_eq rfl : (lst x).length ≤ (lst x).length)] <;> try rfl
theorem slice_mid (x : Str) (a b : Nat) : lst (Txt.slice x (some (a : Int)) (some (b : Int))) = ((lst x).drop a).take (b - a) := by
  rw [slice_list]
  unfold clipN
  simp only [show ¬ ((a : Int) < 0) by omega, show ¬ ((b : Int) < 0) by omega, if_false, Int.toNat_natCast]
  rw [← lst_length]
  by_cases ha : a ≤ (lst x).length
  · rw [Nat.min_eq_left ha]
    by_cases hb : b ≤ (lst x).length
    · rw [Nat.min_eq_left hb]
    · rw [Nat.min_eq_right (by omega), List.take_of_length_le (by rw [List.length_drop]; omega), List.take_of_length_le (by rw [List.length_drop]; omega)]
  · have e1 : min a (lst x).length = (lst x).length := by omega
    rw [e1, List.drop_of_length_le (Nat.le_refl _), List.drop_of_length_le (show (lst x).length ≤ a by omega)]; simp
theorem slice_from (x : Str) (a : Nat) : lst (Txt.slice x (some (a : Int)) none) = (lst x).drop a := by
  rw [slice_list]
  unfold clipN
  simp only [show ¬ ((a : Int) < 0) by omega, if_false, Int.toNat_natCast]
  rw [← lst_length]
  by_cases ha : a ≤ (lst x).length
  · rw [Nat.min_eq_left ha, List.take_of_length_le (by rw [List.length_drop]; omega)]
  · rw [Nat.min_eq_right (by omega), List.drop_of_length_le (Nat.le_refl _), List.drop_of_length_le (by omega)]; simp
end Mine
end
section
open PySem PySem.W PyProof.Rows
namespace Mine
end Mine
end
section
open PySem PySem.W PyProof.Rows
namespace Mine
theorem dots_sub : ∀ (t : List Nat) (b : Bool), t.Sublist (dots b t)
  | [], b => by cases b <;> simp [dots]
  | c :: r, b => by
    rw [dots]
    split
    · rename_i h
      have hc : c = 46 := by simp at h; exact h.2
      subst hc
      exact ((dots_sub r _).cons_cons _).cons _
    · exact (dots_sub r _).cons_cons _
theorem dots_len : ∀ (t : List Nat) (b : Bool), (dots b t).length ≤ 2 * t.length
  | [], b => by cases b <;> simp [dots]
  | c :: r, b => by
    rw [dots]
    split
    · have := dots_len r false; simp only [List.length_cons]; omega
    · have := dots_len r (c == 10); simp only [List.length_cons]; omega
theorem crlf_len' : ∀ x : List Nat, (crlf x).length ≤ 2 * x.length := by
  intro x
  induction x using crlf.induct with
  | case1 => simp [crlf]
  | case2 r ih => simp only [crlf, List.length_cons]; omega
  | case3 c r h1 h2 ih => rw [crlf]; · rw [if_pos h2]; simp only [List.length_cons]; omega
                          · exact h1
  | case4 c r h1 h2 ih => rw [crlf]; · rw [if_neg h2]; simp only [List.length_cons]; omega
                          · exact h1
theorem sent_len (b : Bool) (x : Str) : (sentS b x).length ≤ 4 * x.length := by
  rw [← lst_length, lst_sentS]
  have h1 := dots_len (crlf (lst x)) b
  have h2 := crlf_len' (lst x)
  rw [lst_length] at h2
  omega
theorem front3 {o y z : Str} (h : lst y = lst o ++ lst z) (hl : (lst o).length = 5) : Txt.slice y none (some 3) = Txt.slice o none (some 3) := by
  refine str_ext ?_
  rw [show (3 : Int) = ((3 : Nat) : Int) from rfl, slice_to, slice_to, h, List.take_append_of_le_length (by omega)]
theorem front5 {o y z : Str} (h : lst y = lst o ++ lst z) (hl : (lst o).length = 5) : Txt.slice y (some 3) (some 5) = Txt.slice o (some 3) none := by
  refine str_ext ?_
  rw [show (3 : Int) = ((3 : Nat) : Int) from rfl, show (5 : Int) = ((5 : Nat) : Int) from rfl, slice_mid, slice_from, h, List.drop_append_of_le_length (by omega), List.take_append_of_le_length (by rw [List.length_drop]; omega), List.take_of_length_le (by rw [List.length_drop]; omega)]
theorem told_front {o y z : Str} (h : lst y = lst o ++ lst z) (hl : (lst o).length = 5) : told257 y = if (Txt.slice o (some 3) none != Str.ofString " \"") = true then Str.ofString "" else lawName z := by
  unfold told257
  rw [front5 h hl]
  by_cases hc : Txt.slice o (some 3) none = Str.ofString " \""
  · rw [if_pos hc, if_neg (by simp [hc])]
    refine str_ext ?_
    rw [lst_mk, lst_lawName, h, ← hl, List.drop_left]
  · rw [if_neg hc, if_pos (by simpa using hc)]
/-- the distances, told -/
theorem told_eq {S T : Str} {m r d : Int} (h : Told scost (lst S) (lst T) m r) (hd : (D scost (lst S) (lst T) : Int) = d) (hm : d ≤ m) : r = d := by
  have := h.1 (by omega); omega
end Mine
end
section
open PySem PySem.W PyProof.Rows
namespace Mine
/-- marks ahead of another sign, read -/
theorem marks_name {l : Nat} (hl : l ≠ 34) (t : List Nat) : ∀ (s : Nat), nameOf (List.replicate s 34 ++ l :: t) = List.replicate (s / 2) 34 ++ (if s % 2 = 0 then l :: nameOf t else [])
  | 0 => by simp [nameOf_other hl]
  | 1 => by
    show nameOf (34 :: l :: t) = _
    rw [nameOf_end (by simp [hl])]; simp
  | s + 2 => by
    have ih := marks_name hl t s
    rw [show List.replicate (s + 2) 34 ++ l :: t = 34 :: 34 :: (List.replicate s 34 ++ l :: t) by rw [List.replicate_succ, List.replicate_succ]; rfl, nameOf, ih, show (s + 2) / 2 = s / 2 + 1 by omega, List.replicate_succ, show (s + 2) % 2 = s % 2 by omega]
    rfl
theorem last_slice (x : Str) : lst (Txt.slice x (some (-1)) none) = (lst x).drop ((lst x).length - 1) := by
  rw [slice_list]
  unfold clipN
  rw [← lst_length]
  simp only [show ((-1 : Int) < 0) by decide, if_true]
  rw [show ((-1 : Int) + ((lst x).length : Int)).toNat = (lst x).length - 1 by omega, List.take_of_length_le (by rw [List.length_drop]; omega)]
/-- what is told of marks, a letter and a tail -/
theorem told_marks {x : Str} {s l : Nat} {t : List Nat} (hl : l ≠ 34) (ht : nameOf t = []) (h : lst x = [50, 53, 55, 32, 34] ++ (List.replicate s 34 ++ l :: t)) :
    lst (told257 x) = List.replicate (s / 2) 34 ++ (if s % 2 = 0 then [l] else []) := by
  have h1 := told_front (o := op1) (y := x) (z := ⟨(List.replicate s 34 ++ l :: t).toArray⟩) (by rw [lst_op1, lst_mk]; exact h) (by rw [lst_op1]; rfl)
  have h2 : (Txt.slice op1 (some 3) none != Str.ofString " \"") = false := by
    have : Txt.slice op1 (some 3) none = Str.ofString " \"" := str_ext (by rw [show (3 : Int) = ((3 : Nat) : Int) from rfl, slice_from, lst_op1, lst_bq]; rfl)
    simp [this]
  rw [h1, if_neg (by rw [h2]; exact Bool.false_ne_true), lst_lawName, lst_mk, marks_name hl, ht]
end Mine
end
section
open PySem PySem.W PyProof.Rows
namespace Mine
theorem marks_mul (n : Nat) : lst (Txt.mul (Str.ofString "\"") (n : Int)) = List.replicate n 34 := by
  rw [qt1]
  exact (mul_one_list 34 n).trans (by simp)
theorem dots_mul (n : Nat) : lst (Txt.mul (Str.ofString ".") (n : Int)) = List.replicate n 46 := by
  rw [dot1]
  exact (mul_one_list 46 n).trans (by simp)
end Mine
end
section
open PySem PySem.W PyProof.Rows
namespace Mine
end Mine
end
section
open PySem PySem.W PyProof.Rows
namespace Mine
section
variable {prog : Program} {w : World} {A : Around} {E : Value → Shared → Prop} {s : Shared} {h₀ : Heap} {L D : Addr} {news : List (Addr × Obj)}
/-- an item of a list of the ledger, at a place told by a hypothesis -/
theorem led_item {value slice : PySem.Expr} {Q : Value → Shared → Prop} {ys : List Value} {n : Nat} {k : Int} {u : Tok} {v : Value} (N : News h₀ L s.heap news) (hm : (D, PySem.W.listOf ys.toArray n) ∈ news) (h0 : 0 ≤ k) (hk : k ≤ 64) (hv : ys[k.toNat]? = some v) (h : Q v s)
    (hs : subscripted slice false (.ref D) (.int k u) = operate [.ref D, .int k u] (getItem (.ref D) (.int k u)) := by with_unfolding_all rfl) :
    wpAny (model prog w) A (subscriptTail value slice (.ref D) (.int k u)) Q E s := by
  have hl : s.heap.IsList D ys.toArray := PySem.IsL.isList (n := n) (N _ hm).1
  exact tail_any hl.typeIs slot_list_getitem.lookup (wpAny_getItem_list hl h0 (by omega) (by rw [List.getElem?_toArray]; exact hv) h) hs
/-- an item of a tuple of the ledger, of which a property is known -/
theorem tup_prop {value slice : PySem.Expr} {Q : Value → Shared → Prop} {ys : List Value} {k : Int} {u : Tok} (N : News h₀ L s.heap news) (hm : (D, ({ cls := .type "tuple", data := .seq ys.toArray } : Obj)) ∈ news) (h0 : 0 ≤ k) (hk : k < ys.length) (hz : ys.length ≤ 64)
    (h : ∀ v, ys[k.toNat]? = some v → Q v s)
    (hs : subscripted slice false (.ref D) (.int k u) = operate [.ref D, .int k u] (getItem (.ref D) (.int k u)) := by with_unfolding_all rfl) :
    wpAny (model prog w) A (subscriptTail value slice (.ref D) (.int k u)) Q E s := by
  have ht : IsTup s.heap D ys.toArray := News.isTup N hm
  have hlt : k.toNat < ys.length := by omega
  have e : ys[k.toNat]? = some ys[k.toNat] := List.getElem?_eq_getElem hlt
  have hj : seqIndex? k ys.length = some k.toNat := by
    unfold seqIndex?
    simp only [show ¬ (k < 0) by omega, if_false, h0, hk, decide_true, Bool.and_self, if_true]
  exact item_tupleT (j := k.toNat) ht (by omega) (by omega) hj e (h _ e) hs
end
end Mine
end
section
open PySem PySem.W PyProof.Rows
namespace Mine
theorem quoted_len (x : Str) : (quoted x).length ≤ 4 * x.length := sent_len true x
end Mine
end
section
open PySem PySem.W PyProof.Rows
namespace Mine
end Mine
end
section
open PySem PySem.W PyProof.Rows
namespace Mine
/-- a row of dots -/
def dotsS (n : Nat) : Str := ⟨(List.replicate n 46).toArray⟩
theorem lst_dots (n : Nat) : lst (dotsS n) = List.replicate n 46 := by simp [dotsS, lst]
theorem dots_len' (n : Nat) : (dotsS n).length = n := by rw [← lst_length, lst_dots, List.length_replicate]
theorem dots_is (n : Nat) : Txt.mul (Str.ofString ".") (n : Int) = dotsS n := str_ext (by rw [dots_mul, lst_dots])
theorem marks_is (n : Nat) : Txt.mul (Str.ofString "\"") (n : Int) = ⟨(List.replicate n 34).toArray⟩ := str_ext (by rw [marks_mul]; simp [lst])
theorem one_ok {x : Str} {n : Nat} (hx : x.length = 1) (h : n ≤ 1000) : MulOk x (n : Int) := by
  refine ⟨?_, fun h1 h2 => ?_, fun h1 h2 => ?_⟩
  · rw [decide_eq_false (by omega), decide_eq_false (by omega)]; rfl
  · rw [hx]
    have : (1 : Int) ≤ (2 ^ 63 - 1) / (n : Int) := by
      rw [Int.le_ediv_iff_mul_le (by omega)]
      omega
    omega
  · rw [hx, Nat.one_mul]
    show decide (((n : Int).toNat) > sizeLine) = false
    rw [decide_eq_false]
    have : sizeLine = 16777216 := by decide
    omega
theorem map_lst_inj : ∀ l1 l2 : List Str, l1.map lst = l2.map lst → l1 = l2
  | [], [], _ => rfl
  | [], _ :: _, h => by simp at h
  | _ :: _, [], h => by simp at h
  | a :: r, b :: t, h => by
    simp only [List.map_cons, List.cons.injEq] at h
    rw [str_ext h.1, map_lst_inj r t h.2]
section
variable {prog : Program} {w : World} {A : Around} {E : Value → Shared → Prop} {s : Shared} {h₀ : Heap} {L : Addr} {m : Str → Option Value} {news : List (Addr × Obj)} {Q : Value → Shared → Prop}
theorem len_dot1 : (Str.ofString ".").length = 1 := by decide +kernel
/-- dots made -/
theorem mul_dots {n : Nat} {t u : Tok} (hn : n ≤ 1000) (h : ∀ t' k, (dotsS n).length = n → Q (.str (dotsS n) t') { s with toks := k }) : wpAny (model prog w) A (binaryOp .Mult (.str (Str.ofString ".") t) (.int (n : Int) u)) Q E s :=
  SB.mul (one_ok len_dot1 hn) fun t' k => by rw [dots_is]; exact h t' k (dots_len' n)
/-- two texts, one behind the other -/
theorem add_txt {x y : Str} {t u : Tok} (hx : x.length ≤ 10000) (hy : y.length ≤ 10000) (h : ∀ t' k, (x ++ y).length = x.length + y.length → Q (.str (x ++ y) t') { s with toks := k }) : wpAny (model prog w) A (binaryOp .Add (.str x t) (.str y u)) Q E s := by
  refine SBL.add (fun t' k _ => h t' k (Str.length_append x y)) ?_
  have : sizeLine = 16777216 := by decide
  omega
/-- a line end -/
theorem end_item {value slice : PySem.Expr} {D : Addr} {k : Int} {u t0 t1 t2 : Tok} (N : News h₀ L s.heap news) (hm : (D, ({ cls := .type "tuple", data := .seq #[.str (Str.ofString "\n") t0, .str (Str.ofString "\x0d") t1, .str (Str.ofString "\x0d\n") t2] } : Obj)) ∈ news) (h0 : 0 ≤ k) (hk : k < 3)
    (h : ∀ e t, isEnd (lst e) → e.length ≤ 2 → Q (.str e t) s)
    (hs : subscripted slice false (.ref D) (.int k u) = operate [.ref D, .int k u] (getItem (.ref D) (.int k u)) := by with_unfolding_all rfl) :
    wpAny (model prog w) A (subscriptTail value slice (.ref D) (.int k u)) Q E s := by
  refine tup_prop (ys := [_, _, _]) N hm h0 hk (by show 3 ≤ 64; decide) (fun v hv => ?_) hs
  rcases (by omega : k = 0 ∨ k = 1 ∨ k = 2) with rfl | rfl | rfl
  · cases hv; exact h _ _ (.inl (by decide +kernel)) (by decide +kernel)
  · cases hv; exact h _ _ (.inr (.inl (by decide +kernel))) (by decide +kernel)
  · cases hv; exact h _ _ (.inr (.inr (by decide +kernel))) (by decide +kernel)
/-- what stands behind a reply -/
theorem tail_item {value slice : PySem.Expr} {D : Addr} {k : Int} {u t0 t1 t2 : Tok} {z : Str} (hz : nameOf (lst z) = [] ∧ z.length ≤ 3) (N : News h₀ L s.heap news) (hm : (D, ({ cls := .type "tuple", data := .seq #[.str (Str.ofString "") t0, .str (Str.ofString "\"") t1, .str z t2] } : Obj)) ∈ news) (h0 : 0 ≤ k) (hk : k < 3)
    (h : ∀ e t, nameOf (lst e) = [] → e.length ≤ 3 → Q (.str e t) s)
    (hs : subscripted slice false (.ref D) (.int k u) = operate [.ref D, .int k u] (getItem (.ref D) (.int k u)) := by with_unfolding_all rfl) :
    wpAny (model prog w) A (subscriptTail value slice (.ref D) (.int k u)) Q E s := by
  refine tup_prop (ys := [_, _, _]) N hm h0 hk (by show 3 ≤ 64; decide) (fun v hv => ?_) hs
  rcases (by omega : k = 0 ∨ k = 1 ∨ k = 2) with rfl | rfl | rfl
  · cases hv; exact h _ _ (by rw [empty_lst]; simp [nameOf]) (by decide +kernel)
  · cases hv; exact h _ _ (by rw [show lst (Str.ofString "\"") = [34] by decide +kernel]; simp [nameOf]) (by decide +kernel)
  · cases hv; exact h _ _ hz.1 hz.2
theorem tail_b : nameOf (lst (Str.ofString "\" b")) = [] ∧ (Str.ofString "\" b").length ≤ 3 := ⟨by rw [show lst (Str.ofString "\" b") = [34, 32, 98] by decide +kernel]; simp [nameOf], by decide +kernel⟩
/-- three rows cut -/
theorem split_three {x a b c : Str} {t u : Tok} (F : Fr h₀ L s.heap m) (N : News h₀ L s.heap news) (hx : x.length ≤ 1000000) (hs : (Txt.split x ⟨#[13, 10]⟩).map lst = [lst a, lst b, lst c])
    (h : ∀ D t0 t1 t2 h' k, Fr h₀ L h' m → News h₀ L h' ((D, PySem.W.listOf #[.str a t0, .str b t1, .str c t2] 0) :: news) → (∀ p ∈ news, p.1 < D) → Q (.ref D) { s with heap := h', toks := k }) :
    wpAny (model prog w) A (call (.builtin "str.split") [.str x t, .str (Str.ofString "\x0d\n") u]) Q E s := by
  have hz : sizeLine = 16777216 := by decide
  have hsz : x.length + 2 ≤ sizeLine := by omega
  refine KSpl.split1 F N (by decide +kernel) (fun D l h' k e _ F' N' hlt => ?_) hsz
  rw [crlf_of] at e
  have e2 : (Txt.split x ⟨#[13, 10]⟩) = [a, b, c] := map_lst_inj _ [a, b, c] hs
  rw [e2] at e
  obtain ⟨t0, l1, r0, e3⟩ := KSpl.cons_of e
  obtain ⟨t1, l2, r1, e4⟩ := KSpl.cons_of e3
  obtain ⟨t2, l3, r2, e5⟩ := KSpl.cons_of e4
  rw [r0, r1, r2, KSpl.nil_of e5] at N'
  exact h D t0 t1 t2 h' k F' N' hlt
end
/-- the sent rows -/
theorem no_end {c n : Nat} (h : c ≠ 13 ∧ c ≠ 10) : 13 ∉ List.replicate n c ∧ 10 ∉ List.replicate n c :=
  ⟨fun hm => h.1 (List.eq_of_mem_replicate hm).symm, fun hm => h.2 (List.eq_of_mem_replicate hm).symm⟩
end Mine
end
section
open PySem PySem.W PyProof.Rows
namespace Mine
def small (x : Str) : Prop := ∀ c ∈ lst x, c < 1114112
theorem strOk_of {x : Str} (h : small x) : PyData.strOk x = true := by
  unfold PyData.strOk
  rw [Array.all_eq_true']
  intro c hc
  simpa using h c (by simpa [lst] using hc)
theorem lay_strs : ∀ ts : List Str, (∀ x ∈ ts, small x) → PyData.canLayAll0 (ts.map PyData.str) = true
  | [], _ => rfl
  | x :: r, h => by
    rw [List.map_cons, PyData.canLayAll0, PyData.canLay0, strOk_of (h x (.head _)), lay_strs r fun y hy => h y (.tail _ hy)]; rfl
theorem depth_strs : ∀ ts : List Str, PyData.depthAll (ts.map PyData.str) = 0
  | [] => rfl
  | _ :: r => by simp [PyData.depthAll, PyData.depth, depth_strs r]
theorem shaped_strs {ts : List Str} (h : ∀ x ∈ ts, small x) : SeqAt.shaped (.list (ts.map PyData.str)) = true := by
  simp [SeqAt.shaped, PyData.canLay0, PyData.depth, lay_strs ts h, depth_strs]
theorem same_strs : ∀ ts : List Str, PySem.Spec.sameAll (ts.map PyData.str) (ts.map PyData.str) = true
  | [] => rfl
  | _ :: r => by simp [PySem.Spec.sameAll, PySem.Spec.same, same_strs r]
section
variable {prog : Program} {w : World} {A : Around} {E : Value → Shared → Prop} {s : Shared} {a b : Addr} {xs ys : List Value} {ts : List Str} {Q : Value → Shared → Prop}
theorem ne_strs (ha : s.heap.IsList a xs.toArray) (hb : s.heap.IsList b ys.toArray) (hi : StrsAre xs ts) (hj : StrsAre ys ts) (hs : ∀ x ∈ ts, small x) (hu : A.units + 64 < cLine) (h : Q (.bool false) s) :
    wpAny (model prog w) A (compareOp .NotEq (.ref a) (.ref b)) Q E s :=
  ne_dataH_same (reads_newData ha hi.carried) (reads_newData hb hj.carried) (shaped_strs hs) (shaped_strs hs) hu (SeqAt.noMix_of_shape (.list .str) rfl _ _ (list_map_has fun _ => rfl) (list_map_has fun _ => rfl)) (by
    rw [show PySem.Spec.same (.list (ts.map PyData.str)) (.list (ts.map PyData.str)) = true by rw [PySem.Spec.same]; exact same_strs ts]; exact h)
theorem eq_strs (ha : s.heap.IsList a xs.toArray) (hb : s.heap.IsList b ys.toArray) (hi : StrsAre xs ts) (hj : StrsAre ys ts) (hs : ∀ x ∈ ts, small x) (hu : A.units + 64 < cLine) (h : Q (.bool true) s) :
    wpAny (model prog w) A (compareOp .Eq (.ref a) (.ref b)) Q E s :=
  eq_dataH_same (reads_newData ha hi.carried) (reads_newData hb hj.carried) (shaped_strs hs) (shaped_strs hs) hu (SeqAt.noMix_of_shape (.list .str) rfl _ _ (list_map_has fun _ => rfl) (list_map_has fun _ => rfl)) (by
    rw [show PySem.Spec.same (.list (ts.map PyData.str)) (.list (ts.map PyData.str)) = true by rw [PySem.Spec.same]; exact same_strs ts]; exact h)
theorem led_list {h₀ : Heap} {L D : Addr} {news : List (Addr × Obj)} {ys : List Value} {n : Nat} (N : News h₀ L s.heap news) (hm : (D, PySem.W.listOf ys.toArray n) ∈ news) : s.heap.IsList D ys.toArray := PySem.IsL.isList (n := n) (N _ hm).1
end
theorem small_3 {a b c : Str} (ha : small a) (hb : small b) (hc : small c) : ∀ x ∈ [a, b, c], small x := by
  intro x hx
  simp only [List.mem_cons, List.not_mem_nil, or_false] at hx
  rcases hx with rfl | rfl | rfl
  · exact ha
  · exact hb
  · exact hc
theorem strs_idx : ∀ (ys : List Value) (f : Nat → Str), (∀ i y, ys[i]? = some y → ∃ t, y = Value.str (f i) t) → StrsAre ys ((List.range ys.length).map f)
  | [], _, _ => .nil
  | y :: r, f, h => by
    obtain ⟨t, e⟩ := h 0 y rfl
    rw [List.length_cons, List.range_succ_eq_map, List.map_cons, List.map_map, e]
    exact .cons _ t (strs_idx r (fun i => f (i + 1)) fun i z hz => h (i + 1) z hz)
end Mine
end
section
open PySem PySem.W PyProof.Rows
namespace Mine
end Mine
end
section
open PySem PySem.W PyProof.Rows
namespace Mine
section
variable {prog : Program} {w : World} {A : Around} {E : Value → Shared → Prop} {s : Shared} {h₀ : Heap} {L D : Addr} {m : Str → Option Value} {news : List (Addr × Obj)} {Q : Value → Shared → Prop}
end
theorem off1_of {D : Addr} : ∀ {l : List (Addr × Obj)}, (∀ p ∈ l, p.1 ≠ D) → LCg.Off1 D l
  | [], _ => trivial
  | p :: r, h => ⟨h p (.head _), off1_of fun q hq => h q (.tail _ hq)⟩
theorem of_off1 {D : Addr} : ∀ {l : List (Addr × Obj)}, LCg.Off1 D l → ∀ p ∈ l, p.1 ≠ D
  | [], _, _, h => nomatch h
  | q :: r, x, p, h => by
    rcases List.mem_cons.mp h with rfl | h
    · exact x.1
    · exact of_off1 x.2 p h
end Mine
end
section
open PySem PySem.W PyProof.Rows
namespace Mine
def let3 (k : Nat) : Nat := [97, 65, 98].getD k 98
def chS (l : Nat) : Str := ⟨#[l]⟩
theorem lst_ch (l : Nat) : lst (chS l) = [l] := rfl
theorem let3_ok (k : Nat) : let3 k ≠ 34 ∧ let3 k ≠ 32 ∧ let3 k ≠ 13 ∧ let3 k ≠ 10 ∧ let3 k ≠ 46 ∧ let3 k < 1000 := by
  match k with
  | 0 => decide
  | 1 => decide
  | 2 => decide
  | j + 3 => show (98 : Nat) ≠ 34 ∧ 98 ≠ 32 ∧ 98 ≠ 13 ∧ 98 ≠ 10 ∧ 98 ≠ 46 ∧ 98 < 1000; decide
/-- a child's row, ahead of the sending -/
def rowL (s l : Nat) : List Nat := (if s % 2 = 0 then [32] else []) ++ List.replicate (1 + s / 2) 46 ++ [l]
def rowS (s l : Nat) : Str := ⟨(rowL s l).toArray⟩
theorem lst_row (s l : Nat) : lst (rowS s l) = rowL s l := by simp [rowS, lst]
/-- a child's word -/
def wdL (h l : Nat) : List Nat := List.replicate (1 + h) 46 ++ [l]
def wd (h l : Nat) : Str := ⟨(wdL h l).toArray⟩
theorem lst_wd (h l : Nat) : lst (wd h l) = wdL h l := by simp [wd, lst]
theorem row_len (s l : Nat) : (rowS s l).length ≤ 3 + s := by
  rw [← lst_length, lst_row]; unfold rowL
  split <;> simp <;> omega
theorem wd_len (h l : Nat) : (wd h l).length = 2 + h := by
  rw [← lst_length, lst_wd]; simp [wdL]; omega
theorem lst_sp : lst (Str.ofString " ") = [32] := by decide +kernel
/-- the reading, told -/
theorem told_even {z : Str} {s l : Nat} (hl : l ≠ 34) (h : lst z = List.replicate (s / 2) 34 ++ (if s % 2 = 0 then [l] else [])) :
    (Txt.slice z (some (-1)) none == chS l) = decide (s % 2 = 0) := by
  have e := last_slice z
  rw [h] at e
  by_cases h0 : s % 2 = 0
  · rw [if_pos h0] at e
    have : Txt.slice z (some (-1)) none = chS l := str_ext (by rw [e, lst_ch]; simp)
    rw [this, decide_eq_true h0]; simp
  · rw [if_neg h0] at e
    rw [decide_eq_false h0]
    have hn : Txt.slice z (some (-1)) none ≠ chS l := by
      intro hh
      rw [hh, lst_ch] at e
      have : l ∈ List.replicate (s / 2) 34 := by
        have : l ∈ [l] := .head _
        rw [e] at this
        simpa using List.mem_of_mem_drop this
      exact hl (List.eq_of_mem_replicate this)
    simpa using hn
theorem told_cnt {z : Str} {s l : Nat} (hl : l ≠ 34) (h : lst z = List.replicate (s / 2) 34 ++ (if s % 2 = 0 then [l] else [])) :
    Txt.count z (Str.ofString "\"") = ((s / 2 : Nat) : Int) := by
  rw [qt1, count_one, h, List.count_append, List.count_replicate_self]
  split
  · rw [List.count_cons_of_ne hl]; simp
  · simp
theorem row_even {s l : Nat} (h : s % 2 = 0) : (Str.ofString " " ++ dotsS (1 + s / 2)) ++ chS l = rowS s l := str_ext (by
  rw [lst_app, lst_app, lst_sp, lst_dots, lst_ch, lst_row]; unfold rowL; rw [if_pos h])
theorem row_odd {s l : Nat} (h : ¬ s % 2 = 0) : (Str.ofString "" ++ dotsS (1 + s / 2)) ++ chS l = rowS s l := str_ext (by
  rw [lst_app, lst_app, empty_lst, lst_dots, lst_ch, lst_row]; unfold rowL; rw [if_neg h])
/-- a row, sent, the blank taken off -/
theorem row_free (s k : Nat) : 13 ∉ rowL s (let3 k) ∧ 10 ∉ rowL s (let3 k) := by
  have h1 := no_end (c := 46) (n := 1 + s / 2) (by decide)
  obtain ⟨-, -, h2, h3, -⟩ := let3_ok k
  unfold rowL
  constructor
  · intro h
    simp only [List.mem_append, List.mem_singleton] at h
    rcases h with (h | h) | h
    · split at h <;> simp at h
    · exact h1.1 h
    · exact h2 h.symm
  · intro h
    simp only [List.mem_append, List.mem_singleton] at h
    rcases h with (h | h) | h
    · split at h <;> simp at h
    · exact h1.2 h
    · exact h3 h.symm
def sentL (s l : Nat) : List Nat := if s % 2 = 0 then rowL s l else 46 :: rowL s l
theorem dotl_row (s l : Nat) : dotl (rowL s l) = sentL s l := by
  unfold sentL
  by_cases h : s % 2 = 0
  · rw [if_pos h]; unfold rowL; rw [if_pos h]; exact dotl_other (by decide) _
  · rw [if_neg h]; unfold rowL; rw [if_neg h, Nat.add_comm, List.replicate_succ]; rfl
theorem sentL_free (s k : Nat) : 13 ∉ sentL s (let3 k) := by
  unfold sentL
  split
  · exact (row_free s k).1
  · simp only [List.mem_cons, not_or]; exact ⟨by decide, (row_free s k).1⟩
def sentT (s l : Nat) : Str := ⟨(sentL s l).toArray⟩
theorem lst_sentT (s l : Nat) : lst (sentT s l) = sentL s l := by simp [sentT, lst]
theorem replC_other {c : Nat} (z : List Nat) : ∀ {l : List Nat}, c ∉ l → replC c z l = l
  | [], _ => rfl
  | k :: r, h => by
    simp only [List.mem_cons, not_or] at h
    rw [replC, if_neg (Ne.symm h.1), replC_other z h.2]
theorem sp1 : Str.ofString " " = ⟨#[32]⟩ := by decide +kernel
theorem sent_word (s k : Nat) : Txt.replace (sentT s (let3 k)) (Str.ofString " ") (Str.ofString "") = wd ((s + 1) / 2) (let3 k) := by
  refine str_ext ?_
  rw [sp1, replace_one, empty_lst, lst_sentT, lst_wd]
  have hn : ∀ n, 32 ∉ List.replicate n 46 ++ [let3 k] := by
    intro n h
    simp only [List.mem_append, List.mem_singleton] at h
    rcases h with h | h
    · have := List.eq_of_mem_replicate h; omega
    · exact (let3_ok k).2.1 h.symm
  unfold sentL wdL rowL
  by_cases h : s % 2 = 0
  · rw [if_pos h, if_pos h, List.append_assoc, List.singleton_append, replC, if_pos rfl, List.nil_append, replC_other _ (hn _), show (s + 1) / 2 = s / 2 by omega]
  · rw [if_neg h, if_neg h, List.nil_append, replC, if_neg (by decide), replC_other _ (hn _), show 1 + (s + 1) / 2 = (1 + s / 2) + 1 by omega, List.replicate_succ]; rfl
/-- the mail, sent -/
theorem sent_three {x : Str} {s0 s1 s2 : Nat} {e0 e1 : List Nat} (he0 : isEnd e0) (he1 : isEnd e1) (hx : lst x = rowL s0 (let3 0) ++ e0 ++ rowL s1 (let3 1) ++ e1 ++ rowL s2 (let3 2)) :
    (Txt.split (quoted x) ⟨#[13, 10]⟩).map lst = [lst (sentT s0 (let3 0)), lst (sentT s1 (let3 1)), lst (sentT s2 (let3 2))] := by
  have h := sent_rows (row_free s0 0) (row_free s1 1) (row_free s2 2) (by unfold rowL; simp) he0 he1
  rw [dotl_row, dotl_row, dotl_row, ← hx] at h
  rw [lst_sentT, lst_sentT, lst_sentT]
  refine split_rows (by simp) ?_ ?_
  · rw [← h]; simp [← sent_quoted, sentS, lst]
  · intro q hq
    simp only [List.mem_cons, List.not_mem_nil, or_false] at hq
    rcases hq with rfl | rfl | rfl
    · exact sentL_free s0 0
    · exact sentL_free s1 1
    · exact sentL_free s2 2
end Mine
end
section
open PySem PySem.W PyProof.Rows PySem.Spec
namespace Mine
section
variable {prog : Program} {w : World} {A : Around} {E : Value → Shared → Prop} {s : Shared} {env : Env} {h₀ : Heap} {target : Expr} {body : List Stmt} {Q : Flow → Shared → Prop}
/-- a turn's end -/
def TurnE (h₀ : Heap) (L : Addr) (s : Shared) (I : Addr) (it : Obj) (J : (Str → Option Value) → List (Addr × Obj) → Prop) (f : Flow) (s₂ : Shared) : Prop :=
  f = .next ∧ ∃ h' tk' m' news', s₂ = { s with heap := h', toks := tk' } ∧ Fr h₀ L h' m' ∧ News h₀ L h' ((I, it) :: news') ∧ (∀ p ∈ news', p.1 ≠ I) ∧ J m' news'
theorem iter_rangeT {r : Addr} {a₀ b₀ : Int} {t₀ u₀ v₀ : Tok} {n : Nat} {m₀ : Str → Option Value} {news : List (Addr × Obj)} (J : Nat → (Str → Option Value) → List (Addr × Obj) → Prop)
    (hh : A.handled = none) (hr : IsRange s.heap r a₀ b₀ 1 t₀ u₀ v₀) (hsmall : Builtin.Range.small a₀ b₀ 1 = true) (hn : Builtin.Range.rangeSize a₀ b₀ 1 = (n : Int)) (F : Fr h₀ env.locals s.heap m₀) (N : News h₀ env.locals s.heap news)
    (hgo : ∀ I v, letOwnedTupleGo target (.ref I) v = pure ()) (h0 : J 0 m₀ news)
    (turn : ∀ i t I it m₁ news₁ s₁, i < n → J i m₁ news₁ → Fr h₀ env.locals s₁.heap m₁ → News h₀ env.locals s₁.heap ((I, it) :: news₁) → (∀ p ∈ news₁, p.1 ≠ I) →
      wpAny (model prog w) A (assign target env (.int (a₀ + (i : Int)) t)) (fun _ s₃ => wpAny (model prog w) A (execs body env) (TurnE h₀ env.locals s₁ I it (J (i + 1))) E s₃) E s₁)
    (done : ∀ h' tk m' news', Fr h₀ env.locals h' m' → News h₀ env.locals h' news' → J n m' news' → Q .next { s with heap := h', toks := tk }) :
    wpAny (model prog w) A (pyIter (.ref r)) (fun it s₂ => LoopAtT prog w A h₀ env target body Q E it s₂) E s := by
  refine wpAny_pyIter_range hr hsmall ?_
  have W : Walks prog w A s.heap.objs.size [s.heap.objs.size] [s.heap.objs.size] n (fun i v => i < n ∧ ∃ t, v = .int (a₀ + i * 1) t)
      (fun i h => IsRangeIter h s.heap.objs.size (a₀ + (i : Nat) * 1) ((n : Int) - (i : Nat)) 1) := (Walks.range hh _ a₀ 1 n).bound
  have hnew := next_is_new F
  refine ⟨_, _, _, n, _, _, m₀, news, J, rfl, W, ?_, ?_, ?_, (by show IsRangeIter _ _ _ _ _; rw [hn]; simpa using Heap.get?_push_size _ rfl), F.push _, (fun p hp => ⟨Heap.get?_push_of_some _ (N p hp).1, (N p hp).2⟩), ?_, h0, ?_, ?_⟩
  · intro hm
    exact absurd F.ns.lt ((List.mem_singleton.mp hm) ▸ Nat.lt_irrefl _)
  · intro b hb
    rw [List.mem_singleton.mp hb]
    exact hnew
  · intro p hp hI
    exact absurd (Heap.lt_size (N p hp).1) ((List.mem_singleton.mp hI) ▸ Nat.lt_irrefl _)
  · intro i s' v Q' _ hq
    rw [hgo]
    exact wpAny_pure hq
  · rintro i v m₁ news₁ s₁ own hi ⟨_, t, rfl⟩ hJ hoff hown hget hall hst F₁ N₁
    have hst' : ∃ o, s₁.heap.get? s.heap.objs.size = some o := ⟨_, hst⟩
    obtain ⟨o, ho⟩ := hst'
    have hmem := hall s.heap.objs.size (List.mem_singleton.mpr rfl) hnew _ ho
    have N₂ : News h₀ env.locals s₁.heap ((s.heap.objs.size, o) :: news₁) := fun p hp => by
      rcases List.mem_cons.mp hp with rfl | hp
      · exact N₁ _ (List.mem_append_left _ hmem)
      · exact N₁ _ (List.mem_append_right _ hp)
    rw [Int.mul_one]
    refine wpAny_mono (turn i t _ o m₁ news₁ s₁ hi hJ F₁ N₂ (fun p hp e => hoff p hp (List.mem_singleton.mpr e))) (fun _ s₃ h₃ => wpAny_mono h₃ (fun f s₂ h₂ => ?_) fun _ _ e => e) fun _ _ e => e
    obtain ⟨rfl, h', tk', m', news', rfl, F', N', ho', hJ'⟩ := h₂
    refine ⟨rfl, h', tk', m', news', rfl, F', fun p hp => ?_, fun p hp hI => ho' p hp (List.mem_singleton.mp hI), hJ'⟩
    rcases List.mem_append.mp hp with hp | hp
    · have h1 : p.1 = s.heap.objs.size := List.mem_singleton.mp (hown p hp)
      have h2 : s₁.heap.get? p.1 = some p.2 := hget p hp
      have h3 : p = (s.heap.objs.size, o) := by
        rw [h1, ho] at h2
        exact Prod.ext h1 (Option.some.inj h2).symm
      rw [h3]; exact N' _ (List.mem_cons_self ..)
    · exact N' _ (List.mem_cons_of_mem _ hp)
  · rintro h' tk m' news' F' N' _ hJ
    exact done h' tk m' news' F' N' hJ
end
end Mine
end
section
open PySem PySem.W PyProof.Rows
namespace Mine
section
variable {M : Model} {A : Around} {env : Env} {E : Value → Shared → Prop} {s : Shared} {Q : Flow → Shared → Prop}
end
end Mine
end
section
open PySem PySem.W PyProof.Rows
namespace Mine
section
variable {prog : Program} {w : World} {A : Around} {E : Value → Shared → Prop} {s : Shared} {h₀ : Heap} {L : Addr} {m : Str → Option Value} {news : List (Addr × Obj)} {Q : Value → Shared → Prop}
/-- a letter -/
theorem letter_at {value slice : Expr} {k : Nat} {t u : Tok} (hk : k < 3) (h : ∀ v, Q (.str (chS (let3 k)) v) { s with toks := s.toks + 1 })
    (hs : subscripted slice false (.str (Str.ofString "aAb") t) (.int (k : Int) u) = operate [.str (Str.ofString "aAb") t, .int (k : Int) u] (getItem (.str (Str.ofString "aAb") t) (.int (k : Int) u)))
    (ht : ∀ r, letTemporaryGo value (.str (Str.ofString "aAb") t) r = pure ()) :
    wpAny (model prog w) A (subscriptTail value slice (.str (Str.ofString "aAb") t) (.int (k : Int) u)) Q E s := by
  have hl : (Str.ofString "aAb").length = 3 := by decide +kernel
  have items : ∀ k : Fin 3, Txt.item (Str.ofString "aAb") (k.val : Int) = chS (let3 k.val) := by decide +kernel
  refine item_str (fitsSsize_of (N := 9223372036854775808) (by omega) (by omega) (Int.le_refl _)) (by omega) (by rw [hl]; omega) (fun _ => ?_) hs ht
  rw [items ⟨k, hk⟩]
  exact h _
theorem cnt_marks {z : Str} {n : Nat} {t u : Tok} (hz : Txt.count z (Str.ofString "\"") = (n : Int)) (h : ∀ t' k, Q (.int (n : Int) t') { s with toks := k }) : wpAny (model prog w) A (call (.builtin "str.count") [.str z t, .str (Str.ofString "\"") u]) Q E s :=
  KXw.count hz h
theorem mul_marks {n : Nat} {t u : Tok} (hn : n ≤ 1000) (h : ∀ t' k, (⟨(List.replicate n 34).toArray⟩ : Str).length = n → Q (.str ⟨(List.replicate n 34).toArray⟩ t') { s with toks := k }) : wpAny (model prog w) A (binaryOp .Mult (.str (Str.ofString "\"") t) (.int (n : Int) u)) Q E s :=
  SB.mul (one_ok (by decide +kernel) hn) fun t' k => by rw [marks_is]; exact h t' k (by rw [← lst_length]; simp [lst])
theorem mul_dots1 {q : Nat} {t u : Tok} (hn : q ≤ 100) (h : ∀ t' k, (dotsS (1 + q)).length = 1 + q → Q (.str (dotsS (1 + q)) t') { s with toks := k }) : wpAny (model prog w) A (binaryOp .Mult (.str (Str.ofString ".") t) (.int (1 + (q : Int)) u)) Q E s := by
  rw [show 1 + (q : Int) = ((1 + q : Nat) : Int) by omega]
  exact mul_dots (by omega) h
end
theorem len_sp : (Str.ofString " ").length = 1 := by decide +kernel
theorem len_em : (Str.ofString "").length = 0 := by decide +kernel
theorem len_257 : (Str.ofString "257 \"").length = 5 := by decide +kernel
def s3 (a b c i : Nat) : Nat := [a, b, c].getD i 0
theorem s3_le {a b c : Nat} (ha : a ≤ 30) (hb : b ≤ 30) (hc : c ≤ 30) (i : Nat) : s3 a b c i ≤ 30 := by
  match i with
  | 0 => exact ha
  | 1 => exact hb
  | 2 => exact hc
  | j + 3 => exact Nat.zero_le 30
theorem int_s3 {a b c : Nat} {vs : List Value} (hvs : IntsAre vs [(a : Int), (b : Int), (c : Int)]) {i : Nat} (hi : i < 3) : ∃ t, vs[((i : Nat) : Int).toNat]? = some (.int (s3 a b c i : Int) t) := by
  rw [Int.toNat_natCast]
  refine IntsAre.get hvs i _ ?_
  match i, hi with
  | 0, _ => rfl
  | 1, _ => rfl
  | 2, _ => rfl
section
variable {w : World} {p : Program} {loose : List Str} {mean : ExcName → Option Value} {mg mb : Str → Option Value} {dp un : Nat} {gd : Option (List Code)} {cn : Str} {cs : Scope} {a : Addr} {ccd : Value} {cl : List (Str × Addr)} {outer : List Env} {A₀ : Around} {base h₀ : Heap} {L : Addr} {m : Str → Option Value} {s : Shared} {news : List (Addr × Obj)}
theorem parse_q {Q E : Value → Shared → Prop} {x z : Str} {tx : Tok} (hz : told257 x = z) (B : Below A₀ base outer h₀) (F : Fr h₀ L s.heap m) (X : (Mine.hd.heap_39 w.params).In h₀) (N : News h₀ L s.heap news) (T : Top p loose mean mg mb h₀) (hk : cs.kind = .function)
    (hx : x.length ≤ 1048576) (h257 : Txt.slice x none (some 3) = Str.ofString "257") (hd : dp + 1 < recursionLimit) (hu : un + 8 < cLine)
    (ret : ∀ (t : Tok) (h' : Heap) (tk' : Nat), Fr h₀ L h' m → News h₀ L h' news → Q (.str z t) { s with heap := h', toks := tk' }) :
    wpAny (model PySem.Challenge.rw_rs0052_03.prog w) (ktrTop dp un gd cn cs L a ccd cl outer) (call (.ref 63) [.str x tx]) Q E s := by
  subst hz
  exact parse_r B F X N T hk hx h257 hd hu ret
end
/-- what a child's reply holds, and what is told -/
theorem reply_is {s k : Nat} {y : Str} : lst (((Str.ofString "257 \"" ++ ⟨(List.replicate s 34).toArray⟩) ++ chS (let3 k)) ++ y) = [50, 53, 55, 32, 34] ++ (List.replicate s 34 ++ let3 k :: lst y) := by
  rw [lst_app, lst_app, lst_app, lst_ch, show lst (Str.ofString "257 \"") = [50, 53, 55, 32, 34] from lst_op1]; simp [lst]
theorem reply_257 {s k : Nat} {y : Str} : Txt.slice (((Str.ofString "257 \"" ++ ⟨(List.replicate s 34).toArray⟩) ++ chS (let3 k)) ++ y) none (some 3) = Str.ofString "257" := by
  refine str_ext ?_
  rw [show (3 : Int) = ((3 : Nat) : Int) from rfl, slice_to, reply_is, lst_257]; rfl
theorem reply_len {s k : Nat} {y : Str} (hs : s ≤ 1000) (hy : y.length ≤ 3) : (((Str.ofString "257 \"" ++ ⟨(List.replicate s 34).toArray⟩) ++ chS (let3 k)) ++ y).length ≤ 1048576 := by
  rw [← lst_length, reply_is]
  simp only [List.length_append, List.length_cons, List.length_nil, List.length_replicate, lst_length]
  omega
theorem snoc_at {P : Nat → Value → Prop} {ys : List Value} {x : Value} (h : ∀ j z, ys[j]? = some z → P j z) (hx : P ys.length x) : ∀ j z, (ys ++ [x])[j]? = some z → P j z := by
  intro j z hz
  by_cases hj : j < ys.length
  · exact h j z (by rw [← hz, List.getElem?_append_left hj])
  · have hj2 : j < (ys ++ [x]).length := by
      rcases Nat.lt_or_ge j (ys ++ [x]).length with h | h
      · exact h
      · rw [List.getElem?_eq_none h] at hz; cases hz
    rw [List.length_append, List.length_singleton] at hj2
    have e : j = ys.length := by omega
    subst e
    rw [List.getElem?_append_right (Nat.le_refl _), Nat.sub_self] at hz
    cases hz
    exact hx
theorem off_head {R I : Addr} {o o' : Obj} {r : List (Addr × Obj)} (h : ∀ p ∈ (R, o) :: r, p.1 ≠ I) : ∀ p ∈ (R, o') :: r, p.1 ≠ I := by
  intro p hp
  rcases List.mem_cons.mp hp with rfl | hp
  · exact h (R, o) (.head _)
  · exact h p (.tail _ hp)
theorem apart3 {R a b : Addr} {oa ob : Obj} {news : List (Addr × Obj)} (h : @LT.lt Nat _ a R ∧ @LT.lt Nat _ b R ∧ AllLt R news) : ∀ p ∈ (a, oa) :: (b, ob) :: news, p.1 ≠ R := by
  intro p hp
  rcases List.mem_cons.mp hp with rfl | hp
  · exact Nat.ne_of_lt h.1
  · rcases List.mem_cons.mp hp with rfl | hp
    · exact Nat.ne_of_lt h.2.1
    · exact Nat.ne_of_lt (kst_ltOf h.2.2 p hp)
theorem reply_told {s k : Nat} {y : Str} (hy : nameOf (lst y) = []) : lst (told257 (((Str.ofString "257 \"" ++ ⟨(List.replicate s 34).toArray⟩) ++ chS (let3 k)) ++ y)) = List.replicate (s / 2) 34 ++ (if s % 2 = 0 then [let3 k] else []) :=
  told_marks (let3_ok k).1 hy reply_is
theorem rows_three {a0 a1 a2 : Nat} {ys : List Value} (hl : ys.length = 3) (h : ∀ (j : Nat) z, ys[j]? = some z → ∃ t, z = Value.str (rowS (s3 a0 a1 a2 j) (let3 j)) t) :
    ∃ t0 t1 t2, ys = [.str (rowS a0 (let3 0)) t0, .str (rowS a1 (let3 1)) t1, .str (rowS a2 (let3 2)) t2] := by
  match ys, hl, h with
  | [x, y, z], _, h =>
    obtain ⟨t0, e0⟩ := h 0 x rfl
    obtain ⟨t1, e1⟩ := h 1 y rfl
    obtain ⟨t2, e2⟩ := h 2 z rfl
    exact ⟨t0, t1, t2, by rw [e0, e1, e2]; rfl⟩
theorem sent_item {a0 a1 a2 : Nat} {t0 t1 t2 : Tok} {i : Nat} {v : Value} (h : (#[.str (sentT a0 (let3 0)) t0, .str (sentT a1 (let3 1)) t1, .str (sentT a2 (let3 2)) t2] : Array Value)[i]? = some v) : ∃ t, v = .str (sentT (s3 a0 a1 a2 i) (let3 i)) t := by
  match i, h with
  | 0, h => cases h; exact ⟨_, rfl⟩
  | 1, h => cases h; exact ⟨_, rfl⟩
  | 2, h => cases h; exact ⟨_, rfl⟩
  | j + 3, h => exact nomatch h
theorem sentT_len (s l : Nat) : (sentT s l).length ≤ 4 + s := by
  rw [← lst_length, lst_sentT]
  unfold sentL
  have := row_len s l
  rw [← lst_length, lst_row] at this
  split
  · omega
  · rw [List.length_cons]; omega
theorem words_three {a0 a1 a2 : Nat} {ys : List Value} (hl : ys.length = 3) (h : ∀ (j : Nat) z, ys[j]? = some z → ∃ t, z = Value.str (wd ((s3 a0 a1 a2 j + 1) / 2) (let3 j)) t) : StrsAre ys [wd ((a0 + 1) / 2) 97, wd ((a1 + 1) / 2) 65, wd ((a2 + 1) / 2) 98] := by
  have := strs_idx ys (fun j => wd ((s3 a0 a1 a2 j + 1) / 2) (let3 j)) h
  rw [hl] at this
  exact this
theorem repl_sp {prog : Program} {w : World} {A : Around} {E : Value → Shared → Prop} {s : Shared} {Q : Value → Shared → Prop} {a k : Nat} {t : Tok} {u : Nat} (ha : a ≤ 30) (hu : 1 ≤ u) (h : ∀ (t' : Tok) tk, Q (.str (wd ((a + 1) / 2) (let3 k)) t') { s with toks := tk }) :
    wpAny (model prog w) A (call (.builtin "str.replace") [.str (sentT a (let3 k)) t, .str (Str.ofString " ") u, .str (Str.ofString "") (u + 1)]) Q E s :=
  repl_K hu (by decide +kernel) (by rw [len_em]; have := sentT_len a (let3 k); omega) fun t' tk _ => by rw [sent_word]; exact h t' tk
theorem mail_is {a0 a1 a2 : Nat} {e0 e1 : Str} : lst ((((rowS a0 (let3 0) ++ e0) ++ rowS a1 (let3 1)) ++ e1) ++ rowS a2 (let3 2)) = rowL a0 (let3 0) ++ lst e0 ++ rowL a1 (let3 1) ++ lst e1 ++ rowL a2 (let3 2) := by
  rw [lst_app, lst_app, lst_app, lst_app, lst_row, lst_row, lst_row]
theorem row_len' {a l : Nat} (h : a ≤ 30) : (rowS a l).length ≤ 33 := Nat.le_trans (row_len a l) (by omega)
theorem quoted_in {x : Str} (h : x.length ≤ 1000) : (quoted x).length ≤ 1000000 := Nat.le_trans (quoted_len x) (by omega)
end Mine
end
section
open PySem PySem.W PyProof.Rows
namespace Mine
local macro_rules | `(tactic| walk_at "own item") => `(tactic| first
  | ((with_reducible show wpAny _ _ (subscriptTail (Expr.Constant _ _ _) _ (Value.str _ _) (Value.int _ _)) _ _ _); k_dflt (refine' letter_at ?a ?_ ?d ?e; (case a => assumption); (case d => simp only [subscripted]); (case e => intro _; rfl)); intro _)
  | ((with_reducible show wpAny _ _ (subscriptTail (Expr.Name (Str.ofString "ends") _) _ (Value.ref _) (Value.int _ _)) _ _ _); (with_reducible rename News _ _ _ _ => N'); k_dflt (refine' end_item N' ?m ?a ?b ?_ ?d; (case m => k_mem); (case a => exact fmod_lo (by decide)); (case b => exact fmod_hi (by decide)); (case d => simp only [subscripted])); intro e9 t9 he9 hl9)
  | ((with_reducible show wpAny _ _ (subscriptTail (Expr.Tuple _ _ _) _ (Value.ref _) (Value.int _ _)) _ _ _); (with_reducible rename News _ _ _ _ => N'); k_dflt (refine' tail_item ?ztail N' ?m ?a ?b ?_ ?d; (case m => k_mem); (case ztail => exact tail_b); (case a => exact fmod_lo (by decide)); (case b => exact fmod_hi (by decide)); (case d => simp only [subscripted])); intro y9 ty9 hy9 hyl9)
  | ((with_reducible show wpAny _ _ (subscriptTail (Expr.Name _ _) _ (Value.ref _) (Value.int _ _)) _ _ _); (with_reducible rename News _ _ _ _ => N'); k_dflt (refine' led_item N' ?m ?a ?b ?c ?_ ?d; (case m => first | k_mem | (repeat (first | assumption | apply List.mem_cons_of_mem))); (case a => omega); (case b => omega); (case c => first | assumption | exact rfl); (case d => simp only [subscripted]))))
local macro_rules | `(tactic| walk_at "own call") => `(tactic| (
  (with_reducible show wpAny _ _ (call (Value.ref _) _) _ _ _);
  (with_reducible rename Fr _ _ _ _ => F');
  (with_reducible rename News _ _ _ _ => N');
  k_dflt (first | (refine' quote_r ?B F' ?X N' ?T ?K ?xx ?D ?U ?_; (case B => k_asm); (case X => k_asm); (case T => k_asm); (case K => exact rfl); (case xx => omega); (case D => ktr_room); (case U => ktr_units)) | (refine' parse_q ?zz ?B F' ?X N' ?T ?K ?x ?y ?D ?U ?_; (case zz => with_reducible assumption); (case B => k_asm); (case X => k_asm); (case T => k_asm); (case K => exact rfl); (case x => exact reply_len (by omega) (by assumption)); (case y => exact reply_257); (case D => ktr_room); (case U => ktr_units))); intro t9 h9 tk9 F9 N9; (try dsimp only)))
local macro_rules | `(tactic| walk_at "own text") => `(tactic| first
  | ((with_reducible show wpAny _ _ (call (Value.builtin "str.replace") _) _ _ _); k_dflt (refine' repl_sp ?a ?b ?_; (case a => assumption); (case b => assumption)); intro _ _)
  | ((with_reducible show wpAny _ _ (call (Value.builtin "str.count") _) _ _ _); k_dflt (refine' cnt_marks ?a ?_; (case a => assumption)); intro _ _)
  | ((with_reducible show wpAny _ _ (call (Value.builtin "list.append") [Value.ref _, _]) _ _ _); (with_reducible rename Fr _ _ _ _ => F'); (with_reducible rename News _ _ _ _ => N'); k_dflt (refine' append_second F' N' ?ap1 ?ap ?_ ?zz; (case ap1 => with_reducible assumption); (case ap => apply apart3; with_reducible assumption); (case zz => with_reducible assumption)); intro h8 F8 N8; (try dsimp only))
  | ((with_reducible show wpAny _ _ (binaryOp Operator.Mult (Value.str (Str.ofString ".") _) (Value.int _ _)) _ _ _); k_dflt (refine' mul_dots1 ?a ?_; (case a => omega)); intro _ _ _)
  | ((with_reducible show wpAny _ _ (binaryOp Operator.Mult (Value.str _ _) (Value.int _ _)) _ _ _); k_dflt (refine' mul_marks ?a ?_; (case a => omega)); intro _ _ _)
  | ((with_reducible show wpAny _ _ (binaryOp Operator.Add (Value.str _ _) (Value.str _ _)) _ _ _); k_dflt (refine' add_txt ?a ?b ?_; (case a => omega); (case b => omega)); intro _ _ _)
  | ((with_reducible show wpAny _ _ (subscriptTail _ (Expr.Slice (some _) none none _) (Value.str _ _) (Value.ref _)) _ _ _); (with_reducible rename Fr _ _ _ _ => F'); (with_reducible rename News _ _ _ _ => N'); k_dflt (refine' slice_strN_sn (hsz := ?hsz) (s := ⟨_, _, _, _, _⟩) F' N' ?_; (case hsz => exact Nat.le_trans (by assumption) (by decide))); intro _ _ _ F8 N8; (try dsimp only))
  | ((with_reducible show wpAny _ _ (binaryOp Operator.FloorDiv (Value.int _ _) (Value.int _ _)) _ _ _); (with_reducible refine floordiv_int ?a ?_ (Or.inl (PyProof.noPylong_small ?b))); (case a => decide); (case b => decide)))
section
variable {w : World} {p : Program} {loose : List Str} {mean : ExcName → Option Value} {mg mb : Str → Option Value} {dp un : Nat} {gd : Option (List Code)} {cn : Str} {cs : Scope} {a : Addr} {ccd : Value} {cl : List (Str × Addr)} {outer : List Env} {A₀ : Around} {base h₀ : Heap} {L : Addr} {m : Str → Option Value} {s : Shared} {news : List (Addr × Obj)}
set_option maxRecDepth 100000 in
set_option maxHeartbeats 1000000 in
theorem round_r {Q E : Value → Shared → Prop} {Sw : Addr} {vs : List Value} {j a0 a1 a2 : Nat} {c : Int} {tc : Tok} (B : Below A₀ base outer h₀) (F : Fr h₀ L s.heap m) (X : (Mine.hd.heap_39 w.params).In h₀) (N : News h₀ L s.heap news) (T : Top p loose mean mg mb h₀) (hk : cs.kind = .function)
    (hm : (Sw, PySem.W.listOf vs.toArray j) ∈ news) (hvs : IntsAre vs [(a0 : Int), (a1 : Int), (a2 : Int)]) (b0 : a0 ≤ 30) (b1 : a1 ≤ 30) (b2 : a2 ≤ 30) (hroom : dp + 5 < recursionLimit) (hunits : un + 80 < cLine)
    (ret : ∀ D ys h' tk', StrsAre ys [wd ((a0 + 1) / 2) 97, wd ((a1 + 1) / 2) 65, wd ((a2 + 1) / 2) 98] → Fr h₀ L h' m → News h₀ L h' ((D, LCg.lst ys) :: news) → LCg.Off1 D news → Q (.ref D) { s with heap := h', toks := tk' }) :
    wpAny (model PySem.Challenge.rw_rs0052_03.prog w) (ktrTop dp un gd cn cs L a ccd cl outer) (call (.ref 99) [.ref Sw, .int c tc]) Q E s := by
  k_with_none
  w_top off
  revert X
  k_fill
  intro X
  refine wpAny_call ?_
  k_dflt cell_enter
  rename Fr _ _ _ _ => F1
  obtain ⟨u, F2⟩ := fr_some [(Str.ofString "sweets", .ref Sw), (Str.ofString "cell", .int c tc)] (by kst_all) F1
  clear F1
  dsimp only [kstB] at F2
  (repeat' ((fail_if_success (with_reducible show Exists _)); (fail_if_success (with_reducible show wpAny _ _ (exec (Stmt.For _ _ _ _ _) _) _ _ _)); (fail_if_success (with_reducible show wpAny _ _ (pyIter _) _ _ _)); (fail_if_success (with_reducible show wpAny _ _ (eval (Expr.ListComp _ _ _ _) _) _ _ _)); (fail_if_success (with_reducible show wpAny _ _ (call (Value.builtin "str.split") _) _ _ _)); first | walk_at "own item" | walk_at "own text" | walk_at "own call" | ((fail_if_success (with_reducible show wpAny _ _ (call (Value.ref _) _) _ _ _)); (fail_if_success (with_reducible show wpAny _ _ (subscriptTail _ _ (Value.ref _) _) _ _ _)); first | walk1 | (dsimp only; walk1))))
  (rename Fr _ _ _ _ => F3); (rename News _ _ _ _ => N3)
  rename nameOf _ = [] => hy
  rename _ ≤ 3 => hyl
  refine' For_invTF F3 ?_ ?hs ?hE
  case hs => intro _; rfl
  case hE => passes_own
  (repeat' ((fail_if_success (with_reducible show Exists _)); (fail_if_success (with_reducible show wpAny _ _ (exec (Stmt.For _ _ _ _ _) _) _ _ _)); (fail_if_success (with_reducible show wpAny _ _ (pyIter _) _ _ _)); (fail_if_success (with_reducible show wpAny _ _ (eval (Expr.ListComp _ _ _ _) _) _ _ _)); (fail_if_success (with_reducible show wpAny _ _ (call (Value.builtin "str.split") _) _ _ _)); first | walk_at "own item" | walk_at "own text" | walk_at "own call" | ((fail_if_success (with_reducible show wpAny _ _ (call (Value.ref _) _) _ _ _)); (fail_if_success (with_reducible show wpAny _ _ (subscriptTail _ _ (Value.ref _) _) _ _ _)); first | walk1 | (dsimp only; walk1))))
  (rename Fr _ _ _ _ => F4); (rename News _ _ _ _ => N4); (rename IsRange _ _ _ _ _ _ _ _ => rg4)
  obtain ⟨u4, F5⟩ := fr_some [(Str.ofString "sweets", .ref Sw), (Str.ofString "cell", .int c tc), (Str.ofString "ends", .ref _), (Str.ofString "tail", .str _ _), (Str.ofString "rows", .ref _)] (by kst_all) F4
  rename _ < _ ∧ _ < _ ∧ AllLt _ news => lR
  have hapR := fun oa ob => apart3 (oa := oa) (ob := ob) lR
  refine' iter_rangeT (n := 3) (fun i m' news' => ∃ u' ys nn, m' = kstB u' [(Str.ofString "sweets", .ref Sw), (Str.ofString "cell", .int c tc), (Str.ofString "ends", .ref _), (Str.ofString "tail", .str _ _), (Str.ofString "rows", .ref _)] ∧ news' = (_, PySem.W.listOf (List.toArray ys) nn) :: _ :: _ :: news ∧ ys.length = i ∧ ∀ (j : Nat) z, ys[j]? = some z → ∃ t, z = Value.str (rowS (s3 a0 a1 a2 j) (let3 j)) t)
    rfl rg4 (by decide) (by rfl) F5 N4 (fun _ _ => rfl) ⟨u4, [], 0, rfl, rfl, rfl, fun j z hz => by simp at hz⟩ ?turn ?done
  case done =>
    rintro h' tk m' news' F6 N6 ⟨u', ys, nn, rfl, rfl, hyl9, hys⟩
    obtain ⟨t0, t1, t2, rfl⟩ := rows_three hyl9 hys
    dsimp only [kstB] at F6
    dsimp only
    clear F4 N4 F5 rg4 hys
    have l0 := row_len' (l := let3 0) b0
    have l1 := row_len' (l := let3 1) b1
    have l2 := row_len' (l := let3 2) b2
    (repeat' ((fail_if_success (with_reducible show Exists _)); (fail_if_success (with_reducible show wpAny _ _ (exec (Stmt.For _ _ _ _ _) _) _ _ _)); (fail_if_success (with_reducible show wpAny _ _ (pyIter _) _ _ _)); (fail_if_success (with_reducible show wpAny _ _ (eval (Expr.ListComp _ _ _ _) _) _ _ _)); (fail_if_success (with_reducible show wpAny _ _ (call (Value.builtin "str.split") _) _ _ _)); first | walk_at "own item" | walk_at "own text" | walk_at "own call" | ((fail_if_success (with_reducible show wpAny _ _ (call (Value.ref _) _) _ _ _)); (fail_if_success (with_reducible show wpAny _ _ (subscriptTail _ _ (Value.ref _) _) _ _ _)); first | walk1 | (dsimp only; walk1))))
    (rename Fr _ _ _ _ => hF)
    refine' ListComp_K (cl := []) hF (by with_unfolding_all rfl) (by decide) (by rfl) (by decide) (by rfl) ?_
    (repeat' ((fail_if_success (with_reducible show Exists _)); (fail_if_success (with_reducible show wpAny _ _ (exec (Stmt.For _ _ _ _ _) _) _ _ _)); (fail_if_success (with_reducible show wpAny _ _ (pyIter _) _ _ _)); (fail_if_success (with_reducible show wpAny _ _ (eval (Expr.ListComp _ _ _ _) _) _ _ _)); (fail_if_success (with_reducible show wpAny _ _ (call (Value.builtin "str.split") _) _ _ _)); first | walk_at "own item" | walk_at "own text" | walk_at "own call" | ((fail_if_success (with_reducible show wpAny _ _ (call (Value.ref _) _) _ _ _)); (fail_if_success (with_reducible show wpAny _ _ (subscriptTail _ _ (Value.ref _) _) _ _ _)); first | walk1 | (dsimp only; walk1))))
    (rename Fr _ _ _ _ => F7); (rename News _ _ _ _ => N7)
    (rename isEnd _ => he1); revert he1; (rename isEnd _ => he0); intro he1
    refine wpAny_toks ?_
    k_dflt (refine' split_three F7 N7 (quoted_in (by omega)) (sent_three he0 he1 mail_is) ?_)
    intro D9 v0 v1 v2 h9 tk9 F8 N8 lS hle
    have htk : 1 ≤ tk9 := Nat.le_trans (Nat.le_add_left 1 _) hle
    refine ⟨D9, _, _, _, fun i z => ∃ t, z = Value.str (wd ((s3 a0 a1 a2 i + 1) / 2) (let3 i)) t, rfl, htk, rfl, F8, N8, .head _, by show 3 ≤ sizeLine; decide, ?turn2, ?fin2⟩
    case turn2 =>
      intro i v I oI C oC D2 m₂ ys2 h10 tk10 hi hv hC hx F10 N10 htk10
      obtain ⟨t, rfl⟩ := sent_item hv
      have hs30 := s3_le b0 b1 b2 i
      (repeat' ((fail_if_success (with_reducible show Exists _)); (fail_if_success (with_reducible show wpAny _ _ (exec (Stmt.For _ _ _ _ _) _) _ _ _)); (fail_if_success (with_reducible show wpAny _ _ (pyIter _) _ _ _)); (fail_if_success (with_reducible show wpAny _ _ (eval (Expr.ListComp _ _ _ _) _) _ _ _)); (fail_if_success (with_reducible show wpAny _ _ (call (Value.builtin "str.split") _) _ _ _)); first | walk_at "own item" | walk_at "own text" | walk_at "own call" | ((fail_if_success (with_reducible show wpAny _ _ (call (Value.ref _) _) _ _ _)); (fail_if_success (with_reducible show wpAny _ _ (subscriptTail _ _ (Value.ref _) _) _ _ _)); first | walk1 | (dsimp only; walk1))))
      (rename Fr _ _ _ _ => F11); (rename News _ _ _ _ => N11)
      exact ⟨_, _, rfl, F11, N11, _, rfl⟩
    case fin2 =>
      intro D2 ys2 h10 tk10 hl2 hy2 F10 N10 o10
      have hws := words_three (hl2.trans rfl) hy2
      dsimp only
      k_steps
      (rename Fr _ _ _ _ => F11); (rename News _ _ _ _ => N11)
      simp only [LCg.Off1] at o10
      exact ret D2 ys2 _ _ hws F11 (cb_drop N11 fun p hp => (by
        rcases List.mem_cons.mp hp with e | hp
        · exact e ▸ .head _
        · exact .tail _ (.tail _ (.tail _ (.tail _ (.tail _ hp)))))) o10.2.2.2.2
  case turn =>
    rintro i t I1 it1 m₁ news₁ s₁ hi ⟨u1, ys, nn, rfl, rfl, hyl9, hys⟩ F6 N6 hoff
    simp only [Int.zero_add]
    clear F4 N4 F5 rg4
    dsimp only [kstB] at F6
    obtain ⟨ti, hvi⟩ := int_s3 hvs hi
    have hs30 := s3_le b0 b1 b2 i
    generalize hsi : s3 a0 a1 a2 i = si at hvi hs30
    have htold := reply_told (s := si) (k := i) hy
    generalize hz : told257 _ = zz at htold
    have hzl : zz.length ≤ 40 := by
      rw [← lst_length, htold, List.length_append, List.length_replicate]
      split <;> simp <;> omega
    have hcnt := told_cnt (let3_ok i).1 htold
    have hev := told_even (let3_ok i).1 htold
    have hlc : (chS (let3 i)).length = 1 := rfl
    have l1 := len_sp
    have l2 := len_em
    have l3 := len_257
    have hI : I1 ≠ _ := Ne.symm (hoff _ (.head _))
    have hsz : ys.toArray.size ≤ sizeLine := by rw [List.size_toArray, hyl9]; exact Nat.le_trans (Nat.le_of_lt hi) (by decide)
    (repeat' ((fail_if_success (with_reducible show Exists _)); (fail_if_success (with_reducible show wpAny _ _ (exec (Stmt.For _ _ _ _ _) _) _ _ _)); (fail_if_success (with_reducible show wpAny _ _ (pyIter _) _ _ _)); (fail_if_success (with_reducible show wpAny _ _ (eval (Expr.ListComp _ _ _ _) _) _ _ _)); (fail_if_success (with_reducible show wpAny _ _ (call (Value.builtin "str.split") _) _ _ _)); first | walk_at "own item" | walk_at "own text" | walk_at "own call" | ((fail_if_success (with_reducible show wpAny _ _ (call (Value.ref _) _) _ _ _)); (fail_if_success (with_reducible show wpAny _ _ (subscriptTail _ _ (Value.ref _) _) _ _ _)); first | walk1 | (dsimp only; walk1))))
    all_goals (
      (rename Fr _ _ _ _ => F9); (rename News _ _ _ _ => N9); rw [List.push_toArray] at N9;
      obtain ⟨u9, F8⟩ := fr_some [(Str.ofString "sweets", .ref Sw), (Str.ofString "cell", .int c tc), (Str.ofString "ends", .ref _), (Str.ofString "tail", .str _ _), (Str.ofString "rows", .ref _)] (by kst_all) F9;
      refine ⟨rfl, _, _, _, _, rfl, F8, N9, off_head hoff, u9, ys ++ [_], nn + 1, rfl, rfl, by rw [List.length_append, hyl9]; rfl, snoc_at hys ⟨_, congrArg (Value.str · _) ?_⟩⟩;
      rw [hyl9, hsi])
    · exact row_even (of_decide_eq_true (hev.symm.trans (by assumption)))
    · exact row_odd (of_decide_eq_false (hev.symm.trans (by assumption)))
end
end Mine
end
section
open PySem PySem.W PyProof.Rows
namespace Mine
abbrev Tri := Nat × Nat × Nat
def hf (a : Nat) : Nat := (a + 1) / 2
def nx (t : Tri) : Tri := (hf t.1 + hf t.2.2, hf t.2.1 + hf t.1, hf t.2.2 + hf t.2.1)
def itN : Nat → Tri → Tri
  | 0, t => t
  | n + 1, t => nx (itN n t)
def le8 (t : Tri) : Prop := t.1 ≤ 8 ∧ t.2.1 ≤ 8 ∧ t.2.2 ≤ 8
theorem nx_le {t : Tri} (h : le8 t) : le8 (nx t) := by
  obtain ⟨a, b, c⟩ := t
  unfold le8 nx hf at *
  dsimp only at *
  omega
theorem itN_le {t : Tri} (h : le8 t) : ∀ n, le8 (itN n t)
  | 0 => h
  | n + 1 => nx_le (itN_le h n)
def triI (t : Tri) : List Int := [(t.1 : Int), (t.2.1 : Int), (t.2.2 : Int)]
def triH (t : Tri) : List Int := [(hf t.1 : Int), (hf t.2.1 : Int), (hf t.2.2 : Int)]
theorem half_is (a : Nat) : ((a : Int) + 1).fdiv 2 = (hf a : Int) := by
  unfold hf
  rw [Int.fdiv_eq_ediv_of_nonneg _ (by decide)]
  omega
section
variable {prog : Program} {w : World} {A : Around} {E : Value → Shared → Prop} {s : Shared} {h₀ : Heap} {L D : Addr} {m : Str → Option Value} {news : List (Addr × Obj)} {Q : Value → Shared → Prop}
theorem half_div {a : Nat} {t u : Tok} (h : ∀ t' k, Q (.int (hf a : Int) t') { s with toks := k }) : wpAny (model prog w) A (binaryOp .FloorDiv (.int ((a : Int) + 1) t) (.int 2 u)) Q E s :=
  floordiv_int (by decide) (by rw [half_is]; exact h _ _) (Or.inl (PyProof.noPylong_small (by decide)))
/-- the last item of a list -/
theorem led_neg {value slice : PySem.Expr} {ys : List Value} {n : Nat} {k : Int} {u : Tok} {v : Value} (N : News h₀ L s.heap news) (hm : (D, PySem.W.listOf ys.toArray n) ∈ news) (h0 : k < 0) (h1 : -(ys.length : Int) ≤ k) (hz : ys.length ≤ 1000) (hv : ys[(k + ys.length).toNat]? = some v) (h : Q v s)
    (hs : subscripted slice false (.ref D) (.int k u) = operate [.ref D, .int k u] (getItem (.ref D) (.int k u)) := by with_unfolding_all rfl) :
    wpAny (model prog w) A (subscriptTail value slice (.ref D) (.int k u)) Q E s := by
  have hl : s.heap.IsList D ys.toArray := PySem.IsL.isList (n := n) (N _ hm).1
  exact tail_any hl.typeIs slot_list_getitem.lookup (wpAny_getItem_list_neg hl h0 (by rw [List.size_toArray]; exact h1) (by omega) (by rw [List.getElem?_toArray, List.size_toArray]; exact hv) h) hs
end
theorem tri_at {t : Tri} {vs : List Value} (hvs : IntsAre vs (triI t)) {i : Nat} {v : Value} (h : vs.toArray[i]? = some v) : ∃ (a : Nat) (u : Tok), v = .int (a : Int) u ∧ (triH t)[i]? = some (hf a : Int) := by
  obtain ⟨n, u, rfl, e⟩ := IntsAre.at hvs i v (by simpa using h)
  match i, e with
  | 0, e => cases e; exact ⟨_, u, rfl, rfl⟩
  | 1, e => cases e; exact ⟨_, u, rfl, rfl⟩
  | 2, e => cases e; exact ⟨_, u, rfl, rfl⟩
  | j + 3, e => exact nomatch e
theorem int3 {vs : List Value} {a b c : Int} (h : IntsAre vs [a, b, c]) : ∃ t0 t1 t2, vs = [.int a t0, .int b t1, .int c t2] := by
  obtain ⟨t0, v1, r0, h0⟩ := h.cons_inv
  obtain ⟨t1, v2, r1, h1⟩ := h0.cons_inv
  obtain ⟨t2, v3, r2, h2⟩ := h1.cons_inv
  rw [r0, r1, r2, h2.nil_inv]
  exact ⟨_, _, _, rfl⟩
theorem ints_of {ys : List Value} {ns : List Int} (hl : ys.length = ns.length) (h : ∀ (i : Nat) y, ys[i]? = some y → ∃ n t, y = Value.int n t ∧ ns[i]? = some n) : IntsAre ys ns := by
  induction ys generalizing ns with
  | nil =>
    cases ns with
    | nil => exact .nil
    | cons a r => simp at hl
  | cons y r ih =>
    cases ns with
    | nil => simp at hl
    | cons a q =>
      obtain ⟨n, t, e, e2⟩ := h 0 y rfl
      cases e2
      rw [e]
      exact .cons _ t (ih (by simpa using hl) fun i z hz => h (i + 1) z hz)
theorem swap4 {h₀ h : Heap} {L : Addr} {a b c d : Addr × Obj} {r : List (Addr × Obj)} (N : News h₀ L h (a :: b :: c :: d :: r)) : News h₀ L h (c :: d :: a :: b :: r) := fun p hp => by
  rcases List.mem_cons.mp hp with e | hp
  · exact N p (e ▸ .tail _ (.tail _ (.head _)))
  · rcases List.mem_cons.mp hp with e | hp
    · exact N p (e ▸ .tail _ (.tail _ (.tail _ (.head _))))
    · rcases List.mem_cons.mp hp with e | hp
      · exact N p (e ▸ .head _)
      · rcases List.mem_cons.mp hp with e | hp
        · exact N p (e ▸ .tail _ (.head _))
        · exact N p (.tail _ (.tail _ (.tail _ (.tail _ hp))))
theorem off4 {I A D2 D3 : Addr} {oA oA' o2 o3 : Obj} {r : List (Addr × Obj)} (h : ∀ p ∈ (A, oA) :: r, p.1 ≠ I) (h2 : D2 ≠ I) (h3 : D3 ≠ I) : ∀ p ∈ (A, oA') :: (D3, o3) :: (D2, o2) :: r, p.1 ≠ I := by
  intro p hp
  rcases List.mem_cons.mp hp with rfl | hp
  · exact h (A, oA) (.head _)
  · rcases List.mem_cons.mp hp with rfl | hp
    · exact h3
    · rcases List.mem_cons.mp hp with rfl | hp
      · exact h2
      · exact h p (.tail _ hp)
theorem off_two {I D2 D3 : Addr} {o2 o3 : Obj} {r : List (Addr × Obj)} (h : ∀ p ∈ r, p.1 ≠ I) (h2 : D2 ≠ I) (h3 : D3 ≠ I) : ∀ p ∈ (D3, o3) :: (D2, o2) :: r, p.1 ≠ I := by
  intro p hp
  rcases List.mem_cons.mp hp with rfl | hp
  · exact h3
  · rcases List.mem_cons.mp hp with rfl | hp
    · exact h2
    · exact h p hp
end Mine
end
section
open PySem PySem.W PyProof.Rows
namespace Mine
def prv (k : Nat) : Nat := [2, 0, 1].getD k 0
def c3 (k : Nat) : Nat := [2, 1, 2].getD k 2
def ad (a b : Nat) : Nat := (a - b) + (b - a)
theorem one_D : ∀ d : Fin 9, ∀ k : Fin 3, D scost [let3 k.val] (List.replicate d.val 46 ++ [let3 (prv k.val)]) = 2 * d.val + c3 k.val ∧ D scost (List.replicate d.val 46 ++ [let3 k.val]) [let3 (prv k.val)] = 2 * d.val + c3 k.val := by decide +kernel
theorem rep_split {a b : Nat} (h : a ≤ b) (l : Nat) : wdL b l = List.replicate (1 + a) 46 ++ (List.replicate (b - a) 46 ++ [l]) := by
  unfold wdL
  rw [← List.append_assoc, List.replicate_append_replicate, show 1 + a + (b - a) = 1 + b by omega]
theorem D_wd {h g k : Nat} (hh : h ≤ 8) (hg : g ≤ 8) (hk : k < 3) : D scost (wdL h (let3 k)) (wdL g (let3 (prv k))) = 2 * ad h g + c3 k := by
  unfold ad
  rcases Nat.le_total h g with e | e
  · rw [rep_split (Nat.le_refl h), rep_split e, D_prefix scost_cost, Nat.sub_self, (show List.replicate 0 46 ++ [let3 k] = [let3 k] from rfl), (one_D ⟨g - h, by omega⟩ ⟨k, hk⟩).1]
    show 2 * (g - h) + c3 k = _
    omega
  · rw [rep_split e, rep_split (Nat.le_refl g), D_prefix scost_cost, Nat.sub_self, (show List.replicate 0 46 ++ [let3 (prv k)] = [let3 (prv k)] from rfl), (one_D ⟨h - g, by omega⟩ ⟨k, hk⟩).2]
    show 2 * (h - g) + c3 k = _
    omega
def hk (t : Tri) (k : Nat) : Nat := [hf t.1, hf t.2.1, hf t.2.2].getD k 0
theorem hk_le {t : Tri} (h : le8 t) (k : Nat) : hk t k ≤ 4 := by
  obtain ⟨a, b, c⟩ := t
  unfold le8 at h
  unfold hk hf
  dsimp only at *
  match k with
  | 0 => show (a + 1) / 2 ≤ 4; omega
  | 1 => show (b + 1) / 2 ≤ 4; omega
  | 2 => show (c + 1) / 2 ≤ 4; omega
  | j + 3 => exact Nat.zero_le 4
/-- how many rounds more -/
def rds (t : Tri) : Nat := ad (hk t 0) (hk t 2) + ad (hk t 1) (hk t 0) + ad (hk t 2) (hk t 1)
/-- a child's word in a round -/
def wk (t : Tri) (k : Nat) : Str := wd (hk t k) (let3 k)
def W3 (t : Tri) : List Str := [wk t 0, wk t 1, wk t 2]
theorem told_wd {t : Tri} {k : Nat} {m r : Int} (h : le8 t) (hk3 : k < 3) (hm : ((2 * ad (hk t k) (hk t (prv k)) + c3 k : Nat) : Int) ≤ m) (hT : Told scost (lst (wk t k)) (lst (wk t (prv k))) m r) : r = ((2 * ad (hk t k) (hk t (prv k)) + c3 k : Nat) : Int) := by
  refine told_eq hT ?_ hm
  unfold wk
  rw [lst_wd, lst_wd, D_wd (Nat.le_trans (hk_le h k) (by decide)) (Nat.le_trans (hk_le h _) (by decide)) hk3]
theorem told_dw {t : Tri} {k : Nat} {m r : Int} (h : le8 t) (hk3 : k < 3) (hm : ((2 * ad (hk t k) (hk t (prv k)) + c3 k : Nat) : Int) ≤ m) (hT : Told scost (lst (wk t (prv k))) (lst (wk t k)) m r) : r = ((2 * ad (hk t k) (hk t (prv k)) + c3 k : Nat) : Int) := by
  refine told_eq hT ?_ hm
  unfold wk
  rw [lst_wd, lst_wd, D_symm scost_cost, D_wd (Nat.le_trans (hk_le h k) (by decide)) (Nat.le_trans (hk_le h _) (by decide)) hk3]
def stillN (t : Tri) : Bool := (hk (itN (rds t) t) 0 == hf (itN 8 t).1) && (hk (itN (rds t) t) 1 == hf (itN 8 t).1) && (hk (itN (rds t) t) 2 == hf (itN 8 t).1)
theorem still_all : ∀ a b c : Fin 9, stillN (a.val, b.val, c.val) = true := by decide +kernel
theorem still_is {t : Tri} (h : le8 t) : W3 (itN (rds t) t) = [wd (hf (itN 8 t).1) 97, wd (hf (itN 8 t).1) 65, wd (hf (itN 8 t).1) 98] := by
  obtain ⟨a, b, c⟩ := t
  have e := still_all ⟨a, Nat.lt_succ_of_le h.1⟩ ⟨b, Nat.lt_succ_of_le h.2.1⟩ ⟨c, Nat.lt_succ_of_le h.2.2⟩
  unfold stillN at e
  simp only [Bool.and_eq_true, beq_iff_eq] at e
  unfold W3 wk
  rw [e.1.1, e.1.2, e.2]
  rfl
theorem rds_le {t : Tri} (h : le8 t) : rds t ≤ 12 := by
  have h0 := hk_le h 0
  have h1 := hk_le h 1
  have h2 := hk_le h 2
  unfold rds ad
  omega
/-- what stands of the play, so many rounds shown -/
def Mid (L' : Addr) (tri : Tri) (n : Nat) (Sh Sw D : Addr) (ws cs : List Value) (o2 : Obj) (rest : List (Addr × Obj)) (ds : List Addr) : Prop :=
  o2.data = .cell (some (.ref Sh)) ∧ (∀ p ∈ rest, p.1 ≠ Sh) ∧ (∀ p ∈ rest, p.1 ≠ L' + 1 + 1 + 1) ∧ @Ne Nat Sh (L' + 1 + 1) ∧ @Ne Nat Sh (L' + 1 + 1 + 1) ∧ (Sw, LCg.lst ws) ∈ rest ∧ (D, LCg.lst cs) ∈ rest ∧ ds.length = n + 1 ∧
    ∀ q, q < ds.length → ∃ ys, (ds.getD q 0, LCg.lst ys) ∈ rest ∧ StrsAre ys (W3 (itN q tri))
end Mine
end
section
open PySem PySem.W PyProof.Rows
namespace Mine
theorem nine {c : Int} : ∃ n : Nat, c.fmod 9 = (n : Int) ∧ n ≤ 8 := ⟨(c.fmod 9).toNat, by have := fmod_lo (a := c) (b := 9) (by decide); omega, by have := fmod_hi (a := c) (b := 9) (by decide); omega⟩
theorem tri_of {ys : List Value} (hl : ys.length = 3) (h : ∀ y ∈ ys, ∃ (n : Nat) (t : Tok), y = Value.int (n : Int) t ∧ n ≤ 8) : ∃ tri : Tri, le8 tri ∧ IntsAre ys (triI tri) := by
  match ys, hl, h with
  | [x, y, z], _, h =>
    obtain ⟨a, ta, rfl, ha⟩ := h x (.head _)
    obtain ⟨b, tb, rfl, hb⟩ := h y (.tail _ (.head _))
    obtain ⟨c, tc, rfl, hc⟩ := h z (.tail _ (.tail _ (.head _)))
    exact ⟨(a, b, c), ⟨ha, hb, hc⟩, .cons _ _ (.cons _ _ (.cons _ _ .nil))⟩
section
variable {fa lc : Addr} {w : World} {p : Program} {loose : List Str} {mean : ExcName → Option Value} {mg mb : Str → Option Value} {base h₀ : Heap} {m : Str → Option Value} {s : Shared} {Q : Flow → Shared → Prop}
set_option maxRecDepth 100000 in
set_option maxHeartbeats 1000000 in
theorem sweets_w {L' D : Addr} {o2 o3 : Obj} {c0 c1 c2 c3 : Int} {t0 t1 t2 t3 : Tok}
    (B : Below callerA base [] h₀) (X : (Mine.hd.heap_39 w.params).In h₀) (T : Top p loose mean mg mb h₀)
    (F : Fr h₀ L' s.heap (fun z => if z = Str.ofString "cells" then some (.ref D) else m z)) (N : News h₀ L' s.heap [(D, LCg.lst [.int c0 t0, .int c1 t1, .int c2 t2, .int c3 t3]), (L' + 1 + 1, o2), (L' + 1 + 1 + 1, o3)])
    (ret : ∀ Sw ws tri h' tk' u, le8 tri → IntsAre ws (triI tri) → LCg.Off1 Sw [(D, LCg.lst [.int c0 t0, .int c1 t1, .int c2 t2, .int c3 t3]), (L' + 1 + 1, o2), (L' + 1 + 1 + 1, o3)] → Fr h₀ L' h' (kstB u [(Str.ofString "sweets", .ref Sw), (Str.ofString "cells", .ref D)]) → News h₀ L' h' [(Sw, LCg.lst ws), (D, LCg.lst [.int c0 t0, .int c1 t1, .int c2 t2, .int c3 t3]), (L' + 1 + 1, o2), (L' + 1 + 1 + 1, o3)] → Q .next { s with heap := h', toks := tk' }) :
    wpAny (model PySem.Challenge.rw_rs0052_03.prog w) (callerA.deeper (envOfC (Str.ofString "law") (scopeAt PySem.Challenge.rw_rs0052_03.prog 20) L' fa (.ref lc)))
      (exec (stmtAt PySem.Challenge.rw_rs0052_03.prog 20 1) (envOfC (Str.ofString "law") (scopeAt PySem.Challenge.rw_rs0052_03.prog 20) L' fa (.ref lc))) Q (fun _ _ => False) s := by
  k_with_none
  w_top off
  revert X
  k_fill
  intro X
  conv in (occs := *) scopeAt _ _ => all_goals whnf
  conv in (occs := *) stmtAt _ _ _ => all_goals whnf
  refine' LCg.Assign_ListComp_U (cl := []) F rfl (by with_unfolding_all rfl) (by with_unfolding_all rfl) (by decide) (by rfl) (by decide) (by rfl) (by rfl) (by rfl) ?_
  (repeat' ((fail_if_success (with_reducible show LCg.CompEnd _ _ _ _ _ _ _ _ _ _ _ _ _ _)); (fail_if_success (with_reducible show LCg.CompSrc _ _ _ _ _ _ _ _ _ _ _ _ _ _)); first | walk1 | (dsimp only; walk1)))
  (rename Fr _ _ _ _ => F8); (rename News _ _ _ _ => N8)
  refine' LCg.CompSrc.ledger rfl F8 N8 (.head _) ?sz (fun g => comp_rel (fun y => ∃ (n : Nat) (t : Tok), y = Value.int (n : Int) t ∧ n ≤ 8) ?turn ?fin)
  case sz => show 3 ≤ sizeLine; decide
  case turn =>
    intro i v I oI C oC D2 m₂ ys h tk E' hi hv hC hx F' N' off ne
    obtain ⟨c, t, rfl⟩ : ∃ c t, v = .int c t := int_at (l := [.int c0 t0, .int c1 t1, .int c2 t2]) (by simp) i v hv
    (repeat' ((fail_if_success (with_reducible show LCg.CompEnd _ _ _ _ _ _ _ _ _ _ _ _ _ _)); (fail_if_success (with_reducible show LCg.CompSrc _ _ _ _ _ _ _ _ _ _ _ _ _ _)); first | walk1 | (dsimp only; walk1)))
    (rename Fr _ _ _ _ => F9); (rename News _ _ _ _ => N9)
    obtain ⟨n, e, hn⟩ := nine (c := c)
    exact ⟨_, _, _, rfl, F9, N9, off, .inr ⟨_, .head _, rfl, _, rfl⟩, rfl, n, _, congrArg (Value.int · _) e, hn⟩
  case fin =>
    intro ys hl hy
    intro D2 h tk F7 N7 o7
    obtain ⟨tri, hle, hws⟩ := tri_of hl hy
    obtain ⟨u9, F5⟩ := fr_some [(Str.ofString "sweets", .ref D2), (Str.ofString "cells", .ref D)] (by kst_all) F7
    exact ret D2 ys tri _ _ u9 hle hws o7.2 F5 (fun p hp => N7 p (by
      rcases List.mem_cons.mp hp with e | hp
      · exact e ▸ .head _
      · exact .tail _ (.tail _ hp)))
end
end Mine
end
section
open PySem PySem.W PyProof.Rows
namespace Mine
local macro_rules | `(tactic| walk_at "own call") => `(tactic| first
  | ((with_reducible show wpAny _ _ (call (Value.ref 99) _) _ _ _); (with_reducible rename Fr _ _ _ _ => F'); (with_reducible rename News _ _ _ _ => N'); k_dflt (refine' round_r ?B F' ?X N' ?T ?K ?mm ?iv ?x0 ?x1 ?x2 ?D ?U ?_; (case B => k_asm); (case X => k_asm); (case T => k_asm); (case K => exact rfl); (case mm => k_mem); (case iv => assumption); (case x0 => omega); (case x1 => omega); (case x2 => omega); (case D => ktr_room); (case U => ktr_units)); intro D9 ys9 h9 tk9 hys9 F9 N9 o9; simp only [LCg.Off1, and_true] at o9; (try dsimp only))
  | ((with_reducible show wpAny _ _ (storeName _ (Str.ofString "shown") _) _ _ _); (with_reducible rename Fr _ _ _ _ => F'); (with_reducible rename News _ _ _ _ => N'); k_dflt (refine' storeX_C (cl := [(Str.ofString "halves", _), (Str.ofString "shown", _), (Str.ofString "script", _)]) F' N' ?c ?U ?d ?_ ?a ?b; (case a => rfl); (case b => rfl); (case c => rfl); (case U => k_updF); (case d => assumption)); intro h8 o8 F8 N8 d8; (try dsimp only at N8)))
section
variable {fa lc : Addr} {w : World} {p : Program} {loose : List Str} {mean : ExcName → Option Value} {mg mb : Str → Option Value} {base h₀ : Heap} {m : Str → Option Value} {s : Shared} {Q : Flow → Shared → Prop}
set_option maxRecDepth 100000 in
set_option maxHeartbeats 1000000 in
theorem shown_w {L' D Sw : Addr} {o2 o3 : Obj} {ws : List Value} {tri : Tri} {u : Str → Option Value} {c0 c1 c2 c3 : Int} {t0 t1 t2 t3 : Tok}
    (hle : le8 tri) (hws : IntsAre ws (triI tri)) (hD : @LT.lt Nat _ (L' + 3) D) (hSw : LCg.Off1 Sw [(D, LCg.lst [.int c0 t0, .int c1 t1, .int c2 t2, .int c3 t3]), (L' + 1 + 1, o2), (L' + 1 + 1 + 1, o3)]) (h2 : o2.data = .cell none)
    (B : Below callerA base [] h₀) (X : (Mine.hd.heap_39 w.params).In h₀) (T : Top p loose mean mg mb h₀)
    (F : Fr h₀ L' s.heap (kstB u [(Str.ofString "sweets", .ref Sw), (Str.ofString "cells", .ref D)])) (N : News h₀ L' s.heap [(Sw, LCg.lst ws), (D, LCg.lst [.int c0 t0, .int c1 t1, .int c2 t2, .int c3 t3]), (L' + 1 + 1, o2), (L' + 1 + 1 + 1, o3)])
    (ret : ∀ Sh ds o2' rest j h' tk' u', Mid L' tri 0 Sh Sw D ws [.int c0 t0, .int c1 t1, .int c2 t2, .int c3 t3] o2' rest ds → Fr h₀ L' h' (kstB u' [(Str.ofString "sweets", .ref Sw), (Str.ofString "cells", .ref D)]) → News h₀ L' h' ((Sh, PySem.W.listOf (ds.map Value.ref).toArray j) :: (L' + 1 + 1, o2') :: (L' + 1 + 1 + 1, o3) :: rest) → Q .next { s with heap := h', toks := tk' }) :
    wpAny (model PySem.Challenge.rw_rs0052_03.prog w) (callerA.deeper (envOfC (Str.ofString "law") (scopeAt PySem.Challenge.rw_rs0052_03.prog 20) L' fa (.ref lc)))
      (exec (stmtAt PySem.Challenge.rw_rs0052_03.prog 20 2) (envOfC (Str.ofString "law") (scopeAt PySem.Challenge.rw_rs0052_03.prog 20) L' fa (.ref lc))) Q (fun _ _ => False) s := by
  k_with_none
  w_top off
  revert X
  k_fill
  intro X
  conv in (occs := *) scopeAt _ _ => all_goals whnf
  conv in (occs := *) stmtAt _ _ _ => all_goals whnf
  dsimp only [kstB] at F
  simp only [LCg.Off1, and_true] at hSw
  obtain ⟨l0, l1, l2⟩ := hle
  (repeat' (first | walk_at "own call" | ((fail_if_success (with_reducible show wpAny _ _ (call (Value.ref _) _) _ _ _)); first | walk1 | (dsimp only; walk1))))
  (rename Fr _ _ _ _ => F9); (rename News _ _ _ _ => N9); (rename StrsAre _ _ => hys)
  obtain ⟨u9, F8⟩ := fr_some [(Str.ofString "sweets", .ref Sw), (Str.ofString "cells", .ref D)] (by kst_all) F9
  refine' ret _ [_] _ [(_, LCg.lst _), (Sw, LCg.lst ws), (D, LCg.lst [.int c0 t0, .int c1 t1, .int c2 t2, .int c3 t3])] _ _ _ u9 ⟨?hd, ?m1, ?m2, ?m3, ?m4, .tail _ (.head _), .tail _ (.tail _ (.head _)), rfl, ?m5⟩ F8 ?hN
  (case hd => assumption)
  (case hN => exact fun p hp => N9 p (by revert p; lcg_sub))
  (case m1 => k_all)
  (case m2 => k_all)
  (case m3 => omega)
  (case m4 => omega)
  (case m5 => intro q hq; obtain rfl : q = 0 := Nat.lt_one_iff.mp hq; exact ⟨_, .head _, hys⟩)
end
end Mine
end
section
open PySem PySem.W PyProof.Rows
namespace Mine
theorem str3 {ys : List Value} {a b c : Str} (h : StrsAre ys [a, b, c]) : ∃ t0 t1 t2, ys = [.str a t0, .str b t1, .str c t2] := by
  obtain ⟨t0, v1, r0, h0⟩ := h.cons_inv
  obtain ⟨t1, v2, r1, h1⟩ := h0.cons_inv
  obtain ⟨t2, v3, r2, h2⟩ := h1.cons_inv
  rw [r0, r1, r2, h2.nil_inv]
  exact ⟨_, _, _, rfl⟩
theorem wk_len {t : Tri} (h : le8 t) (k : Nat) : (wk t k).length ≤ 40 := by
  unfold wk
  rw [wd_len]
  have := hk_le h k
  omega
section
variable {w : World} {p : Program} {loose : List Str} {mean : ExcName → Option Value} {mg mb : Str → Option Value} {dp un : Nat} {gd : Option (List Code)} {cn : Str} {cs : Scope} {a : Addr} {ccd : Value} {cl : List (Str × Addr)} {outer : List Env} {A₀ : Around} {base h₀ : Heap} {L : Addr} {m : Str → Option Value} {s : Shared} {news : List (Addr × Obj)} {Q E : Value → Shared → Prop}
theorem lev_wd {t : Tri} {k : Nat} {tx ty tm : Tok} (h8 : le8 t) (hk3 : k < 3) (B : Below A₀ base outer h₀) (F : Fr h₀ L s.heap m) (X : (Mine.hd.heap_39 w.params).In h₀) (N : News h₀ L s.heap news) (T : Top p loose mean mg mb h₀) (hk' : cs.kind = .function)
    (hd : dp + 5 < recursionLimit) (hu : un + 80 < cLine)
    (ret : ∀ (u : Tok) (h' : Heap) (tk' : Nat), Fr h₀ L h' m → News h₀ L h' news → Q (.int ((2 * ad (hk t k) (hk t (prv k)) + c3 k : Nat) : Int) u) { s with heap := h', toks := tk' }) :
    wpAny (model PySem.Challenge.rw_rs0052_03.prog w) (ktrTop dp un gd cn cs L a ccd cl outer) (call (.ref 94) [.str (wk t k) tx, .str (wk t (prv k)) ty, .int 99 tm]) Q E s :=
  lev_r B F X N T hk' (wk_len h8 k) (wk_len h8 _) hd hu fun r u h' tk' hT F' N' => by
    rw [told_wd h8 hk3 (by
      have h1 := hk_le h8 k
      have h2 := hk_le h8 (prv k)
      have h3 : c3 k ≤ 2 := by
        match k, hk3 with
        | 0, _ => decide
        | 1, _ => decide
        | 2, _ => decide
      unfold ad
      omega) hT]
    exact ret u h' tk' F' N'
end
theorem sum_three {t : Tri} {ys : List Value} (h : ∀ (q : Nat) y, ys[q]? = some y → ∃ u, y = Value.int ((2 * ad (hk t q) (hk t (prv q)) + c3 q : Nat) : Int) u) (hl : ys.length = 3) : IntsAre ys [((2 * ad (hk t 0) (hk t 2) + 2 : Nat) : Int), ((2 * ad (hk t 1) (hk t 0) + 1 : Nat) : Int), ((2 * ad (hk t 2) (hk t 1) + 2 : Nat) : Int)] := by
  match ys, hl, h with
  | [x, y, z], _, h =>
    obtain ⟨ta, rfl⟩ := h 0 x rfl
    obtain ⟨tb, rfl⟩ := h 1 y rfl
    obtain ⟨tc, rfl⟩ := h 2 z rfl
    exact .cons _ _ (.cons _ _ (.cons _ _ .nil))
theorem sum_rds (t : Tri) : ([((2 * ad (hk t 0) (hk t 2) + 2 : Nat) : Int), ((2 * ad (hk t 1) (hk t 0) + 1 : Nat) : Int), ((2 * ad (hk t 2) (hk t 1) + 2 : Nat) : Int)] : List Int).sum = ((5 + 2 * rds t : Nat) : Int) := by
  unfold rds
  simp only [List.sum_cons, List.sum_nil]
  omega
local macro_rules | `(tactic| walk_at "own item") => `(tactic| first
  | ((with_reducible show wpAny _ _ (subscriptTail _ _ (Value.ref _) (Value.int _ _)) _ _ _); (with_reducible rename News _ _ _ _ => N'); k_dflt (refine' led_item N' ?m ?a ?b ?c ?_ ?d; (case m => first | k_mem | (repeat (first | assumption | apply List.mem_cons_of_mem))); (case a => decide); (case b => decide); (case c => first | assumption | exact rfl); (case d => simp only [subscripted])))
  | ((with_reducible show wpAny _ _ (subscriptTail _ _ (Value.ref _) (Value.int _ _)) _ _ _); (with_reducible rename News _ _ _ _ => N'); k_dflt (refine' led_neg N' ?m ?a ?b ?z ?c ?_ ?d; (case m => first | k_mem | (repeat (first | assumption | apply List.mem_cons_of_mem))); (case a => decide); (case b => (show -((3 : Nat) : Int) ≤ _); decide); (case z => (show 3 ≤ 1000); decide); (case c => exact rfl); (case d => simp only [subscripted]))))
local macro_rules | `(tactic| walk_at "own call") => `(tactic| (
  (with_reducible show wpAny _ _ (call (Value.ref _) _) _ _ _);
  (with_reducible rename Fr _ _ _ _ => F');
  (with_reducible rename News _ _ _ _ => N');
  k_dflt (refine' lev_wd ?x ?y ?B F' ?X N' ?T ?K ?D ?U ?_; (case x => assumption); (case y => decide); (case B => k_asm); (case X => k_asm); (case T => k_asm); (case K => exact rfl); (case D => ktr_room); (case U => ktr_units)); intro t9 h9 tk9 F9 N9; (try dsimp only)))
section
variable {fa lc : Addr} {w : World} {p : Program} {loose : List Str} {mean : ExcName → Option Value} {mg mb : Str → Option Value} {base h₀ : Heap} {m : Str → Option Value} {s : Shared} {Q : Flow → Shared → Prop}
set_option maxRecDepth 100000 in
set_option maxHeartbeats 1000000 in
theorem uneven_w {L' D Sw Sh : Addr} {o2 o3 : Obj} {ws cs' : List Value} {tri : Tri} {u : Str → Option Value} {ds : List Addr} {rest : List (Addr × Obj)} {j : Nat}
    (hle : le8 tri) (hMid : Mid L' tri 0 Sh Sw D ws cs' o2 rest ds)
    (B : Below callerA base [] h₀) (X : (Mine.hd.heap_39 w.params).In h₀) (T : Top p loose mean mg mb h₀)
    (F : Fr h₀ L' s.heap (kstB u [(Str.ofString "sweets", .ref Sw), (Str.ofString "cells", .ref D)])) (N : News h₀ L' s.heap ((Sh, PySem.W.listOf (ds.map Value.ref).toArray j) :: (L' + 1 + 1, o2) :: (L' + 1 + 1 + 1, o3) :: rest))
    (ret : ∀ h' tk' u' tu, Fr h₀ L' h' (kstB u' [(Str.ofString "uneven", .int ((5 + 2 * rds tri : Nat) : Int) tu), (Str.ofString "sweets", .ref Sw), (Str.ofString "cells", .ref D)]) → News h₀ L' h' ((Sh, PySem.W.listOf (ds.map Value.ref).toArray j) :: (L' + 1 + 1, o2) :: (L' + 1 + 1 + 1, o3) :: rest) → Q .next { s with heap := h', toks := tk' }) :
    wpAny (model PySem.Challenge.rw_rs0052_03.prog w) (callerA.deeper (envOfC (Str.ofString "law") (scopeAt PySem.Challenge.rw_rs0052_03.prog 20) L' fa (.ref lc)))
      (exec (stmtAt PySem.Challenge.rw_rs0052_03.prog 20 3) (envOfC (Str.ofString "law") (scopeAt PySem.Challenge.rw_rs0052_03.prog 20) L' fa (.ref lc))) Q (fun _ _ => False) s := by
  obtain ⟨hd2, -, -, -, -, -, -, hlen, hds⟩ := hMid
  obtain ⟨d0, rfl⟩ : ∃ d0, ds = [d0] := by
    match ds, hlen with
    | [d0], _ => exact ⟨d0, rfl⟩
  obtain ⟨ys0, hm0, hys0⟩ := hds 0 Nat.zero_lt_one
  obtain ⟨t0, t1, t2, rfl⟩ := str3 hys0
  have hm1 : (d0, LCg.lst [.str (wk tri 0) t0, .str (wk tri 1) t1, .str (wk tri 2) t2]) ∈ rest := hm0
  clear hm0 hys0 hds hlen
  k_with_none
  w_top off
  revert X
  k_fill
  intro X
  conv in (occs := *) scopeAt _ _ => all_goals whnf
  conv in (occs := *) stmtAt _ _ _ => all_goals whnf
  dsimp only [kstB] at F
  (repeat' ((fail_if_success (with_reducible show LCg.CompEnd _ _ _ _ _ _ _ _ _ _ _ _ _ _)); (fail_if_success (with_reducible show wpAny _ _ (eval (Expr.ListComp _ _ _ _) _) _ _ _)); (fail_if_success (with_reducible show wpAny _ _ (call (Value.builtin "sum") _) _ _ _)); first | walk_at "own item" | walk_at "own call" | ((fail_if_success (with_reducible show wpAny _ _ (call (Value.ref _) _) _ _ _)); (fail_if_success (with_reducible show wpAny _ _ (subscriptTail _ _ (Value.ref _) _) _ _ _)); first | walk1 | (dsimp only; walk1))))
  (rename Fr _ _ _ _ => hF)
  refine' LCg.ListComp_U (cl := [(Str.ofString "shown", L' + 1 + 1)]) hF (by with_unfolding_all rfl) (by decide) (by rfl) (by decide) (by rfl) ?_
  iterate 9 (try ((fail_if_success (with_reducible show LCg.CompSrc _ _ _ _ _ _ _ _ _ _ _ _ _ _)); walk1))
  (rename Fr _ _ _ _ => F8); (rename News _ _ _ _ => N8); (rename IsRange _ _ _ _ _ _ _ _ => rg8)
  refine' LCg.CompSrc.range (n := 3) rfl F8 N8 rg8 (by decide) (by rfl) (by decide) (fun g => comp_idx (fun q y => ∃ u, y = Value.int ((2 * ad (hk tri q) (hk tri (prv q)) + c3 q : Nat) : Int) u) ?turn ?fin)
  case turn =>
    intro q v I oI C2 oC D3 m₂ ys2 h tk E' hq hv hC2 hx F' N' off ne
    obtain ⟨t9, rfl⟩ := hv
    simp only [Int.zero_add] at hx
    rcases (by omega : q = 0 ∨ q = 1 ∨ q = 2) with rfl | rfl | rfl
    · change m₂ _ = some (.int 0 t9) at hx
      (repeat' ((fail_if_success (with_reducible show LCg.CompEnd _ _ _ _ _ _ _ _ _ _ _ _ _ _)); (fail_if_success (with_reducible show wpAny _ _ (eval (Expr.ListComp _ _ _ _) _) _ _ _)); (fail_if_success (with_reducible show wpAny _ _ (call (Value.builtin "sum") _) _ _ _)); first | walk_at "own item" | walk_at "own call" | ((fail_if_success (with_reducible show wpAny _ _ (call (Value.ref _) _) _ _ _)); (fail_if_success (with_reducible show wpAny _ _ (subscriptTail _ _ (Value.ref _) _) _ _ _)); first | walk1 | (dsimp only; walk1))))
      (rename Fr _ _ _ _ => F9); (rename News _ _ _ _ => N9)
      exact ⟨_, _, _, rfl, F9, N9, off, trivial, rfl, _, rfl⟩
    · change m₂ _ = some (.int 1 t9) at hx
      (repeat' ((fail_if_success (with_reducible show LCg.CompEnd _ _ _ _ _ _ _ _ _ _ _ _ _ _)); (fail_if_success (with_reducible show wpAny _ _ (eval (Expr.ListComp _ _ _ _) _) _ _ _)); (fail_if_success (with_reducible show wpAny _ _ (call (Value.builtin "sum") _) _ _ _)); first | walk_at "own item" | walk_at "own call" | ((fail_if_success (with_reducible show wpAny _ _ (call (Value.ref _) _) _ _ _)); (fail_if_success (with_reducible show wpAny _ _ (subscriptTail _ _ (Value.ref _) _) _ _ _)); first | walk1 | (dsimp only; walk1))))
      (rename Fr _ _ _ _ => F9); (rename News _ _ _ _ => N9)
      exact ⟨_, _, _, rfl, F9, N9, off, trivial, rfl, _, rfl⟩
    · change m₂ _ = some (.int 2 t9) at hx
      (repeat' ((fail_if_success (with_reducible show LCg.CompEnd _ _ _ _ _ _ _ _ _ _ _ _ _ _)); (fail_if_success (with_reducible show wpAny _ _ (eval (Expr.ListComp _ _ _ _) _) _ _ _)); (fail_if_success (with_reducible show wpAny _ _ (call (Value.builtin "sum") _) _ _ _)); first | walk_at "own item" | walk_at "own call" | ((fail_if_success (with_reducible show wpAny _ _ (call (Value.ref _) _) _ _ _)); (fail_if_success (with_reducible show wpAny _ _ (subscriptTail _ _ (Value.ref _) _) _ _ _)); first | walk1 | (dsimp only; walk1))))
      (rename Fr _ _ _ _ => F9); (rename News _ _ _ _ => N9)
      exact ⟨_, _, _, rfl, F9, N9, off, trivial, rfl, _, rfl⟩
  case fin =>
    intro ys hl hy
    intro D3 h tk F7 N7 o7
    dsimp only
    clear F8 N8
    (repeat' ((fail_if_success (with_reducible show LCg.CompEnd _ _ _ _ _ _ _ _ _ _ _ _ _ _)); (fail_if_success (with_reducible show wpAny _ _ (eval (Expr.ListComp _ _ _ _) _) _ _ _)); (fail_if_success (with_reducible show wpAny _ _ (call (Value.builtin "sum") _) _ _ _)); first | walk_at "own item" | walk_at "own call" | ((fail_if_success (with_reducible show wpAny _ _ (call (Value.ref _) _) _ _ _)); (fail_if_success (with_reducible show wpAny _ _ (subscriptTail _ _ (Value.ref _) _) _ _ _)); first | walk1 | (dsimp only; walk1))))
    refine sumK rfl F7 N7 (PySem.IsL.isList (n := ys.length) (N7 _ (.head _)).1) (sum_three hy hl) ?_
    intro h9 tk9 t9 F6 N6
    rw [sum_rds]
    clear F7 N7
    dsimp only
    (repeat' ((fail_if_success (with_reducible show LCg.CompEnd _ _ _ _ _ _ _ _ _ _ _ _ _ _)); (fail_if_success (with_reducible show wpAny _ _ (eval (Expr.ListComp _ _ _ _) _) _ _ _)); (fail_if_success (with_reducible show wpAny _ _ (call (Value.builtin "sum") _) _ _ _)); first | walk_at "own item" | walk_at "own call" | ((fail_if_success (with_reducible show wpAny _ _ (call (Value.ref _) _) _ _ _)); (fail_if_success (with_reducible show wpAny _ _ (subscriptTail _ _ (Value.ref _) _) _ _ _)); first | walk1 | (dsimp only; walk1))))
    (rename Fr _ _ _ _ => F9); (rename News _ _ _ _ => N9)
    obtain ⟨u9, F5⟩ := fr_some [(Str.ofString "uneven", .int ((5 + 2 * rds tri : Nat) : Int) _), (Str.ofString "sweets", .ref Sw), (Str.ofString "cells", .ref D)] (by kst_all) F9
    exact ret _ _ u9 _ F5 (cb_drop N9 fun p hp => .tail _ hp)
end
end Mine
end
section
open PySem PySem.W PyProof.Rows
namespace Mine
section
variable {prog : Program} {w : World} {A : Around} {E : Value → Shared → Prop} {s : Shared} {h₀ : Heap} {L : Addr} {m : Str → Option Value} {news : List (Addr × Obj)} {Q : Value → Shared → Prop}
theorem rds_div {r : Nat} {t u : Tok} (h : ∀ t' k, Q (.int (r : Int) t') { s with toks := k }) : wpAny (model prog w) A (binaryOp .FloorDiv (.int (((5 + 2 * r : Nat) : Int) - 5) t) (.int 2 u)) Q E s :=
  floordiv_int (by decide) (by
    rw [show (((5 + 2 * r : Nat) : Int) - 5).fdiv 2 = (r : Int) by
      rw [Int.fdiv_eq_ediv_of_nonneg _ (by decide)]
      omega]
    exact h _ _) (Or.inl (PyProof.noPylong_small (by decide)))
theorem wd_count (h k : Nat) : Txt.count (wd h (let3 k)) (Str.ofString ".") = ((1 + h : Nat) : Int) := by
  rw [dot1, count_one, lst_wd]
  unfold wdL
  rw [List.count_append, List.count_replicate_self, List.count_cons_of_ne (let3_ok k).2.2.2.2.1]
  simp
theorem cnt_dots {h k : Nat} {t u : Tok} (hq : ∀ t' tk, Q (.int ((1 + h : Nat) : Int) t') { s with toks := tk }) : wpAny (model prog w) A (call (.builtin "str.count") [.str (wd h (let3 k)) t, .str (Str.ofString ".") u]) Q E s :=
  KXw.count (wd_count h k) hq
theorem news_front {h : Heap} {x : Addr × Obj} (l1 l2 : List (Addr × Obj)) (N : News h₀ L h (l1 ++ x :: l2)) : News h₀ L h (x :: (l1 ++ l2)) := fun p hp => N p (by
  rcases List.mem_cons.mp hp with e | hp
  · exact e ▸ List.mem_append_right _ (.head _)
  · rcases List.mem_append.mp hp with hp | hp
    · exact List.mem_append_left _ hp
    · exact List.mem_append_right _ (.tail _ hp))
end
theorem w3_at {t : Tri} {ys : List Value} (h : StrsAre ys (W3 t)) {q : Nat} {v : Value} (hv : ys.toArray[q]? = some v) : ∃ (g : Nat) (u : Tok), v = .str (wd g (let3 q)) u ∧ (triH t)[q]? = some (((1 + g : Nat) : Int) - 1) := by
  obtain ⟨y, u, rfl, e⟩ := StrsAre.item h q v (by simpa using hv)
  have z : ∀ g : Nat, (((1 + g : Nat) : Int) - 1) = (g : Int) := fun g => by omega
  match q, e with
  | 0, e => cases e; exact ⟨hf t.1, u, rfl, by rw [z]; rfl⟩
  | 1, e => cases e; exact ⟨hf t.2.1, u, rfl, by rw [z]; rfl⟩
  | 2, e => cases e; exact ⟨hf t.2.2, u, rfl, by rw [z]; rfl⟩
  | j + 3, e => exact nomatch e
theorem ds_last {ds : List Addr} {n : Nat} (h : ds.length = n + 1) : (ds.map Value.ref)[((-1 : Int) + ((ds.map Value.ref).length : Int)).toNat]? = some (.ref (ds.getD n 0)) := by
  rw [List.length_map, h, show ((-1 : Int) + ((n + 1 : Nat) : Int)).toNat = n by omega, List.getElem?_map, List.getElem?_eq_getElem (by omega), List.getD_eq_getElem?_getD, List.getElem?_eq_getElem (by omega)]
  rfl
/-- one round more -/
theorem Mid.more {L' : Addr} {tri : Tri} {n : Nat} {Sh Sw D Dr : Addr} {ws cs ys : List Value} {o2 : Obj} {rest : List (Addr × Obj)} {ds : List Addr} (h : Mid L' tri n Sh Sw D ws cs o2 rest ds) (hr : StrsAre ys (W3 (itN (n + 1) tri))) (h1 : Dr ≠ Sh) (h2 : Dr ≠ L' + 1 + 1 + 1) :
    Mid L' tri (n + 1) Sh Sw D ws cs o2 ((Dr, LCg.lst ys) :: rest) (ds ++ [Dr]) := by
  obtain ⟨a1, a2, a3, a4, a5, a6, a7, a8, a9⟩ := h
  refine ⟨a1, ?_, ?_, a4, a5, .tail _ a6, .tail _ a7, by rw [List.length_append, a8]; rfl, ?_⟩
  · intro p hp
    rcases List.mem_cons.mp hp with rfl | hp
    · exact h1
    · exact a2 p hp
  · intro p hp
    rcases List.mem_cons.mp hp with rfl | hp
    · exact h2
    · exact a3 p hp
  · intro q hq
    rw [List.length_append, List.length_singleton] at hq
    by_cases hlt : q < ds.length
    · obtain ⟨zs, hz, hs⟩ := a9 q hlt
      refine ⟨zs, .tail _ ?_, hs⟩
      have e : (ds ++ [Dr]).getD q 0 = ds.getD q 0 := by
        rw [List.getD_eq_getElem?_getD, List.getD_eq_getElem?_getD, List.getElem?_append_left hlt]
      rw [e]; exact hz
    · have e : q = ds.length := by omega
      subst e
      refine ⟨ys, ?_, by rw [a8]; exact hr⟩
      have e2 : (ds ++ [Dr]).getD ds.length 0 = Dr := by
        rw [List.getD_eq_getElem?_getD, List.getElem?_append_right (Nat.le_refl _), Nat.sub_self]; rfl
      rw [e2]; exact .head _
end Mine
end
section
open PySem PySem.W PyProof.Rows
namespace Mine
local macro_rules | `(tactic| walk_at "own item") => `(tactic| first
  | ((with_reducible show wpAny _ _ (subscriptTail (Expr.Name (Str.ofString "halves") _) _ (Value.ref _) (Value.int _ _)) _ _ _); (with_reducible rename News _ _ _ _ => N'); k_dflt (refine' led_item N' ?m ?a ?b ?c ?_ ?d; (case m => k_mem); (case a => decide); (case b => decide); (case c => exact rfl); (case d => simp only [subscripted])))
  | ((with_reducible show wpAny _ _ (subscriptTail (Expr.Name (Str.ofString "halves") _) _ (Value.ref _) (Value.int _ _)) _ _ _); (with_reducible rename News _ _ _ _ => N'); k_dflt (refine' led_neg N' ?m ?a ?b ?z ?c ?_ ?d; (case m => k_mem); (case a => decide); (case b => (show -((3 : Nat) : Int) ≤ _); decide); (case z => (show 3 ≤ 1000); decide); (case c => exact rfl); (case d => simp only [subscripted])))
  | ((with_reducible show wpAny _ _ (subscriptTail (Expr.Name (Str.ofString "shown") _) _ (Value.ref _) (Value.int _ _)) _ _ _); (with_reducible rename News _ _ _ _ => N'); k_dflt (refine' led_neg N' ?m ?a ?b ?z ?c ?_ ?d; (case m => k_mem); (case a => decide); (case b => (rw [List.length_map]); omega); (case z => (rw [List.length_map]); omega); (case c => assumption); (case d => simp only [subscripted])))
  | ((with_reducible show wpAny _ _ (subscriptTail (Expr.Name (Str.ofString "cells") _) _ (Value.ref _) (Value.int _ _)) _ _ _); (with_reducible rename News _ _ _ _ => N'); k_dflt (refine' led_item N' ?m ?a ?b ?c ?_ ?d; (case m => (repeat (first | assumption | apply List.mem_cons_of_mem))); (case a => decide); (case b => decide); (case c => exact rfl); (case d => simp only [subscripted])))
  | ((with_reducible show wpAny _ _ (binaryOp Operator.FloorDiv (Value.int _ _) (Value.int _ _)) _ _ _); k_dflt (refine' rds_div ?_); intro _ _)
  | ((with_reducible show wpAny _ _ (call (Value.builtin "str.count") _) _ _ _); k_dflt (refine' cnt_dots ?_); intro _ _)
  | ((with_reducible show wpAny _ _ (storeName _ (Str.ofString "halves") _) _ _ _); (with_reducible rename Fr _ _ _ _ => F'); (with_reducible rename News _ _ _ _ => N'); k_dflt (refine' storeX_C (cl := [(Str.ofString "halves", _), (Str.ofString "shown", _), (Str.ofString "script", _)]) F' N' ?c ?U ?d ?_ ?a ?b; (case a => rfl); (case b => rfl); (case c => rfl); (case U => exact UpdF.tail (by assumption) (UpdF.tail (by assumption) (UpdF.tail (by assumption) (UpdF.tail (by k_ne) (UpdF.head (by assumption)))))); (case d => assumption)); intro h8 o8 F8 N8 d8; (try dsimp only at N8)))
section
variable {fa lc : Addr} {w : World} {p : Program} {loose : List Str} {mean : ExcName → Option Value} {mg mb : Str → Option Value} {base h₀ : Heap} {m : Str → Option Value} {s : Shared} {Q : Flow → Shared → Prop}
set_option maxRecDepth 100000 in
set_option maxHeartbeats 1000000 in
theorem rounds_w {L' D Sw Sh : Addr} {o2 o3 : Obj} {ws : List Value} {tri : Tri} {u : Str → Option Value} {ds : List Addr} {rest : List (Addr × Obj)} {j : Nat} {v3 : Option Value} {tu : Tok} {c0 c1 c2 c3 : Int} {t0 t1 t2 t3 : Tok}
    (hle : le8 tri) (hMid : Mid L' tri 0 Sh Sw D ws [.int c0 t0, .int c1 t1, .int c2 t2, .int c3 t3] o2 rest ds) (h3 : o3.data = .cell v3)
    (B : Below callerA base [] h₀) (X : (Mine.hd.heap_39 w.params).In h₀) (T : Top p loose mean mg mb h₀)
    (F : Fr h₀ L' s.heap (kstB u [(Str.ofString "uneven", .int ((5 + 2 * rds tri : Nat) : Int) tu), (Str.ofString "sweets", .ref Sw), (Str.ofString "cells", .ref D)])) (N : News h₀ L' s.heap ((Sh, PySem.W.listOf (ds.map Value.ref).toArray j) :: (L' + 1 + 1, o2) :: (L' + 1 + 1 + 1, o3) :: rest))
    (ret : ∀ h' tk' u' ds' rest' j', Mid L' tri (rds tri) Sh Sw D ws [.int c0 t0, .int c1 t1, .int c2 t2, .int c3 t3] o2 rest' ds' → Fr h₀ L' h' (kstB u' [(Str.ofString "sweets", .ref Sw), (Str.ofString "cells", .ref D)]) → News h₀ L' h' ((Sh, PySem.W.listOf (ds'.map Value.ref).toArray j') :: (L' + 1 + 1, o2) :: rest') → Q .next { s with heap := h', toks := tk' }) :
    wpAny (model PySem.Challenge.rw_rs0052_03.prog w) (callerA.deeper (envOfC (Str.ofString "law") (scopeAt PySem.Challenge.rw_rs0052_03.prog 20) L' fa (.ref lc)))
      (exec (stmtAt PySem.Challenge.rw_rs0052_03.prog 20 4) (envOfC (Str.ofString "law") (scopeAt PySem.Challenge.rw_rs0052_03.prog 20) L' fa (.ref lc))) Q (fun _ _ => False) s := by
  k_with_none
  w_top off
  revert X
  k_fill
  intro X
  conv in (occs := *) stmtAt _ _ _ => all_goals whnf
  have hr12 := rds_le hle
  refine' For_invTF F ?_ ?hs ?hE
  case hs => intro _; rfl
  case hE => passes_own
  dsimp only [kstB] at F
  (repeat' ((fail_if_success (with_reducible show LCg.CompEnd _ _ _ _ _ _ _ _ _ _ _ _ _ _)); (fail_if_success (with_reducible show wpAny _ _ (exec (Stmt.For _ _ _ _ _) _) _ _ _)); (fail_if_success (with_reducible show wpAny _ _ (pyIter _) _ _ _)); (fail_if_success (with_reducible show wpAny _ _ (eval (Expr.ListComp _ _ _ _) _) _ _ _)); (fail_if_success (with_reducible show LCg.CompSrc _ _ _ _ _ _ _ _ _ _ _ _ _ _)); first | walk_at "own item" | ((fail_if_success (with_reducible show wpAny _ _ (call (Value.ref _) _) _ _ _)); (fail_if_success (with_reducible show wpAny _ _ (call (Value.builtin "list.append") _) _ _ _)); (fail_if_success (with_reducible show wpAny _ _ (subscriptTail (Expr.Name _ _) _ (Value.ref _) _) _ _ _)); first | walk1 | (dsimp only; walk1))))
  (rename Fr _ _ _ _ => F1); (rename News _ _ _ _ => N1); (rename IsRange _ _ _ _ _ _ _ _ => rg1)
  obtain ⟨u1, F2⟩ := fr_some [(Str.ofString "sweets", Value.ref Sw), (Str.ofString "cells", Value.ref D)] (by kst_all) F1
  refine' iter_rangeT (fun i m' news' => ∃ u' ds' rest' j' q3 w3, m' = kstB u' [(Str.ofString "sweets", Value.ref Sw), (Str.ofString "cells", Value.ref D)] ∧ Mid L' tri i Sh Sw D ws [.int c0 t0, .int c1 t1, .int c2 t2, .int c3 t3] o2 rest' ds' ∧ Obj.data q3 = .cell w3 ∧ news' = (Sh, PySem.W.listOf (List.toArray (ds'.map Value.ref)) j') :: (L' + 1 + 1, o2) :: (L' + 1 + 1 + 1, q3) :: rest')
    rfl rg1 (small_one (by omega) (by omega) (by omega) (by omega)) (rangeSize_nat _ _) F2 N1 (fun _ _ => rfl) ⟨u1, ds, rest, j, o3, v3, rfl, hMid, h3, rfl⟩ ?turn ?done
  case done =>
    rintro h' tk m' news' F4 N4 ⟨u', ds', rest', j', q3, w3, rfl, hM, -, rfl⟩
    rw [show ((rds tri : Int) - 0).toNat = rds tri by omega] at hM
    exact ret h' tk u' ds' rest' j' hM F4 (fun p hp => N4 p (by
      rcases List.mem_cons.mp hp with e | hp
      · exact e ▸ .head _
      · rcases List.mem_cons.mp hp with e | hp
        · exact e ▸ .tail _ (.head _)
        · exact .tail _ (.tail _ (.tail _ hp))))
  case turn =>
    rintro i t I1 it1 m₁ news₁ s₁ hi ⟨u', ds', rest', j', q3, w3, rfl, hM, hq3, rfl⟩ F4 N4 hoff
    have hM0 := hM
    obtain ⟨hd2, hrS, hr3, hS2, hS3, hmSw, hmD, hlen, hds⟩ := hM
    have hi12 : i < 12 := by omega
    have hI3 : I1 ≠ L' + 1 + 1 + 1 := Ne.symm (hoff (L' + 1 + 1 + 1, q3) (.tail _ (.tail _ (.head _))))
    have hS3' : Sh ≠ L' + 1 + 1 + 1 := hS3
    obtain ⟨ysl, hml, hysl⟩ := hds i (by rw [hlen]; exact Nat.lt_succ_self _)
    have hlast := ds_last hlen
    generalize hdl : ds'.getD i 0 = dl at hml hlast
    clear F1 N1 F2 rg1
    dsimp only [kstB] at F4
    walk1
    walk1
    try dsimp only
    (repeat' ((fail_if_success (with_reducible show LCg.CompEnd _ _ _ _ _ _ _ _ _ _ _ _ _ _)); (fail_if_success (with_reducible show wpAny _ _ (exec (Stmt.For _ _ _ _ _) _) _ _ _)); (fail_if_success (with_reducible show wpAny _ _ (pyIter _) _ _ _)); (fail_if_success (with_reducible show wpAny _ _ (eval (Expr.ListComp _ _ _ _) _) _ _ _)); (fail_if_success (with_reducible show LCg.CompSrc _ _ _ _ _ _ _ _ _ _ _ _ _ _)); first | walk_at "own item" | ((fail_if_success (with_reducible show wpAny _ _ (call (Value.ref _) _) _ _ _)); (fail_if_success (with_reducible show wpAny _ _ (call (Value.builtin "list.append") _) _ _ _)); (fail_if_success (with_reducible show wpAny _ _ (subscriptTail (Expr.Name _ _) _ (Value.ref _) _) _ _ _)); first | walk1 | (dsimp only; walk1))))
    (rename Fr _ _ _ _ => hF)
    refine' LCg.ListComp_U (cl := []) hF (by with_unfolding_all rfl) (by decide) (by rfl) (by decide) (by rfl) ?_
    (repeat' ((fail_if_success (with_reducible show LCg.CompEnd _ _ _ _ _ _ _ _ _ _ _ _ _ _)); (fail_if_success (with_reducible show wpAny _ _ (exec (Stmt.For _ _ _ _ _) _) _ _ _)); (fail_if_success (with_reducible show wpAny _ _ (pyIter _) _ _ _)); (fail_if_success (with_reducible show wpAny _ _ (eval (Expr.ListComp _ _ _ _) _) _ _ _)); (fail_if_success (with_reducible show LCg.CompSrc _ _ _ _ _ _ _ _ _ _ _ _ _ _)); first | walk_at "own item" | ((fail_if_success (with_reducible show wpAny _ _ (call (Value.ref _) _) _ _ _)); (fail_if_success (with_reducible show wpAny _ _ (call (Value.builtin "list.append") _) _ _ _)); (fail_if_success (with_reducible show wpAny _ _ (subscriptTail (Expr.Name _ _) _ (Value.ref _) _) _ _ _)); first | walk1 | (dsimp only; walk1))))
    (rename Fr _ _ _ _ => F8); (rename News _ _ _ _ => N8)
    refine' LCg.CompSrc.ledger (k := ysl.length) (its := ysl.toArray) rfl F8 N8 (.tail _ (.tail _ (.tail _ (.tail _ hml)))) ?sz (fun g => comp_idx (fun q z => ∃ n t, z = Value.int n t ∧ (triH (itN i tri))[q]? = some n) ?turn2 ?fin2)
    case sz => rw [List.size_toArray, hysl.length]; show 3 ≤ sizeLine; decide
    case turn2 =>
      intro q v I oI C2 oC D2 m₂ ys2 h tk E' hq hv hC2 hx F' N' off ne
      obtain ⟨g9, u9, rfl, e⟩ := w3_at hysl hv
      (repeat' ((fail_if_success (with_reducible show LCg.CompEnd _ _ _ _ _ _ _ _ _ _ _ _ _ _)); (fail_if_success (with_reducible show wpAny _ _ (exec (Stmt.For _ _ _ _ _) _) _ _ _)); (fail_if_success (with_reducible show wpAny _ _ (pyIter _) _ _ _)); (fail_if_success (with_reducible show wpAny _ _ (eval (Expr.ListComp _ _ _ _) _) _ _ _)); (fail_if_success (with_reducible show LCg.CompSrc _ _ _ _ _ _ _ _ _ _ _ _ _ _)); first | walk_at "own item" | ((fail_if_success (with_reducible show wpAny _ _ (call (Value.ref _) _) _ _ _)); (fail_if_success (with_reducible show wpAny _ _ (call (Value.builtin "list.append") _) _ _ _)); (fail_if_success (with_reducible show wpAny _ _ (subscriptTail (Expr.Name _ _) _ (Value.ref _) _) _ _ _)); first | walk1 | (dsimp only; walk1))))
      (rename Fr _ _ _ _ => F9); (rename News _ _ _ _ => N9)
      exact ⟨_, _, _, rfl, F9, N9, off, .inr ⟨_, .tail _ (.tail _ (.tail _ (.tail _ hml))), rfl, _, rfl⟩, rfl, _, _, rfl, e⟩
    case fin2 =>
      intro ys hl2 hy2
      have hys := ints_of (ns := triH (itN i tri)) (hl2.trans (by rw [List.size_toArray, hysl.length]; rfl)) hy2
      intro D2 h tk F7 N7 oW
      simp only [LCg.Off1] at oW
      obtain ⟨oW1, oW2, oW3, oW4, oW5⟩ := oW
      have hDc : D2 ≠ L' + 1 + 1 + 1 := Ne.symm oW4
      dsimp only
      clear F8 N8
      (repeat' ((fail_if_success (with_reducible show LCg.CompEnd _ _ _ _ _ _ _ _ _ _ _ _ _ _)); (fail_if_success (with_reducible show wpAny _ _ (exec (Stmt.For _ _ _ _ _) _) _ _ _)); (fail_if_success (with_reducible show wpAny _ _ (pyIter _) _ _ _)); (fail_if_success (with_reducible show wpAny _ _ (eval (Expr.ListComp _ _ _ _) _) _ _ _)); (fail_if_success (with_reducible show LCg.CompSrc _ _ _ _ _ _ _ _ _ _ _ _ _ _)); first | walk_at "own item" | ((fail_if_success (with_reducible show wpAny _ _ (call (Value.ref _) _) _ _ _)); (fail_if_success (with_reducible show wpAny _ _ (call (Value.builtin "list.append") _) _ _ _)); (fail_if_success (with_reducible show wpAny _ _ (subscriptTail (Expr.Name _ _) _ (Value.ref _) _) _ _ _)); first | walk1 | (dsimp only; walk1))))
      obtain ⟨y0, y1, y2, rfl⟩ := int3 hys
      (rename Fr _ _ _ _ => hF2)
      refine' LCg.ListComp_U (cl := [(Str.ofString "halves", L' + 1 + 1 + 1)]) hF2 (by with_unfolding_all rfl) (by decide) (by rfl) (by decide) (by rfl) ?_
      (repeat' ((fail_if_success (with_reducible show LCg.CompEnd _ _ _ _ _ _ _ _ _ _ _ _ _ _)); (fail_if_success (with_reducible show wpAny _ _ (exec (Stmt.For _ _ _ _ _) _) _ _ _)); (fail_if_success (with_reducible show wpAny _ _ (pyIter _) _ _ _)); (fail_if_success (with_reducible show wpAny _ _ (eval (Expr.ListComp _ _ _ _) _) _ _ _)); (fail_if_success (with_reducible show LCg.CompSrc _ _ _ _ _ _ _ _ _ _ _ _ _ _)); first | walk_at "own item" | ((fail_if_success (with_reducible show wpAny _ _ (call (Value.ref _) _) _ _ _)); (fail_if_success (with_reducible show wpAny _ _ (call (Value.builtin "list.append") _) _ _ _)); (fail_if_success (with_reducible show wpAny _ _ (subscriptTail (Expr.Name _ _) _ (Value.ref _) _) _ _ _)); first | walk1 | (dsimp only; walk1))))
      (rename Fr _ _ _ _ => F8); (rename News _ _ _ _ => N8); (rename IsRange _ _ _ _ _ _ _ _ => rg8)
      refine' LCg.CompSrc.range (n := 3) rfl F8 N8 rg8 (by decide) (by rfl) (by decide) (fun g => comp_idx (fun q z => ∃ n t, z = Value.int n t ∧ (triI (nx (itN i tri)))[q]? = some n) ?turn3 ?fin3)
      case turn3 =>
        intro q v I oI C2 oC D3 m₂ ys2 h tk E' hq hv hC2 hx F' N' off ne
        obtain ⟨t9, rfl⟩ := hv
        simp only [Int.zero_add] at hx
        rcases (by omega : q = 0 ∨ q = 1 ∨ q = 2) with rfl | rfl | rfl
        · change m₂ _ = some (.int 0 t9) at hx
          (repeat' ((fail_if_success (with_reducible show LCg.CompEnd _ _ _ _ _ _ _ _ _ _ _ _ _ _)); (fail_if_success (with_reducible show wpAny _ _ (exec (Stmt.For _ _ _ _ _) _) _ _ _)); (fail_if_success (with_reducible show wpAny _ _ (pyIter _) _ _ _)); (fail_if_success (with_reducible show wpAny _ _ (eval (Expr.ListComp _ _ _ _) _) _ _ _)); (fail_if_success (with_reducible show LCg.CompSrc _ _ _ _ _ _ _ _ _ _ _ _ _ _)); first | walk_at "own item" | ((fail_if_success (with_reducible show wpAny _ _ (call (Value.ref _) _) _ _ _)); (fail_if_success (with_reducible show wpAny _ _ (call (Value.builtin "list.append") _) _ _ _)); (fail_if_success (with_reducible show wpAny _ _ (subscriptTail (Expr.Name _ _) _ (Value.ref _) _) _ _ _)); first | walk1 | (dsimp only; walk1))))
          (rename Fr _ _ _ _ => F9); (rename News _ _ _ _ => N9)
          exact ⟨_, _, _, rfl, F9, N9, off, trivial, rfl, _, _, rfl, rfl⟩
        · change m₂ _ = some (.int 1 t9) at hx
          (repeat' ((fail_if_success (with_reducible show LCg.CompEnd _ _ _ _ _ _ _ _ _ _ _ _ _ _)); (fail_if_success (with_reducible show wpAny _ _ (exec (Stmt.For _ _ _ _ _) _) _ _ _)); (fail_if_success (with_reducible show wpAny _ _ (pyIter _) _ _ _)); (fail_if_success (with_reducible show wpAny _ _ (eval (Expr.ListComp _ _ _ _) _) _ _ _)); (fail_if_success (with_reducible show LCg.CompSrc _ _ _ _ _ _ _ _ _ _ _ _ _ _)); first | walk_at "own item" | ((fail_if_success (with_reducible show wpAny _ _ (call (Value.ref _) _) _ _ _)); (fail_if_success (with_reducible show wpAny _ _ (call (Value.builtin "list.append") _) _ _ _)); (fail_if_success (with_reducible show wpAny _ _ (subscriptTail (Expr.Name _ _) _ (Value.ref _) _) _ _ _)); first | walk1 | (dsimp only; walk1))))
          (rename Fr _ _ _ _ => F9); (rename News _ _ _ _ => N9)
          exact ⟨_, _, _, rfl, F9, N9, off, trivial, rfl, _, _, rfl, rfl⟩
        · change m₂ _ = some (.int 2 t9) at hx
          (repeat' ((fail_if_success (with_reducible show LCg.CompEnd _ _ _ _ _ _ _ _ _ _ _ _ _ _)); (fail_if_success (with_reducible show wpAny _ _ (exec (Stmt.For _ _ _ _ _) _) _ _ _)); (fail_if_success (with_reducible show wpAny _ _ (pyIter _) _ _ _)); (fail_if_success (with_reducible show wpAny _ _ (eval (Expr.ListComp _ _ _ _) _) _ _ _)); (fail_if_success (with_reducible show LCg.CompSrc _ _ _ _ _ _ _ _ _ _ _ _ _ _)); first | walk_at "own item" | ((fail_if_success (with_reducible show wpAny _ _ (call (Value.ref _) _) _ _ _)); (fail_if_success (with_reducible show wpAny _ _ (call (Value.builtin "list.append") _) _ _ _)); (fail_if_success (with_reducible show wpAny _ _ (subscriptTail (Expr.Name _ _) _ (Value.ref _) _) _ _ _)); first | walk1 | (dsimp only; walk1))))
          (rename Fr _ _ _ _ => F9); (rename News _ _ _ _ => N9)
          exact ⟨_, _, _, rfl, F9, N9, off, trivial, rfl, _, _, rfl, rfl⟩
      case fin3 =>
        intro ys3 hl3 hy3
        have hys3 := ints_of (ns := triI (nx (itN i tri))) hl3 hy3
        obtain ⟨n0, n1, n2⟩ := nx_le (itN_le hle i)
        intro D3 h3 tk3 F10 N10 oX
        simp only [LCg.Off1] at oX
        obtain ⟨oX1, oX2, oX3, oX4, oX5, oX6⟩ := oX
        dsimp only
        clear F8 N8
        (repeat' ((fail_if_success (with_reducible show LCg.CompEnd _ _ _ _ _ _ _ _ _ _ _ _ _ _)); (fail_if_success (with_reducible show wpAny _ _ (exec (Stmt.For _ _ _ _ _) _) _ _ _)); (fail_if_success (with_reducible show wpAny _ _ (pyIter _) _ _ _)); (fail_if_success (with_reducible show wpAny _ _ (eval (Expr.ListComp _ _ _ _) _) _ _ _)); (fail_if_success (with_reducible show LCg.CompSrc _ _ _ _ _ _ _ _ _ _ _ _ _ _)); first | walk_at "own item" | ((fail_if_success (with_reducible show wpAny _ _ (call (Value.ref _) _) _ _ _)); (fail_if_success (with_reducible show wpAny _ _ (call (Value.builtin "list.append") _) _ _ _)); (fail_if_success (with_reducible show wpAny _ _ (subscriptTail (Expr.Name _ _) _ (Value.ref _) _) _ _ _)); first | walk1 | (dsimp only; walk1))))
        (rename Fr _ _ _ _ => F11); (rename News _ _ _ _ => N11)
        rename Obj => x3
        rename Obj.data x3 = _ => hx3
        k_dflt (refine' round_r ?B F11 ?X N11 ?T ?K (.head _) hys3 ?x0 ?x1 ?x2 ?D ?U ?_; (case B => k_asm); (case X => k_asm); (case T => k_asm); (case K => exact rfl); (case x0 => exact Nat.le_trans n0 (by decide)); (case x1 => exact Nat.le_trans n1 (by decide)); (case x2 => exact Nat.le_trans n2 (by decide)); (case D => ktr_room); (case U => ktr_units))
        intro Dr ysr hr tkr hysr F12 N12 o12
        simp only [LCg.Off1] at o12
        obtain ⟨q1, q2, q3', q4, q5, q6, q7⟩ := o12
        have hSI : Sh ≠ I1 := hoff (Sh, _) (.head _)
        dsimp only
        (repeat' ((fail_if_success (with_reducible show LCg.CompEnd _ _ _ _ _ _ _ _ _ _ _ _ _ _)); (fail_if_success (with_reducible show wpAny _ _ (exec (Stmt.For _ _ _ _ _) _) _ _ _)); (fail_if_success (with_reducible show wpAny _ _ (pyIter _) _ _ _)); (fail_if_success (with_reducible show wpAny _ _ (eval (Expr.ListComp _ _ _ _) _) _ _ _)); (fail_if_success (with_reducible show LCg.CompSrc _ _ _ _ _ _ _ _ _ _ _ _ _ _)); first | walk_at "own item" | ((fail_if_success (with_reducible show wpAny _ _ (call (Value.ref _) _) _ _ _)); (fail_if_success (with_reducible show wpAny _ _ (call (Value.builtin "list.append") _) _ _ _)); (fail_if_success (with_reducible show wpAny _ _ (subscriptTail (Expr.Name _ _) _ (Value.ref _) _) _ _ _)); first | walk1 | (dsimp only; walk1))))
        have N13 := news_front [(Dr, LCg.lst ysr), (D3, LCg.lst ys3), (D2, LCg.lst _), (I1, it1)] ((L' + 1 + 1, o2) :: (L' + 1 + 1 + 1, x3) :: rest') N12
        have hap := of_off1 (D := Sh) (l := [(Dr, LCg.lst ysr), (D3, LCg.lst ys3), (D2, LCg.lst [Value.int (hf (itN i tri).1) y0, Value.int (hf (itN i tri).2.1) y1, Value.int (hf (itN i tri).2.2) y2]), (I1, it1)] ++ ((L' + 1 + 1, o2) :: (L' + 1 + 1 + 1, x3) :: rest')) ⟨Ne.symm q4, Ne.symm oX3, Ne.symm oW2, Ne.symm hSI, Ne.symm hS2, Ne.symm hS3, off1_of hrS⟩
        have hsz : (ds'.map Value.ref).toArray.size ≤ sizeLine := by rw [List.size_toArray, List.length_map, hlen]; exact Nat.le_trans (Nat.succ_le_succ (Nat.le_of_lt hi12)) (by decide)
        refine append_head (hsz := hsz) F12 N13 hap ?_
        intro h14 F14 N14
        rw [List.push_toArray, show ds'.map Value.ref ++ [Value.ref Dr] = (ds' ++ [Dr]).map Value.ref by simp] at N14
        dsimp only
        refine wpAny_execs_nil ?_
        obtain ⟨u15, F15⟩ := fr_some [(Str.ofString "sweets", Value.ref Sw), (Str.ofString "cells", Value.ref D)] (by kst_all) F14
        refine ⟨rfl, _, _, _, _, rfl, F15, ?_, ?_, u15, ds' ++ [Dr], (Dr, LCg.lst ysr) :: rest', j' + 1, x3, _, rfl, Mid.more hM0 hysr (Ne.symm q4) (Ne.symm q6), hx3, rfl⟩
        · exact fun p hp => N14 p (by
            simp only [List.mem_cons, List.mem_append, List.cons_append, List.nil_append] at hp ⊢
            rcases hp with h | h | h | h | h | h <;> simp [h])
        · exact of_off1 ⟨hSI, hoff (L' + 1 + 1, o2) (.tail _ (.head _)), hoff (L' + 1 + 1 + 1, q3) (.tail _ (.tail _ (.head _))), Ne.symm q3', off1_of fun p hp => hoff p (.tail _ (.tail _ (.tail _ hp)))⟩
end
end Mine
end
section
open PySem PySem.W PyProof.Rows PySem.Spec
namespace Mine
section
variable {prog : Program} {w : World} {A : Around} {E : Value → Shared → Prop} {s : Shared} {env : Env} {h₀ : Heap} {target : Expr} {body : List Stmt} {Q : Flow → Shared → Prop}
theorem iter_listT {ax : Addr} {ot : Obj} {items : Array Value} {m₀ : Str → Option Value} {news : List (Addr × Obj)} (J : Nat → (Str → Option Value) → List (Addr × Obj) → Prop)
    (hh : A.handled = none) (ht : s.heap.IsList ax items) (F : Fr h₀ env.locals s.heap m₀) (N : News h₀ env.locals s.heap news) (hm : ∀ i m' news', J i m' news' → (ax, ot) ∈ news')
    (hgo : ∀ I v, letOwnedTupleGo target (.ref I) v = pure ()) (h0 : J 0 m₀ news)
    (turn : ∀ i v I it m₁ news₁ s₁, items[i]? = some v → J i m₁ news₁ → Fr h₀ env.locals s₁.heap m₁ → News h₀ env.locals s₁.heap ((I, it) :: news₁) → (∀ p ∈ news₁, p.1 ≠ I) →
      wpAny (model prog w) A (assign target env v) (fun _ s₃ => wpAny (model prog w) A (execs body env) (TurnE h₀ env.locals s₁ I it (J (i + 1))) E s₃) E s₁)
    (done : ∀ h' tk m' news', Fr h₀ env.locals h' m' → News h₀ env.locals h' news' → J items.size m' news' → Q .next { s with heap := h', toks := tk }) :
    wpAny (model prog w) A (pyIter (.ref ax)) (fun it s₂ => LoopAtT prog w A h₀ env target body Q E it s₂) E s := by
  refine wpAny_pyIter_list ht ?_
  have hlt : ax < s.heap.objs.size := by obtain ⟨_, e, _⟩ := id ht; exact Heap.lt_size e
  have hax := N _ (hm 0 _ _ h0)
  have hnew := next_is_new F
  have up : ∀ b o, s.heap.get? b = some o → (s.heap.push { cls := .type "list_iterator", data := .fields #[.ref ax, .int 0 0] }).get? b = some o := fun b o e => Heap.get?_push_of_some _ e
  refine ⟨_, _, _, items.size, _, _, m₀, news, J, rfl, Walks.list hh s.heap.objs.size ax (Nat.ne_of_lt hlt) items, ?_, ?_, ?_, ⟨⟨_, Heap.get?_push_size _ rfl, rfl, rfl⟩, ?_⟩, F.push _, (fun p hp => ⟨Heap.get?_push_of_some _ (N p hp).1, (N p hp).2⟩), ?_, h0, ?_, ?_⟩
  · intro hmem
    rcases List.mem_cons.mp hmem with e | hmem
    · exact absurd F.ns.lt (e ▸ Nat.lt_irrefl _)
    · exact hax.2.1 (List.mem_singleton.mp hmem).symm
  · intro b hb
    rw [List.mem_singleton.mp hb]
    exact hnew
  · intro p hp hI
    exact absurd (Heap.lt_size (N p hp).1) ((List.mem_singleton.mp hI) ▸ Nat.lt_irrefl _)
  · obtain ⟨o, e, r⟩ := id ht; exact ⟨o, up _ _ e, r⟩
  · intro i s' v Q' _ hq
    rw [hgo]
    exact wpAny_pure hq
  · rintro i v m₁ news₁ s₁ own hi hPv hJ hoff hown hget hall hst F₁ N₁
    obtain ⟨o, ho⟩ : ∃ o, s₁.heap.get? s.heap.objs.size = some o := by obtain ⟨o, e, _⟩ := hst.1; exact ⟨o, e⟩
    have hmem := hall s.heap.objs.size (.head _) hnew _ ho
    have N₂ : News h₀ env.locals s₁.heap ((s.heap.objs.size, o) :: news₁) := fun p hp => by
      rcases List.mem_cons.mp hp with rfl | hp
      · exact N₁ _ (List.mem_append_left _ hmem)
      · exact N₁ _ (List.mem_append_right _ hp)
    refine wpAny_mono (turn i v _ o m₁ news₁ s₁ hPv hJ F₁ N₂ (fun p hp e => hoff p hp (List.mem_singleton.mpr e))) (fun _ s₃ h₃ => wpAny_mono h₃ (fun f s₂ h₂ => ?_) fun _ _ e => e) fun _ _ e => e
    obtain ⟨rfl, h', tk', m', news', rfl, F', N', ho', hJ'⟩ := h₂
    refine ⟨rfl, h', tk', m', news', rfl, F', fun p hp => ?_, fun p hp hI => ho' p hp (List.mem_singleton.mp hI), hJ'⟩
    rcases List.mem_append.mp hp with hp | hp
    · have h2 : s₁.heap.get? p.1 = some p.2 := hget p hp
      rcases List.mem_cons.mp (hown p hp) with h1 | h1
      · have h3 : p = (s.heap.objs.size, o) := by
          rw [h1, ho] at h2
          exact Prod.ext h1 (Option.some.inj h2).symm
        rw [h3]; exact N' _ (List.mem_cons_self ..)
      · have h1' : p.1 = ax := List.mem_singleton.mp h1
        have e1 := (N₁ (ax, ot) (List.mem_append_right _ (hm _ _ _ hJ))).1
        have h3 : p = (ax, ot) := by
          rw [h1', e1] at h2
          exact Prod.ext h1' (Option.some.inj h2).symm
        rw [h3]; exact N' _ (List.mem_cons_of_mem _ (hm _ _ _ hJ'))
    · exact N' _ (List.mem_cons_of_mem _ hp)
  · rintro h' tk m' news' F' N' _ hJ
    exact done h' tk m' news' F' N' hJ
end
end Mine
end
section
open PySem PySem.W PyProof.Rows
namespace Mine
def bodyOf : Stmt → List Stmt
  | .For _ _ b _ _ => b
  | _ => []
def fstOf (l : List Stmt) : Stmt := (l[0]?).getD default
section
variable {w : World} {p : Program} {loose : List Str} {mean : ExcName → Option Value} {mg mb : Str → Option Value} {dp un : Nat} {gd : Option (List Code)} {cn : Str} {cs : Scope} {a : Addr} {ccd : Value} {cl : List (Str × Addr)} {outer : List Env} {A₀ : Around} {base h₀ : Heap} {L : Addr} {m : Str → Option Value} {s : Shared} {news : List (Addr × Obj)} {Q E : Value → Shared → Prop}
theorem lev_dw {t : Tri} {k : Nat} {z : Str} {mx : Int} {tx ty tm : Tok} (hz : z = wk t (prv k)) (h8 : le8 t) (hk3 : k < 3) (hmx : mx = ((2 * ad (hk t k) (hk t (prv k)) + c3 k : Nat) : Int)) (B : Below A₀ base outer h₀) (F : Fr h₀ L s.heap m) (X : (Mine.hd.heap_39 w.params).In h₀) (N : News h₀ L s.heap news) (T : Top p loose mean mg mb h₀) (hk' : cs.kind = .function)
    (hd : dp + 5 < recursionLimit) (hu : un + 80 < cLine)
    (ret : ∀ (u : Tok) (h' : Heap) (tk' : Nat), Fr h₀ L h' m → News h₀ L h' news → Q (.int mx u) { s with heap := h', toks := tk' }) :
    wpAny (model PySem.Challenge.rw_rs0052_03.prog w) (ktrTop dp un gd cn cs L a ccd cl outer) (call (.ref 94) [.str z tx, .str (wk t k) ty, .int mx tm]) Q E s := by
  subst hz
  exact lev_r B F X N T hk' (wk_len h8 _) (wk_len h8 k) hd hu fun r u h' tk' hT F' N' => by
    rw [told_dw h8 hk3 (Int.le_of_eq hmx.symm) hT, ← hmx]
    exact ret u h' tk' F' N'
end
theorem prv0 : prv 0 = 2 := rfl
theorem prv1 : prv 1 = 0 := rfl
theorem prv2 : prv 2 = 1 := rfl
theorem c30 : c3 0 = 2 := rfl
theorem c31 : c3 1 = 1 := rfl
theorem c32 : c3 2 = 2 := rfl
theorem wk_is (t : Tri) (k : Nat) : (wk t k).length = 2 + hk t k := by unfold wk; rw [wd_len]
theorem len_wk {prog : Program} {w : World} {A : Around} {E : Value → Shared → Prop} {s : Shared} {Q : Value → Shared → Prop} {t : Tri} {k : Nat} {u : Tok} (h8 : le8 t) (h : ∀ u' tk, Q (.int ((2 + hk t k : Nat) : Int) u') { s with toks := tk }) : wpAny (model prog w) A (call (.builtin "len") [.str (wk t k) u]) Q E s :=
  len_str (by rw [wk_is]; have := hk_le h8 k; omega) (by rw [wk_is]; exact h _ _)
local macro_rules | `(tactic| walk_at "own item") => `(tactic| first
  | ((with_reducible show wpAny _ _ (call (Value.builtin "len") _) _ _ _); k_dflt (refine' len_wk ?a ?_; (case a => assumption)); intro _ _)
  | ((with_reducible show wpAny _ _ (subscriptTail (Expr.Name _ _) _ (Value.ref _) (Value.int _ _)) _ _ _); (with_reducible rename News _ _ _ _ => N'); k_dflt (refine' led_item N' ?m ?a ?b ?c ?_ ?d; (case m => (repeat (first | assumption | apply List.mem_cons_of_mem))); (case a => decide); (case b => decide); (case c => exact rfl); (case d => simp only [subscripted])))
  | ((with_reducible show wpAny _ _ (subscriptTail (Expr.Name _ _) _ (Value.ref _) (Value.int _ _)) _ _ _); (with_reducible rename News _ _ _ _ => N'); k_dflt (refine' led_neg N' ?m ?a ?b ?z ?c ?_ ?d; (case m => (repeat (first | assumption | apply List.mem_cons_of_mem))); (case a => decide); (case b => (show -((3 : Nat) : Int) ≤ _); decide); (case z => (show 3 ≤ 1000); decide); (case c => exact rfl); (case d => simp only [subscripted]))))
local macro_rules | `(tactic| walk_at "own call") => `(tactic| (
  (with_reducible show wpAny _ _ (call (Value.ref _) _) _ _ _);
  (with_reducible rename Fr _ _ _ _ => F');
  (with_reducible rename News _ _ _ _ => N');
  k_dflt (refine' lev_dw ?hz9 ?x ?y ?hm9 ?B F' ?X N' ?T ?K ?D ?U ?_; (case x => assumption); (case y => decide); (case hz9 => exact rfl); (case hm9 => (simp only [prv0, prv1, prv2, c30, c31, c32]; unfold ad; split <;> omega)); (case B => k_asm); (case X => k_asm); (case T => k_asm); (case K => exact rfl); (case D => ktr_room); (case U => ktr_units)); intro t9 h9 tk9 F9 N9; (try dsimp only)))
section
variable {fa lc : Addr} {w : World} {p : Program} {loose : List Str} {mean : ExcName → Option Value} {mg mb : Str → Option Value} {base h₀ : Heap} {m : Str → Option Value} {s : Shared} {Q : Flow → Shared → Prop}
set_option maxRecDepth 100000 in
set_option maxHeartbeats 1000000 in
/-- one child in one round -/
theorem child_w {L' I1 I2 Sh dq : Addr} {it1 it2 o2 oS : Obj} {tri : Tri} {u : Str → Option Value} {k : Nat} {tk0 u0 u1 u2 : Tok} {rest : List (Addr × Obj)} {vSw : Value}
    (hle : le8 tri) (hk3 : k < 3) (hmq : (dq, LCg.lst [.str (wk tri 0) u0, .str (wk tri 1) u1, .str (wk tri 2) u2]) ∈ rest)
    (B : Below callerA base [] h₀) (X : (Mine.hd.heap_39 w.params).In h₀) (T : Top p loose mean mg mb h₀)
    (F : Fr h₀ L' s.heap (kstB u [(Str.ofString "k", .int (k : Int) tk0), (Str.ofString "words", .ref dq), (Str.ofString "sweets", vSw)])) (N : News h₀ L' s.heap ((I2, it2) :: (I1, it1) :: (Sh, oS) :: (L' + 1 + 1, o2) :: rest))
    (ret : ∀ h' tk' u', Fr h₀ L' h' (kstB u' [(Str.ofString "words", .ref dq), (Str.ofString "sweets", vSw)]) → News h₀ L' h' ((I2, it2) :: (I1, it1) :: (Sh, oS) :: (L' + 1 + 1, o2) :: rest) → Q .next { s with heap := h', toks := tk' }) :
    wpAny (model PySem.Challenge.rw_rs0052_03.prog w) (callerA.deeper (envOfC (Str.ofString "law") (scopeAt PySem.Challenge.rw_rs0052_03.prog 20) L' fa (.ref lc)))
      (execs (bodyOf (fstOf (bodyOf (stmtAt PySem.Challenge.rw_rs0052_03.prog 20 5)))) (envOfC (Str.ofString "law") (scopeAt PySem.Challenge.rw_rs0052_03.prog 20) L' fa (.ref lc))) Q (fun _ _ => False) s := by
  k_with_none
  w_top off
  revert X
  k_fill
  intro X
  conv in (occs := *) scopeAt _ _ => all_goals whnf
  conv in (occs := *) bodyOf _ => all_goals whnf
  dsimp only [kstB] at F
  have e0 := wk_is tri 0
  have e1 := wk_is tri 1
  have e2 := wk_is tri 2
  rcases (by omega : k = 0 ∨ k = 1 ∨ k = 2) with rfl | rfl | rfl
  all_goals ((repeat' ((fail_if_success (with_reducible show wpAny _ _ (exec (Stmt.For _ _ _ _ _) _) _ _ _)); (fail_if_success (with_reducible show wpAny _ _ (pyIter _) _ _ _)); first | ((with_reducible show wpAny _ _ (execs [] _) _ _ _); refine wpAny_execs_nil ?_; (try dsimp only)) | walk_at "own item" | walk_at "own call" | ((fail_if_success (with_reducible show wpAny _ _ (call (Value.ref _) _) _ _ _)); (fail_if_success (with_reducible show wpAny _ _ (subscriptTail (Expr.Name _ _) _ (Value.ref _) _) _ _ _)); first | walk1 | (dsimp only; walk1)))))
  all_goals (iterate 3 (try (refine wpAny_execs_nil ?_; (try dsimp only))))
  all_goals first
    | exact absurd rfl (by assumption)
    | ((rename Fr _ _ _ _ => F9); (rename News _ _ _ _ => N9);
       obtain ⟨u9, F8⟩ := fr_some [(Str.ofString "words", .ref dq), (Str.ofString "sweets", vSw)] (by kst_all) F9;
       exact ret _ _ u9 F8 (cb_drop N9 fun p hp => by first | exact hp | exact .tail _ hp))
set_option maxRecDepth 100000 in
set_option maxHeartbeats 1000000 in
theorem apart_w {L' D Sw Sh : Addr} {o2 : Obj} {ws cs' : List Value} {tri : Tri} {n j : Nat} {u : Str → Option Value} {ds : List Addr} {rest : List (Addr × Obj)}
    (hle : le8 tri) (hMid : Mid L' tri n Sh Sw D ws cs' o2 rest ds)
    (B : Below callerA base [] h₀) (X : (Mine.hd.heap_39 w.params).In h₀) (T : Top p loose mean mg mb h₀)
    (F : Fr h₀ L' s.heap (kstB u [(Str.ofString "sweets", .ref Sw), (Str.ofString "cells", .ref D)])) (N : News h₀ L' s.heap ((Sh, PySem.W.listOf (ds.map Value.ref).toArray j) :: (L' + 1 + 1, o2) :: rest))
    (ret : ∀ h' tk' u', Fr h₀ L' h' (kstB u' [(Str.ofString "sweets", .ref Sw)]) → News h₀ L' h' ((Sh, PySem.W.listOf (ds.map Value.ref).toArray j) :: (L' + 1 + 1, o2) :: rest) → Q .next { s with heap := h', toks := tk' }) :
    wpAny (model PySem.Challenge.rw_rs0052_03.prog w) (callerA.deeper (envOfC (Str.ofString "law") (scopeAt PySem.Challenge.rw_rs0052_03.prog 20) L' fa (.ref lc)))
      (exec (stmtAt PySem.Challenge.rw_rs0052_03.prog 20 5) (envOfC (Str.ofString "law") (scopeAt PySem.Challenge.rw_rs0052_03.prog 20) L' fa (.ref lc))) Q (fun _ _ => False) s := by
  obtain ⟨hd2, hrS, hr3, hS2, hS3, hmSw, hmD, hlen, hds⟩ := hMid
  have X0 := X
  k_with_none
  w_top off
  revert X
  k_fill
  intro X
  conv in (occs := *) stmtAt _ _ _ => all_goals whnf
  refine' For_invTF F ?_ ?hs ?hE
  case hs => intro _; rfl
  case hE => passes_own
  dsimp only [kstB] at F
  (repeat' ((fail_if_success (with_reducible show wpAny _ _ (exec (Stmt.For _ _ _ _ _) _) _ _ _)); (fail_if_success (with_reducible show wpAny _ _ (pyIter _) _ _ _)); first | ((with_reducible show wpAny _ _ (execs [] _) _ _ _); refine wpAny_execs_nil ?_; (try dsimp only)) | walk_at "own item" | walk_at "own call" | ((fail_if_success (with_reducible show wpAny _ _ (call (Value.ref _) _) _ _ _)); (fail_if_success (with_reducible show wpAny _ _ (subscriptTail (Expr.Name _ _) _ (Value.ref _) _) _ _ _)); first | walk1 | (dsimp only; walk1))))
  (rename Fr _ _ _ _ => F1); (rename News _ _ _ _ => N1)
  obtain ⟨u1, F2⟩ := fr_some [(Str.ofString "sweets", Value.ref Sw)] (by kst_all) F1
  refine' iter_listT (items := (ds.map Value.ref).toArray) (ot := PySem.W.listOf (ds.map Value.ref).toArray j) (fun i m' news' => ∃ u', m' = kstB u' [(Str.ofString "sweets", Value.ref Sw)] ∧ news' = (Sh, PySem.W.listOf (ds.map Value.ref).toArray j) :: (L' + 1 + 1, o2) :: rest)
    rfl (led_list N1 (.head _)) F2 N1 ?mem (fun _ _ => rfl) ⟨u1, rfl, rfl⟩ ?turn ?done
  case mem =>
    rintro i m' news' ⟨u', -, rfl⟩
    exact .head _
  case done =>
    rintro h' tk m' news' F4 N4 ⟨u', rfl, rfl⟩
    exact ret h' tk u' F4 N4
  case turn =>
    rintro i v I1 it1 m₁ news₁ s₁ hv ⟨u', rfl, rfl⟩ F4 N4 hoff
    have hi : i < ds.length := by
      rcases Nat.lt_or_ge i ds.length with h | h
      · exact h
      · rw [List.getElem?_toArray, List.getElem?_map, List.getElem?_eq_none h] at hv; cases hv
    obtain ⟨ysq, hmq, hysq⟩ := hds i hi
    obtain ⟨q0, q1, q2, rfl⟩ := str3 hysq
    have ev : v = .ref (ds.getD i 0) := by
      rw [List.getElem?_toArray, List.getElem?_map, List.getElem?_eq_getElem hi] at hv
      rw [List.getD_eq_getElem?_getD, List.getElem?_eq_getElem hi]
      exact (Option.some.inj hv).symm
    subst ev
    generalize ds.getD i 0 = dq at hmq hv
    clear F1 N1 F2
    dsimp only [kstB] at F4
    walk1
    walk1
    try dsimp only
    (repeat' ((fail_if_success (with_reducible show wpAny _ _ (exec (Stmt.For _ _ _ _ _) _) _ _ _)); (fail_if_success (with_reducible show wpAny _ _ (pyIter _) _ _ _)); first | ((with_reducible show wpAny _ _ (execs [] _) _ _ _); refine wpAny_execs_nil ?_; (try dsimp only)) | walk_at "own item" | walk_at "own call" | ((fail_if_success (with_reducible show wpAny _ _ (call (Value.ref _) _) _ _ _)); (fail_if_success (with_reducible show wpAny _ _ (subscriptTail (Expr.Name _ _) _ (Value.ref _) _) _ _ _)); first | walk1 | (dsimp only; walk1))))
    (rename Fr _ _ _ _ => F5)
    obtain ⟨u5, F6⟩ := fr_some [(Str.ofString "words", Value.ref dq), (Str.ofString "sweets", Value.ref Sw)] (by kst_all) F5
    refine' For_invTF F6 ?_ ?hs ?hE
    case hs => intro _; rfl
    case hE => passes_own
    dsimp only [kstB] at F6
    (repeat' ((fail_if_success (with_reducible show wpAny _ _ (exec (Stmt.For _ _ _ _ _) _) _ _ _)); (fail_if_success (with_reducible show wpAny _ _ (pyIter _) _ _ _)); first | ((with_reducible show wpAny _ _ (execs [] _) _ _ _); refine wpAny_execs_nil ?_; (try dsimp only)) | walk_at "own item" | walk_at "own call" | ((fail_if_success (with_reducible show wpAny _ _ (call (Value.ref _) _) _ _ _)); (fail_if_success (with_reducible show wpAny _ _ (subscriptTail (Expr.Name _ _) _ (Value.ref _) _) _ _ _)); first | walk1 | (dsimp only; walk1))))
    (rename Fr _ _ _ _ => F7); (rename News _ _ _ _ => N7); (rename IsRange _ _ _ _ _ _ _ _ => rg7)
    obtain ⟨u7, F8⟩ := fr_some [(Str.ofString "words", Value.ref dq), (Str.ofString "sweets", Value.ref Sw)] (by kst_all) F7
    refine' iter_rangeT (n := 3) (fun _ m' news' => ∃ u', m' = kstB u' [(Str.ofString "words", Value.ref dq), (Str.ofString "sweets", Value.ref Sw)] ∧ news' = (I1, it1) :: (Sh, PySem.W.listOf (ds.map Value.ref).toArray j) :: (L' + 1 + 1, o2) :: rest)
      rfl rg7 (by decide) (by rfl) F8 N7 (fun _ _ => rfl) ⟨u7, rfl, rfl⟩ ?turn2 ?done2
    case done2 =>
      rintro h' tk m' news' F9 N9 ⟨u', rfl, rfl⟩
      dsimp only
      refine wpAny_execs_nil ?_
      obtain ⟨u9, F10⟩ := fr_some [(Str.ofString "sweets", Value.ref Sw)] (by kst_all) F9
      exact ⟨rfl, _, _, _, _, rfl, F10, N9, hoff, u9, rfl, rfl⟩
    case turn2 =>
      rintro k t I2 it2 m₂ news₂ s₂ hk3 ⟨u', rfl, rfl⟩ F9 N9 hoff2
      simp only [Int.zero_add]
      clear F7 N7 F8 rg7
      dsimp only [kstB] at F9
      walk1
      walk1
      try dsimp only
      (rename Fr _ _ _ _ => F10); (rename News _ _ _ _ => N10)
      obtain ⟨u11, F11⟩ := fr_some [(Str.ofString "k", Value.int (k : Int) t), (Str.ofString "words", Value.ref dq), (Str.ofString "sweets", Value.ref Sw)] (by kst_all) F10
      refine child_w (itN_le hle i) hk3 hmq B X0 T F11 N10 ?_
      intro h12 tk12 u12 F12 N12
      exact ⟨rfl, _, _, _, _, rfl, F12, N12, hoff2, u12, rfl, rfl⟩
end
end Mine
end
section
open PySem PySem.W PyProof.Rows PySem.Calls
namespace Mine
section
variable {prog : Program} {w : World} {A₀ A : Around} {s : Shared} {base h₀ : Heap} {L : Addr} {m : Str → Option Value} {env : Env} {news : List (Addr × Obj)} {K : Frag} {p : Program} {loose : List Str} {mean : ExcName → Option Value} {mg mb : Str → Option Value}
  {R : Result → Shared → Prop} {name qual : Str} {params : Arguments} {body : List Stmt} {scope : Scope} {dV kV doc pm cdv ct oc : Value} {an od : Option Addr} {osl : Array (Option Value)} {f : Addr} {args : Args} {binds : List (Str × Value)}
/-- a def that catches, called by the law's own frame, whatever cells that has -/
theorem code_defT (B : Below A₀ base [] h₀) (F : Fr h₀ L s.heap m) (X₀ : K.In h₀) (N : News h₀ L s.heap news) (T : Top p loose mean mg mb h₀) (hA : A.frames = some [env]) (hf : env.frame = some L) (hke : env.scope.kind = .function)
    (ho : K.lookup f = some ⟨oc, od, .func (fnOf name qual params body scope dV kV doc pm an cdv ct), osl⟩) (hcd : codeIn K cdv qual = true) (hroom : A.depth < recursionLimit)
    (hbind : BindsTo s (fnOf name qual params body scope dV kV doc pm an cdv ct) args binds) (hloc : ∀ y ∈ binds, scope.names.lookup y.1 = some .local)
    (h : ∀ g L' h₁, Fr h₀ L g m → Fr g L' h₁ (fun y => binds.reverse.lookup y) → News g L' h₁ news → Below A base [env] g → K.In g → Top p loose mean mg mb g → KtsDicts ([env].filterMap (·.frame)) g →
      wpAny (model prog w) (A.deeper (envOf qual scope L' f cdv)) (execs body (envOf qual scope L' f cdv))
        (fun fl s' => LeaveS0 ([env].filterMap (·.frame)) h₀ L m g R (match fl with | .ret v => v | _ => .none) s')
        (fun e s' => wpAny (model prog w) (A.deeper (envOf qual scope L' f cdv)) (leaving (envOf qual scope L' f cdv) e) (fun _ s'' => R (.error e) s'') (fun e' s'' => R (.error e') s'') s')
        { s with heap := h₁, toks := s.toks + binds.length })
    (hco : scope.isCoroutine = false) (hgen : scope.isGenerator = false) (hk : scope.kind = .function)
    (hcell : ∀ x ∈ scope.names, x.2 ≠ .cell) : codeAny (model prog w) A (.call (.ref f) args) R s := by
  have X := X₀.keeps F.keep
  have efs : [env].filterMap (·.frame) = [L] := by simp [hf]
  obtain ⟨FG, BG, st, _⟩ := groundX (R := R) B F N hA hf hke
  obtain ⟨oL, es, ep, hL, hLd, hLk, hLf⟩ := FG.ns
  have hL0 : h₀.get? L = none := kts_self F
  refine codeAny_call_def (fd := fnOf name qual params body scope dV kV doc pm an cdv ct) (body := body) (binds := binds) hroom (X _ _ ho) rfl (T.nolimit.keeps F.keep) (codeRec_of X hcd) rfl hbind hcell hloc (fun h₁ hns hk₁ => ?_) hco hgen hk
  refine wpAny_mono (h _ s.heap.objs.size h₁ FG ⟨hns, fun b o e => hk₁ b o (of_hideAll _ e), Nat.le_of_eq (hideAll_size _ _)⟩
    (fun q hq => ⟨hk₁ _ _ (N q hq).1, Nat.ne_of_lt (Heap.lt_size (N q hq).1), hideAll_none _ (List.mem_map_of_mem hq)⟩) BG (X₀.keeps st) (T.keeps st) ?_) (fun fl s' hl => ?_) fun _ _ y => y
  · rw [efs]
    intro b hb
    rw [List.mem_singleton.mp hb]
    exact ⟨oL, es, ep, hL, hLd⟩
  · obtain ⟨g', L', m', news', hT, F', N', k⟩ := hl
    rw [efs] at hT
    obtain ⟨sl, hs⟩ := hT.frame L oL hL (.head _)
    have keepT : ∀ b o, h₀.get? b = some o → g'.get? b = some o := fun b o e => hT.other b o (st b o e) fun hb => by
      rw [List.mem_singleton.mp hb, hL0] at e; cases e
    refine k ⟨⟨_, es, ep, F'.keep _ _ hs, hLd, hLk, hLf⟩, fun b o e => F'.keep b o (keepT b o e), F.above⟩ fun q hq => ⟨(N' q hq).1, fun e => ?_, ?_⟩
    · have := (N' q hq).2.2
      rw [e, hs] at this
      cases this
    · cases e : h₀.get? q.1 with
      | none => rfl
      | some o =>
        have := (N' q hq).2.2
        rw [keepT _ _ e] at this
        cases this
end
end Mine
end
section
open PySem PySem.W PyProof.Rows PySem.Calls PySem.Spec
set_option maxRecDepth 100000
namespace Mine
section
variable {prog : Program} {w : World} {A : Around} {E : Value → Shared → Prop} {s : Shared} {K : Frag} {e t C : Addr} {oe ot : Obj} {ws : Array Value} {nt : Nat} {m : Str} {tk : Tok}
theorem looks_cls {M : Model} (ho : s.heap.get? e = some oe) (hc : oe.cls = .ref C) : Looks M s.heap (typeOf (.ref e)) (.ref C) := hc ▸ (Looks.ld ho).andThen .now
open Builtin Builtin.Str Builtin.BaseException Builtin.Exceptions in
theorem exc_str_entry {Q : Fin → Shared → Prop} (ho : s.heap.get? e = some oe) (hd : oe.data = .fields ws) (h0 : ws[0]? = some (.ref t)) (ht : s.heap.get? t = some ot) (htd : ot.data = .seq #[.str m tk] nt) (hq : Q (.done (.ret (.str m tk))) s) :
    wpAny (model prog w) A (Builtin.«BaseException.__str__» ⟨[.ref e], []⟩) Q E s := by
  have key : ∀ {Q : Value × List Value → Shared → Prop}, Q (.ref t, [.str m tk]) s → wpAny (model prog w) A (bexcArgs (.ref e)) Q E s := by
    intro Q hQ
    unfold bexcArgs
    refine wpAny_bind (wpAny_field ho hd h0 (wpAny_bind (wpAny_seqItems ht htd ?_)))
    exact wpAny_pure hQ
  unfold Builtin.«BaseException.__str__»
  repeat (first | with_reducible refine key ?_ | wp_step)
  exact hq
theorem exc_str_slot {Q : Value → Shared → Prop} (X : K.In s.heap) (ho : s.heap.get? e = some oe) (hc : oe.cls = .ref C) (hm : mroIn K C (.type "BaseException") = some true) (hd : oe.data = .fields ws) (h0 : ws[0]? = some (.ref t)) (ht : s.heap.get? t = some ot) (htd : ot.data = .seq #[.str m tk] nt) (hq : Q (.str m tk) s) :
    wpAny (model prog w) A (call (.builtin "BaseException.__str__") [.ref e]) Q E s := by
  refine wpAny_call (codeAny_call_builtin PySem.F.excStr_Exception.str.plain PySem.F.entry_bexc_str (check_slot (i := "BaseException.__str__") (owner := "BaseException") (n := "__str__") (by decide +kernel) (by decide +kernel) ((looks_cls ho hc).andThen (looks_mroIn X hm)) (PySem.F.args_bexc_str _) ?_))
  exact exc_str_entry ho hd h0 ht htd hq
open Builtin Builtin.Str in
theorem exc_strOf {Q : Value → Shared → Prop} (hu : A.units < cLine) (X : K.In s.heap) (ho : s.heap.get? e = some oe) (hc : oe.cls = .ref C) (hs : findIn K (.ref C) "__str__" = some (some (.builtin "BaseException.__str__"))) (hm : mroIn K C (.type "BaseException") = some true) (hd : oe.data = .fields ws) (h0 : ws[0]? = some (.ref t)) (ht : s.heap.get? t = some ot) (htd : ot.data = .seq #[.str m tk] nt) (hq : Q (.str m tk) s) :
    wpAny (model prog w) A (PySem.Builtin.Str.strOf (.ref e)) Q E s := by
  unfold PySem.Builtin.Str.strOf
  rw [show isExactStr (.ref e) = false from rfl]
  refine wpAny_bind (m := cRoomFor _ _) (wpAny_cRoomFor hu ?_)
  refine wpAny_bind (m := callSpecial? (.ref e) (Str.ofString "__str__")) ?_
  refine wpAny_bind (wpAny_bind ((looks_cls ho hc).here ((looks_findIn X hs).here (wpAny_holding (wpAny_bind ((Looks.of_pure (PySem.F.excStr_Exception.str.bind _)).here (wpAny_bind ?_)))))))
  refine exc_str_slot X ho hc hm hd h0 ht htd ?_
  exact wpAny_pure (wpAny_pure hq)
open Builtin Builtin.Str in
theorem exc_str_call {Q : Value → Shared → Prop} (hu : A.in1.in1.units < cLine) (X : K.In s.heap) (ho : s.heap.get? e = some oe) (hc : oe.cls = .ref C) (hs : findIn K (.ref C) "__str__" = some (some (.builtin "BaseException.__str__"))) (hm : mroIn K C (.type "BaseException") = some true) (hd : oe.data = .fields ws) (h0 : ws[0]? = some (.ref t)) (ht : s.heap.get? t = some ot) (htd : ot.data = .seq #[.str m tk] nt) (hq : Q (.str m tk) s) :
    wpAny (model prog w) A (call (.type "str") [.ref e]) Q E s := by
  refine callType_codes (T := "str") (Bi := Builtin.«object.__init__») (Q₁ := fun r s₁ => ∃ y u, r = .str y u ∧ Q r s₁) PySem.F.called_str (PySem.F.typeCall_str_1 _) PySem.F.entry_object_init ?_ ?_
  · refine codeAny_of_tree ?_
    show wpAny _ A.in1.in1 (do checkBuiltinCall "str.__new__" ⟨[.type "str", .ref e], []⟩; again (.builtin "str.__new__" ⟨[.type "str", .ref e], []⟩)) _ _ s
    refine wpAny_bind (wpAny_of_eq (PySem.F.newCall_str_1 _) (wpAny_pure ⟨plainId_quiet (by decide +kernel) _, codeAny_builtin PySem.F.entry_str_new ?_⟩))
    rw [Around.under_plainId (by decide +kernel) _]
    rw [str_new_tree]
    refine wpAny_bind (wpAny_pure ?_)
    refine wpAny_bind (wpAny_of_eq isSubtype_str_str ?_)
    refine wpAny_bind (exc_strOf hu X ho hc hs hm hd h0 ht htd ?_)
    exact wpAny_pure ⟨_, _, rfl, hq⟩
  · rintro obj s₁ ⟨y, u, rfl, hq⟩
    exact ⟨typeIs_str _ _ _, PySem.F.args_object_init_2 _ _, object_init_meets PySem.F.called_str.init.lookup PySem.F.called_str.made (by decide) prog w A.in1 _ s₁ ⟨typeIs_str _ _ _, rfl, hq⟩⟩
/-- str of an exception that has been caught, in the walk's words -/
theorem exc_str_K {Q : Value → Shared → Prop} {h₀ : Heap} {L : Addr} {n₂ : List (Addr × Obj)} {tt : Addr} (hu : A.in1.in1.units < cLine) (X : K.In s.heap) (N : News h₀ L s.heap n₂) (G : Got n₂ e tt (.ref C) [.str m tk]) (hs : findIn K (.ref C) "__str__" = some (some (.builtin "BaseException.__str__"))) (hm : mroIn K C (.type "BaseException") = some true) (hq : Q (.str m tk) s) :
    wpAny (model prog w) A (call (.type "str") [.ref e]) Q E s := by
  obtain ⟨oe, ot, ws, nt, h1, h2, h3, h4, h5, _, h7⟩ := G
  exact exc_str_call hu X (N _ h1).1 h3 hs hm h4 h5 (N _ h2).1 h7 hq
end
end Mine
end
section
open PySem PySem.W PyProof.Rows
namespace Mine
theorem lst_250 : lst (Str.ofString "250") = [50, 53, 48] := by decide +kernel
theorem lst_257h : lst (Str.ofString "257-") = [50, 53, 55, 45] := by decide +kernel
theorem not_257 (x : Str) : (Txt.slice (Str.ofString "250" ++ x) none (some 3) != Str.ofString "257") = true := by
  have e : lst (Txt.slice (Str.ofString "250" ++ x) none (some 3)) = [50, 53, 48] := by
    rw [show (3 : Int) = ((3 : Nat) : Int) from rfl, slice_to, lst_app, lst_250]; rfl
  have hn : Txt.slice (Str.ofString "250" ++ x) none (some 3) ≠ Str.ofString "257" := fun h => by
    rw [h, lst_257] at e; exact absurd e (by decide)
  simpa using hn
theorem is_257 (x : Str) : Txt.slice (Str.ofString "257-" ++ x) none (some 3) = Str.ofString "257" :=
  str_ext (by rw [show (3 : Int) = ((3 : Nat) : Int) from rfl, slice_to, lst_app, lst_257h, lst_257]; rfl)
theorem is_257' (x : Str) : (Txt.slice (Str.ofString "257-" ++ x) none (some 3) != Str.ofString "257") = false := by rw [is_257]; simp
theorem told_hy (x : Str) : (Txt.slice (Str.ofString "257-" ++ x) (some 3) (some 5) != Str.ofString " \"") = true := by
  have hn : Txt.slice (Str.ofString "257-" ++ x) (some 3) (some 5) ≠ Str.ofString " \"" := by
    intro h
    have e := congrArg lst h
    rw [slice_list, lst_app, lst_257h, lst_bq, ← lst_length, lst_app, lst_257h] at e
    unfold clipN at e
    simp only [show ¬ ((3 : Int) < 0) by decide, show ¬ ((5 : Int) < 0) by decide, if_false, List.length_append] at e
    cases hx : lst x with
    | nil => rw [hx] at e; simp at e
    | cons c r =>
      rw [hx] at e
      have h2 : min (Int.toNat 3) ([50, 53, 55, 45].length + (c :: r).length) = 3 := by simp; omega
      have h3 : min (Int.toNat 5) ([50, 53, 55, 45].length + (c :: r).length) = 5 := by simp; omega
      rw [h2, h3] at e
      simp at e
  simpa using hn
section
variable {prog : Program} {w : World} {A : Around} {E : Value → Shared → Prop} {s : Shared} {Q : Value → Shared → Prop}
theorem add_250 {x : Str} {t u : Tok} (hx : x.length ≤ 100) (h : ∀ y t' k, y = Str.ofString "250" ++ x → y.length ≤ 1000 → (Txt.slice y none (some 3) != Str.ofString "257") = true → Q (.str y t') { s with toks := k }) : wpAny (model prog w) A (binaryOp .Add (.str (Str.ofString "250") t) (.str x u)) Q E s :=
  add_txt (by decide +kernel) (by omega) fun t' k hl => h _ t' k rfl (by rw [hl, show (Str.ofString "250").length = 3 by decide +kernel]; omega) (not_257 x)
theorem add_257 {x : Str} {t u : Tok} (hx : x.length ≤ 1000) (h : ∀ y t' k, y.length ≤ 1048576 → (Txt.slice y none (some 3) != Str.ofString "257") = false → (Txt.slice y (some 3) (some 5) != Str.ofString " \"") = true → Q (.str y t') { s with toks := k }) : wpAny (model prog w) A (binaryOp .Add (.str (Str.ofString "257-") t) (.str x u)) Q E s :=
  add_txt (by decide +kernel) (by omega) fun t' k hl => h _ t' k (by rw [hl, show (Str.ofString "257-").length = 4 by decide +kernel]; omega) (is_257' x) (told_hy x)
end
theorem cut_len {x : Str} {n : Nat} (h : x.length ≤ n) : (Txt.slice x (some 1) none).length ≤ n := by
  rw [← lst_length, show (1 : Int) = ((1 : Nat) : Int) from rfl, slice_from, List.length_drop, lst_length]; omega
local macro_rules | `(tactic| walk_at "own text") => `(tactic| first
  | ((with_reducible show wpAny _ _ (binaryOp Operator.Add (Value.str (Str.ofString "250") _) (Value.str _ _)) _ _ _); k_dflt (refine' add_250 ?a ?_; (case a => assumption)); intro y9 _ _ hy9 hyl9 hyn9)
  | ((with_reducible show wpAny _ _ (binaryOp Operator.Add (Value.str (Str.ofString "257-") _) (Value.str _ _)) _ _ _); k_dflt (refine' add_257 ?a ?_; (case a => exact Nat.le_trans (cut_len (by assumption)) (by decide))); intro y8 _ _ _ _ _)
  | ((with_reducible show wpAny _ _ (subscriptTail (Expr.Name (Str.ofString "rest") _) (Expr.Slice (some _) none none _) (Value.str _ _) (Value.ref _)) _ _ _); (with_reducible rename Fr _ _ _ _ => F'); (with_reducible rename News _ _ _ _ => N'); k_dflt (refine' slice_strN_sn (hsz := ?hsz) (s := ⟨_, _, _, _, _⟩) F' N' ?_; (case hsz => exact Nat.le_trans (by assumption) (by decide))); intro _ _ _ F8 N8; (try dsimp only)))
section
variable {w : World} {p : Program} {loose : List Str} {mean : ExcName → Option Value} {mg mb : Str → Option Value} {dp un : Nat} {gd : Option (List Code)} {cn : Str} {cs : Scope} {a : Addr} {ccd : Value} {cl : List (Str × Addr)} {outer : List Env} {A₀ : Around} {base h₀ : Heap} {L : Addr} {m : Str → Option Value} {s : Shared} {news : List (Addr × Obj)}
set_option maxRecDepth 100000 in
set_option maxHeartbeats 4000000 in
/-- a reply of another code, and one with another opening -/
theorem other_r {Q E : Value → Shared → Prop} {x : Str} {tx : Tok} (B : Below A₀ base [] h₀) (XB : (Mine.hd.heap_39 w.params).In base) (TB : Top p loose mean mg mb base) (F : Fr h₀ L s.heap m) (X : (Mine.hd.heap_39 w.params).In h₀) (N : News h₀ L s.heap news) (T : Top p loose mean mg mb h₀) (hk : cs.kind = .function)
    (hx : x.length ≤ 100) (hroom : dp + 5 < recursionLimit) (hunits : un + 80 < cLine)
    (ret : ∀ (l : Addr) (t0 t1 : Tok) (h' : Heap) (tk' : Nat), Fr h₀ L h' m → News h₀ L h' ((l, PySem.W.listOf #[.str (Str.ofString "250" ++ x) t0, .str (Str.ofString "") t1] 0) :: news) → Q (.ref l) { s with heap := h', toks := tk' }) :
    wpAny (model PySem.Challenge.rw_rs0052_03.prog w) (ktrTop dp un gd cn cs L a ccd cl []) (call (.ref 106) [.str x tx]) Q E s := by
  k_with_none
  w_top off
  revert X
  k_fill
  intro X
  refine wpAny_call ?_
  k_dflt (refine' code_defT (env := envX cn cs L a ccd cl) ?k1 ?k2 ?k3 ?k4 ?k5 ?kA ?kF ?kK ?k6 ?k7 ?k8 ?k9 ?kB ?_ ?c2 ?c3 ?c4 ?c5; (case kA => exact rfl); (case kF => exact rfl); (case kK => assumption); (case k1 => k_asm); (case k2 => k_asm); (case k3 => k_asm); (case k4 => k_asm); (case k5 => k_asm); (case k6 => k_is); (case k7 => k_is); (case k8 => ktr_room); (case k9 => exact BindsTo.of_eq rfl); (case c5 => decide); (case kB => exact locs rfl); (case c2 => exact rfl); (case c3 => exact rfl); (case c4 => exact rfl); k_whole; intro g' L' h' FG' F' N' B' X' T' D'; (try dsimp only); (try k_lift B'); (try k_fold))
  repeat' ((fail_if_success (with_reducible show wpAny _ _ (call (Value.ref _) _) _ _ _)); first | walk_at "own text" | walk1)
  have hkk : (envOf (Str.ofString "_law_other") (scopeAt PySem.Challenge.rw_rs0052_03.prog 18) 0 106 (Value.ref 105)).scope.kind = .function := rfl
  refine wpAny_call ?_
  k_dflt cell_enter
  repeat' ((fail_if_success (with_reducible show wpAny _ _ (call (Value.type "str") _) _ _ _)); walk1)
  rename Got _ _ _ _ _ => G'
  k_dflt (refine' exc_str_K ?u ?X ?N G' ?s ?m ?_)
  case N => assumption
  case u => ktr_units
  case X => k_in
  case s => k_is
  case m => k_is
  have hlx : x.length ≤ 100 := hx
  repeat' (first | walk_at "own text" | ((fail_if_success (with_reducible show wpAny _ _ (call (Value.ref _) _) _ _ _)); first | (k_unfold; (try dsimp only)) | (k_end; wrow_close) | walk1))
  refine wpAny_call ?_
  have hdp : dp + 1 < recursionLimit := by omega
  k_dflt (refine' code_def ?k1 ?k2 ?k3 ?k4 ?k5 ?kA ?kF ?kK ?k6 ?k7 ?k8 ?k9 ?kB ?_ ?c2 ?c3 ?c4 ?c5; (case kA => exact rfl); (case kF => exact rfl); (case kK => exact rfl); (case k1 => k_asm); (case k2 => k_asm); (case k3 => k_asm); (case k4 => k_asm); (case k5 => k_asm); (case k6 => k_is); (case k7 => k_is); (case k8 => exact hdp); (case k9 => exact BindsTo.of_eq rfl); (case c5 => decide); (case kB => exact locs rfl); (case c2 => exact rfl); (case c3 => exact rfl); (case c4 => exact rfl); k_whole; intro g' L' h' FG' F' N' B' X' T'; (try dsimp only); (try k_lift B'); (try k_fold))
  repeat' (first | (k_unfold; (try dsimp only)) | (k_end; wrow_close) | walk1)
  (rename Fr _ _ _ _ => F9); (rename News _ _ _ _ => N9)
  rename _ = Str.ofString "250" ++ x => hy9
  subst hy9
  exact ret _ _ _ _ _ F9 N9
end
end Mine
end
section
open PySem PySem.W PyProof.Rows PySem.Calls
namespace Mine
section
variable {prog : Program} {w : World} {A₀ A : Around} {s : Shared} {base h₀ : Heap} {L : Addr} {m : Str → Option Value} {env : Env} {outer : List Env} {news : List (Addr × Obj)} {K : Frag} {p : Program} {loose : List Str} {mean : ExcName → Option Value} {mg mb : Str → Option Value}
  {R : Result → Shared → Prop} {name qual : Str} {params : Arguments} {body : List Stmt} {scope : Scope} {dV kV doc pm cdv ct oc : Value} {an od : Option Addr} {osl : Array (Option Value)} {f : Addr} {args : Args} {binds : List (Str × Value)}
/-- a def with cells of its own, called -/
theorem code_defC (B : Below A₀ base outer h₀) (F : Fr h₀ L s.heap m) (X₀ : K.In h₀) (N : News h₀ L s.heap news) (T : Top p loose mean mg mb h₀) (hA : A.frames = some (env :: outer)) (hf : env.frame = some L) (hke : env.scope.kind = .function)
    (ho : K.lookup f = some ⟨oc, od, .func (fnOf name qual params body scope dV kV doc pm an cdv ct), osl⟩) (hcd : codeIn K cdv qual = true) (hroom : A.depth < recursionLimit)
    (hbind : BindsTo s (fnOf name qual params body scope dV kV doc pm an cdv ct) args binds)
    (hkind : ∀ n, ∀ x ∈ binds, scope.names.lookup x.1 = some .local ∨ (scope.names.lookup x.1 = some .cell ∧ ((cellsFrom n scope.names []).lookup x.1).isSome = true))
    (hnd : ((cellsFrom 0 scope.names []).map (·.1)).Nodup)
    (h : ∀ g L' h₁ tk cells, Fr h₀ L g m → Fr g L' h₁ (bindL (envOfC qual scope L' f cdv).kindOf binds fun _ => none) → News g L' h₁ (cells ++ news) →
      CellsAre (bindC (envOfC qual scope L' f cdv).kindOf binds fun _ => none) (cellsFrom (L' + 1) scope.names []) cells → Below A base (env :: outer) g → K.In g → Top p loose mean mg mb g → (∀ p ∈ news, p.1 < L') →
      wpAny (model prog w) (A.deeper (envOfC qual scope L' f cdv)) (execs body (envOfC qual scope L' f cdv))
        (fun fl s' => LeaveK h₀ L m g R (match fl with | .ret v => v | _ => .none) s')
        (fun e s' => wpAny (model prog w) (A.deeper (envOfC qual scope L' f cdv)) (leaving (envOfC qual scope L' f cdv) e) (fun _ s'' => R (.error e) s'') (fun e' s'' => R (.error e') s'') s')
        { s with heap := h₁, toks := tk })
    (hco : scope.isCoroutine = false) (hgen : scope.isGenerator = false) (hk : scope.kind = .function) : codeAny (model prog w) A (.call (.ref f) args) R s := by
  have X := X₀.keeps F.keep
  exact callX_cells B F N T.nolimit hA hf hke (X _ _ ho) rfl (codeRec_of X hcd) hroom hbind hkind hnd (fun g L' h₁ tk cells FG F' N' Y B' st l => h g L' h₁ tk cells FG F' N' Y B' (X₀.keeps st) (T.keeps st) l) hco hgen hk
end
end Mine
end
section
open PySem PySem.W PyProof.Rows
namespace Mine
local macro_rules | `(tactic| walk_at "own item") => `(tactic| first
  | ((with_reducible show wpAny _ _ (binaryOp Operator.FloorDiv (Value.int _ _) (Value.int _ _)) _ _ _); k_dflt (refine' half_div ?_); intro _ _)
  | ((with_reducible show wpAny _ _ (storeName _ (Str.ofString "halves") _) _ _ _); (with_reducible rename Fr _ _ _ _ => F'); (with_reducible rename News _ _ _ _ => N'); k_dflt (refine' storeX_C (cl := [(Str.ofString "halves", _)]) F' N' ?c ?U ?d ?_ ?a ?b; (case a => rfl); (case b => rfl); (case c => rfl); (case U => exact UpdF.tail (by assumption) (UpdF.tail (by assumption) (UpdF.head (by assumption)))); (case d => assumption)); intro h8 o8 F8 N8 d8; (try dsimp only at N8)))
theorem sq_mem {Sx : Addr} {ws : List Value} {nn : Nat} {rest : List (Addr × Obj)} (h₀ : Heap) (h : (Sx, PySem.W.listOf ws.toArray nn) ∈ rest) : LCg.SrcAt h₀ Sx ws.toArray rest := .inr ⟨_, h, rfl, _, rfl⟩
section
variable {w : World} {p : Program} {loose : List Str} {mean : ExcName → Option Value} {mg mb : Str → Option Value} {dp un : Nat} {gd : Option (List Code)} {cn : Str} {cs : Scope} {a : Addr} {ccd : Value} {cl : List (Str × Addr)} {outer : List Env} {A₀ : Around} {base h₀ : Heap} {L : Addr} {m : Str → Option Value} {s : Shared} {news : List (Addr × Obj)}
set_option maxRecDepth 100000 in
set_option maxHeartbeats 1000000 in
theorem far_r {Q E : Value → Shared → Prop} {Sw : Addr} {vs : List Value} {j : Nat} {tri : Tri} (B : Below A₀ base outer h₀) (F : Fr h₀ L s.heap m) (X : (Mine.hd.heap_39 w.params).In h₀) (N : News h₀ L s.heap news) (T : Top p loose mean mg mb h₀) (hk : cs.kind = .function)
    (hm : (Sw, PySem.W.listOf vs.toArray j) ∈ news) (hvs : IntsAre vs (triI tri)) (hle : le8 tri) (hroom : dp + 5 < recursionLimit) (hunits : un + 80 < cLine)
    (ret : ∀ D ys h' tk', IntsAre ys (triH (itN 8 tri)) → Fr h₀ L h' m → News h₀ L h' ((D, LCg.lst ys) :: news) → Q (.ref D) { s with heap := h', toks := tk' }) :
    wpAny (model PySem.Challenge.rw_rs0052_03.prog w) (ktrTop dp un gd cn cs L a ccd cl outer) (call (.ref 111) [.ref Sw]) Q E s := by
  k_with_none
  w_top off
  revert X
  k_fill
  intro X
  refine wpAny_call ?_
  k_dflt (refine' code_defC ?k1 ?k2 ?k3 ?k4 ?k5 ?kA ?kF ?kK ?k6 ?k7 ?k8 ?k9 ?kB ?kC ?_ ?c2 ?c3 ?c4; (case kA => exact rfl); (case kF => exact rfl); (case kK => assumption); (case k1 => k_asm); (case k2 => k_asm); (case k3 => k_asm); (case k4 => k_asm); (case k5 => k_asm); (case k6 => k_is); (case k7 => k_is); (case k8 => ktr_room); (case k9 => exact BindsTo.of_eq rfl); (case kB => intro i z hz; have hz2 : z ∈ [(Str.ofString "sweets", Value.ref Sw)] := hz; (rw [List.mem_singleton.mp hz2]; exact Or.inl rfl)); (case kC => decide); (case c2 => exact rfl); (case c3 => exact rfl); (case c4 => exact rfl); k_whole; intro g' L' h' tk' cells FG' F' N' Y' B' X' T' D'; (try dsimp only); (try k_lift B'); (try k_fold))
  obtain ⟨oc, rfl, hoc⟩ := CellsAre.one Y'
  clear Y'
  have hoc2 : oc.data = .cell none := hoc.trans rfl
  clear hoc
  obtain ⟨u, F2⟩ := fr_some [(Str.ofString "sweets", .ref Sw)] (by kst_all) F'
  clear F'
  simp only [List.cons_append, List.nil_append] at N'
  have hne : ∀ p ∈ news, p.1 ≠ L' + 1 := fun p hp => Nat.ne_of_lt (Nat.lt_succ_of_lt (D' p hp))
  have F3 := F2
  dsimp only [kstB] at F3
  refine wpAny_execs_cons ?_
  refine' For_invTF F2 ?_ ?hs ?hE
  case hs => intro _; rfl
  case hE => passes_own
  clear F3
  (repeat' ((fail_if_success (with_reducible show LCg.CompEnd _ _ _ _ _ _ _ _ _ _ _ _ _ _)); (fail_if_success (with_reducible show wpAny _ _ (exec (Stmt.For _ _ _ _ _) _) _ _ _)); (fail_if_success (with_reducible show wpAny _ _ (pyIter _) _ _ _)); (fail_if_success (with_reducible show wpAny _ _ (eval (Expr.ListComp _ _ _ _) _) _ _ _)); (fail_if_success (with_reducible show wpAny _ _ (exec (Stmt.Assign [Expr.Name (Str.ofString "sweets") _] _ _) _) _ _ _)); first | walk_at "own item" | walk1 | (dsimp only; walk1)))
  (rename Fr _ _ _ _ => F4); (rename News _ _ _ _ => N4); (rename IsRange _ _ _ _ _ _ _ _ => rg4)
  refine' iter_rangeT (n := 8) (fun i m' news' => ∃ u' Sx ws nn oc' vc rest, m' = kstB u' [(Str.ofString "sweets", Value.ref Sx)] ∧ Obj.data oc' = .cell vc ∧ news' = (L' + 1, oc') :: rest ∧ (Sx, PySem.W.listOf (List.toArray ws) nn) ∈ rest ∧ IntsAre ws (triI (itN i tri)) ∧ (∀ p ∈ news, p ∈ rest) ∧ (∀ p ∈ rest, p.1 ≠ L' + 1))
    rfl rg4 (by decide) (by rfl) F4 N4 (fun _ _ => rfl) ⟨u, Sw, vs, j, oc, none, news, rfl, hoc2, rfl, hm, hvs, fun _ h => h, hne⟩ ?turn ?done
  case done =>
    rintro h' tk m' news' F6 N6 ⟨u', Sx, ws, nn, oc', vc, rest, rfl, hd, rfl, hmx, hws, hsub, hrest⟩
    dsimp only [kstB] at F6
    dsimp only
    (repeat' ((fail_if_success (with_reducible show LCg.CompEnd _ _ _ _ _ _ _ _ _ _ _ _ _ _)); (fail_if_success (with_reducible show wpAny _ _ (exec (Stmt.For _ _ _ _ _) _) _ _ _)); (fail_if_success (with_reducible show wpAny _ _ (pyIter _) _ _ _)); (fail_if_success (with_reducible show wpAny _ _ (eval (Expr.ListComp _ _ _ _) _) _ _ _)); (fail_if_success (with_reducible show wpAny _ _ (exec (Stmt.Assign [Expr.Name (Str.ofString "sweets") _] _ _) _) _ _ _)); first | walk_at "own item" | walk1 | (dsimp only; walk1)))
    (rename Fr _ _ _ _ => hF)
    refine' LCg.ListComp_U (cl := []) hF (by with_unfolding_all rfl) (by decide) (by rfl) (by decide) (by rfl) ?_
    iterate 9 (try ((fail_if_success (with_reducible show LCg.CompSrc _ _ _ _ _ _ _ _ _ _ _ _ _ _)); walk1))
    (rename Fr _ _ _ _ => F8); (rename News _ _ _ _ => N8)
    refine' LCg.CompSrc.ledger (k := nn) (its := ws.toArray) rfl F8 N8 (.tail _ hmx) ?sz4 (fun g => comp_idx (fun q z => ∃ n t, z = Value.int n t ∧ (triH (itN 8 tri))[q]? = some n) ?turn4 ?fin4)
    case sz4 => rw [List.size_toArray, hws.length]; show 3 ≤ sizeLine; decide
    case turn4 =>
      intro q v I oI C2 oC D2 m₂ ys2 h tk E' hq hv hC2 hx F' N' off ne
      obtain ⟨a9, u9, rfl, e⟩ := tri_at hws hv
      (repeat' ((fail_if_success (with_reducible show LCg.CompEnd _ _ _ _ _ _ _ _ _ _ _ _ _ _)); (fail_if_success (with_reducible show wpAny _ _ (exec (Stmt.For _ _ _ _ _) _) _ _ _)); (fail_if_success (with_reducible show wpAny _ _ (pyIter _) _ _ _)); (fail_if_success (with_reducible show wpAny _ _ (eval (Expr.ListComp _ _ _ _) _) _ _ _)); (fail_if_success (with_reducible show wpAny _ _ (exec (Stmt.Assign [Expr.Name (Str.ofString "sweets") _] _ _) _) _ _ _)); first | walk_at "own item" | walk1 | (dsimp only; walk1)))
      (rename Fr _ _ _ _ => F9); (rename News _ _ _ _ => N9)
      exact ⟨_, _, _, rfl, F9, N9, off, sq_mem _ (.tail _ hmx), rfl, _, _, rfl, e⟩
    case fin4 =>
      intro ys hl2 hy2
      have hys := ints_of (ns := triH (itN 8 tri)) (hl2.trans (by rw [List.size_toArray, hws.length]; rfl)) hy2
      intro D2 h tk F7 N7 oW
      dsimp only
      k_steps
      (rename Fr _ _ _ _ => F9); (rename News _ _ _ _ => N9)
      exact ret D2 ys _ _ hys F9 (cb_drop N9 fun p hp => by
        rcases List.mem_cons.mp hp with e | hp
        · exact e ▸ .head _
        · exact .tail _ (.tail _ (hsub p hp)))
  case turn =>
    rintro i t I1 it1 m₁ news₁ s₁ hi ⟨u', Sx, ws, nn, oc', vc, rest, rfl, hd, rfl, hmx, hws, hsub, hrest⟩ F6 N6 hoff
    dsimp only [kstB] at F6
    have hIL : I1 ≠ L' + 1 := Ne.symm (hoff (L' + 1, oc') (.head _))
    walk1
    walk1
    try dsimp only
    (repeat' ((fail_if_success (with_reducible show LCg.CompEnd _ _ _ _ _ _ _ _ _ _ _ _ _ _)); (fail_if_success (with_reducible show wpAny _ _ (exec (Stmt.For _ _ _ _ _) _) _ _ _)); (fail_if_success (with_reducible show wpAny _ _ (pyIter _) _ _ _)); (fail_if_success (with_reducible show wpAny _ _ (eval (Expr.ListComp _ _ _ _) _) _ _ _)); (fail_if_success (with_reducible show wpAny _ _ (exec (Stmt.Assign [Expr.Name (Str.ofString "sweets") _] _ _) _) _ _ _)); first | walk_at "own item" | walk1 | (dsimp only; walk1)))
    (rename Fr _ _ _ _ => hF)
    refine' LCg.ListComp_U (cl := []) hF (by with_unfolding_all rfl) (by decide) (by rfl) (by decide) (by rfl) ?_
    iterate 9 (try ((fail_if_success (with_reducible show LCg.CompSrc _ _ _ _ _ _ _ _ _ _ _ _ _ _)); walk1))
    (rename Fr _ _ _ _ => F8); (rename News _ _ _ _ => N8)
    refine' LCg.CompSrc.ledger (k := nn) (its := ws.toArray) rfl F8 N8 (.tail _ (.tail _ hmx)) ?sz (fun g => comp_idx (fun q z => ∃ n t, z = Value.int n t ∧ (triH (itN i tri))[q]? = some n) ?turn2 ?fin2)
    case sz => rw [List.size_toArray, hws.length]; show 3 ≤ sizeLine; decide
    case turn2 =>
      intro q v I oI C2 oC D2 m₂ ys2 h tk E' hq hv hC2 hx F' N' off ne
      obtain ⟨a9, u9, rfl, e⟩ := tri_at hws hv
      (repeat' ((fail_if_success (with_reducible show LCg.CompEnd _ _ _ _ _ _ _ _ _ _ _ _ _ _)); (fail_if_success (with_reducible show wpAny _ _ (exec (Stmt.For _ _ _ _ _) _) _ _ _)); (fail_if_success (with_reducible show wpAny _ _ (pyIter _) _ _ _)); (fail_if_success (with_reducible show wpAny _ _ (eval (Expr.ListComp _ _ _ _) _) _ _ _)); (fail_if_success (with_reducible show wpAny _ _ (exec (Stmt.Assign [Expr.Name (Str.ofString "sweets") _] _ _) _) _ _ _)); first | walk_at "own item" | walk1 | (dsimp only; walk1)))
      (rename Fr _ _ _ _ => F9); (rename News _ _ _ _ => N9)
      exact ⟨_, _, _, rfl, F9, N9, off, sq_mem _ (.tail _ (.tail _ hmx)), rfl, _, _, rfl, e⟩
    case fin2 =>
      intro ys hl2 hy2
      have hys := ints_of (ns := triH (itN i tri)) (hl2.trans (by rw [List.size_toArray, hws.length]; rfl)) hy2
      intro D2 h tk F7 N7 oW
      simp only [LCg.Off1] at oW
      have hDc : D2 ≠ L' + 1 := Ne.symm oW.2.1
      dsimp only
      clear F8 N8
      (repeat' ((fail_if_success (with_reducible show LCg.CompEnd _ _ _ _ _ _ _ _ _ _ _ _ _ _)); (fail_if_success (with_reducible show wpAny _ _ (exec (Stmt.For _ _ _ _ _) _) _ _ _)); (fail_if_success (with_reducible show wpAny _ _ (pyIter _) _ _ _)); (fail_if_success (with_reducible show wpAny _ _ (eval (Expr.ListComp _ _ _ _) _) _ _ _)); (fail_if_success (with_reducible show wpAny _ _ (exec (Stmt.Assign [Expr.Name (Str.ofString "sweets") _] _ _) _) _ _ _)); first | walk_at "own item" | walk1 | (dsimp only; walk1)))
      obtain ⟨t0, t1, t2, rfl⟩ := int3 hys
      (rename Fr _ _ _ _ => hF2)
      refine' LCg.Assign_ListComp_U (cl := [(Str.ofString "halves", L' + 1)]) hF2 rfl (by with_unfolding_all rfl) (by with_unfolding_all rfl) (by decide) (by rfl) (by decide) (by rfl) (by rfl) (by rfl) ?_
      iterate 9 (try ((fail_if_success (with_reducible show LCg.CompSrc _ _ _ _ _ _ _ _ _ _ _ _ _ _)); walk1))
      (rename Fr _ _ _ _ => F8); (rename News _ _ _ _ => N8); (rename IsRange _ _ _ _ _ _ _ _ => rg8)
      refine' LCg.CompSrc.range (n := 3) rfl F8 N8 rg8 (by decide) (by rfl) (by decide) (fun g => comp_idx (fun q z => ∃ n t, z = Value.int n t ∧ (triI (nx (itN i tri)))[q]? = some n) ?turn3 ?fin3)
      case turn3 =>
        intro q v I oI C2 oC D3 m₂ ys2 h tk E' hq hv hC2 hx F' N' off ne
        obtain ⟨t9, rfl⟩ := hv
        simp only [Int.zero_add] at hx
        rcases (by omega : q = 0 ∨ q = 1 ∨ q = 2) with rfl | rfl | rfl
        · change m₂ _ = some (.int 0 t9) at hx
          (repeat' ((fail_if_success (with_reducible show LCg.CompEnd _ _ _ _ _ _ _ _ _ _ _ _ _ _)); (fail_if_success (with_reducible show wpAny _ _ (exec (Stmt.For _ _ _ _ _) _) _ _ _)); (fail_if_success (with_reducible show wpAny _ _ (pyIter _) _ _ _)); (fail_if_success (with_reducible show wpAny _ _ (eval (Expr.ListComp _ _ _ _) _) _ _ _)); (fail_if_success (with_reducible show wpAny _ _ (exec (Stmt.Assign [Expr.Name (Str.ofString "sweets") _] _ _) _) _ _ _)); first | walk_at "own item" | walk1 | (dsimp only; walk1)))
          (rename Fr _ _ _ _ => F9); (rename News _ _ _ _ => N9)
          exact ⟨_, _, _, rfl, F9, N9, off, trivial, rfl, _, _, rfl, rfl⟩
        · change m₂ _ = some (.int 1 t9) at hx
          (repeat' ((fail_if_success (with_reducible show LCg.CompEnd _ _ _ _ _ _ _ _ _ _ _ _ _ _)); (fail_if_success (with_reducible show wpAny _ _ (exec (Stmt.For _ _ _ _ _) _) _ _ _)); (fail_if_success (with_reducible show wpAny _ _ (pyIter _) _ _ _)); (fail_if_success (with_reducible show wpAny _ _ (eval (Expr.ListComp _ _ _ _) _) _ _ _)); (fail_if_success (with_reducible show wpAny _ _ (exec (Stmt.Assign [Expr.Name (Str.ofString "sweets") _] _ _) _) _ _ _)); first | walk_at "own item" | walk1 | (dsimp only; walk1)))
          (rename Fr _ _ _ _ => F9); (rename News _ _ _ _ => N9)
          exact ⟨_, _, _, rfl, F9, N9, off, trivial, rfl, _, _, rfl, rfl⟩
        · change m₂ _ = some (.int 2 t9) at hx
          (repeat' ((fail_if_success (with_reducible show LCg.CompEnd _ _ _ _ _ _ _ _ _ _ _ _ _ _)); (fail_if_success (with_reducible show wpAny _ _ (exec (Stmt.For _ _ _ _ _) _) _ _ _)); (fail_if_success (with_reducible show wpAny _ _ (pyIter _) _ _ _)); (fail_if_success (with_reducible show wpAny _ _ (eval (Expr.ListComp _ _ _ _) _) _ _ _)); (fail_if_success (with_reducible show wpAny _ _ (exec (Stmt.Assign [Expr.Name (Str.ofString "sweets") _] _ _) _) _ _ _)); first | walk_at "own item" | walk1 | (dsimp only; walk1)))
          (rename Fr _ _ _ _ => F9); (rename News _ _ _ _ => N9)
          exact ⟨_, _, _, rfl, F9, N9, off, trivial, rfl, _, _, rfl, rfl⟩
      case fin3 =>
        intro ys3 hl3 hy3
        have hys3 := ints_of (ns := triI (nx (itN i tri))) hl3 hy3
        intro D3 h3 tk3 F10 N10 oX
        simp only [LCg.Off1] at oX
        dsimp only
        refine wpAny_execs_nil ?_
        obtain ⟨u9, F11⟩ := fr_some [(Str.ofString "sweets", Value.ref D3)] (by kst_all) F10
        exact ⟨rfl, _, _, _, _, rfl, F11, swap4 N10, off4 hoff (Ne.symm oW.1) (Ne.symm oX.2.1), u9, D3, ys3, _, _, _, _, rfl, by assumption, rfl, .head _, hys3, fun p hp => .tail _ (.tail _ (hsub p hp)), off_two hrest hDc (Ne.symm oX.2.2.1)⟩
end
end Mine
end
section
open PySem PySem.W PyProof.Rows
namespace Mine
def sm (t : Tri) : Nat := t.1 + t.2.1 + t.2.2
theorem sm_le {t : Tri} (h : le8 t) : sm t ≤ 24 := by
  obtain ⟨a, b, c⟩ := t
  unfold le8 at h
  unfold sm
  dsimp only at *
  omega
theorem sm_sum (t : Tri) : (triI t).sum = (sm t : Int) := by
  unfold triI sm
  simp only [List.sum_cons, List.sum_nil]
  omega
theorem small_app {x y : Str} (hx : small x) (hy : small y) : small (x ++ y) := fun c hc => by
  rw [lst_app] at hc
  rcases List.mem_append.mp hc with h | h
  · exact hx c h
  · exact hy c h
theorem small_rep {n l : Nat} (h : l < 1114112) : small ⟨(List.replicate n l).toArray⟩ := fun c hc => by
  have : c ∈ List.replicate n l := by simpa [lst] using hc
  rw [List.eq_of_mem_replicate this]; exact h
theorem small_lit {x : Str} (h : (lst x).all (fun c => decide (c < 1114112)) = true) : small x := fun c hc => by
  simpa using List.all_eq_true.mp h c hc
theorem small_wd (h k : Nat) : small (wd h k) ∨ ¬ k < 1114112 := by
  by_cases hk : k < 1114112
  · left
    intro c hc
    rw [lst_wd] at hc
    unfold wdL at hc
    rcases List.mem_append.mp hc with h | h
    · rw [List.eq_of_mem_replicate h]; decide
    · rw [List.mem_singleton.mp h]; exact hk
  · exact .inr hk
theorem small_w {h k : Nat} (hk : k < 1114112) : small (wd h k) := (small_wd h k).resolve_right (fun h => h hk)
theorem wd_a (q : Nat) : dotsS (1 + q) ++ Str.ofString "a" = wd q 97 := str_ext (by rw [lst_app, lst_dots, lst_wd, show lst (Str.ofString "a") = [97] by decide +kernel]; rfl)
theorem wd_A (q : Nat) : dotsS (1 + q) ++ Str.ofString "A" = wd q 65 := str_ext (by rw [lst_app, lst_dots, lst_wd, show lst (Str.ofString "A") = [65] by decide +kernel]; rfl)
theorem wd_b (q : Nat) : dotsS (1 + q) ++ Str.ofString "b" = wd q 98 := str_ext (by rw [lst_app, lst_dots, lst_wd, show lst (Str.ofString "b") = [98] by decide +kernel]; rfl)
section
variable {prog : Program} {w : World} {A : Around} {E : Value → Shared → Prop} {s : Shared} {Q : Value → Shared → Prop}
theorem add_wd {q l : Nat} {z : Str} {t u : Tok} (hz : z.length = 1) (hq : q ≤ 100) (e : dotsS (1 + q) ++ z = wd q l) (h : ∀ t' k, Q (.str (wd q l) t') { s with toks := k }) : wpAny (model prog w) A (binaryOp .Add (.str (dotsS (1 + q)) t) (.str z u)) Q E s :=
  add_txt (by rw [dots_len']; omega) (by omega) fun t' k _ => by rw [e]; exact h t' k
end
theorem len_la : (Str.ofString "a").length = 1 := by decide +kernel
theorem len_lA : (Str.ofString "A").length = 1 := by decide +kernel
theorem len_lb : (Str.ofString "b").length = 1 := by decide +kernel
theorem len_bq : (Str.ofString " \"").length = 2 := by decide +kernel
theorem len_c250 : (Str.ofString "250").length = 3 := by decide +kernel
theorem small_rest (n : Nat) : small ((Str.ofString " \"" ++ ⟨(List.replicate n 34).toArray⟩) ++ Str.ofString "a") :=
  small_app (small_app (small_lit (by decide +kernel)) (small_rep (by decide))) (small_lit (by decide +kernel))
theorem small_2 {x : Str} (hx : small x) : ∀ y ∈ [Str.ofString "250" ++ x, Str.ofString ""], small y := by
  intro y hy
  simp only [List.mem_cons, List.not_mem_nil, or_false] at hy
  rcases hy with rfl | rfl
  · exact small_app (small_lit (by decide +kernel)) hx
  · exact small_lit (by decide +kernel)
theorem small_ws (q : Nat) : ∀ y ∈ [wd q 97, wd q 65, wd q 98], small y := small_3 (small_w (by decide)) (small_w (by decide)) (small_w (by decide))
end Mine
end
section
open PySem PySem.W PyProof.Rows
namespace Mine
local macro_rules | `(tactic| walk_at "own item") => `(tactic| first
  | ((with_reducible show wpAny _ _ (subscriptTail (Expr.Name (Str.ofString "shown") _) _ (Value.ref _) (Value.int _ _)) _ _ _); (with_reducible rename News _ _ _ _ => N'); k_dflt (refine' led_neg N' ?m ?a ?b ?z ?c ?_ ?d; (case m => k_mem); (case a => decide); (case b => (rw [List.length_map]); omega); (case z => (rw [List.length_map]); omega); (case c => assumption); (case d => simp only [subscripted])))
  | ((with_reducible show wpAny _ _ (subscriptTail (Expr.Name (Str.ofString "far") _) _ (Value.ref _) (Value.int _ _)) _ _ _); (with_reducible rename News _ _ _ _ => N'); k_dflt (refine' led_item N' ?m ?a ?b ?c ?_ ?d; (case m => k_mem); (case a => decide); (case b => decide); (case c => exact rfl); (case d => simp only [subscripted])))
  | ((with_reducible show wpAny _ _ (binaryOp Operator.Mult (Value.str (Str.ofString ".") _) (Value.int _ _)) _ _ _); k_dflt (refine' mul_dots1 ?a ?_; (case a => assumption)); intro _ _ _)
  | ((with_reducible show wpAny _ _ (binaryOp Operator.Mult (Value.str _ _) (Value.int _ _)) _ _ _); k_dflt (refine' mul_marks ?a ?_; (case a => omega)); intro _ _ _)
  | ((with_reducible show wpAny _ _ (binaryOp Operator.Add (Value.str (dotsS _) _) (Value.str _ _)) _ _ _); k_dflt (first | (refine' add_wd len_la ?a (wd_a _) ?_; (case a => assumption)) | (refine' add_wd len_lA ?a (wd_A _) ?_; (case a => assumption)) | (refine' add_wd len_lb ?a (wd_b _) ?_; (case a => assumption))); intro _ _)
  | ((with_reducible show wpAny _ _ (binaryOp Operator.Add (Value.str _ _) (Value.str _ _)) _ _ _); k_dflt (refine' add_txt ?a ?b ?_; (case a => omega); (case b => omega)); intro _ _ _))
section
variable {fa lc : Addr} {w : World} {p : Program} {loose : List Str} {mean : ExcName → Option Value} {mg mb : Str → Option Value} {base h₀ : Heap} {m : Str → Option Value} {s : Shared} {Q : Flow → Shared → Prop}
set_option maxRecDepth 100000 in
set_option maxHeartbeats 1000000 in
theorem close_w {L' D Sw Sh : Addr} {o2 : Obj} {ws cs' : List Value} {tri : Tri} {j : Nat} {u : Str → Option Value} {ds : List Addr} {rest : List (Addr × Obj)}
    (hle : le8 tri) (hws : IntsAre ws (triI tri)) (hMid : Mid L' tri (rds tri) Sh Sw D ws cs' o2 rest ds)
    (B : Below callerA base [] h₀) (XB : (Mine.hd.heap_39 w.params).In base) (TB : Top p loose mean mg mb base) (X : (Mine.hd.heap_39 w.params).In h₀) (T : Top p loose mean mg mb h₀)
    (F : Fr h₀ L' s.heap (kstB u [(Str.ofString "sweets", .ref Sw)])) (N : News h₀ L' s.heap ((Sh, PySem.W.listOf (ds.map Value.ref).toArray j) :: (L' + 1 + 1, o2) :: rest))
    (ret : ∀ h' tk' m' news', Fr h₀ L' h' m' → News h₀ L' h' news' → Q (.ret (.bool true)) { s with heap := h', toks := tk' }) :
    wpAny (model PySem.Challenge.rw_rs0052_03.prog w) (callerA.deeper (envOfC (Str.ofString "law") (scopeAt PySem.Challenge.rw_rs0052_03.prog 20) L' fa (.ref lc)))
      (execs ((stmtsAt PySem.Challenge.rw_rs0052_03.prog 20).drop 6) (envOfC (Str.ofString "law") (scopeAt PySem.Challenge.rw_rs0052_03.prog 20) L' fa (.ref lc))) Q (fun _ _ => False) s := by
  obtain ⟨hd2, hrS, hr3, hS2, hS3, hmSw, hmD, hlen, hds⟩ := hMid
  obtain ⟨ysl, hml, hysl⟩ := hds (rds tri) (by rw [hlen]; exact Nat.lt_succ_self _)
  rw [still_is hle] at hysl
  have hlast := ds_last hlen
  generalize ds.getD (rds tri) 0 = dl at hml hlast
  have hr12 := rds_le hle
  have hsm := sm_le hle
  have l1 := len_bq
  have l2 := len_la
  have l3 := len_c250
  have hq100 : hf (itN 8 tri).1 ≤ 100 := by have := (itN_le hle 8).1; unfold hf; omega
  k_with_none
  w_top off
  revert X
  k_fill
  intro X
  conv in (occs := *) scopeAt _ _ => all_goals whnf
  conv in (occs := *) List.drop _ _ => all_goals whnf
  dsimp only [kstB] at F
  (repeat' ((fail_if_success (with_reducible show wpAny _ _ (call (Value.builtin "sum") _) _ _ _)); (fail_if_success (with_reducible show wpAny _ _ (compareOp _ (Value.ref _) (Value.ref _)) _ _ _)); first | ((with_reducible show wpAny _ _ (execs [] _) _ _ _); refine wpAny_execs_nil ?_; (try dsimp only)) | walk_at "own item" | ((fail_if_success (with_reducible show wpAny _ _ (call (Value.ref _) _) _ _ _)); (fail_if_success (with_reducible show wpAny _ _ (subscriptTail (Expr.Name _ _) _ (Value.ref _) _) _ _ _)); first | walk1 | (dsimp only; walk1))))
  (rename Fr _ _ _ _ => F1); (rename News _ _ _ _ => N1)
  refine sumK rfl F1 N1 (led_list N1 (.tail _ (.tail _ hmSw))) hws ?_
  intro h2 tk2 t2 F2 N2
  rw [sm_sum]
  clear F1 N1
  dsimp only
  (repeat' ((fail_if_success (with_reducible show wpAny _ _ (call (Value.builtin "sum") _) _ _ _)); (fail_if_success (with_reducible show wpAny _ _ (compareOp _ (Value.ref _) (Value.ref _)) _ _ _)); first | ((with_reducible show wpAny _ _ (execs [] _) _ _ _); refine wpAny_execs_nil ?_; (try dsimp only)) | walk_at "own item" | ((fail_if_success (with_reducible show wpAny _ _ (call (Value.ref _) _) _ _ _)); (fail_if_success (with_reducible show wpAny _ _ (subscriptTail (Expr.Name _ _) _ (Value.ref _) _) _ _ _)); first | walk1 | (dsimp only; walk1))))
  (rename Fr _ _ _ _ => F3); (rename News _ _ _ _ => N3)
  k_dflt (refine' other_r ?B XB TB F3 ?X N3 ?T ?K ?x ?D ?U ?_; (case B => k_asm); (case X => k_asm); (case T => k_asm); (case K => exact rfl); (case x => omega); (case D => ktr_room); (case U => ktr_units))
  intro lo p0 p1 h4 tk4 F4 N4
  dsimp only
  clear F3 N3
  (repeat' ((fail_if_success (with_reducible show wpAny _ _ (call (Value.builtin "sum") _) _ _ _)); (fail_if_success (with_reducible show wpAny _ _ (compareOp _ (Value.ref _) (Value.ref _)) _ _ _)); first | ((with_reducible show wpAny _ _ (execs [] _) _ _ _); refine wpAny_execs_nil ?_; (try dsimp only)) | walk_at "own item" | ((fail_if_success (with_reducible show wpAny _ _ (call (Value.ref _) _) _ _ _)); (fail_if_success (with_reducible show wpAny _ _ (subscriptTail (Expr.Name _ _) _ (Value.ref _) _) _ _ _)); first | walk1 | (dsimp only; walk1))))
  (rename News _ _ _ _ => N5)
  k_dflt (refine' ne_strs (led_list N5 ?ma) (led_list N5 ?mb) ?si ?sj ?hs ?hu ?_; (case ma => k_mem); (case mb => k_mem); (case si => exact .cons _ _ (.cons _ _ .nil)); (case sj => exact .cons _ _ (.cons _ _ .nil)); (case hu => ke_room); (case hs => exact small_2 (small_rest _)))
  (repeat' ((fail_if_success (with_reducible show wpAny _ _ (call (Value.builtin "sum") _) _ _ _)); (fail_if_success (with_reducible show wpAny _ _ (compareOp _ (Value.ref _) (Value.ref _)) _ _ _)); first | ((with_reducible show wpAny _ _ (execs [] _) _ _ _); refine wpAny_execs_nil ?_; (try dsimp only)) | walk_at "own item" | ((fail_if_success (with_reducible show wpAny _ _ (call (Value.ref _) _) _ _ _)); (fail_if_success (with_reducible show wpAny _ _ (subscriptTail (Expr.Name _ _) _ (Value.ref _) _) _ _ _)); first | walk1 | (dsimp only; walk1))))
  (rename Fr _ _ _ _ => F6); (rename News _ _ _ _ => N6)
  k_dflt (refine' far_r ?B F6 ?X N6 ?T ?K (.tail _ (.tail _ (.tail _ (.tail _ hmSw)))) hws hle ?D ?U ?_; (case B => k_asm); (case X => k_asm); (case T => k_asm); (case K => exact rfl); (case D => ktr_room); (case U => ktr_units))
  intro Df ysf h7 tk7 hysf F7 N7
  obtain ⟨f0, f1, f2, rfl⟩ := int3 hysf
  clear F6 N6
  dsimp only
  (repeat' ((fail_if_success (with_reducible show wpAny _ _ (call (Value.builtin "sum") _) _ _ _)); (fail_if_success (with_reducible show wpAny _ _ (compareOp _ (Value.ref _) (Value.ref _)) _ _ _)); first | ((with_reducible show wpAny _ _ (execs [] _) _ _ _); refine wpAny_execs_nil ?_; (try dsimp only)) | walk_at "own item" | ((fail_if_success (with_reducible show wpAny _ _ (call (Value.ref _) _) _ _ _)); (fail_if_success (with_reducible show wpAny _ _ (subscriptTail (Expr.Name _ _) _ (Value.ref _) _) _ _ _)); first | walk1 | (dsimp only; walk1))))
  (rename Fr _ _ _ _ => F8); (rename News _ _ _ _ => N8)
  k_dflt (refine' eq_strs (led_list N8 ?mc) (led_list N8 ?md) hysl ?sj2 ?hs2 ?hu2 ?_; (case mc => exact .tail _ (.tail _ (.tail _ (.tail _ (.tail _ (.tail _ hml)))))); (case md => k_mem); (case sj2 => exact .cons _ _ (.cons _ _ (.cons _ _ .nil))); (case hu2 => ke_room); (case hs2 => exact small_ws _))
  (repeat' ((fail_if_success (with_reducible show wpAny _ _ (call (Value.builtin "sum") _) _ _ _)); (fail_if_success (with_reducible show wpAny _ _ (compareOp _ (Value.ref _) (Value.ref _)) _ _ _)); first | ((with_reducible show wpAny _ _ (execs [] _) _ _ _); refine wpAny_execs_nil ?_; (try dsimp only)) | walk_at "own item" | ((fail_if_success (with_reducible show wpAny _ _ (call (Value.ref _) _) _ _ _)); (fail_if_success (with_reducible show wpAny _ _ (subscriptTail (Expr.Name _ _) _ (Value.ref _) _) _ _ _)); first | walk1 | (dsimp only; walk1))))
  exact ret _ _ _ _ F8 N8
end
end Mine
end
section
open PySem PySem.W PyProof.Rows
namespace Mine
section
variable {M : Model} {A : Around} {env : Env} {E : Value → Shared → Prop} {s : Shared} {Q : Flow → Shared → Prop}
theorem drop_one (l : List Stmt) (k : Nat) (h : k < l.length) : l.drop k = (l[k]?).getD default :: l.drop (k + 1) := by
  rw [List.drop_eq_getElem_cons h, List.getElem?_eq_getElem h]; rfl
end
end Mine
end
section
open PySem PySem.W PyProof.Rows
namespace Mine
theorem cons_one {ys : List Value} {n : Nat} (h : ys.length = n + 1) : ∃ a r, ys = a :: r ∧ r.length = n := by
  cases ys with
  | nil => simp at h
  | cons a r => exact ⟨a, r, rfl, by simpa using h⟩
theorem four {ys : List Value} (h : ys.length = 4) : ∃ a b c d, ys = [a, b, c, d] := by
  obtain ⟨a, r1, rfl, h1⟩ := cons_one h
  obtain ⟨b, r2, rfl, h2⟩ := cons_one h1
  obtain ⟨c, r3, rfl, h3⟩ := cons_one h2
  obtain ⟨d, r4, rfl, h4⟩ := cons_one h3
  exact ⟨a, b, c, d, by rw [List.length_eq_zero_iff.mp h4]⟩
section
variable {fa lc : Addr} {w : World} {p : Program} {loose : List Str} {mean : ExcName → Option Value} {mg mb : Str → Option Value} {base h₀ : Heap} {m : Str → Option Value} {s : Shared} {Q : Flow → Shared → Prop}
set_option maxRecDepth 100000 in
set_option maxHeartbeats 4000000 in
theorem law_chain {L' S : Addr} {cell o2 o3 : Obj} {vs : List Value} {ns : List Int}
    (B : Below callerA base [] h₀) (XB : (Mine.hd.heap_39 w.params).In base) (TB : Top p loose mean mg mb base) (X : (Mine.hd.heap_39 w.params).In h₀) (T : Top p loose mean mg mb h₀)
    (F : Fr h₀ L' s.heap m) (N : News h₀ L' s.heap [(L' + 1, cell), (L' + 1 + 1, o2), (L' + 1 + 1 + 1, o3)]) (hcell : cell.data = .cell (some (.ref S))) (hl : h₀.IsList S vs.toArray) (hi : IntsAre vs ns) (hlen : ns.length ≤ 63)
    (h2 : o2.data = .cell none) (h3 : o3.data = .cell none)
    (ret : ∀ h' tk' m' news', Fr h₀ L' h' m' → News h₀ L' h' news' → Q (.ret (.bool true)) { s with heap := h', toks := tk' }) :
    wpAny (model PySem.Challenge.rw_rs0052_03.prog w) (callerA.deeper (envOfC (Str.ofString "law") (scopeAt PySem.Challenge.rw_rs0052_03.prog 20) L' fa (.ref lc)))
      (execs (stmtsAt PySem.Challenge.rw_rs0052_03.prog 20) (envOfC (Str.ofString "law") (scopeAt PySem.Challenge.rw_rs0052_03.prog 20) L' fa (.ref lc))) Q (fun _ _ => False) s := by
  have hn : (stmtsAt PySem.Challenge.rw_rs0052_03.prog 20).length = 10 := by rfl
  rw [show stmtsAt PySem.Challenge.rw_rs0052_03.prog 20 = (stmtsAt PySem.Challenge.rw_rs0052_03.prog 20).drop 0 from rfl, drop_one _ 0 (by rw [hn]; decide)]
  refine wpAny_execs_cons (cells_st X T F N hcell hl hi hlen ?_)
  intro D ys h1 tk1 hys hc F1 N1 hlt
  obtain ⟨y0, y1, y2, y3, rfl⟩ := four hys
  obtain ⟨c0, t0, rfl, _⟩ := hc 0 y0 rfl
  obtain ⟨c1, t1, rfl, _⟩ := hc 1 y1 rfl
  obtain ⟨c2, t2, rfl, _⟩ := hc 2 y2 rfl
  obtain ⟨c3, t3, rfl, _⟩ := hc 3 y3 rfl
  clear hc hys
  have hD : @LT.lt Nat _ (L' + 3) D := hlt (L' + 1 + 1 + 1, o3) (by k_mem)
  show wpAny _ _ (execs ((stmtsAt PySem.Challenge.rw_rs0052_03.prog 20).drop 1) _) Q _ _
  rw [drop_one _ 1 (by rw [hn]; decide)]
  refine wpAny_execs_cons (sweets_w B X T F1 (fun p hp => N1 p (by revert p; lcg_sub)) ?_)
  intro Sw ws tri h2' tk2 u2 hle hws hoff F2 N2
  show wpAny _ _ (execs ((stmtsAt PySem.Challenge.rw_rs0052_03.prog 20).drop 2) _) Q _ _
  rw [drop_one _ 2 (by rw [hn]; decide)]
  refine wpAny_execs_cons (shown_w hle hws hD hoff h2 B X T F2 N2 ?_)
  intro Sh ds o2' rest j h3' tk3 u3 hMid F3 N3
  show wpAny _ _ (execs ((stmtsAt PySem.Challenge.rw_rs0052_03.prog 20).drop 3) _) Q _ _
  rw [drop_one _ 3 (by rw [hn]; decide)]
  refine wpAny_execs_cons (uneven_w hle hMid B X T F3 N3 ?_)
  intro h4' tk4 u4 tu F4 N4
  show wpAny _ _ (execs ((stmtsAt PySem.Challenge.rw_rs0052_03.prog 20).drop 4) _) Q _ _
  rw [drop_one _ 4 (by rw [hn]; decide)]
  refine wpAny_execs_cons (rounds_w hle hMid h3 B X T F4 N4 ?_)
  intro h5' tk5 u5 ds' rest' j' hMid' F5 N5
  show wpAny _ _ (execs ((stmtsAt PySem.Challenge.rw_rs0052_03.prog 20).drop 5) _) Q _ _
  rw [drop_one _ 5 (by rw [hn]; decide)]
  refine wpAny_execs_cons (apart_w hle hMid' B X T F5 N5 ?_)
  intro h6' tk6 u6 F6 N6
  exact close_w hle hws hMid' B XB TB X T F6 N6 fun h' tk' m' news' F' N' => ret h' tk' m' news' F' N'
end
set_option maxRecDepth 100000 in
set_option maxHeartbeats 4000000 in
theorem law_t : PySem.Challenge.rw_rs0052_03.Holds := by
  refine hd ?_
  k_go0
  rename Shared => s1
  rename Heap => h1
  (rename Top _ _ _ _ _ _ => T9); (rename Below _ _ _ _ => B9); (rename Frag.In _ _ => X9); (rename Fr _ _ _ _ => F9); (rename News _ _ _ _ => N9); (rename IntsAre _ _ => hI); (rename Heap.IsList _ _ _ => hL); (rename ¬ _ < _ => hcond)
  (rename Obj.data _ = _ => d1); revert d1
  (rename Obj.data _ = _ => d2); revert d2
  (rename Obj.data _ = _ => d3)
  intro d2 d1
  have key := fun Q fa lc tk => law_chain (Q := Q) (fa := fa) (lc := lc) (h₀ := s1.heap) (base := s1.heap) (L' := s1.heap.objs.size) (s := { s1 with heap := h1, toks := tk }) B9 X9 T9 X9 T9 F9 (fun p hp => N9 p (by revert p; lcg_sub)) (d1.trans rfl) hL hI (by omega) (d2.trans rfl) (d3.trans rfl)
  refine wpAny_mono (key (fun fl s' => fl = Flow.ret (.bool true) ∧ ∃ h' tk' m' news', s' = { s1 with heap := h', toks := tk' } ∧ Fr s1.heap s1.heap.objs.size h' m' ∧ News s1.heap s1.heap.objs.size h' news') _ _ _ (fun h' tk' m' news' F' N' => ⟨rfl, h', tk', m', news', rfl, F', N'⟩)) ?_ (fun _ _ h => h.elim)
  rintro fl s' ⟨rfl, h', tk', m', news', rfl, F', N'⟩
  dsimp only
  k_end
  wrow_close
end Mine
end
theorem PySem.Challenge.cw_rs0052_03_holds : PySem.Challenge.rw_rs0052_03.Holds := by
  exact Mine.law_t
