import PyProof.Rows.All
import Wide.All
import OpenK.AllK
import Wide.FinOn
import KE.KLcPair
import Lean
import PySem.Challenge.RW_rs0052_02
set_option Elab.async false
set_option compiler.extract_closed false
section
open PySem PySem.W PyProof.Rows
namespace Mine
def CutQ (h₀ : Heap) (L : Addr) (m : Str → Option Value) (news : List (Addr × Obj)) (s : Shared) (P : Value → Prop) (v : Value) (s' : Shared) : Prop :=
  ∃ h' tk', s' = { s with heap := h', toks := tk' } ∧ Fr h₀ L h' m ∧ News h₀ L h' news ∧ P v
theorem cutQ_mk {h₀ : Heap} {L : Addr} {m : Str → Option Value} {news : List (Addr × Obj)} {s : Shared} {P : Value → Prop} {v : Value} {h' : Heap} {tk' : Nat} (F : Fr h₀ L h' m) (N : News h₀ L h' news) (p : P v) : CutQ h₀ L m news s P v { s with heap := h', toks := tk' } := ⟨h', tk', rfl, F, N, p⟩
theorem cut_val {M : Model} {A : Around} {E : Value → Shared → Prop} {s : Shared} {t : Sem Value} {Q : Value → Shared → Prop} {h₀ : Heap} {L : Addr} {m : Str → Option Value} {news : List (Addr × Obj)} (P : Value → Prop)
    (_F : Fr h₀ L s.heap m) (_N : News h₀ L s.heap news) (now : wpAny M A t (CutQ h₀ L m news s P) E s)
    (later : ∀ v h' tk', P v → Fr h₀ L h' m → News h₀ L h' news → Q v { s with heap := h', toks := tk' }) : wpAny M A t Q E s :=
  wpAny_mono now (fun v s' h => by obtain ⟨h', tk', rfl, F', N', p⟩ := h; exact later v h' tk' p F' N') fun _ _ h => h

def WOut {σ : Type} (h₀ : Heap) (L : Addr) (s : Shared) (Led : σ → List (Addr × Obj)) (ps : σ → List (Str × Value)) (stored : List Str) (m₀ : Str → Option Value) (X : σ → Prop) (f : Flow) (s₂ : Shared) : Prop :=
  f = .next ∧ ∃ (c : σ) (h : Heap) (tk : Nat) (m' : Str → Option Value) (news' : List (Addr × Obj)), s₂ = { s with heap := h, toks := tk } ∧ Fr h₀ L h m' ∧ News h₀ L h news' ∧ (∀ p ∈ Led c, p ∈ news') ∧ (∀ p ∈ ps c, m' p.1 = some p.2) ∧ (∀ z, (∀ p ∈ ps c, z ≠ p.1) → stored.contains z = false → m' z = m₀ z) ∧ X c
theorem wout_mk {σ : Type} {h₀ : Heap} {L : Addr} {s : Shared} {Led : σ → List (Addr × Obj)} {ps : σ → List (Str × Value)} {stored : List Str} {m₀ : Str → Option Value} {X : σ → Prop} {h : Heap} {tk : Nat} {m' : Str → Option Value} {news' : List (Addr × Obj)} (c : σ)
    (F : Fr h₀ L h m') (N : News h₀ L h news') (hn : ∀ p ∈ Led c, p ∈ news') (hk : ∀ p ∈ ps c, m' p.1 = some p.2) (hr : ∀ z, (∀ p ∈ ps c, z ≠ p.1) → stored.contains z = false → m' z = m₀ z) (hx : X c) :
    WOut h₀ L s Led ps stored m₀ X .next { s with heap := h, toks := tk } := ⟨rfl, c, h, tk, m', news', rfl, F, N, hn, hk, hr, hx⟩
theorem while_cut {σ : Type} {prog : Program} {w : World} {A : Around} {E : Value → Shared → Prop} {Q : Flow → Shared → Prop} {s : Shared} {env : Env} {h₀ : Heap} {L : Addr} {test : Expr} {body : List Stmt} {pos : Pos} {m₀ : Str → Option Value}
    (Led : σ → List (Addr × Obj)) (ps : σ → List (Str × Value)) (stored : List Str) (P X : σ → Prop) (μ : σ → Nat) (c₀ : σ)
    (F : Fr h₀ L s.heap m₀) (N : News h₀ L s.heap (Led c₀)) (hk : ∀ p ∈ ps c₀, m₀ p.1 = some p.2) (hp : P c₀)
    (done : ∀ c (u : Str → Option Value) h tk, X c → Fr h₀ L h (kstB (fun z => if stored.contains z then u z else m₀ z) (ps c)) → News h₀ L h (Led c) → Q .next { s with heap := h, toks := tk })
    (turn : ∀ (c : σ) (u : Str → Option Value) h tk, P c → Fr h₀ L h (kstB (fun z => if stored.contains z then u z else m₀ z) (ps c)) → News h₀ L h (Led c) →
      wpAny (model prog w) A (isTrue test env (eval test env)) (fun b s₂ =>
        if b = true then wpAny (model prog w) A (execs body env) (KswPost h₀ L s Led ps (fun _ => True) stored m₀ P μ (WOut h₀ L s Led ps stored m₀ X) c) E s₂ else WOut h₀ L s Led ps stored m₀ X .next s₂) E { s with heap := h, toks := tk })
    (hE : PassesOwn (model prog w) A env E := by passes_own) :
    wpAny (model prog w) A (exec (.While test body [] pos) env) Q E s := by
  refine wpAny_mono (ksw_while (Q := WOut h₀ L s Led ps stored m₀ X) Led ps (fun _ => True) stored P μ c₀ F N trivial hk hp (fun c u h tk _ hP hF hN => turn c u h tk hP hF hN) hE) ?_ fun _ _ h => h
  rintro f s' ⟨rfl, c, h, tk, m', news', rfl, F', N', hn, h1, h2, hX⟩
  exact done c m' h tk hX (ksw_fr h1 h2 F') fun p hp => N' p (hn p hp)
theorem stmt_cut {σ : Type} {M : Model} {A : Around} {E : Value → Shared → Prop} {Q : Flow → Shared → Prop} {s : Shared} {t : Sem Flow} {h₀ : Heap} {L : Addr} {m₀ : Str → Option Value}
    (Led : σ → List (Addr × Obj)) (ps : σ → List (Str × Value)) (stored : List Str) (X : σ → Prop) (_F : Fr h₀ L s.heap m₀)
    (now : wpAny M A t (WOut h₀ L s Led ps stored m₀ X) E s)
    (done : ∀ c (u : Str → Option Value) h tk, X c → Fr h₀ L h (kstB (fun z => if stored.contains z then u z else m₀ z) (ps c)) → News h₀ L h (Led c) → Q .next { s with heap := h, toks := tk }) :
    wpAny M A t Q E s := by
  refine wpAny_mono now ?_ fun _ _ h => h
  rintro f s' ⟨rfl, c, h, tk, m', news', rfl, F', N', hn, h1, h2, hX⟩
  exact done c m' h tk hX (ksw_fr h1 h2 F') fun p hp => N' p (hn p hp)
end Mine
end
section
open PySem PySem.W PyProof.Rows
set_option maxRecDepth 100000
namespace Mine
section
variable {prog : Program} {w : World} {A : Around} {E : Value → Shared → Prop} {s : Shared}
theorem tup_next {it t : Addr} {i : Nat} {items : Array Value} {x : Value} {Q : Value → Shared → Prop} (hit : s.heap.IsTupleIter it t i) (ht : s.heap.IsTuple t items) (hx : items[i]? = some x)
    (hQ : ∀ h', h'.IsTupleIter it t (i + 1) → Heap.SameBut it s.heap h' → Q x { s with heap := h' }) :
    wpAny (model prog w) A (Builtin.SmallTypes.nextOf (.ref it)) Q E s := by
  obtain ⟨o, ho, hc, hd⟩ := id hit
  obtain ⟨ol, hol, _, nl, hdl⟩ := ht
  unfold Builtin.SmallTypes.nextOf
  refine wpAny_bind (wpAny_callSpecial?_slot (name := Str.ofString "__next__") hit.typeIs F.slot_tuple_iterator_next
    (wpAny_call_entry F.slot_tuple_iterator_next hit.typeIs F.entry_tuple_iterator_next ?_ (F.args_tuple_iterator_next_1 _)))
  show wpAny _ _ (field (.ref it) 0 >>= _) _ _ s
  refine wpAny_bind (wpAny_field ho hd (x := .ref t) rfl ?_)
  show wpAny _ _ (if (Value.ref t == Value.none) = true then _ else _) _ _ s
  rw [if_neg (show ¬ ((Value.ref t == Value.none) = true) from Bool.false_ne_true)]
  show wpAny _ _ (field (.ref it) 1 >>= _) _ _ s
  refine wpAny_bind (wpAny_field ho hd (x := .int i 0) rfl ?_)
  show wpAny _ _ (seqItems? (.ref t) >>= _) _ _ s
  refine wpAny_bind (wpAny_seqItems hol hdl ?_)
  simp only [Int.toNat_natCast, hx]
  refine wpAny_bind (wpAny_setField ho hd (by simp) (wpAny_pure ⟨x, rfl, wpAny_pure (hQ _ ?_ (Heap.SameBut.update ..))⟩))
  exact ⟨_, Heap.get?_update_self _ ho (Obj.isFreed_of_fields (Obj.data_mapFields hd _)), (Obj.cls_mapFields ..).trans hc, by
    rw [Obj.data_mapFields hd]; simp [rawInt]⟩
theorem tup_end {it t : Addr} {i : Nat} {items : Array Value} {Q : Value → Shared → Prop} (hh : A.handled = none) (hit : s.heap.IsTupleIter it t i) (ht : s.heap.IsTuple t items) (hx : items[i]? = none)
    (hE : ∀ h' e, Heap.ExtBut it s.heap h' → (∃ o, h'.get? e = some o ∧ o.cls = .type "StopIteration") → E (.ref e) { s with heap := h' }) :
    wpAny (model prog w) A (Builtin.SmallTypes.nextOf (.ref it)) Q E s := by
  obtain ⟨o, ho, hc, hd⟩ := id hit
  obtain ⟨ol, hol, _, nl, hdl⟩ := ht
  unfold Builtin.SmallTypes.nextOf
  refine wpAny_bind (wpAny_callSpecial?_slot (name := Str.ofString "__next__") hit.typeIs F.slot_tuple_iterator_next
    (wpAny_call_entry F.slot_tuple_iterator_next hit.typeIs F.entry_tuple_iterator_next ?_ (F.args_tuple_iterator_next_1 _)))
  show wpAny _ _ (field (.ref it) 0 >>= _) _ _ s
  refine wpAny_bind (wpAny_field ho hd (x := .ref t) rfl ?_)
  show wpAny _ _ (if (Value.ref t == Value.none) = true then _ else _) _ _ s
  rw [if_neg (show ¬ ((Value.ref t == Value.none) = true) from Bool.false_ne_true)]
  show wpAny _ _ (field (.ref it) 1 >>= _) _ _ s
  refine wpAny_bind (wpAny_field ho hd (x := .int i 0) rfl ?_)
  show wpAny _ _ (seqItems? (.ref t) >>= _) _ _ s
  refine wpAny_bind (wpAny_seqItems hol hdl ?_)
  simp only [Int.toNat_natCast, hx]
  refine wpAny_bind (wpAny_rule (wpAny_bind (wpAny_setField ho hd (by simp) ?_)))
  show wpAny _ _ (newExc (.type "StopIteration") [] >>= _) _ _ _
  refine wpAny_bind ?_
  simp only [newExc, newTuple]
  refine wpAny_bind (wpAny_newObj_type ?_ (by size_fits))
  refine wpAny_bind (m := firstArgMember _ _) (wpAny_of_eq (a := Value.none) (by first | rfl | (simp only [firstArgMember]; rfl)) ?_)
  refine wpAny_newObj_type ?_ (by size_fits)
  simp only [raiseNew]
  refine wpAny_bind (wpAny_handled ?_)
  first | rw [show A.in1.handled = none from hh] | rw [hh]
  refine wpAny_bind (wpAny_pure (wpAny_throw ?_))
  exact hE _ _ (((Heap.SameBut.update ..).extBut.push _).push _) ⟨_, Heap.get?_push_size _ rfl, rfl⟩
theorem draws_tuple {A : Around} (hh : A.handled = none) (it t : Addr) (hne : t ≠ it) (items : Array Value) :
    Draws prog w A it [it, t] items.size (fun i v => items[i]? = some v) (fun i h => h.IsTupleIter it t i ∧ h.IsTuple t items) where
  live := fun _ _ st => let ⟨o, ho, _⟩ := st.1; ⟨o, ho⟩
  frame := fun _ _ _ st hk => by
    obtain ⟨⟨o, ho, r⟩, ⟨o', ho', r'⟩⟩ := st
    exact ⟨⟨o, hk it (by simp) o ho, r⟩, ⟨o', hk t (by simp) o' ho', r'⟩⟩
  item := fun i s Q E hi st hQ => by
    refine tup_next st.1 st.2 (x := items[i]) (by simp [hi]) fun h' hit' hs' => ?_
    exact hQ _ h' s.toks (by simp [hi]) ⟨hit', st.2.extBut hs'.extBut hne⟩ hs'
  done := fun s Q E st hE => tup_end hh st.1 st.2 (by simp) hE
end
open AutoSeq1 (wpAny_loadPart') in
theorem meets_enumerate_newT (t : Addr) (items : Array Value) (n : Nat) (dct : Option Addr) (sl : Array (Option Value)) :
    Meets (Builtin.«enumerate.__new__» ⟨[.type "enumerate", .ref t], []⟩) (fun _ R s => s.heap.get? t = some { cls := .type "tuple", dict := dct, data := .seq items n, slots := sl } ∧
      R (.ok (.ret (.ref (s.heap.push { cls := .type "tuple_iterator", data := .fields #[.ref t, .int 0 0] }).objs.size)))
        { s with heap := (s.heap.push { cls := .type "tuple_iterator", data := .fields #[.ref t, .int 0 0] }).push { cls := .type "enumerate", data := .fields #[.none, .bool false, .ref s.heap.objs.size, rawInt 0, .none, .none] } }) :=
  .of_wp fun prog w A R s h => by
    obtain ⟨hp, g, d, tk, os⟩ := s; obtain ⟨hl, h⟩ := h
    have hsub := sub_enumerate
    have hL : Heap.IsTuple (Shared.heap ⟨hp, g, d, tk, os⟩) t items := ⟨_, hl, rfl, n, rfl⟩
    wp_walk using wpAny_loadPart' hl
    refine wpAny_stack_any fun st => wpAny_pure ?_
    split
    · rename_i c _ _ _ _ _
      cases (c == Value.type "enumerate")
      · wp_walk using wpAny_loadPart' hl, wpAny_pyIter_tuple hL
        exact ⟨_, rfl, h⟩
      · wp_walk using wpAny_loadPart' hl, wpAny_pyIter_tuple hL
        exact ⟨_, rfl, h⟩
    · wp_walk using wpAny_loadPart' hl, wpAny_pyIter_tuple hL
      exact ⟨_, rfl, h⟩
theorem call_enumerate_tuple {prog : Program} {w : World} {A : Around} {E : Value → Shared → Prop} {s : Shared} {t : Addr} {items : Array Value} {Q : Value → Shared → Prop} (hL : s.heap.IsTuple t items)
    (h : ∀ h', IsEnum h' (s.heap.objs.size + 1) s.heap.objs.size 0 .none → h'.IsTupleIter s.heap.objs.size t 0 → h'.objs.size = s.heap.objs.size + 2 →
      (∀ b o, s.heap.get? b = some o → h'.get? b = some o) → Q (.ref (s.heap.objs.size + 1)) { s with heap := h' }) :
    wpAny (model prog w) A (call (.type "enumerate") [.ref t]) Q E s := by
  obtain ⟨⟨c, dct, dt, sl⟩, hl, hc, n, hd⟩ := hL
  replace hc : c = .type "tuple" := hc
  replace hd : dt = .seq items n := hd
  subst hc hd
  refine callType_new F.called_enumerate (by decide) (F.typeCall_enumerate_1 _) (F.newCall_enumerate_1 _) (fun obj => F.args_object_init_2 obj _) F.entry_enumerate_new
    (meets_enumerate_newT t items n dct sl) ⟨hl, ?_⟩
  have hz : (s.heap.push { cls := .type "tuple_iterator", data := .fields #[.ref t, .int 0 0] }).objs.size = s.heap.objs.size + 1 := Heap.size_push ..
  show _ ∧ _
  rw [hz]
  have he : IsEnum ((s.heap.push { cls := .type "tuple_iterator", data := .fields #[.ref t, .int 0 0] }).push
      { cls := .type "enumerate", data := .fields #[.none, .bool false, .ref s.heap.objs.size, rawInt 0, .none, .none] }) (s.heap.objs.size + 1) s.heap.objs.size 0 .none := by
    have := Heap.get?_push_size (s.heap.push { cls := .type "tuple_iterator", data := .fields #[.ref t, .int 0 0] })
      (o := { cls := .type "enumerate", data := .fields #[.none, .bool false, .ref s.heap.objs.size, rawInt 0, .none, .none] }) rfl
    rw [hz] at this; exact this
  refine ⟨⟨_, he, rfl⟩, h _ he ⟨_, Heap.get?_push_of_some _ (Heap.get?_push_size _ rfl), rfl, rfl⟩ (by rw [Heap.size_push, hz]) fun b o x => Heap.get?_push_of_some _ (Heap.get?_push_of_some _ x)⟩
end Mine
end
section
open PySem PySem.W PyProof.Rows PySem.Spec PySem.Calls
open PyProof.Rows.LCg PyProof.Rows.LCp
set_option maxRecDepth 100000
set_option maxHeartbeats 2000000
namespace Mine
section
variable {prog : Program} {w : World} {A : Around} {E : Value → Shared → Prop} {s : Shared} {h₀ : Heap} {L : Addr} {m : Str → Option Value} {env : Env}
theorem fp_entries {h : Heap} : ∀ (fp : List Addr), (∀ b ∈ fp, (∃ o, h.get? b = some o) ∧ b ≠ L) → ∃ es : List (Addr × Obj), News h₀ L h es ∧ ∀ b ∈ fp, h₀.get? b = none → ∀ o, h.get? b = some o → (b, o) ∈ es
  | [], _ => ⟨[], (fun _ h => nomatch h), (fun _ h => nomatch h)⟩
  | b :: r, hb => by
    obtain ⟨es, N, h1⟩ := fp_entries r fun c hc => hb c (.tail _ hc)
    obtain ⟨⟨o, ho⟩, hL⟩ := hb b (.head _)
    by_cases h0 : h₀.get? b = none
    · refine ⟨(b, o) :: es, fun p hp => ?_, fun c hc hc0 o' ho' => ?_⟩
      · rcases List.mem_cons.mp hp with rfl | hp
        · exact ⟨ho, hL, h0⟩
        · exact N p hp
      · rcases List.mem_cons.mp hc with rfl | hc
        · rw [ho] at ho'; cases ho'; exact .head _
        · exact .tail _ (h1 c hc hc0 o' ho')
    · refine ⟨es, N, fun c hc hc0 o' ho' => ?_⟩
      rcases List.mem_cons.mp hc with rfl | hc
      · exact absurd hc0 h0
      · exact h1 c hc hc0 o' ho'
theorem block_T {elt iter : Expr} {x x₂ : Str} {px px₂ tp : Pos} {tk} {scope : Scope} {cl : List (Str × Addr)} {pos : Pos} {s₂ : Shared} {I : Addr} {fp wr : List Addr} {n : Nat} {Pt : Nat → Array Value → Prop} {P : Nat → Value → Value → Prop} {St : Nat → Heap → Prop} {Mid : Nat → Addr → Heap → Prop}
    {news : List (Addr × Obj)} {Y : Nat → Value → Prop} {RR : Value → Addr → Result → Shared → Prop}
    (W : WalksT prog w A I fp wr n Pt St Mid) (hsz : n ≤ sizeLine) (hlive : ∀ i h, St i h → ∀ b ∈ fp, ∃ o, h.get? b = some o) (hfp : ∀ b ∈ fp, b < s₂.heap.objs.size) (hLf : ∀ b ∈ fp, b ≠ L)
    (hw0 : ∀ b ∈ wr, h₀.get? b = none) (hwn : ∀ p ∈ news, p.1 ∉ wr) (hPt : ∀ i vals, Pt i vals → ∃ a v, vals = #[a, v] ∧ P i a v)
    (hcell : ∀ y ∈ scope.names, y.2 ≠ .cell) (hkind : scope.kind = .function) (hx : scope.names.lookup x = some .local) (hx₂ : scope.names.lookup x₂ = some .local) (hxx : x ≠ x₂) (hh : A.handled = none) (hst : St 0 s₂.heap)
    (F : Fr h₀ L s₂.heap m) (N : News h₀ L s₂.heap news)
    (elt_ok : ∀ (i : Nat) (C : Addr) (oC : Obj) (m₂ : Str → Option Value) (h : Heap) (tk : Nat) (a v : Value) (ext : List (Addr × Obj)), i < n → P i a v → NsObj oC m₂ → m₂ x = some a → m₂ x₂ = some v → Fr h₀ L h m → (∀ p ∈ news, p ∈ ext) → News h₀ L h ((C, oC) :: ext) →
      wpAny (model prog w) A (eval elt (compEnvC scope cl C env)) (fun y s' => ∃ h' tk', s' = { s₂ with heap := h', toks := tk' } ∧ Fr h₀ L h' m ∧ News h₀ L h' ((C, oC) :: ext) ∧ Y i y) (fun _ _ => False) { s₂ with heap := h, toks := tk })
    (hRR : ∀ (D C : Addr) (h : Heap) (tk : Nat) (m' : Str → Option Value) (ys : List Value), ys.length = n → (∀ i y, ys[i]? = some y → Y i y) → Fr h₀ L h m → News h₀ L h ((D, lst ys) :: news) → h.Ns C m' → h₀.get? C = none → C ≠ L → C ≠ D → (∀ p ∈ news, p.1 ≠ C) → (∀ p ∈ news, p.1 < D) →
      RR (.ref D) C (.ok .next) { s₂ with heap := h, toks := tk }) :
    wpAny (model prog w) A (newList []) (fun acc s₃ => wpAny (model prog w) A (newFunctionEnv scope env.globals cl [] env.qual none .none (some env)) (fun cenv s₄ =>
      codeAny (model prog w) A (.compStart (.ListComp elt [⟨.Tuple [.Name x px, .Name x₂ px₂] tk tp, iter, [], 0⟩] scope pos) 0 (.ref I) acc { cenv with scope := relabel scope env }) (RR acc cenv.locals) s₄) E s₃) E s₂ := by
  refine wpAny_newObj_type (wpAny_newFunctionEnv hcell (by intro y hy; simp at hy) (fun h₁ hns₁ hsb₁ => ?_) hkind)
  dsimp only at hns₁ hsb₁ ⊢
  generalize hH2 : s₂.heap.push { cls := .type "list", dict := none, data := .seq ([] : List Value).toArray } = H2 at hns₁ hsb₁ ⊢
  have hC : H2.objs.size = s₂.heap.objs.size + 1 := by rw [← hH2, Heap.size_push]
  have hDC : s₂.heap.objs.size ≠ H2.objs.size := by rw [hC]; exact Nat.ne_of_lt (Nat.lt_succ_self _)
  have below : ∀ b, b < s₂.heap.objs.size → b ≠ H2.objs.size ∧ b ≠ s₂.heap.objs.size := fun b hb => ⟨by rw [hC]; exact Nat.ne_of_lt (Nat.lt_succ_of_lt hb), Nat.ne_of_lt hb⟩
  have hDf : s₂.heap.objs.size ∉ fp := fun hm => Nat.lt_irrefl _ (hfp _ hm)
  have hCf : H2.objs.size ∉ fp := fun hm => (below _ (hfp _ hm)).1 rfl
  have hDw : s₂.heap.objs.size ∉ wr := fun hm => hDf (W.sub _ hm)
  have hCw : H2.objs.size ∉ wr := fun hm => hCf (W.sub _ hm)
  have hLw : L ∉ wr := fun hm => hLf _ (W.sub _ hm) rfl
  have old : ∀ b o, s₂.heap.get? b = some o → h₁.get? b = some o := fun b o e => hsb₁.extBut b o (below b (Heap.lt_size e)).1 (Heap.get?_push_of_some _ (hH2 ▸ Heap.get?_push_of_some _ e))
  have hacc : h₁.get? s₂.heap.objs.size = some (lst []) := hsb₁.extBut _ _ hDC (Heap.get?_push_of_some _ (hH2 ▸ Heap.get?_push_size _ rfl))
  have hst₁ : St 0 h₁ := W.frame _ _ _ hst fun b _ o e => old b o e
  have fresh₀ : ∀ a, s₂.heap.objs.size ≤ a → h₀.get? a = none := fun a ha => by
    cases e : h₀.get? a with
    | none => rfl
    | some o' => exact absurd (Heap.lt_size (F.keep a o' e)) (Nat.not_lt.mpr ha)
  have hD₀ : h₀.get? s₂.heap.objs.size = none := fresh₀ _ (Nat.le_refl _)
  have hC₀ : h₀.get? H2.objs.size = none := fresh₀ _ (by rw [hC]; exact Nat.le_succ _)
  have hLlt : L < s₂.heap.objs.size := F.ns.lt
  have hDL : s₂.heap.objs.size ≠ L := Ne.symm (below L hLlt).2
  have hCL : H2.objs.size ≠ L := Ne.symm (below L hLlt).1
  have nlt : ∀ p ∈ news, p.1 < s₂.heap.objs.size := fun p hp => Heap.lt_size (N p hp).1
  have loop : ∀ s₃ : Shared, s₃ = { s₂ with heap := h₁, toks := s₂.toks + ([] : List (Str × Value)).length } →
      codeAny (model prog w) A (.compLoop (.ListComp elt [⟨.Tuple [.Name x px, .Name x₂ px₂] tk tp, iter, [], 0⟩] scope pos) 0 (.ref I) (.ref s₂.heap.objs.size) (compEnvC scope cl H2.objs.size env))
        (RR (.ref s₂.heap.objs.size) H2.objs.size) s₃ := by
    rintro s₃ rfl
    refine codeAny_compLoop_pair
      (fun k s' => ∃ h' tk i ys m', s' = { s₂ with heap := h', toks := tk } ∧ i ≤ n ∧ k = n + 1 - i ∧ ys.length = i ∧ (∀ j y, ys[j]? = some y → Y j y) ∧ St i h' ∧ Fr h₀ L h' m ∧ h'.Ns H2.objs.size m' ∧ News h₀ L h' ((s₂.heap.objs.size, lst ys) :: news)) ?_ (n + 1)
      ⟨h₁, _, 0, [], _, rfl, Nat.zero_le _, rfl, rfl, (fun j y e => by simp at e), hst₁, F.keeps old, hns₁, fun p hp => ?_⟩
    · rintro k s' ⟨h', tk, i, ys, m', rfl, hi, rfl, hyl, hY, hst', F', hn', N'⟩
      have move : ∀ {g g' : Heap}, (∀ b o, b ∉ wr → g.get? b = some o → g'.get? b = some o) → Fr h₀ L g m → Fr h₀ L g' m := fun hk F =>
        ⟨F.ns.at' fun o e => hk _ o hLw e, fun b o e => hk b o (fun hb => by rw [hw0 b hb] at e; cases e) (F.keep b o e), F.above⟩
      have moveN : ∀ {g g' : Heap}, (∀ b o, b ∉ wr → g.get? b = some o → g'.get? b = some o) → News h₀ L g ((s₂.heap.objs.size, lst ys) :: news) → News h₀ L g' ((s₂.heap.objs.size, lst ys) :: news) := fun hk N p hp =>
        ⟨hk _ _ (by
          rcases List.mem_cons.mp hp with rfl | hp
          · exact hDw
          · exact hwn p hp) (N p hp).1, (N p hp).2⟩
      by_cases hlt : i < n
      · refine W.item i _ _ _ hlt hst' fun T vals h₂ tk₂ hPv hge hTup hMid hk₂ => ?_
        obtain ⟨a, v, rfl, hP⟩ := hPt i vals hPv
        refine W.go _ _ _ i T _ _ _ hMid fun h₃ hst₃ hk₃ => ?_
        have ht : IsTup h₃ T #[a, v] := by
          obtain ⟨o, ho, r⟩ := hTup
          exact ⟨o, hk₃ T o (W.apart i T _ hMid) ho, r⟩
        have F₃ := move hk₃ (move hk₂ F')
        have N₃ := moveN hk₃ (moveN hk₂ N')
        have hn₃ := (hn'.at' fun o e => hk₂ _ o hCw e).at' fun o e => hk₃ _ o hCw e
        refine assign_Tuple_tuple hh ht rfl rfl fun h₅ he => ?_
        have he' : ∀ b o, h₃.get? b = some o → h₅.get? b = some o := fun b o e => he b o (Nat.ne_of_lt (Heap.lt_size e)) e
        refine assignInOrder_cons (wpAny_assign_Name (wpAny_storeName_local (lookup_relabel_local hx) (hn₃.at' fun o e => he' _ o e) (fun h₆ hn₆ hs₆ => ?_) (by simp [compEnvC, relabel, hkind])))
        refine assignInOrder_cons (wpAny_assign_Name (wpAny_storeName_local (lookup_relabel_local hx₂) hn₆ (fun h₇ hn₇ hs₇ => ?_) (by simp [compEnvC, relabel, hkind])))
        refine assignInOrder_nil ?_
        have old7 : ∀ b o, b ≠ H2.objs.size → h₃.get? b = some o → h₇.get? b = some o := fun b o hb e => hs₇.extBut b o hb (hs₆.extBut b o hb (he' b o e))
        have hst₇ : St (i + 1) h₇ := W.frame _ _ _ hst₃ fun b hb o e => old7 b o (fun q => hCf (by rw [← q]; exact hb)) e
        obtain ⟨oC, heC, hoC⟩ := ns_obj hn₇
        have F₇ : Fr h₀ L h₇ m := ((F₃.keeps he').change hs₆ hCL hC₀).change hs₇ hCL hC₀
        obtain ⟨es, Nes, hes⟩ := fp_entries (h₀ := h₀) (L := L) (h := h₇) fp fun b hb => ⟨hlive _ _ hst₇ b hb, hLf b hb⟩
        have N₇ : News h₀ L h₇ ((H2.objs.size, oC) :: (s₂.heap.objs.size, lst ys) :: (es ++ news)) := fun p hp => by
          rcases List.mem_cons.mp hp with rfl | hp
          · exact ⟨heC, hCL, hC₀⟩
          · rcases List.mem_cons.mp hp with rfl | hp
            · exact ⟨old7 _ _ hDC (N₃ (s₂.heap.objs.size, lst ys) (.head _)).1, hDL, hD₀⟩
            · rcases List.mem_append.mp hp with hp | hp
              · exact Nes p hp
              · have z := N₃ p (.tail _ hp)
                exact ⟨old7 _ _ (below _ (nlt p hp)).1 z.1, z.2⟩
        refine wpAny_mono (elt_ok i H2.objs.size oC _ h₇ _ a v _ hlt hP hoC (by simp [hxx]) (by simp) F₇ (fun p hp => .tail _ (List.mem_append_right _ hp)) N₇) (fun y s₄ h₄ => ?_) fun _ _ e => e.elim
        obtain ⟨h₄, tk₄, rfl, F₄, N₄, hy⟩ := h₄
        have zC := (N₄ (H2.objs.size, oC) List.mem_cons_self).1
        have zD := (N₄ (s₂.heap.objs.size, lst ys) (List.mem_cons_of_mem _ List.mem_cons_self)).1
        have hst₄ : St (i + 1) h₄ := W.frame _ _ _ hst₇ fun b hb o e => by
          cases e0 : h₀.get? b with
          | none => exact (N₄ (b, o) (.tail _ (.tail _ (List.mem_append_left _ (hes b hb e0 o e))))).1
          | some o' =>
            have := F₇.keep b o' e0
            rw [e] at this; cases this
            exact F₄.keep b o e0
        refine append_at (hsz := by show ys.toArray.size ≤ sizeLine; rw [List.size_toArray, hyl]; exact Nat.le_trans hi hsz) zD fun h₅' hs₅ hD₅ => ?_
        refine ⟨n + 1 - (i + 1), by omega, h₅', tk₄, i + 1, ys ++ [y], _, rfl, hlt, rfl, by rw [List.length_append, List.length_singleton, hyl], ?_, W.frame _ _ _ hst₄ fun b hb o e => hs₅.extBut b o (fun q => hDf (q ▸ hb)) e, F₄.change hs₅ hDL hD₀,
          (hoC.ns zC).sameBut hs₅ (Ne.symm hDC), fun p hp => ?_⟩
        · intro j z hz
          by_cases hj : j < ys.length
          · rw [List.getElem?_append_left hj] at hz
            exact hY j z hz
          · rw [List.getElem?_append_right (by omega)] at hz
            have hj0 : j - ys.length = 0 := by
              rcases Nat.eq_zero_or_pos (j - ys.length) with h | h
              · exact h
              · rw [List.getElem?_eq_none (by simp; omega)] at hz; cases hz
            rw [hj0] at hz
            simp at hz
            subst hz
            rw [show j = i by omega]
            exact hy
        · rcases List.mem_cons.mp hp with rfl | hp
          · exact ⟨hD₅.trans (congrArg some (lst_snoc ys y)), hDL, hD₀⟩
          · have z := N₄ p (.tail _ (.tail _ (List.mem_append_right _ hp)))
            exact ⟨hs₅.extBut _ _ (below _ (nlt p hp)).2 z.1, z.2⟩
      · obtain rfl : i = n := Nat.le_antisymm hi (Nat.not_lt.mp hlt)
        refine W.done _ _ _ hst' fun h₂ tk₂ hk₂ => ?_
        exact hRR _ _ h₂ tk₂ _ ys hyl hY (move hk₂ F') (moveN hk₂ N') (hn'.at' fun o e => hk₂ _ o hCw e) hC₀ hCL (Ne.symm hDC) (fun p hp => (below _ (nlt p hp)).1) nlt
    · rcases List.mem_cons.mp hp with rfl | hp
      · exact ⟨hacc, hDL, hD₀⟩
      · exact ⟨old _ _ (N p hp).1, (N p hp).2⟩
  exact codeAny_compStart_list (loop _ rfl) (W.self 0 _ _ _ hst₁ (loop _ rfl))
end
end Mine
namespace Mine
def EnumSrc (h₀ : Heap) (L : Addr) (m : Str → Option Value) (news : List (Addr × Obj)) (items : Array Value) (s : Shared) (xv : Value) (s₁ : Shared) : Prop :=
  ∃ e it t h₁ tk₁, xv = .ref e ∧ s₁ = { s with heap := h₁, toks := tk₁ } ∧ Fr h₀ L h₁ m ∧ News h₀ L h₁ news ∧ IsEnum h₁ e it 0 .none ∧ h₁.IsTupleIter it t 0 ∧ h₁.IsTuple t items ∧ e ≠ it ∧ e ≠ t ∧ t ≠ it ∧ ∀ b ∈ [e, it, t], h₀.get? b = none ∧ b ≠ L ∧ ∀ p ∈ news, p.1 ≠ b
section
variable {prog : Program} {w : World} {A : Around} {E : Value → Shared → Prop} {s : Shared} {h₀ : Heap} {L : Addr} {m : Str → Option Value} {env : Env}
theorem enum_src {t : Addr} {items : Array Value} {n : Nat} {news : List (Addr × Obj)} {s₀ : Shared} (hs : ∃ h tk, s = { s₀ with heap := h, toks := tk }) (F : Fr h₀ L s.heap m) (N : News h₀ L s.heap ((t, ({ cls := .type "tuple", data := .seq items n } : Obj)) :: news)) (hne : ∀ p ∈ news, p.1 ≠ t) :
    wpAny (model prog w) A (call (.type "enumerate") [.ref t]) (EnumSrc h₀ L m news items s₀) E s := by
  obtain ⟨h, tk, rfl⟩ := hs
  have zt := N _ (.head _)
  have ht : Heap.IsTuple (Shared.heap { s₀ with heap := h, toks := tk }) t items := ⟨_, zt.1, rfl, _, rfl⟩
  have htl := Heap.lt_size zt.1
  have hLl := F.ns.lt
  have new : ∀ b, (Shared.heap { s₀ with heap := h, toks := tk }).objs.size ≤ b → h₀.get? b = none ∧ b ≠ L ∧ ∀ p ∈ news, p.1 ≠ b := by
    intro b hb
    refine ⟨?_, fun e => ?_, fun p hp e => ?_⟩
    · cases e : h₀.get? b with
      | none => rfl
      | some o => exact absurd (Heap.lt_size (F.keep b o e)) (Nat.not_lt.mpr hb)
    · rw [e] at hb; exact absurd hLl (Nat.not_lt.mpr hb)
    · have := Heap.lt_size (N p (.tail _ hp)).1
      rw [e] at this; exact absurd this (Nat.not_lt.mpr hb)
  refine call_enumerate_tuple ht fun h' hE hI _ hk => ?_
  have hte : t ≠ (Shared.heap { s₀ with heap := h, toks := tk }).objs.size := Nat.ne_of_lt htl
  have hte2 : (Shared.heap { s₀ with heap := h, toks := tk }).objs.size + 1 ≠ t := fun e => by rw [← e] at htl; exact absurd htl (Nat.not_lt.mpr (Nat.le_succ _))
  obtain ⟨ot, hot, rt⟩ := ht
  refine ⟨_, _, t, h', tk, rfl, rfl, F.keeps hk, cb_drop (N.grown hk) (fun p hp => .tail _ hp), hE, hI, ⟨ot, hk _ _ hot, rt⟩, Nat.succ_ne_self _, hte2, hte, ?_⟩
  intro b hb
  rcases List.mem_cons.mp hb with rfl | hb
  · exact new _ (Nat.le_succ _)
  · rcases List.mem_cons.mp hb with rfl | hb
    · exact new _ (Nat.le_refl _)
    · rw [List.mem_singleton.mp hb]
      exact ⟨zt.2.2, zt.2.1, hne⟩
theorem core_enum {elt iter : Expr} {x x₂ : Str} {px px₂ tp : Pos} {tk} {scope : Scope} {cl : List (Str × Addr)} {pos : Pos} {news : List (Addr × Obj)} {n : Nat} {Pv : Nat → Value → Prop} {Y : Nat → Value → Prop} {RR : Value → Addr → Result → Shared → Prop}
    (hcell : ∀ y ∈ scope.names, y.2 ≠ .cell) (hkind : scope.kind = .function) (hx : scope.names.lookup x = some .local) (hx₂ : scope.names.lookup x₂ = some .local) (hxx : x ≠ x₂) (hh : A.handled = none) (hsz : n ≤ sizeLine)
    (hit : wpAny (model prog w) A (eval iter env) (fun xv s₁ => ∃ items : Array Value, items.size = n ∧ (∀ i v, items[i]? = some v → Pv i v) ∧ EnumSrc h₀ L m news items s xv s₁) E s)
    (elt_ok : ∀ (i : Nat) (C : Addr) (oC : Obj) (m₂ : Str → Option Value) (h : Heap) (tk : Nat) (t : Tok) (v : Value) (ext : List (Addr × Obj)), i < n → Pv i v → NsObj oC m₂ → m₂ x = some (.int i t) → m₂ x₂ = some v → Fr h₀ L h m → (∀ p ∈ news, p ∈ ext) → News h₀ L h ((C, oC) :: ext) →
      wpAny (model prog w) A (eval elt (compEnvC scope cl C env)) (fun y s' => ∃ h' tk', s' = { s with heap := h', toks := tk' } ∧ Fr h₀ L h' m ∧ News h₀ L h' ((C, oC) :: ext) ∧ Y i y) (fun _ _ => False) { s with heap := h, toks := tk })
    (hRR : ∀ (D C : Addr) (h : Heap) (tk : Nat) (m' : Str → Option Value) (ys : List Value), ys.length = n → (∀ i y, ys[i]? = some y → Y i y) → Fr h₀ L h m → News h₀ L h ((D, lst ys) :: news) → h.Ns C m' → h₀.get? C = none → C ≠ L → C ≠ D → (∀ p ∈ news, p.1 ≠ C) → (∀ p ∈ news, p.1 < D) →
      RR (.ref D) C (.ok .next) { s with heap := h, toks := tk }) :
    wpAny (model prog w) A (eval iter env) (fun xv s₁ => wpAny (model prog w) A (pyIter xv) (fun it s₂ => wpAny (model prog w) A (newList []) (fun acc s₃ => wpAny (model prog w) A (newFunctionEnv scope env.globals cl [] env.qual none .none (some env)) (fun cenv s₄ =>
      codeAny (model prog w) A (.compStart (.ListComp elt [⟨.Tuple [.Name x px, .Name x₂ px₂] tk tp, iter, [], 0⟩] scope pos) 0 it acc { cenv with scope := relabel scope env }) (RR acc cenv.locals) s₄) E s₃) E s₂) E s₁) E s := by
  refine wpAny_mono hit (fun xv s₁ h₁ => ?_) fun _ _ e => e
  obtain ⟨items, hn0, hpv, e, it, t, h₁, tk₁, rfl, rfl, F₁, N₁, hE, hI, hT, hei, het, hti, hnew⟩ := h₁
  subst hn0
  refine wpAny_pyIter_enum hE ?_
  have hln : ∀ b ∈ e :: [it, t], b < h₁.objs.size := by
    intro b hb
    rcases List.mem_cons.mp hb with rfl | hb
    · exact Heap.lt_size hE
    · rcases List.mem_cons.mp hb with rfl | hb
      · obtain ⟨o, ho, _⟩ := hI; exact Heap.lt_size ho
      · rw [List.mem_singleton.mp hb]
        obtain ⟨o, ho, _⟩ := hT; exact Heap.lt_size ho
  refine block_T (P := fun i a v => items[i]? = some v ∧ ∃ t', a = .int i t') (Y := Y) (WalksT.enumerateD (draws_tuple (A := A.in1) (show A.in1.handled = none from hh) it t hti items) e hei (by simp [hei, het]) (by simp)) hsz ?_ hln (fun b hb => (hnew b hb).2.1) (fun b hb => (hnew b ?_).1) (fun p hp hb => ?_) ?_ hcell hkind hx hx₂ hxx hh
    ⟨⟨_, hE⟩, hI, hT⟩ F₁ N₁ ?_ ?_
  · rintro i h ⟨⟨old, he⟩, ⟨o, ho, _⟩, ⟨o', ho', _⟩⟩ b hb
    rcases List.mem_cons.mp hb with rfl | hb
    · exact ⟨_, he⟩
    · rcases List.mem_cons.mp hb with rfl | hb
      · exact ⟨o, ho⟩
      · rw [List.mem_singleton.mp hb]; exact ⟨o', ho'⟩
  · rcases List.mem_cons.mp hb with rfl | hb
    · simp
    · rw [List.mem_singleton.mp hb]; simp
  · have hb' : p.1 ∈ [e, it, t] := by
      rcases List.mem_cons.mp hb with e1 | hb
      · rw [e1]; simp
      · rw [List.mem_singleton.mp hb]; simp
    exact (hnew _ hb').2.2 p hp rfl
  · rintro i vals ⟨t', v, hv, rfl⟩
    exact ⟨_, _, rfl, hv, t', rfl⟩
  · rintro i C oC m₂ h tk a v ext hi ⟨hv, t', rfl⟩ hC h1 h2 F N' N
    exact elt_ok i C oC m₂ h tk t' v ext hi (hpv i v hv) hC h1 h2 F N' N
  · exact hRR
theorem assign_enum {elt iter : Expr} {x x₂ y : Str} {px px₂ tp py : Pos} {tk} {scope : Scope} {cl : List (Str × Addr)} {pos spos : Pos} {Q : Flow → Shared → Prop} {news : List (Addr × Obj)} {n : Nat} {Pv : Nat → Value → Prop} {Y : Nat → Value → Prop} (hLe : env.locals = L)
    (hsw : swapsWith (.ListComp elt [⟨.Tuple [.Name x px, .Name x₂ px₂] tk tp, iter, [], 0⟩] scope pos) (some (.Name y py)) spos.line env = pure true)
    (hy : env.kindOf y = some .local) (hp : (env.scope.kind == .class || (env.scope.kind == .module && env.locals != env.globals)) = false)
    (hclos : closureFor scope env = pure cl) (hcell : ∀ y ∈ scope.names, y.2 ≠ .cell) (hkind : scope.kind = .function)
    (hnames : ∀ y ∈ scope.names, y.2 = .local → scope.names.lookup y.1 = some .local) (hx : scope.names.lookup x = some .local) (hx₂ : scope.names.lookup x₂ = some .local) (hxx : x ≠ x₂) (hh : A.handled = none) (hsz : n ≤ sizeLine)
    (hit : wpAny (model prog w) A (eval iter env) (fun xv s₁ => ∃ items : Array Value, items.size = n ∧ (∀ i v, items[i]? = some v → Pv i v) ∧ EnumSrc h₀ L m news items s xv s₁) E s)
    (elt_ok : ∀ (i : Nat) (C : Addr) (oC : Obj) (m₂ : Str → Option Value) (h : Heap) (tk : Nat) (t : Tok) (v : Value) (ext : List (Addr × Obj)), i < n → Pv i v → NsObj oC m₂ → m₂ x = some (.int i t) → m₂ x₂ = some v → Fr h₀ L h m → (∀ p ∈ news, p ∈ ext) → News h₀ L h ((C, oC) :: ext) →
      wpAny (model prog w) A (eval elt (compEnvC scope cl C env)) (fun y s' => ∃ h' tk', s' = { s with heap := h', toks := tk' } ∧ Fr h₀ L h' m ∧ News h₀ L h' ((C, oC) :: ext) ∧ Y i y) (fun _ _ => False) { s with heap := h, toks := tk })
    (hQ : ∀ (D : Addr) (ys : List Value) (h : Heap) (tk : Nat), ys.length = n → (∀ i y, ys[i]? = some y → Y i y) → Fr h₀ L h (fun z => if z = y then some (.ref D) else m z) → News h₀ L h ((D, lst ys) :: news) → (∀ p ∈ news, p.1 < D) → Q .next { s with heap := h, toks := tk })
    (hs : ∀ x, foldedSetIterable iter env x = pure x := by intro _; rfl) :
    wpAny (model prog w) A (exec (.Assign [.Name y py] (.ListComp elt [⟨.Tuple [.Name x px, .Name x₂ px₂] tk tp, iter, [], 0⟩] scope pos) spos) env) Q E s := by
  subst hLe
  rw [exec_Assign_Name_used _ _ _ _ hsw]
  refine wpAny_bind (wpAny_standAt (wpAny_bind ?_))
  show wpAny _ A (do let _ ← comprehension (.ListComp elt [⟨.Tuple [.Name x px, .Name x₂ px₂] tk tp, iter, [], 0⟩] scope pos) scope env _ (newList []) false (eval iter env) (some (assign (.Name y py) env))) _ _ s
  refine wpAny_bind (wpAny_mono (wpAny_comprehension_free (use := some (assign (.Name y py) env)) (Q := fun _ s' => Q .next s') rfl hs hclos hkind hnames
    (core_enum hcell hkind hx hx₂ hxx hh hsz hit elt_ok ?_)) (fun _ s' hq => wpAny_pure (wpAny_pure hq)) fun _ _ e => e)
  intro D C h' tk m' ys hl hY F' N' hn hC₀ hCL hCD offC hlt
  show wpAny _ A (assign (.Name y py) env (.ref D)) _ _ _
  refine wpAny_assign_Name (wpAny_storeName_local hy F'.ns (fun h₂ hn₂ hs₂ => ?_) hp)
  have hL₀ : h₀.get? env.locals = none := Heap.get?_none_of_le F'.above
  have F₂ : Fr h₀ env.locals h₂ (fun z => if z = y then some (.ref D) else m z) := ⟨hn₂, fun b o e => hs₂.extBut b o (fun q => by rw [q, hL₀] at e; cases e) (F'.keep b o e), F'.above⟩
  refine ⟨m', hn.sameBut hs₂ hCL, fun h'' hs'' => hQ D ys h'' _ hl hY (F₂.change hs'' hCL hC₀) (fun p hp => ?_) hlt⟩
  have z : h₂.get? p.1 = some p.2 := hs₂.extBut _ _ (N' p hp).2.1 (N' p hp).1
  refine ⟨hs''.extBut _ _ ?_ z, (N' p hp).2⟩
  rcases List.mem_cons.mp hp with rfl | hp
  · exact Ne.symm hCD
  · exact offC p hp
end
end Mine
end
section
open PySem PySem.W PyProof.Rows
namespace Mine
section
variable {prog : Program} {w : World} {A : Around} {h₀ : Heap} {L : Addr} {m : Str → Option Value} {env : Env} {elt : Expr} {x : Str} {scope : Scope} {cl : List (Str × Addr)} {s : Shared} {S : List (Addr × Obj) → Prop} {P : Nat → Value → Prop} {Fin : List Value → List (Addr × Obj) → Prop} {news : List (Addr × Obj)}
end
end Mine
end
section
open PySem PySem.W PyProof.Rows
namespace Mine
set_option maxRecDepth 100000 in
set_option maxHeartbeats 8000000 in
open_top hd for PySem.Challenge.rw_rs0052_02
end Mine
end
section
open PySem PySem.W PyProof.Rows
namespace Mine
open PySem.Sre.M

abbrev SM := PySem.Sre.M
abbrev SSeen := PySem.Sre.Seen
abbrev SFr := PySem.Sre.Frame
def code1 : Array Nat := #[14, 4, 0, 1, 1, 6, 1, 16, 46, 1]
def code2 : Array Nat := #[14, 9, 4, 1, 2, 16, 10, 16, 13, 0, 7, 7, 16, 13, 16, 10, 15, 18, 5, 16, 10, 15, 13, 11, 16, 13, 5, 5, 0, 16, 10, 1, 15, 2, 0, 1]

theorem runFor_stable {m : SM} (h : m.outcome.isSome = true) : ∀ k, runFor k m = m
  | 0 => rfl
  | k + 1 => by unfold runFor; rw [if_pos h]
theorem runFor_add (a : Nat) : ∀ (b : Nat) (m : SM), runFor (b + a) m = runFor a (runFor b m)
  | 0, m => by rw [Nat.zero_add]; rfl
  | b + 1, m => by
    rw [Nat.add_right_comm]
    show (if m.outcome.isSome = true then m else runFor (b + a) m.step) = runFor a (if m.outcome.isSome = true then m else runFor b m.step)
    by_cases h : m.outcome.isSome = true
    · rw [if_pos h, if_pos h, runFor_stable h]
    · rw [if_neg h, if_neg h, runFor_add a b]

/-- what a search tells: it ends, and where -/
def Tells1 (n : Nat) (m : SM) (r : Option (Nat × Nat)) : Prop :=
  match r with
  | some (b, e) => (runFor n m).outcome = some .matched ∧ (runFor n m).start = b ∧ (runFor n m).handed = e
  | none => (runFor n m).outcome = some .failed
theorem Tells1.step {n : Nat} {m m' : SM} {r : Option (Nat × Nat)} (hn : m.outcome = none) (e : m.step = m') (h : Tells1 n m' r) : Tells1 (n + 1) m r := by
  have e1 : runFor (n + 1) m = runFor n m' := by
    show (if m.outcome.isSome = true then m else runFor n m.step) = _
    rw [hn, e]; rfl
  unfold Tells1 at *
  rw [e1]
  exact h

/-- a state of the machine, by what turns -/
def mk (c text : Array Nat) (st pc pos hd : Nat) (om : Bool) (fr : List SFr) (wt : Nat) (an : Option Bool) (sn : SSeen) : SM :=
  { code := c, text := text, lim := text.size, start := st, lastStart := text.size, pc := pc, pos := pos, handed := hd, outermost := om, marks := #[],
    frames := fr, weight := wt, answer := an, seen := sn }
section
variable {c text : Array Nat} {st pc pos hd wt : Nat} {om : Bool} {fr : List SFr} {sn : SSeen}

theorem lit_step {v : Nat} (hpc : pc < c.size) (h0 : c.getD pc 0 = 16) (h1 : c.getD (pc + 1) 0 = v) :
    ∃ sn', (mk c text st pc pos hd om fr wt none sn).step = if (decide (pos < text.size) && text.getD pos 0 == v) = true then mk c text st (pc + 2) (pos + 1) hd om fr wt none sn' else mk c text st pc pos hd om fr wt (some false) sn' := by
  refine ⟨sn.add (c.getD pc 0), ?_⟩
  show (if pc < c.size then PySem.Sre.M.exec (mk c text st pc pos hd om fr wt none sn) else _) = _
  rw [if_pos hpc]
  unfold PySem.Sre.M.exec
  have hw : PySem.Sre.ops[(mk c text st pc pos hd om fr wt none sn).word 0]? = some .LITERAL := by
    show PySem.Sre.ops[c.getD pc 0]? = _
    rw [h0]; rfl
  have ha : ∀ ch s', PySem.Sre.accepts c pc ch s' = .ok (ch == v, s') := by
    intro ch s'
    unfold PySem.Sre.accepts
    rw [h0, h1]; rfl
  have hi : PySem.Sre.itemWidth c pc = 2 := by
    unfold PySem.Sre.itemWidth
    rw [h0]; rfl
  simp only [hw]
  show (if pos ≥ text.size then _ else match PySem.Sre.accepts c pc (text.getD pos 0) _ with | .error why => _ | .ok (false, sq) => _ | .ok (true, sq) => _) = _
  by_cases hp : pos < text.size
  · rw [if_neg (show ¬ (pos ≥ text.size) by omega)]
    show (match PySem.Sre.accepts c pc (text.getD pos 0) _ with | .error why => _ | .ok (false, sq) => _ | .ok (true, sq) => _) = _
    rw [ha]
    cases hv : (text.getD pos 0 == v)
    · rw [if_neg (by simp)]; rfl
    · rw [if_pos (by simp [hp])]
      show mk c text st (pc + PySem.Sre.itemWidth c pc) (pos + 1) hd om fr wt none _ = _
      rw [hi]; rfl
  · rw [if_pos (show pos ≥ text.size by omega), if_neg (by simp [hp])]
    rfl
theorem jump_step {v : Nat} (hpc : pc < c.size) (h0 : c.getD pc 0 = 15) (h1 : c.getD (pc + 1) 0 = v) :
    ∃ sn', (mk c text st pc pos hd om fr wt none sn).step = mk c text st (pc + 1 + v) pos hd om fr wt none sn' := by
  refine ⟨sn.add (c.getD pc 0), ?_⟩
  show (if pc < c.size then PySem.Sre.M.exec (mk c text st pc pos hd om fr wt none sn) else _) = _
  rw [if_pos hpc]
  unfold PySem.Sre.M.exec
  have hw : PySem.Sre.ops[(mk c text st pc pos hd om fr wt none sn).word 0]? = some .JUMP := by
    show PySem.Sre.ops[c.getD pc 0]? = _
    rw [h0]; rfl
  simp only [hw]
  show mk c text st (pc + 1 + c.getD (pc + 1) 0) pos hd om fr wt none _ = _
  rw [h1]; rfl
theorem success_step (hpc : pc < c.size) (h0 : c.getD pc 0 = 1) :
    ∃ sn', (mk c text st pc pos hd om fr wt none sn).step = mk c text st pc pos pos om fr wt (some true) sn' := by
  refine ⟨sn.add (c.getD pc 0), ?_⟩
  show (if pc < c.size then PySem.Sre.M.exec (mk c text st pc pos hd om fr wt none sn) else _) = _
  rw [if_pos hpc]
  unfold PySem.Sre.M.exec
  have hw : PySem.Sre.ops[(mk c text st pc pos hd om fr wt none sn).word 0]? = some .SUCCESS := by
    show PySem.Sre.ops[c.getD pc 0]? = _
    rw [h0]; rfl
  simp only [hw]
  have hf : ∀ a b : Bool, (om && (false && a || false && b)) = false := by intro a b; cases om <;> rfl
  show (if (om && (false && _ || false && _)) = true then _ else _) = _
  rw [hf, if_neg Bool.false_ne_true]
  rfl
theorem branch_step {v : Nat} (hpc : pc < c.size) (h0 : c.getD pc 0 = 7) (h1 : c.getD (pc + 1) 0 = v) (hv : (v == 0) = false) (hw9 : wt ≤ 100) :
    ∃ sn', (mk c text st pc pos hd om fr wt none sn).step = mk c text st (pc + 2) pos pos om ({ wait := .nextBranch, pc := pc + 1, pos := pos, outermost := om } :: fr) (wt + 1) none sn' := by
  refine ⟨sn.add (c.getD pc 0), ?_⟩
  show (if pc < c.size then PySem.Sre.M.exec (mk c text st pc pos hd om fr wt none sn) else _) = _
  rw [if_pos hpc]
  unfold PySem.Sre.M.exec
  have hw : PySem.Sre.ops[(mk c text st pc pos hd om fr wt none sn).word 0]? = some .BRANCH := by
    show PySem.Sre.ops[c.getD pc 0]? = _
    rw [h0]; rfl
  simp only [hw]
  show (if (c.getD (pc + 1) 0 == 0) = true then _ else _) = _
  rw [h1, hv, if_neg Bool.false_ne_true]
  show (if wt + 1 + 0 > 16777216 then _ else _) = _
  rw [if_neg (by omega)]
  rfl
theorem next_no {b v : Nat} {om' : Bool} {p : Nat} (h1 : c.getD b 0 = v) (h2 : (c.getD (b + v) 0 == 0) = false) (hw9 : wt ≤ 100) :
    (mk c text st pc pos hd om ({ wait := .nextBranch, pc := b, pos := p, outermost := om' } :: fr) (wt + 1) (some false) sn).step = mk c text st (b + v + 1) p p om' ({ wait := .nextBranch, pc := b + v, pos := p, outermost := om' } :: fr) (wt + 1) none sn := by
  subst h1
  show (if (c.getD (b + c.getD b 0) 0 == 0) = true then _ else _) = _
  rw [h2, if_neg Bool.false_ne_true]
  show (if wt + 1 - (1 + 0) + 1 + 0 > 16777216 then _ else _) = _
  rw [if_neg (by omega)]
  show mk c text st (b + c.getD b 0 + 1) p p om' ({ wait := .nextBranch, pc := b + c.getD b 0, pos := p, outermost := om' } :: fr) (wt + 1 - (1 + 0) + 1 + 0) none sn = _
  rw [show wt + 1 - (1 + 0) + 1 + 0 = wt + 1 by omega]
theorem next_yes {b : Nat} {om' : Bool} {p : Nat} :
    (mk c text st pc pos hd om ({ wait := .nextBranch, pc := b, pos := p, outermost := om' } :: fr) (wt + 1) (some true) sn).step = mk c text st b p hd om' fr wt (some true) sn := rfl
theorem start_yes {b : Nat} {om' : Bool} {p : Nat} :
    Tells1 2 (mk c text st pc pos hd om [{ wait := .nextStart, pc := b, pos := p, outermost := om' }] wt (some true) sn) (some (st, hd)) := ⟨rfl, rfl, rfl⟩
theorem assertNot_step (hpc : pc < c.size) (h0 : c.getD pc 0 = 5) (h2 : c.getD (pc + 2) 0 = 0) (hw9 : wt ≤ 100) :
    ∃ sn', (mk c text st pc pos hd om fr wt none sn).step = mk c text st (pc + 3) pos pos false ({ wait := .lookNot, pc := pc, pos := pos, outermost := om } :: fr) (wt + 1) none sn' := by
  refine ⟨sn.add (c.getD pc 0), ?_⟩
  show (if pc < c.size then PySem.Sre.M.exec (mk c text st pc pos hd om fr wt none sn) else _) = _
  rw [if_pos hpc]
  unfold PySem.Sre.M.exec
  have hw : PySem.Sre.ops[(mk c text st pc pos hd om fr wt none sn).word 0]? = some .ASSERT_NOT := by
    show PySem.Sre.ops[c.getD pc 0]? = _
    rw [h0]; rfl
  simp only [hw]
  show (if pos < c.getD (pc + 2) 0 then _ else _) = _
  rw [h2, if_neg (Nat.not_lt_zero _)]
  show (if wt + 1 + 0 > 16777216 then _ else _) = _
  rw [if_neg (by omega)]
  show mk c text st (pc + 3) (pos - c.getD (pc + 2) 0) (pos - c.getD (pc + 2) 0) false ({ wait := .lookNot, pc := pc, pos := pos, outermost := om } :: fr) (wt + 1) none (sn.add (c.getD pc 0)) = _
  rw [h2]; rfl
theorem look_no {b v : Nat} {om' : Bool} {p : Nat} (h1 : c.getD (b + 1) 0 = v) :
    (mk c text st pc pos hd om ({ wait := .lookNot, pc := b, pos := p, outermost := om' } :: fr) (wt + 1) (some false) sn).step = mk c text st (b + 1 + v) p hd om' fr wt none sn := by
  show mk c text st (b + 1 + c.getD (b + 1) 0) p hd om' fr wt none sn = _
  rw [h1]
theorem start_no {b : Nat} {om' : Bool} {p : Nat} (hc : ((match PySem.Sre.ops[c.getD 0 0]? with | some .INFO => true | _ => false) && c.getD 2 0 == 4) = false) (h : p < text.size) :
    (mk c text st pc pos hd om [{ wait := .nextStart, pc := b, pos := p, outermost := om' }] 1 (some false) sn).step = mk c text (p + 1) b (p + 1) (p + 1) false [{ wait := .nextStart, pc := b, pos := p + 1, outermost := false }] 1 none sn := by
  show (if p < text.size then _ else _) = _
  rw [if_pos h]
  show (if (!((match PySem.Sre.ops[c.getD 0 0]? with | some .INFO => true | _ => false) && c.getD 2 0 == 4)) = true then _ else _) = _
  rw [hc]
  rfl
theorem start_over {b : Nat} {om' : Bool} {p : Nat} (h : ¬ p < text.size) :
    Tells1 2 (mk c text st pc pos hd om [{ wait := .nextStart, pc := b, pos := p, outermost := om' }] 1 (some false) sn) none := by
  refine Tells1.step (m' := mk c text st b p hd om' [] 0 (some false) sn) rfl ?_ rfl
  show (if p < text.size then _ else _) = _
  rw [if_neg h]
  rfl
end
/-! pattern 1 -/
def at1 (text : Array Nat) (s : Nat) (first : Bool) (sn : SSeen) : SM := mk code1 text s 5 s s first [{ wait := .nextStart, pc := 5, pos := s, outermost := first }] 1 none sn
def bol (text : Array Nat) (s : Nat) : Bool := s == 0 || text.getD (s - 1) 0 == 10

theorem search1 (text : Array Nat) (pos : Nat) (h : pos < text.size) : ∃ sn, PySem.Sre.forSearch code1 text 0 pos text.size false = at1 text pos true sn := by
  have h1 : ¬ ((decide (pos > text.size) || decide (text.size - pos < 1)) = true) := by simp; omega
  exact ⟨_, if_neg h1⟩
theorem search1_end (text : Array Nat) (pos : Nat) (h : ¬ pos < text.size) : Tells1 1 (PySem.Sre.forSearch code1 text 0 pos text.size false) none := by
  have h1 : ((decide (pos > text.size) || decide (text.size - pos < 1)) = true) := by simp; omega
  have e : PySem.Sre.forSearch code1 text 0 pos text.size false = _ := if_pos h1
  unfold Tells1
  rw [e]
  rfl
theorem a1_at (text : Array Nat) (s : Nat) (first : Bool) (sn : SSeen) : ∃ sn', (at1 text s first sn).step = if bol text s = true then mk code1 text s 7 s s first [{ wait := .nextStart, pc := 5, pos := s, outermost := first }] 1 none sn' else mk code1 text s 5 s s first [{ wait := .nextStart, pc := 5, pos := s, outermost := first }] 1 (some false) sn' := by
  refine ⟨(sn.add 6).add 44, ?_⟩
  show (if bol text s = true then _ else _) = _
  by_cases h : bol text s = true
  · rw [if_pos h, if_pos h]; rfl
  · rw [if_neg h, if_neg h]; rfl

/-- the first place from s on where pattern 1 stands -/
def find1 (text : Array Nat) : Nat → Nat → Option (Nat × Nat)
  | 0, _ => none
  | f + 1, s => if (bol text s && text.getD s 0 == 46) = true then some (s, s + 1) else find1 text f (s + 1)

theorem at1_tells (text : Array Nat) : ∀ (f s : Nat) (first : Bool) (sn : SSeen), s + f = text.size → ∃ n, n ≤ 3 * f + 5 ∧ Tells1 n (at1 text s first sn) (find1 text f s)
  | 0, s, first, sn, h => by
    obtain ⟨sn1, e1⟩ := a1_at text s first sn
    by_cases hb : bol text s = true
    · rw [if_pos hb] at e1
      obtain ⟨sn2, e2⟩ := lit_step (c := code1) (text := text) (st := s) (pc := 7) (pos := s) (hd := s) (om := first) (fr := [{ wait := .nextStart, pc := 5, pos := s, outermost := first }]) (wt := 1) (sn := sn1) (v := 46) (by decide) rfl rfl
      rw [if_neg (by simp; omega)] at e2
      exact ⟨4, by omega, Tells1.step rfl e1 (Tells1.step rfl e2 (start_over (by omega)))⟩
    · rw [if_neg hb] at e1
      exact ⟨3, by omega, Tells1.step rfl e1 (start_over (by omega))⟩
  | f + 1, s, first, sn, h => by
    obtain ⟨sn1, e1⟩ := a1_at text s first sn
    rw [find1]
    by_cases hb : bol text s = true
    · rw [if_pos hb] at e1
      obtain ⟨sn2, e2⟩ := lit_step (c := code1) (text := text) (st := s) (pc := 7) (pos := s) (hd := s) (om := first) (fr := [{ wait := .nextStart, pc := 5, pos := s, outermost := first }]) (wt := 1) (sn := sn1) (v := 46) (by decide) rfl rfl
      by_cases hc : (text.getD s 0 == 46) = true
      · rw [if_pos (by rw [hc]; simp; omega)] at e2
        rw [if_pos (by rw [hb, hc]; rfl)]
        obtain ⟨sn3, e3⟩ := success_step (c := code1) (text := text) (st := s) (pc := 9) (pos := s + 1) (hd := s) (om := first) (fr := [{ wait := .nextStart, pc := 5, pos := s, outermost := first }]) (wt := 1) (sn := sn2) (by decide) rfl
        exact ⟨5, by omega, Tells1.step rfl e1 (Tells1.step rfl e2 (Tells1.step rfl e3 start_yes))⟩
      · rw [if_neg (fun x => hc (Bool.and_eq_true_iff.mp x).2)] at e2
        rw [if_neg (fun x => hc (Bool.and_eq_true_iff.mp x).2)]
        obtain ⟨n, hn, ht⟩ := at1_tells text f (s + 1) false sn2 (by omega)
        exact ⟨n + 3, by omega, Tells1.step rfl e1 (Tells1.step rfl e2 (Tells1.step rfl (start_no rfl (by omega)) ht))⟩
    · rw [if_neg hb] at e1
      rw [if_neg (fun x => hb (Bool.and_eq_true_iff.mp x).1)]
      obtain ⟨n, hn, ht⟩ := at1_tells text f (s + 1) false sn1 (by omega)
      exact ⟨n + 2, by omega, Tells1.step rfl e1 (Tells1.step rfl (start_no rfl (by omega)) ht)⟩

theorem tells_1 (text : Array Nat) (s : Nat) (hs : s ≤ text.size) : ∃ n, n ≤ 3 * text.size + 30 ∧ Tells1 n (PySem.Sre.forSearch code1 text 0 s text.size false) (find1 text (text.size - s) s) := by
  by_cases h : s < text.size
  · obtain ⟨sn, e⟩ := search1 text s h
    obtain ⟨n, hn, ht⟩ := at1_tells text (text.size - s) s true sn (by omega)
    exact ⟨n, by omega, by rw [e]; exact ht⟩
  · have : text.size - s = 0 := by omega
    rw [this]
    exact ⟨1, by omega, search1_end text s h⟩

/-! pattern 2 -/
def at2 (text : Array Nat) (s : Nat) (sn : SSeen) : SM := mk code2 text s 10 s s true [{ wait := .nextStart, pc := 10, pos := s, outermost := true }] 1 none sn
def end2 (text : Array Nat) (s : Nat) : Nat := if (text.getD s 0 == 13 && (decide (s + 1 < text.size) && text.getD (s + 1) 0 == 10)) = true then s + 2 else s + 1

theorem at2_tells (text : Array Nat) (s : Nat) (sn : SSeen) (h : s < text.size) (hc : (text.getD s 0 == 10 || text.getD s 0 == 13) = true) : ∃ n, n ≤ 20 ∧ Tells1 n (at2 text s sn) (some (s, end2 text s)) := by
  obtain ⟨sn1, e1⟩ := branch_step (c := code2) (text := text) (st := s) (pc := 10) (pos := s) (hd := s) (om := true) (fr := [{ wait := .nextStart, pc := 10, pos := s, outermost := true }]) (wt := 1) (sn := sn) (v := 7) (by decide) rfl rfl rfl (by omega)
  obtain ⟨sn2, e2⟩ := lit_step (c := code2) (text := text) (st := s) (pc := 12) (pos := s) (hd := s) (om := true) (fr := [{ wait := .nextBranch, pc := 11, pos := s, outermost := true }, { wait := .nextStart, pc := 10, pos := s, outermost := true }]) (wt := 2) (sn := sn1) (v := 13) (by decide) rfl rfl
  have fin : ∀ (q : Nat) (pc b : Nat) (sq : SSeen), (∃ n, n ≤ 4 ∧ Tells1 n (mk code2 text s 35 q pc true [{ wait := .nextBranch, pc := b, pos := s, outermost := true }, { wait := .nextStart, pc := 10, pos := s, outermost := true }] 2 none sq) (some (s, q))) := by
    intro q pc b sq
    obtain ⟨sn8, e8⟩ := success_step (c := code2) (text := text) (st := s) (pc := 35) (pos := q) (hd := pc) (om := true) (fr := [{ wait := .nextBranch, pc := b, pos := s, outermost := true }, { wait := .nextStart, pc := 10, pos := s, outermost := true }]) (wt := 2) (sn := sq) (by decide) rfl
    exact ⟨4, by omega, Tells1.step rfl e8 (Tells1.step rfl next_yes start_yes)⟩
  by_cases h13 : (text.getD s 0 == 13) = true
  · have h10 : (text.getD s 0 == 10) = false := by rw [beq_iff_eq.mp h13]; rfl
    rw [if_pos (by rw [h13]; simp; omega)] at e2
    obtain ⟨sn3, e3⟩ := lit_step (c := code2) (text := text) (st := s) (pc := 14) (pos := s + 1) (hd := s) (om := true) (fr := [{ wait := .nextBranch, pc := 11, pos := s, outermost := true }, { wait := .nextStart, pc := 10, pos := s, outermost := true }]) (wt := 2) (sn := sn2) (v := 10) (by decide) rfl rfl
    by_cases hd : (decide (s + 1 < text.size) && text.getD (s + 1) 0 == 10) = true
    · rw [if_pos hd] at e3
      obtain ⟨sn4, e4⟩ := jump_step (c := code2) (text := text) (st := s) (pc := 16) (pos := s + 2) (hd := s) (om := true) (fr := [{ wait := .nextBranch, pc := 11, pos := s, outermost := true }, { wait := .nextStart, pc := 10, pos := s, outermost := true }]) (wt := 2) (sn := sn3) (v := 18) (by decide) rfl rfl
      obtain ⟨n, hn, ht⟩ := fin (s + 2) s 11 sn4
      rw [show end2 text s = s + 2 from if_pos (by rw [h13, hd]; rfl)]
      exact ⟨n + 4, by omega, Tells1.step rfl e1 (Tells1.step rfl e2 (Tells1.step rfl e3 (Tells1.step rfl e4 ht)))⟩
    · rw [if_neg hd] at e3
      have e4 := next_no (c := code2) (text := text) (st := s) (pc := 14) (pos := s + 1) (hd := s) (om := true) (fr := [{ wait := .nextStart, pc := 10, pos := s, outermost := true }]) (wt := 1) (sn := sn3) (b := 11) (v := 7) (om' := true) (p := s) rfl rfl (by omega)
      obtain ⟨sn5, e5⟩ := lit_step (c := code2) (text := text) (st := s) (pc := 19) (pos := s) (hd := s) (om := true) (fr := [{ wait := .nextBranch, pc := 18, pos := s, outermost := true }, { wait := .nextStart, pc := 10, pos := s, outermost := true }]) (wt := 2) (sn := sn3) (v := 10) (by decide) rfl rfl
      rw [if_neg (by rw [h10]; simp)] at e5
      have e6 := next_no (c := code2) (text := text) (st := s) (pc := 19) (pos := s) (hd := s) (om := true) (fr := [{ wait := .nextStart, pc := 10, pos := s, outermost := true }]) (wt := 1) (sn := sn5) (b := 18) (v := 5) (om' := true) (p := s) rfl rfl (by omega)
      obtain ⟨sn7, e7⟩ := lit_step (c := code2) (text := text) (st := s) (pc := 24) (pos := s) (hd := s) (om := true) (fr := [{ wait := .nextBranch, pc := 23, pos := s, outermost := true }, { wait := .nextStart, pc := 10, pos := s, outermost := true }]) (wt := 2) (sn := sn5) (v := 13) (by decide) rfl rfl
      rw [if_pos (by rw [h13]; simp; omega)] at e7
      obtain ⟨sn8, e8⟩ := assertNot_step (c := code2) (text := text) (st := s) (pc := 26) (pos := s + 1) (hd := s) (om := true) (fr := [{ wait := .nextBranch, pc := 23, pos := s, outermost := true }, { wait := .nextStart, pc := 10, pos := s, outermost := true }]) (wt := 2) (sn := sn7) (by decide) rfl rfl (by omega)
      obtain ⟨sn9, e9⟩ := lit_step (c := code2) (text := text) (st := s) (pc := 29) (pos := s + 1) (hd := s + 1) (om := false) (fr := [{ wait := .lookNot, pc := 26, pos := s + 1, outermost := true }, { wait := .nextBranch, pc := 23, pos := s, outermost := true }, { wait := .nextStart, pc := 10, pos := s, outermost := true }]) (wt := 3) (sn := sn8) (v := 10) (by decide) rfl rfl
      rw [if_neg hd] at e9
      have e10 := look_no (c := code2) (text := text) (st := s) (pc := 29) (pos := s + 1) (hd := s + 1) (om := false) (fr := [{ wait := .nextBranch, pc := 23, pos := s, outermost := true }, { wait := .nextStart, pc := 10, pos := s, outermost := true }]) (wt := 2) (sn := sn9) (b := 26) (v := 5) (om' := true) (p := s + 1) rfl
      obtain ⟨sn11, e11⟩ := jump_step (c := code2) (text := text) (st := s) (pc := 32) (pos := s + 1) (hd := s + 1) (om := true) (fr := [{ wait := .nextBranch, pc := 23, pos := s, outermost := true }, { wait := .nextStart, pc := 10, pos := s, outermost := true }]) (wt := 2) (sn := sn9) (v := 2) (by decide) rfl rfl
      obtain ⟨n, hn, ht⟩ := fin (s + 1) (s + 1) 23 sn11
      rw [show end2 text s = s + 1 from if_neg (fun x => hd (Bool.and_eq_true_iff.mp x).2)]
      exact ⟨n + 11, by omega, Tells1.step rfl e1 (Tells1.step rfl e2 (Tells1.step rfl e3 (Tells1.step rfl e4 (Tells1.step rfl e5 (Tells1.step rfl e6 (Tells1.step rfl e7 (Tells1.step rfl e8 (Tells1.step rfl e9 (Tells1.step rfl e10 (Tells1.step rfl e11 ht))))))))))⟩
  · have h10 : (text.getD s 0 == 10) = true := by
      cases hq : (text.getD s 0 == 10)
      · rw [hq, Bool.false_or] at hc; exact absurd hc h13
      · rfl
    rw [if_neg (fun x => h13 (Bool.and_eq_true_iff.mp x).2)] at e2
    have e4 := next_no (c := code2) (text := text) (st := s) (pc := 12) (pos := s) (hd := s) (om := true) (fr := [{ wait := .nextStart, pc := 10, pos := s, outermost := true }]) (wt := 1) (sn := sn2) (b := 11) (v := 7) (om' := true) (p := s) rfl rfl (by omega)
    obtain ⟨sn5, e5⟩ := lit_step (c := code2) (text := text) (st := s) (pc := 19) (pos := s) (hd := s) (om := true) (fr := [{ wait := .nextBranch, pc := 18, pos := s, outermost := true }, { wait := .nextStart, pc := 10, pos := s, outermost := true }]) (wt := 2) (sn := sn2) (v := 10) (by decide) rfl rfl
    rw [if_pos (by rw [h10]; simp; omega)] at e5
    obtain ⟨sn6, e6⟩ := jump_step (c := code2) (text := text) (st := s) (pc := 21) (pos := s + 1) (hd := s) (om := true) (fr := [{ wait := .nextBranch, pc := 18, pos := s, outermost := true }, { wait := .nextStart, pc := 10, pos := s, outermost := true }]) (wt := 2) (sn := sn5) (v := 13) (by decide) rfl rfl
    obtain ⟨n, hn, ht⟩ := fin (s + 1) s 18 sn6
    rw [show end2 text s = s + 1 from if_neg (fun x => h13 (Bool.and_eq_true_iff.mp x).1)]
    exact ⟨n + 5, by omega, Tells1.step rfl e1 (Tells1.step rfl e2 (Tells1.step rfl e4 (Tells1.step rfl e5 (Tells1.step rfl e6 ht))))⟩

/-- the first place from s on where pattern 2 stands -/
def find2 (text : Array Nat) : Nat → Nat → Option (Nat × Nat)
  | 0, _ => none
  | f + 1, s => if (text.getD s 0 == 10 || text.getD s 0 == 13) = true then some (s, end2 text s) else find2 text f (s + 1)

theorem inSet2 (ch : Nat) (sn : SSeen) : ∃ sn', PySem.Sre.inSet code2 ch code2.size 5 true sn = .ok ((ch == 10 || ch == 13), sn') := by
  by_cases h10 : (ch == 10) = true
  · refine ⟨sn.add 16, ?_⟩
    show (if (ch == 10) = true then _ else _) = _
    rw [if_pos h10, h10]; rfl
  · by_cases h13 : (ch == 13) = true
    · refine ⟨(sn.add 16).add 16, ?_⟩
      show (if (ch == 10) = true then _ else _) = _
      rw [if_neg h10]
      show (if (ch == 13) = true then _ else _) = _
      rw [if_pos h13, h13, Bool.or_true]; rfl
    · refine ⟨((sn.add 16).add 16).add 0, ?_⟩
      show (if (ch == 10) = true then _ else _) = _
      rw [if_neg h10]
      show (if (ch == 13) = true then _ else _) = _
      rw [if_neg h13, Bool.not_eq_true _ |>.mp h10, Bool.not_eq_true _ |>.mp h13]; rfl
theorem admitted2 (m : SM) (text : Array Nat) (hm : m.code = code2) (ht : m.text = text) (hl : m.lim = text.size) : ∀ (f s : Nat) (sn : SSeen), s + f = text.size → ∃ sn', PySem.Sre.M.admitted m (f + 1) s sn = .ok ((find2 text f s).map (·.1), sn')
  | 0, s, sn, h => by
    refine ⟨sn, ?_⟩
    show (if s ≥ m.lim then _ else _) = _
    rw [hl, if_pos (by omega)]; rfl
  | f + 1, s, sn, h => by
    obtain ⟨sn1, e1⟩ := inSet2 (text.getD s 0) sn
    rw [PySem.Sre.M.admitted, hm, ht, hl, e1, if_neg (by omega), find2]
    by_cases hc : (text.getD s 0 == 10 || text.getD s 0 == 13) = true
    · rw [hc, if_pos rfl]; exact ⟨_, rfl⟩
    · rw [Bool.not_eq_true _ |>.mp hc, if_neg Bool.false_ne_true]
      exact admitted2 m text hm ht hl f (s + 1) sn1 (by omega)
theorem find2_some (text : Array Nat) : ∀ (f s b e : Nat), s + f = text.size → find2 text f s = some (b, e) → s ≤ b ∧ b < text.size ∧ (text.getD b 0 == 10 || text.getD b 0 == 13) = true ∧ e = end2 text b
  | 0, _, _, _, _, h => by cases h
  | f + 1, s, b, e, hs, h => by
    rw [find2] at h
    by_cases hc : (text.getD s 0 == 10 || text.getD s 0 == 13) = true
    · rw [if_pos hc] at h
      cases h
      exact ⟨Nat.le_refl _, by omega, hc, rfl⟩
    · rw [if_neg hc] at h
      obtain ⟨a1, a2⟩ := find2_some text f (s + 1) b e (by omega) h
      exact ⟨by omega, a2⟩
theorem tells_2 (text : Array Nat) (s : Nat) (hs : s ≤ text.size) : ∃ n, n ≤ 3 * text.size + 30 ∧ Tells1 n (PySem.Sre.forSearch code2 text 0 s text.size false) (find2 text (text.size - s) s) := by
  by_cases h : s < text.size
  · have h1 : ¬ ((decide (s > text.size) || decide (text.size - s < 1)) = true) := by simp; omega
    have e : PySem.Sre.forSearch code2 text 0 s text.size false = PySem.Sre.M.attemptFrom (mk code2 text s 10 s s true [] 0 none (({} : SSeen).add 14)) s true := if_neg h1
    obtain ⟨sn1, e1⟩ := admitted2 (mk code2 text s 10 s s true [] 0 none (({} : SSeen).add 14)) text rfl rfl rfl (text.size - s) s (({} : SSeen).add 14) (by omega)
    have e2 : PySem.Sre.M.attemptFrom (mk code2 text s 10 s s true [] 0 none (({} : SSeen).add 14)) s true = match PySem.Sre.M.admitted (mk code2 text s 10 s s true [] 0 none (({} : SSeen).add 14)) (text.size + 1 - s) s (({} : SSeen).add 14) with
      | .ok (some q, sq) => at2 text q sq
      | .ok (none, sq) => mk code2 text s 10 s s true [] 0 (some false) sq
      | .error why => _ := rfl
    rw [show text.size + 1 - s = text.size - s + 1 by omega, e1] at e2
    rw [e, e2]
    cases hf : find2 text (text.size - s) s with
    | none => exact ⟨1, by omega, rfl⟩
    | some r =>
      obtain ⟨b, en⟩ := r
      obtain ⟨a1, a2, a3, a4⟩ := find2_some text _ _ _ _ (by omega) hf
      subst a4
      obtain ⟨n, hn, ht⟩ := at2_tells text b sn1 a2 a3
      exact ⟨n, by omega, ht⟩
  · have h1 : ((decide (s > text.size) || decide (text.size - s < 1)) = true) := by simp; omega
    have e : PySem.Sre.forSearch code2 text 0 s text.size false = _ := if_pos h1
    have : text.size - s = 0 := by omega
    rw [this]
    refine ⟨1, by omega, ?_⟩
    unfold Tells1
    rw [e]
    rfl
end Mine
end
section
open PySem PySem.W PyProof.Rows PySem.Builtin PySem.Builtin.Re
namespace Mine
open PySem.Sre.M

section
variable {M : Model} {A : Around} {E : Value → Shared → Prop} {s : Shared}

theorem wp_drive {Q : SM → Shared → Prop} : ∀ (turns n : Nat) (m : SM), n ≤ 4 * turns → 0 < turns → (runFor n m).outcome.isSome = true → Q (runFor n m) s → wpAny M A (reDrive turns m) Q E s
  | 0, _, _, _, h0, _, _ => absurd h0 (Nat.lt_irrefl _)
  | turns + 1, n, m, hn, _, ho, hq => by
    unfold reDrive
    by_cases h4 : (runFor 4 m).outcome.isSome = true
    · show wpAny M A (if (runFor 4 m).outcome.isSome = true then pure (runFor 4 m) else _) Q E s
      rw [if_pos h4]
      have e : runFor 4 m = runFor n m := by
        by_cases hle : n ≤ 4
        · obtain ⟨k, hk⟩ := Nat.le.dest hle
          have := runFor_add k n m
          rw [runFor_stable ho, hk] at this
          exact this
        · obtain ⟨k, rfl⟩ := Nat.le.dest (Nat.le_of_not_le hle)
          rw [runFor_add, runFor_stable h4]
      rw [e]
      exact wpAny_pure hq
    · show wpAny M A (if (runFor 4 m).outcome.isSome = true then pure (runFor 4 m) else _) Q E s
      rw [if_neg h4]
      have hle : 4 ≤ n := by
        by_cases hle : 4 ≤ n
        · exact hle
        · exfalso
          obtain ⟨k, hk⟩ := Nat.le.dest (show n ≤ 4 by omega)
          have := runFor_add k n m
          rw [runFor_stable ho, hk] at this
          rw [this] at h4
          exact h4 ho
      obtain ⟨k, rfl⟩ := Nat.le.dest hle
      rw [runFor_add] at ho hq
      by_cases h0 : 0 < turns
      · exact wpAny_bind (wpAny_rule (wp_drive turns k _ (by omega) h0 ho hq))
      · have hk : k = 0 := by omega
        subst hk
        exact absurd ho h4

theorem wp_notes (m : SM) {Q : PUnit → Shared → Prop} (hq : Q ⟨⟩ s) : ∀ l : List Nat, wpAny M A (forIn l PUnit.unit fun i _ => do
      if m.seen.has i then rule (PySem.Sre.names.getD i "")
      pure (ForInStep.yield PUnit.unit)) Q E s
  | [] => by rw [List.forIn_nil]; exact wpAny_pure hq
  | i :: l => by
    rw [List.forIn_cons]
    refine wpAny_bind ?_
    by_cases h : m.seen.has i = true
    · rw [if_pos h]
      exact wpAny_bind (wpAny_rule (wpAny_pure (wp_notes m hq l)))
    · rw [if_neg h]
      exact wpAny_pure (wp_notes m hq l)

theorem wp_toEnd {m : SM} {n : Nat} {r : Option (Nat × Nat)} {Q : Option SM → Shared → Prop} (hn : n ≤ 2 ^ 60) (ht : Tells1 n m r)
    (hq : ∀ m' : Option SM, m'.map (fun m => (m.start, m.handed)) = r → Q m' s) : wpAny M A (reRunToEnd m) Q E s := by
  unfold reRunToEnd
  refine wpAny_bind (wp_drive (2 ^ 64) n m (by omega) (by decide) (by unfold Tells1 at ht; cases r with | none => rw [ht]; rfl | some x => rw [ht.1]; rfl) ?_)
  refine wpAny_bind (wp_notes _ ?_ _)
  unfold Tells1 at ht
  cases r with
  | none =>
    simp only [ht]
    exact wpAny_pure (hq none rfl)
  | some x =>
    simp only [ht.1]
    exact wpAny_pure (hq (some _) (by rw [Option.map_some, ht.2.1, ht.2.2]))
end

/-- a pattern without groups, for texts -/
structure IsPat (h : Heap) (pat : Addr) (code : Array Nat) : Prop where
  ex : ∃ (o oc : Obj) (vs : Array Value) (ca : Addr) (cv : Array Value) (n : Nat), h.get? pat = some o ∧ o.cls = .type "re.Pattern" ∧ o.data = .fields vs ∧ vs.getD 5 .none = .ref ca ∧ reRawNat (vs.getD 2 .none) = 0 ∧ reRawNat (vs.getD 6 .none) = 0 ∧
    h.get? ca = some oc ∧ oc.data = .seq cv n ∧ (cv.map reRawOf).map (·.toNat) = code
theorem IsPat.keeps {h h' : Heap} {pat : Addr} {code : Array Nat} (I : IsPat h pat code) (hk : ∀ b o, h.get? b = some o → h'.get? b = some o) : IsPat h' pat code := by
  obtain ⟨o, oc, vs, ca, cv, n, h1, h2, h3, h4, h5, h6, h7, h8, h9⟩ := I.ex
  exact ⟨o, oc, vs, ca, cv, n, hk _ _ h1, h2, h3, h4, h5, h6, hk _ _ h7, h8, h9⟩

section
variable {M : Model} {A : Around} {E : Value → Shared → Prop} {s : Shared}
theorem wp_target {pat : Addr} {code : Array Nat} {x : Str} {tx : Tok} {Q : ReTarget → Shared → Prop} (I : IsPat s.heap pat code)
    (h : Q { pattern := .ref pat, string := .str x tx, code := code, text := x.cps, kind := 0, groups := 0, pos := 0, lim := x.cps.size } s) : wpAny M A (reWholeTarget (.ref pat) (.str x tx)) Q E s := by
  obtain ⟨o, oc, vs, ca, cv, n, h1, h2, h3, h4, h5, h6, h7, h8, h9⟩ := I.ex
  unfold reWholeTarget
  refine wpAny_bind (wpAny_fieldsOf h1 h3 ?_)
  refine wpAny_bind (m := reTextOf (.str x tx)) ?_
  show wpAny M A (pure (x.cps, 0)) _ E s
  refine wpAny_pure ?_
  simp only [h6]
  show wpAny M A (reRawItems (vs.getD 5 .none) >>= _) Q E s
  rw [h4]
  unfold reRawItems
  refine wpAny_bind (wpAny_bind (wpAny_seqItems h7 h8 (wpAny_pure (wpAny_pure ?_))))
  simp only [Option.getD_some, h9, h5]
  exact h
theorem glued_empty : ∀ (ps : List Str), (Str.join ⟨#[]⟩ ps).cps.toList = (ps.map (·.cps.toList)).flatten
  | [] => rfl
  | [x] => by simp [Str.join]
  | x :: y :: r => by
    have ih := glued_empty (y :: r)
    show ((x ++ (⟨#[]⟩ : Str)) ++ Str.join ⟨#[]⟩ (y :: r)).cps.toList = _
    rw [List.map_cons, List.flatten_cons, ← ih]
    show ((x.cps ++ #[]) ++ (Str.join ⟨#[]⟩ (y :: r)).cps).toList = _
    simp
def pcat (ps : List (Str × Tok)) : List Nat := (ps.map (·.1.cps.toList)).flatten
theorem pcat_snoc (ps : List (Str × Tok)) (x : Str) (t : Tok) : pcat (ps ++ [(x, t)]) = pcat ps ++ x.cps.toList := by simp [pcat]
theorem lens_pcat : ∀ ps : List (Str × Tok), ((ps.map (·.1)).map (·.length)).sum = (pcat ps).length
  | [] => rfl
  | p :: r => by
    have := lens_pcat r
    simp only [pcat, List.map_cons, List.sum_cons, List.flatten_cons, List.length_append] at this ⊢
    rw [this]; rfl
theorem strValues_snoc (ps : List (Str × Tok)) (x : Str) (t : Tok) : (strValues ps).toArray.push (.str x t) = (strValues (ps ++ [(x, t)])).toArray := by simp [strValues]
end

theorem entry_loop : entryFor table "re.Pattern.sub.loop" = some Builtin.«re.Pattern.sub.loop» := entryFor_of_tree (by kernel_rfl)
theorem under_loop (A : Around) (a : Args) : A.under (.builtin "re.Pattern.sub.loop" a) = A.in1 := Around.under_plainId (by decide +kernel) a
theorem quiet_loop (a : Args) : (Code.builtin "re.Pattern.sub.loop" a).quiet = true := plainId_quiet (by decide +kernel) a

abbrev lObj (xs : Array Value) (n : Nat) : Obj := { cls := .type "list", data := .seq xs n }
theorem upd_list {h : Heap} {l : Addr} {xs : Array Value} {n : Nat} (hl : h.get? l = some (lObj xs n)) (v : Value) : (h.update l (Obj.mapSeq (·.push v))).get? l = some (lObj (xs.push v) (n + 1)) := by
  have e := Heap.get?_update_self (h := h) (a := l) (o := lObj xs n) (Obj.mapSeq (·.push v)) hl rfl
  rw [e]
  show some (⟨.type "list", none, .seq (xs.push v) (if (xs.push v).size == xs.size then n else n + 1), #[]⟩ : Obj) = _
  rw [if_neg (by simp)]
theorem upd_base {h₀ h : Heap} {l : Addr} {f : Obj → Obj} (hb : ∀ b o, h₀.get? b = some o → h.get? b = some o) (hn : h₀.get? l = none) : ∀ b o, h₀.get? b = some o → (h.update l f).get? b = some o := by
  intro b o e
  rw [Heap.get?_update_other _ _ (fun e9 => by subst e9; rw [hn] at e; cases e)]
  exact hb b o e

section
variable {prog : Program} {w : World} {A : Around} {R : Result → Shared → Prop}
theorem sub_loop (code : Array Nat) (x r : Str) (tx tr : Tok) (pat : Addr) (find : Nat → Option (Nat × Nat)) (F : Nat → List Nat) (h₀ : Heap) (s₀ : Shared) (I : IsPat h₀ pat code)
    (hx : x.cps.size ≤ 2 ^ 20) (hr : r.cps.size ≤ 2)
    (hfind : ∀ i, i ≤ x.cps.size → ∃ n, n ≤ 2 ^ 60 ∧ Tells1 n (PySem.Sre.forSearch code x.cps 0 i x.cps.size false) (find i))
    (hsome : ∀ i b e, i ≤ x.cps.size → find i = some (b, e) → i ≤ b ∧ b < e ∧ e ≤ x.cps.size)
    (hF : ∀ i, i ≤ x.cps.size → F i = match find i with | none => (x.cps.extract i x.cps.size).toList | some (b, e) => (x.cps.extract i b).toList ++ r.cps.toList ++ F e)
    (res : List Nat) (hR : ∀ t h' tk', (∀ b o, h₀.get? b = some o → h'.get? b = some o) → R (.ok (.ret (.str ⟨res.toArray⟩ t))) { s₀ with heap := h', toks := tk' }) :
    ∀ (k i : Nat), x.cps.size - i = k → i ≤ x.cps.size → ∀ (h : Heap) (tk : Nat) (l : Addr) (ps : List (Str × Tok)) (nn : Nat) (cnt : Int), (∀ b o, h₀.get? b = some o → h.get? b = some o) → h₀.get? l = none → h.get? l = some (lObj (strValues ps).toArray nn) →
      ps.length ≤ 2 * i → (pcat ps).length ≤ 3 * i → pcat ps ++ F i = res →
      codeAny (model prog w) A (.builtin "re.Pattern.sub.loop" ⟨[.ref pat, .str x tx, .str r tr, rawInt 0, rawInt 0, rawInt cnt, rawInt i, rawInt i, .bool false, .ref l, .bool false], []⟩) R { s₀ with heap := h, toks := tk } := by
  intro k
  induction k using Nat.strongRecOn with
  | ind k ih =>
  intro i hk hi h tk l ps nn cnt hb hnl hl hps hpc hres
  refine codeAny_builtin entry_loop ?_
  rw [under_loop]
  show wpAny _ _ (reWholeTarget (.ref pat) (.str x tx) >>= _) _ _ _
  refine wpAny_bind (wp_target (I.keeps hb) ?_)
  obtain ⟨n, hn, ht⟩ := hfind i hi
  show wpAny _ _ (reNextFound _ (Int.toNat (i : Int)) false >>= _) _ _ _
  rw [Int.toNat_natCast]
  refine wpAny_bind (wp_toEnd hn ht ?_)
  have hFi := hF i hi
  intro m' hm'
  cases m' with
  | none =>
    rw [← show none = find i from hm'] at hFi
    dsimp only at hFi ⊢
    have hsz : x.length ≤ sizeLine := by rw [sizeLine_eq]; show x.cps.size ≤ _; omega
    have tail : ∀ (h : Heap) (tk : Nat) (ps : List (Str × Tok)) (nn : Nat), (∀ b o, h₀.get? b = some o → h.get? b = some o) → h.get? l = some (lObj (strValues ps).toArray nn) → (pcat ps).length ≤ 2 ^ 23 → pcat ps = res →
        wpAny (model prog w) A.in1 (do
          let joiner ← reSlice x.cps 0 0 0
          let y ← seqItems? (.ref l)
          let text ← if (y.getD #[]).isEmpty = true then pure joiner else call (.builtin "str.join") [joiner, .ref l]
          ret text) (fun fin s' => match fin with | .done f => R (.ok f) s' | .again c' => c'.quiet = true ∧ codeAny (model prog w) A c' R s') (fun e s' => R (.error e) s') { s₀ with heap := h, toks := tk } := by
      intro h tk ps nn hb hl hpc hres
      show wpAny _ _ (mkStr ⟨x.cps.extract 0 0⟩ >>= _) _ _ _
      have e0 : x.cps.extract 0 0 = #[] := by simp
      rw [e0]
      refine wpAny_bind (wpAny_mkStr ?_ (by decide))
      refine wpAny_bind (wpAny_seqItems hl rfl ?_)
      dsimp only [Option.getD_some]
      cases ps with
      | nil =>
        rw [if_pos (by simp [strValues])]
        refine wpAny_bind (wpAny_pure (wpAny_pure ?_))
        have := hR tk h (tk + 1) hb
        rw [← hres] at this
        exact this
      | cons p ps =>
        rw [if_neg (by simp [strValues])]
        refine wpAny_bind (SC.join (l := p :: ps) ⟨_, hl, rfl, _, rfl⟩ rfl ?_ fun t' k' => wpAny_pure ?_)
        · unfold JoinOk
          rw [StrLaws.joinTotal, lens_pcat]
          show (!decide (_ > sizeLine)) = true
          rw [sizeLine_eq, show (⟨#[]⟩ : Str).length = 0 from rfl]
          simp; omega
        · have e1 : Txt.join ⟨#[]⟩ ((p :: ps).map (·.1)) = ⟨res.toArray⟩ := by
            show PySem.Builtin.Str.glued _ _ = _
            rw [StrLaws.glued_eq_join, ← hres]
            have := glued_empty ((p :: ps).map (·.1))
            rw [List.map_map] at this
            show Str.mk (Str.join ⟨#[]⟩ ((p :: ps).map (·.1))).cps = _
            congr 1
            rw [← Array.toList_inj]
            exact this
          rw [e1]
          exact hR _ h _ hb
    by_cases hlt : i < x.cps.size
    · rw [if_pos hlt]
      show wpAny _ _ (mkStr ⟨x.cps.extract i x.cps.size⟩ >>= _) _ _ _
      refine wpAny_bind (wpAny_mkStr ?_ (by rw [sizeLine_eq]; show (x.cps.extract i x.cps.size).size ≤ _; rw [Array.size_extract]; omega))
      refine wpAny_bind (wpAny_updateSeq hl rfl ?_ (by rw [sizeLine_eq]; simp [strValues]; omega) (by rw [sizeLine_eq]; simp [strValues]; omega))
      refine tail _ _ (ps ++ [(⟨x.cps.extract i x.cps.size⟩, tk)]) (nn + 1) (upd_base hb hnl) ?_ ?_ ?_
      · rw [← strValues_snoc]; exact upd_list hl _
      · rw [pcat_snoc, List.length_append]; simp; omega
      · rw [pcat_snoc, ← hFi, hres]
    · rw [if_neg hlt]
      refine tail _ _ ps nn hb hl (by omega) ?_
      rw [← hres, hFi]
      simp; omega
  | some m' =>
    have hfi : find i = some (m'.start, m'.handed) := hm'.symm
    obtain ⟨a1, a2, a3⟩ := hsome i _ _ hi hfi
    rw [hfi] at hFi
    dsimp only at hFi ⊢
    have tail : ∀ (h : Heap) (tk : Nat) (ps : List (Str × Tok)) (nn : Nat), (∀ b o, h₀.get? b = some o → h.get? b = some o) → h.get? l = some (lObj (strValues ps).toArray nn) → ps.length ≤ 2 * i + 1 → (pcat ps).length ≤ 2 * i + m'.start → pcat ps ++ r.cps.toList ++ F m'.handed = res →
        wpAny (model prog w) A.in1 (do
          updateSeq l (·.push (.str r tr))
          again (Code.builtin "re.Pattern.sub.loop" ⟨[.ref pat, .str x tx, .str r tr, rawInt 0, rawInt 0, rawInt (cnt + 1), rawInt ↑m'.handed, rawInt ↑m'.handed, .bool (m'.handed == m'.start), .ref l, .bool false], []⟩)) (fun fin s' => match fin with | .done f => R (.ok f) s' | .again c' => c'.quiet = true ∧ codeAny (model prog w) A c' R s') (fun e s' => R (.error e) s') { s₀ with heap := h, toks := tk } := by
      intro h tk ps nn hb hl hps hpc hres
      refine wpAny_bind (wpAny_updateSeq hl rfl ?_ (by rw [sizeLine_eq]; simp [strValues]; omega) (by rw [sizeLine_eq]; simp [strValues]; omega))
      refine wpAny_pure ⟨quiet_loop _, ?_⟩
      rw [show (m'.handed == m'.start) = false by simp; omega]
      refine ih (x.cps.size - m'.handed) (by omega) m'.handed rfl a3 _ _ l (ps ++ [(r, tr)]) (nn + 1) _ (upd_base hb hnl) hnl ?_ ?_ ?_ ?_
      · rw [← strValues_snoc]; exact upd_list hl _
      · rw [List.length_append]; simp; omega
      · rw [pcat_snoc, List.length_append]
        have hq : r.cps.toList.length = r.cps.size := Array.length_toList
        omega
      · rw [pcat_snoc, hres]
    by_cases hlt : i < m'.start
    · rw [if_pos hlt]
      show wpAny _ _ (mkStr ⟨x.cps.extract i m'.start⟩ >>= _) _ _ _
      refine wpAny_bind (wpAny_mkStr ?_ (by rw [sizeLine_eq]; show (x.cps.extract i m'.start).size ≤ _; rw [Array.size_extract]; omega))
      refine wpAny_bind (wpAny_updateSeq hl rfl ?_ (by rw [sizeLine_eq]; simp [strValues]; omega) (by rw [sizeLine_eq]; simp [strValues]; omega))
      refine tail _ _ (ps ++ [(⟨x.cps.extract i m'.start⟩, tk)]) (nn + 1) (upd_base hb hnl) ?_ ?_ ?_ ?_
      · rw [← strValues_snoc]; exact upd_list hl _
      · rw [List.length_append]; simp; omega
      · rw [pcat_snoc, List.length_append]; simp; omega
      · rw [pcat_snoc, ← hres, hFi]; simp
    · rw [if_neg hlt]
      refine tail _ _ ps nn hb hl (by omega) (by omega) ?_
      rw [← hres, hFi]
      have : i = m'.start := by omega
      rw [← this]; simp
end
end Mine
end
section
open PySem PySem.W PyProof.Rows PySem.Builtin PySem.Builtin.Re
namespace Mine
open PySem.Sre.M

theorem pa_pat : PlainAttrs "re.Pattern" :=
  ⟨⟨"object.__getattribute__", by rw [typeLookup_type, builtinLookup_eq_fast]; kernel_rfl, by decide +kernel⟩, by rw [typeLookup_type, builtinLookup_eq_fast]; kernel_rfl⟩
theorem slot_sub : Slot "re.Pattern" "sub" "re.Pattern.sub" :=
  .of (owner := "re.Pattern") (n := "sub") (by rw [typeLookup_type, builtinLookup_eq_fast]; kernel_rfl) (by decide +kernel) (by decide +kernel) (by decide +kernel)
    (by first | exact .inl (by decide +kernel) | exact .inr (by decide +kernel)) (by rw [isSubtype_type]; kernel_rfl)
theorem entry_sub : entryFor table "re.Pattern.sub" = some Builtin.«re.Pattern.sub» := entryFor_of_tree (by kernel_rfl)
theorem args_sub (a b c : Value) : argsOk "re.Pattern.sub" ⟨[a, b, c], []⟩ := by unfold argsOk; kernel_rfl
theorem type_sub : typeOf (.builtin "re.Pattern.sub") = pure (.type "method_descriptor") := by show builtinType _ = _; rw [builtinType_eq_fast]; kernel_rfl
theorem str_nocall : typeLookup (.type "str") "__call__" = pure none := by rw [typeLookup_type, builtinLookup_eq_fast]; kernel_rfl

section
variable {prog : Program} {w : World} {A : Around} {E : Value → Shared → Prop} {s : Shared}
theorem named_sub (r x : Str) (tr tx : Tok) : reNamed "re.Pattern.sub" "sub" ["repl", "string", "count"] 2 [.str r tr, .str x tx] [] = pure [some (.str r tr), some (.str x tx), none] := rfl
theorem meth_sub {pat : Addr} {code : Array Nat} {pl : Sem Bool} {Q : Value × List Value → Shared → Prop} (I : IsPat s.heap pat code) (hd : ∃ o, s.heap.get? pat = some o ∧ o.dict = none) (h : Q (.builtin "re.Pattern.sub", [.ref pat]) s) :
    wpAny (model prog w) A (getMethod (.ref pat) "sub" pl) Q E s := by
  obtain ⟨o, oc, vs, ca, cv, n, h1, h2, h3, h4, h5, h6, h7, h8, h9⟩ := I.ex
  exact getMethod_builtin ⟨o, h1, h2⟩ pa_pat slot_sub type_sub (fun a e => by cases e; exact hd) h
theorem sub_call (code : Array Nat) (x r : Str) (tx tr : Tok) (pat : Addr) (find : Nat → Option (Nat × Nat)) (F : Nat → List Nat) (I : IsPat s.heap pat code)
    (hx : x.cps.size ≤ 2 ^ 20) (hr : r.cps.size ≤ 2) (hbs : r.cps.contains 92 = false)
    (hfind : ∀ i, i ≤ x.cps.size → ∃ n, n ≤ 2 ^ 60 ∧ Tells1 n (PySem.Sre.forSearch code x.cps 0 i x.cps.size false) (find i))
    (hsome : ∀ i b e, i ≤ x.cps.size → find i = some (b, e) → i ≤ b ∧ b < e ∧ e ≤ x.cps.size)
    (hF : ∀ i, i ≤ x.cps.size → F i = match find i with | none => (x.cps.extract i x.cps.size).toList | some (b, e) => (x.cps.extract i b).toList ++ r.cps.toList ++ F e)
    {Q : Value → Shared → Prop}
    (hR : ∀ t h' tk', (∀ b o, s.heap.get? b = some o → h'.get? b = some o) → Q (.str ⟨(F 0).toArray⟩ t) { s with heap := h', toks := tk' }) :
    wpAny (model prog w) A (call (.builtin "re.Pattern.sub") [.ref pat, .str r tr, .str x tx]) Q E s := by
  obtain ⟨o, oc, vs, ca, cv, n, h1, h2, h3, h4, h5, h6, h7, h8, h9⟩ := I.ex
  refine wpAny_call (codeAny_call_builtin slot_sub.plain entry_sub (slot_sub.check _ _ _ _ _ _ _ _ ⟨o, h1, h2⟩ (args_sub _ _ _) ?_))
  show wpAny _ _ (reSubstitute "re.Pattern.sub" "sub" false ⟨[.ref pat, .str r tr, .str x tx], []⟩) _ _ s
  unfold reSubstitute
  show wpAny _ _ (reNamed "re.Pattern.sub" "sub" ["repl", "string", "count"] 2 [.str r tr, .str x tx] [] >>= _) _ _ s
  rw [named_sub]
  refine wpAny_bind (wpAny_pure ?_)
  refine wpAny_bind (wpAny_pure ?_)
  refine wpAny_bind (wpAny_specialOf (typeIs_str _ _ _) str_nocall ?_)
  simp only [Option.isSome_none, Bool.false_eq_true, if_false]
  refine wpAny_bind (wpAny_of_eq (show asStr? (.str r tr) = pure (some r) from rfl) ?_)
  dsimp only
  rw [hbs]
  refine wpAny_bind (wpAny_pure ?_)
  rw [if_pos (show (!false) = true from rfl)]
  refine wpAny_bind (wpAny_pure ?_)
  refine wpAny_bind (wpAny_holding (wp_target I ?_))
  refine wpAny_bind (wpAny_newList ?_ (by decide))
  refine wpAny_pure ⟨quiet_loop _, ?_⟩
  refine sub_loop code x r tx tr pat find F s.heap s I hx hr hfind hsome hF (F 0) ?_ x.cps.size 0 (by omega) (by omega) _ s.toks s.heap.objs.size [] 0 0 (fun b o e => Heap.get?_push_of_some _ e) ?_ (Heap.get?_push_size _ rfl) (by simp) (by simp [pcat]) rfl
  · intro t h' tk' hk
    exact hR t h' tk' hk
  · cases hq : s.heap.get? s.heap.objs.size with
    | none => rfl
    | some o' => exact absurd (Heap.lt_size hq) (Nat.lt_irrefl _)
end

/-! what the two patterns do, in plain words -/
def crlf : List Nat → List Nat
  | [] => []
  | 13 :: 10 :: r => 13 :: 10 :: crlf r
  | c :: r => if c == 10 || c == 13 then 13 :: 10 :: crlf r else c :: crlf r
def dots : Bool → List Nat → List Nat
  | _, [] => []
  | b, c :: r => if b && c == 46 then 46 :: 46 :: dots false r else c :: dots (c == 10) r
def qd (x : List Nat) : List Nat := dots true (crlf x)
def quoted (x : Str) : Str := ⟨(qd x.cps.toList).toArray⟩

theorem getD_drop {x : Array Nat} {i : Nat} (h : i < x.size) : x.toList.drop i = x.getD i 0 :: x.toList.drop (i + 1) := by
  rw [List.drop_eq_getElem_cons (by simpa using h)]
  simp [Array.getD, h]
theorem ext_nil (x : Array Nat) (i : Nat) : (x.extract i i).toList = [] := by simp
theorem ext_all (x : Array Nat) (i : Nat) : (x.extract i x.size).toList = x.toList.drop i := by
  rw [Array.toList_extract, ← Array.length_toList, List.extract_eq_take_drop, List.take_of_length_le (by simp)]
theorem ext_cons {x : Array Nat} {i b : Nat} (h : i < b) (hb : b ≤ x.size) : (x.extract i b).toList = x.getD i 0 :: (x.extract (i + 1) b).toList := by
  rw [Array.toList_extract, Array.toList_extract, List.extract_eq_take_drop, List.extract_eq_take_drop, getD_drop (by omega), show b - i = (b - (i + 1)) + 1 by omega, List.take_succ_cons]

theorem crlf_cons_other {c : Nat} {r : List Nat} (h : (c == 10 || c == 13) = false) : crlf (c :: r) = c :: crlf r := by
  have h13 : c ≠ 13 := by intro e; subst e; simp at h
  rw [crlf]
  · rw [if_neg (by rw [h]; exact Bool.false_ne_true)]
  · intro r' e; exact absurd e h13
theorem crlf_10 (r : List Nat) : crlf (10 :: r) = 13 :: 10 :: crlf r := by
  rw [crlf]
  · rfl
  · intro r' e; cases e
theorem crlf_13 {r : List Nat} (h : r.head? ≠ some 10) : crlf (13 :: r) = 13 :: 10 :: crlf r := by
  rw [crlf]
  · rfl
  · intro r' _ e; subst e; exact h rfl

/-- what pattern 2 leaves from place i on -/
theorem crlf_find (x : Array Nat) : ∀ (f i : Nat), i + f = x.size → crlf (x.toList.drop i) = match find2 x f i with | none => (x.extract i x.size).toList | some (b, e) => (x.extract i b).toList ++ [13, 10] ++ crlf (x.toList.drop e)
  | 0, i, h => by
    rw [find2, ext_all, List.drop_of_length_le (by simp; omega)]; rfl
  | f + 1, i, h => by
    rw [find2]
    have hd := getD_drop (x := x) (i := i) (by omega)
    by_cases hc : (x.getD i 0 == 10 || x.getD i 0 == 13) = true
    · rw [if_pos hc]
      dsimp only
      rw [ext_nil, List.nil_append, hd]
      by_cases h13 : (x.getD i 0 == 13) = true
      · have e13 := beq_iff_eq.mp h13
        by_cases hn : (decide (i + 1 < x.size) && x.getD (i + 1) 0 == 10) = true
        · have hlt : i + 1 < x.size := by simpa using (Bool.and_eq_true_iff.mp hn).1
          have e10 := beq_iff_eq.mp (Bool.and_eq_true_iff.mp hn).2
          rw [show end2 x i = i + 2 from if_pos (by rw [h13, hn]; rfl), getD_drop hlt, e13, e10, crlf]; rfl
        · rw [show end2 x i = i + 1 from if_neg (fun q => hn (Bool.and_eq_true_iff.mp q).2), e13, crlf_13]; · rfl
          intro he
          by_cases hlt : i + 1 < x.size
          · rw [getD_drop hlt] at he
            exact hn (by rw [Option.some.inj he]; simp [hlt])
          · rw [List.drop_of_length_le (by simp; omega)] at he; cases he
      · have h10 : x.getD i 0 = 10 := by
          cases hq : (x.getD i 0 == 10)
          · rw [hq, Bool.false_or] at hc; exact absurd hc h13
          · exact beq_iff_eq.mp hq
        rw [show end2 x i = i + 1 from if_neg (fun q => h13 (Bool.and_eq_true_iff.mp q).1), h10, crlf_10]; rfl
    · rw [if_neg hc, hd, crlf_cons_other (by cases h9 : (x.getD i 0 == 10 || x.getD i 0 == 13) <;> simp_all), crlf_find x f (i + 1) (by omega)]
      cases hf : find2 x f (i + 1) with
      | none => dsimp only; rw [← ext_cons (by omega) (Nat.le_refl _)]
      | some be =>
        obtain ⟨b, e⟩ := be
        obtain ⟨a1, a2, _, _⟩ := find2_some x _ _ _ _ (by omega) hf
        dsimp only
        rw [← List.cons_append, ← List.cons_append, ← ext_cons (by omega) (by omega)]
theorem find1_some (text : Array Nat) : ∀ (f s b e : Nat), s + f = text.size → find1 text f s = some (b, e) → s ≤ b ∧ b < text.size ∧ bol text b = true ∧ text.getD b 0 = 46 ∧ e = b + 1
  | 0, _, _, _, _, h => by cases h
  | f + 1, s, b, e, hs, h => by
    rw [find1] at h
    by_cases hc : (bol text s && text.getD s 0 == 46) = true
    · rw [if_pos hc] at h
      cases h
      exact ⟨Nat.le_refl _, by omega, (Bool.and_eq_true_iff.mp hc).1, beq_iff_eq.mp (Bool.and_eq_true_iff.mp hc).2, rfl⟩
    · rw [if_neg hc] at h
      obtain ⟨a1, a2⟩ := find1_some text f (s + 1) b e (by omega) h
      exact ⟨by omega, a2⟩
theorem dots_find (x : Array Nat) : ∀ (f i : Nat), i + f = x.size → dots (bol x i) (x.toList.drop i) = match find1 x f i with | none => (x.extract i x.size).toList | some (b, e) => (x.extract i b).toList ++ [46, 46] ++ dots (bol x e) (x.toList.drop e)
  | 0, i, h => by
    rw [find1, ext_all, List.drop_of_length_le (by simp; omega)]; rfl
  | f + 1, i, h => by
    rw [find1]
    have hd := getD_drop (x := x) (i := i) (by omega)
    have hb : bol x (i + 1) = (x.getD i 0 == 10) := by simp [bol]
    by_cases hc : (bol x i && x.getD i 0 == 46) = true
    · rw [if_pos hc]
      dsimp only
      rw [ext_nil, List.nil_append, hd, dots, if_pos hc, hb, beq_iff_eq.mp (Bool.and_eq_true_iff.mp hc).2]; rfl
    · rw [if_neg hc, hd, dots, if_neg hc, ← hb, dots_find x f (i + 1) (by omega)]
      cases hf : find1 x f (i + 1) with
      | none => dsimp only; rw [← ext_cons (by omega) (Nat.le_refl _)]
      | some be =>
        obtain ⟨b, e⟩ := be
        obtain ⟨a1, a2, _, _⟩ := find1_some x _ _ _ _ (by omega) hf
        dsimp only
        rw [← List.cons_append, ← List.cons_append, ← ext_cons (by omega) (by omega)]

section
variable {prog : Program} {w : World} {A : Around} {E : Value → Shared → Prop} {s : Shared} {Q : Value → Shared → Prop}
theorem sub_crlf {x r : Str} {tx tr : Tok} {pat : Addr} (I : IsPat s.heap pat code2) (hx : x.cps.size ≤ 2 ^ 20) (hr : r.cps = #[13, 10])
    (hR : ∀ t h' tk', (∀ b o, s.heap.get? b = some o → h'.get? b = some o) → Q (.str ⟨(crlf x.cps.toList).toArray⟩ t) { s with heap := h', toks := tk' }) :
    wpAny (model prog w) A (call (.builtin "re.Pattern.sub") [.ref pat, .str r tr, .str x tx]) Q E s := by
  refine sub_call code2 x r tx tr pat (fun i => find2 x.cps (x.cps.size - i) i) (fun i => crlf (x.cps.toList.drop i)) I hx (by rw [hr]; decide) (by rw [hr]; decide +kernel) ?_ ?_ ?_ hR
  · intro i hi
    obtain ⟨n, hn, ht⟩ := tells_2 x.cps i hi
    exact ⟨n, by omega, ht⟩
  · intro i b e hi h
    obtain ⟨a1, a2, a3, a4⟩ := find2_some x.cps _ _ _ _ (by omega) h
    subst a4
    by_cases q : (x.cps.getD b 0 == 13 && (decide (b + 1 < x.cps.size) && x.cps.getD (b + 1) 0 == 10)) = true
    · have := (Bool.and_eq_true_iff.mp (Bool.and_eq_true_iff.mp q).2).1
      have h2 : b + 1 < x.cps.size := of_decide_eq_true this
      rw [show end2 x.cps b = b + 2 from if_pos q]
      exact ⟨a1, by omega, by omega⟩
    · rw [show end2 x.cps b = b + 1 from if_neg q]
      exact ⟨a1, by omega, by omega⟩
  · intro i hi
    rw [hr]
    exact crlf_find x.cps (x.cps.size - i) i (by omega)
theorem sub_dots {x r : Str} {tx tr : Tok} {pat : Addr} (I : IsPat s.heap pat code1) (hx : x.cps.size ≤ 2 ^ 20) (hr : r.cps = #[46, 46])
    (hR : ∀ t h' tk', (∀ b o, s.heap.get? b = some o → h'.get? b = some o) → Q (.str ⟨(dots true x.cps.toList).toArray⟩ t) { s with heap := h', toks := tk' }) :
    wpAny (model prog w) A (call (.builtin "re.Pattern.sub") [.ref pat, .str r tr, .str x tx]) Q E s := by
  refine sub_call code1 x r tx tr pat (fun i => find1 x.cps (x.cps.size - i) i) (fun i => dots (bol x.cps i) (x.cps.toList.drop i)) I hx (by rw [hr]; decide) (by rw [hr]; decide +kernel) ?_ ?_ ?_ hR
  · intro i hi
    obtain ⟨n, hn, ht⟩ := tells_1 x.cps i hi
    exact ⟨n, by omega, ht⟩
  · intro i b e hi h
    obtain ⟨a1, a2, a3, a4, a5⟩ := find1_some x.cps _ _ _ _ (by omega) h
    subst a5
    exact ⟨a1, by omega, by omega⟩
  · intro i hi
    rw [hr]
    exact dots_find x.cps (x.cps.size - i) i (by omega)
end
end Mine
end
section
open PySem PySem.W PyProof.Rows
namespace Mine
theorem pat_1 {w : World} {h : Heap} (X : (Mine.hd.heap_39 w.params).In h) : IsPat h 82 code1 := ⟨_, _, _, 81, _, _, X 82 _ rfl, rfl, rfl, rfl, rfl, rfl, X 81 _ rfl, rfl, by decide +kernel⟩
theorem pat_2 {w : World} {h : Heap} (X : (Mine.hd.heap_39 w.params).In h) : IsPat h 87 code2 := ⟨_, _, _, 86, _, _, X 87 _ rfl, rfl, rfl, rfl, rfl, rfl, X 86 _ rfl, rfl, by decide +kernel⟩
theorem patd_1 {w : World} {h : Heap} (X : (Mine.hd.heap_39 w.params).In h) : ∃ o, h.get? 82 = some o ∧ o.dict = none := ⟨_, X 82 _ rfl, rfl⟩
theorem patd_2 {w : World} {h : Heap} (X : (Mine.hd.heap_39 w.params).In h) : ∃ o, h.get? 87 = some o ∧ o.dict = none := ⟨_, X 87 _ rfl, rfl⟩
theorem kin {w : World} {h₀ h : Heap} {L : Addr} {m : Str → Option Value} (X : (Mine.hd.heap_39 w.params).In h₀) (F : Fr h₀ L h m) : (Mine.hd.heap_39 w.params).In h := X.keeps F.keep

theorem crlf_len : ∀ x : List Nat, (crlf x).length ≤ 2 * x.length := by
  intro x
  induction x using crlf.induct with
  | case1 => simp [crlf]
  | case2 r ih => simp only [crlf, List.length_cons]; omega
  | case3 c r h1 h2 ih => rw [crlf]; · rw [if_pos h2]; simp only [List.length_cons]; omega
                          · exact h1
  | case4 c r h1 h2 ih => rw [crlf]; · rw [if_neg h2]; simp only [List.length_cons]; omega
                          · exact h1

local macro_rules | `(tactic| walk_at "getMethod ref") => `(tactic| first
  | (refine' meth_sub (pat_1 (kin (by k_asm) (by k_asm))) (patd_1 (kin (by k_asm) (by k_asm))) ?_)
  | (refine' meth_sub (pat_2 (kin (by k_asm) (by k_asm))) (patd_2 (kin (by k_asm) (by k_asm))) ?_))

theorem subK_crlf {prog : Program} {w : World} {A : Around} {E : Value → Shared → Prop} {s : Shared} {Q : Value → Shared → Prop} {h₀ : Heap} {L : Addr} {m : Str → Option Value} {news : List (Addr × Obj)} {x r : Str} {tx tr : Tok}
    (X : (Mine.hd.heap_39 w.params).In h₀) (F : Fr h₀ L s.heap m) (N : News h₀ L s.heap news) (hx : x.cps.size ≤ 2 ^ 20) (hr : r.cps = #[13, 10])
    (hR : ∀ t h' tk', Fr h₀ L h' m → News h₀ L h' news → Q (.str ⟨(crlf x.cps.toList).toArray⟩ t) { s with heap := h', toks := tk' }) :
    wpAny (model prog w) A (call (.builtin "re.Pattern.sub") [.ref 87, .str r tr, .str x tx]) Q E s :=
  sub_crlf (pat_2 (kin X F)) hx hr fun t h' tk' hk => hR t h' tk' (F.keeps hk) (N.grown hk)
theorem subK_dots {prog : Program} {w : World} {A : Around} {E : Value → Shared → Prop} {s : Shared} {Q : Value → Shared → Prop} {h₀ : Heap} {L : Addr} {m : Str → Option Value} {news : List (Addr × Obj)} {x r : Str} {tx tr : Tok}
    (X : (Mine.hd.heap_39 w.params).In h₀) (F : Fr h₀ L s.heap m) (N : News h₀ L s.heap news) (hx : x.cps.size ≤ 2 ^ 20) (hr : r.cps = #[46, 46])
    (hR : ∀ t h' tk', Fr h₀ L h' m → News h₀ L h' news → Q (.str ⟨(dots true x.cps.toList).toArray⟩ t) { s with heap := h', toks := tk' }) :
    wpAny (model prog w) A (call (.builtin "re.Pattern.sub") [.ref 82, .str r tr, .str x tx]) Q E s :=
  sub_dots (pat_1 (kin X F)) hx hr fun t h' tk' hk => hR t h' tk' (F.keeps hk) (N.grown hk)
theorem sz_crlf {x : Str} (h : x.cps.size ≤ 2 ^ 18) : (⟨(crlf x.cps.toList).toArray⟩ : Str).cps.size ≤ 2 ^ 20 := by
  have h1 := crlf_len x.cps.toList
  have h2 : x.cps.toList.length = x.cps.size := Array.length_toList
  show (crlf x.cps.toList).toArray.size ≤ _
  rw [List.size_toArray]
  omega
local macro_rules | `(tactic| walk_at "call builtin:re.Pattern.sub") => `(tactic| first
  | (refine' subK_crlf (by k_asm) (by k_asm) (by k_asm) (by omega) (by decide +kernel) ?_; intro t9 h9 tk9 F9 N9; (try dsimp only))
  | (refine' subK_dots (by k_asm) (by k_asm) (by k_asm) (sz_crlf (by assumption)) (by decide +kernel) ?_; intro t9 h9 tk9 F9 N9; (try dsimp only)))

set_option maxRecDepth 100000 in
set_option maxHeartbeats 4000000 in
theorem quote_c (w : World) (p : Program) (loose : List Str) (mean : ExcName → Option Value) (mg mb : Str → Option Value) (news : List (Addr × Obj)) (x : Str) (tx : Tok) :
   CbClaim PySem.Challenge.rw_rs0052_02.prog w (Mine.hd.heap_39 w.params) p loose mean mg mb 94 news [] (x.cps.size ≤ 2 ^ 18) [.str x tx] (fun t => .str (quoted x) t) := by
  k_with_none
  w_top off
  k_fill
  dsimp only [CbClaim, CbLists, CbRet]
  intros
  rename_i hret
  refine wpAny_call ?_
  k_dflt cell_enter
  k_steps
  all_goals cb_end hret
end Mine
end
section
open PySem PySem.W PyProof.Rows PySem.Builtin.Str
namespace Mine
/-- a slice's bound as a place -/
def clipN (v : Option Int) (d n : Nat) : Nat := match v with
  | none => d
  | some i => if i < 0 then (i + n).toNat else min i.toNat n
def lst (x : Str) : List Nat := x.cps.toList
theorem lst_length (x : Str) : (lst x).length = x.length := Array.length_toList
theorem str_ext {x y : Str} (h : lst x = lst y) : x = y := by
  cases x; cases y; congr 1; exact Array.toList_inj.mp h
theorem filterMap_range (l : List Nat) : ∀ (n a : Nat), a + n ≤ l.length → (List.range n).filterMap (fun k => l[a + k]?) = (l.drop a).take n
  | 0, a, _ => by simp
  | n + 1, a, h => by
    rw [List.range_succ_eq_map, List.filterMap_cons, List.filterMap_map]
    have e : (fun k => l[a + k]?) ∘ Nat.succ = fun k => l[(a + 1) + k]? := by funext k; simp only [Function.comp]; congr 1; omega
    have hl : a < l.length := by omega
    rw [e, filterMap_range l n (a + 1) (by omega), Nat.add_zero, List.getElem?_eq_getElem hl, List.drop_eq_getElem_cons hl, List.take_succ_cons]
theorem slice_list (x : Str) (l u : Option Int) : lst (Txt.slice x l u) = ((lst x).drop (clipN l 0 x.length)).take (clipN u x.length x.length - clipN l 0 x.length) := by
  have hr : ∀ a b : Nat, b ≤ x.length → (sliceRange (a : Int) (b : Int) 1).filterMap (x.cps[·]?) = ((lst x).drop a).take (b - a) := by
    intro a b hb
    unfold sliceRange
    rw [if_pos (by decide)]
    by_cases hab : (a : Int) < b
    · rw [if_pos hab, List.filterMap_map, show (((b : Int) - a + 1 - 1) / 1).toNat = b - a by rw [Int.ediv_one]; omega]
      have e : ((fun k => x.cps[k]?) ∘ fun (k : Nat) => ((a : Int) + 1 * (k : Int)).toNat) = fun k => (lst x)[a + k]? := by
        funext k
        simp only [Function.comp, lst]
        rw [show ((a : Int) + 1 * (k : Int)).toNat = a + k by omega]
        simp
      rw [e, filterMap_range (lst x) (b - a) a (by rw [lst_length]; omega)]
    · rw [if_neg hab, show b - a = 0 by omega]; simp
  have hi : strSliceIndices l u 1 x.length = sliceRange (clipN l 0 x.length : Int) (clipN u x.length x.length : Int) 1 := by
    unfold strSliceIndices clipN
    simp only [show ((1 : Int) > 0) by decide, if_true]
    cases l <;> cases u <;> simp only [] <;> (congr 1 <;> (repeat' split) <;> omega)
  have hu : clipN u x.length x.length ≤ x.length := by unfold clipN; cases u <;> simp only [] <;> (try split) <;> omega
  unfold Txt.slice
  rw [hi]
  split
  · rename_i h
    have hlen : (sliceRange (clipN l 0 x.length : Int) (clipN u x.length x.length : Int) 1).length = x.length := by simpa using h
    have h2 : (clipN u x.length x.length - clipN l 0 x.length) = x.length := by
      unfold sliceRange at hlen
      rw [if_pos (by decide), List.length_map, List.length_range, Int.ediv_one] at hlen
      split at hlen <;> omega
    by_cases h0 : x.length = 0
    · have : lst x = [] := List.eq_nil_of_length_eq_zero (by rw [lst_length, h0])
      rw [this]; simp
    · rw [h2, show clipN l 0 x.length = 0 by omega, List.drop_zero, List.take_of_length_le (by rw [lst_length]; omega)]
  · exact (hr _ _ hu)
theorem item_cons {x : Str} {i : Int} (h0 : 0 ≤ i) (h1 : i < x.length) : ∃ c, (lst x).drop i.toNat = c :: (lst x).drop (i.toNat + 1) ∧ Txt.item x i = ⟨#[c]⟩ ∧ (lst x)[i.toNat]? = some c := by
  have hl : i.toNat < (lst x).length := by rw [lst_length]; omega
  refine ⟨(lst x)[i.toNat], List.drop_eq_getElem_cons hl, ?_, List.getElem?_eq_getElem hl⟩
  unfold Txt.item Txt.charAt seqIndex?
  have e : x.cps[i.toNat]? = some (lst x)[i.toNat] := by
    have := List.getElem?_eq_getElem hl
    rw [← this]; simp [lst]
  simp only [show ¬ (i < 0) by omega, if_false, h0, h1, decide_true, Bool.and_self, if_true, Option.bind_some, e, Option.getD_some]
end Mine
end
section
open PySem PySem.W PyProof.Rows PySem.Builtin.Str
namespace Mine
def nameOf : List Nat → List Nat
  | [] => []
  | 34 :: 34 :: r => 34 :: nameOf r
  | c :: r => if c == 34 then [] else c :: nameOf r
def told257 (x : Str) : Str := if Txt.slice x (some 3) (some 5) = Str.ofString " \"" then ⟨(nameOf ((lst x).drop 5)).toArray⟩ else Str.ofString ""
abbrev pIs (x : Str) (i : Int) (d : Str) : Prop := 5 ≤ i ∧ i ≤ (x.length : Int) ∧ d.length ≤ i.toNat ∧ lst d ++ nameOf ((lst x).drop i.toNat) = nameOf ((lst x).drop 5)
theorem qt : Str.ofString "\"" = ⟨#[34]⟩ := by decide +kernel
theorem nameOf_other {c : Nat} {r : List Nat} (h : c ≠ 34) : nameOf (c :: r) = c :: nameOf r := by
  rw [nameOf]
  · rw [if_neg (by simpa using h)]
  · intro r' e; exact absurd e h
theorem nameOf_end {r : List Nat} (h : r.head? ≠ some 34) : nameOf (34 :: r) = [] := by
  rw [nameOf]
  · rfl
  · intro r' _ e; subst e; exact h rfl
theorem sl_in {x : Str} {a b : Nat} {y : Str} (h : Txt.slice x (some a) (some b) = y) (hy : y.length = b - a) (hab : a < b) : b ≤ x.length := by
  have e := congrArg (fun z => (lst z).length) h
  simp only [slice_list, List.length_take, List.length_drop, lst_length, hy, clipN] at e
  rw [if_neg (by omega), if_neg (by omega)] at e
  omega
theorem p_start {x : Str} (h : (Txt.slice x (some 3) (some 5) != Str.ofString " \"") = false) : pIs x 5 (Str.ofString "") := by
  have h' : Txt.slice x (some 3) (some 5) = Str.ofString " \"" := by simpa using h
  have := sl_in (a := 3) (b := 5) h' (by decide +kernel) (by omega)
  exact ⟨by omega, by omega, by decide +kernel, rfl⟩
theorem lst_app (x y : Str) : lst (x ++ y) = lst x ++ lst y := by
  show (x.cps ++ y.cps).toList = _
  simp [lst]
theorem p_other {x d : Str} {i : Int} (h1 : 5 ≤ i) (h3 : d.length ≤ i.toNat) (h4 : lst d ++ nameOf ((lst x).drop i.toNat) = nameOf ((lst x).drop 5))
    (hl : i < (x.length : Int)) (hc : (Txt.item x i == Str.ofString "\"") = false) : pIs x (i + 1) (d ++ Txt.item x i) := by
  obtain ⟨c, e1, e2, _⟩ := item_cons (x := x) (i := i) (by omega) hl
  have hc' : c ≠ 34 := by
    intro e; subst e; rw [e2, qt] at hc; simp at hc
  rw [e1, nameOf_other hc'] at h4
  refine ⟨by omega, by omega, ?_, ?_⟩
  · rw [Str.length_append, e2]; show d.length + 1 ≤ _; omega
  · rw [lst_app, e2, show (i + 1).toNat = i.toNat + 1 by omega, ← h4]; simp [lst]
theorem p_pair {x d : Str} {i : Int} (h1 : 5 ≤ i) (h3 : d.length ≤ i.toNat) (h4 : lst d ++ nameOf ((lst x).drop i.toNat) = nameOf ((lst x).drop 5))
    (hl : i < (x.length : Int)) (hc : (Txt.item x i == Str.ofString "\"") = true) (hn : ¬ ((x.length : Int) ≤ i + 1)) (hd : (Txt.item x (i + 1) != Str.ofString "\"") = false) : pIs x (i + 1 + 1) (d ++ Txt.item x i) := by
  obtain ⟨c, e1, e2, _⟩ := item_cons (x := x) (i := i) (by omega) hl
  obtain ⟨c', e1', e2', _⟩ := item_cons (x := x) (i := i + 1) (by omega) (by omega)
  have hc' : c = 34 := by rw [e2, qt] at hc; simpa using hc
  have hd' : c' = 34 := by rw [e2', qt] at hd; simpa using hd
  rw [show (i + 1).toNat = i.toNat + 1 by omega] at e1'
  rw [e1, e1', hc', hd', nameOf] at h4
  refine ⟨by omega, by omega, ?_, ?_⟩
  · rw [Str.length_append, e2]; show d.length + 1 ≤ _; omega
  · rw [lst_app, e2, hc', show (i + 1 + 1).toNat = i.toNat + 1 + 1 by omega, ← h4]; simp [lst]
theorem p_told {x d : Str} (hs : (Txt.slice x (some 3) (some 5) != Str.ofString " \"") = false) (h4 : lst d = nameOf ((lst x).drop 5)) : d = told257 x := by
  unfold told257
  rw [if_pos (by simpa using hs), ← h4]
  exact str_ext (by simp [lst])
theorem p_none {x : Str} (hs : (Txt.slice x (some 3) (some 5) != Str.ofString " \"") = true) : Str.ofString "" = told257 x := by
  unfold told257
  rw [if_neg (by simpa using hs)]
theorem p_end {x d : Str} {i : Int} (hs : (Txt.slice x (some 3) (some 5) != Str.ofString " \"") = false) (h4 : lst d ++ nameOf ((lst x).drop i.toNat) = nameOf ((lst x).drop 5)) (hl : ¬ i < (x.length : Int)) : d = told257 x := by
  rw [List.drop_of_length_le (by rw [lst_length]; omega), nameOf, List.append_nil] at h4
  exact p_told hs h4
theorem p_brk {x d : Str} {i : Int} (hs : (Txt.slice x (some 3) (some 5) != Str.ofString " \"") = false) (h1 : 5 ≤ i) (h4 : lst d ++ nameOf ((lst x).drop i.toNat) = nameOf ((lst x).drop 5))
    (hl : i < (x.length : Int)) (hc : (Txt.item x i == Str.ofString "\"") = true) (hn : (x.length : Int) ≤ i + 1) : d = told257 x := by
  obtain ⟨c, e1, e2, _⟩ := item_cons (x := x) (i := i) (by omega) hl
  have hc' : c = 34 := by rw [e2, qt] at hc; simpa using hc
  rw [e1, hc', nameOf_end (by rw [List.drop_of_length_le (by rw [lst_length]; omega)]; simp), List.append_nil] at h4
  exact p_told hs h4
theorem p_brk2 {x d : Str} {i : Int} (hs : (Txt.slice x (some 3) (some 5) != Str.ofString " \"") = false) (h1 : 5 ≤ i) (h4 : lst d ++ nameOf ((lst x).drop i.toNat) = nameOf ((lst x).drop 5))
    (hl : i < (x.length : Int)) (hc : (Txt.item x i == Str.ofString "\"") = true) (hn : ¬ ((x.length : Int) ≤ i + 1)) (hd : (Txt.item x (i + 1) != Str.ofString "\"") = true) : d = told257 x := by
  obtain ⟨c, e1, e2, _⟩ := item_cons (x := x) (i := i) (by omega) hl
  obtain ⟨c', e1', e2', _⟩ := item_cons (x := x) (i := i + 1) (by omega) (by omega)
  have hc' : c = 34 := by rw [e2, qt] at hc; simpa using hc
  have hd' : c' ≠ 34 := by rw [e2', qt] at hd; simpa using hd
  rw [show (i + 1).toNat = i.toNat + 1 by omega] at e1'
  rw [e1, hc', nameOf_end (by rw [e1']; simpa using hd'), List.append_nil] at h4
  exact p_told hs h4
end Mine
end
section
open PySem PySem.W PyProof.Rows
namespace Mine
local macro_rules | `(tactic| walk_at "p state") => `(tactic| first
  | exact p_start (by assumption)
  | exact p_other (by assumption) (by assumption) (by assumption) (by assumption) (by assumption)
  | exact p_pair (by assumption) (by assumption) (by assumption) (by assumption) (by assumption) (by assumption) (by assumption))
local macro_rules | `(tactic| walk_at "p end") => `(tactic| first
  | exact p_none (by assumption)
  | exact p_end (by assumption) (by assumption) (by assumption)
  | exact p_brk (by assumption) (by assumption) (by assumption) (by assumption) (by assumption) (by assumption)
  | exact p_brk2 (by assumption) (by assumption) (by assumption) (by assumption) (by assumption) (by assumption) (by assumption))
theorem no_257 {x : Str} (h : Txt.slice x none (some 3) = Str.ofString "257") (h' : (Txt.slice x none (some 3) != Str.ofString "257") = true) : False := by simp [h] at h'
set_option maxRecDepth 100000 in
set_option maxHeartbeats 4000000 in
theorem parse_c (w : World) (p : Program) (loose : List Str) (mean : ExcName → Option Value) (mg mb : Str → Option Value) (news : List (Addr × Obj)) (x : Str) (tx : Tok) :
   CbClaim PySem.Challenge.rw_rs0052_02.prog w (Mine.hd.heap_39 w.params) p loose mean mg mb 77 news [] (x.length ≤ 1048576 ∧ Txt.slice x none (some 3) = Str.ofString "257") [.str x tx] (fun t => .str (told257 x) t) := by
  k_with_none
  w_top off
  k_fill
  dsimp only [CbClaim, CbLists, CbRet]
  intros
  rename_i hpre hroom hunits hret
  obtain ⟨hx, h257⟩ := hpre
  k_with "exec While Compare cons nil" => k_while (fun _ i d => pIs x i d) (fun _ i _ => x.length - i.toNat) "i" "dirname"
  k_with "state" => (walk_at "p state")
  k_with "tree" => (walk_at "p end")
  refine wpAny_call ?_
  k_dflt cell_enter
  k_steps
  all_goals first | cb_end hret | exact (no_257 (by assumption) (by assumption)).elim
end Mine
end
section
namespace Mine
/-- what one sign in another's place costs -/
structure Cost (s : Nat → Nat → Nat) : Prop where
  same : ∀ x, s x x = 0
  most : ∀ x y, s x y ≤ 2
  symm : ∀ x y, s x y = s y x

/-- an alignment and its cost -/
inductive Al (s : Nat → Nat → Nat) : List Nat → List Nat → Nat → Prop
  | nil : Al s [] [] 0
  | sub {a b k} (x y) : Al s a b k → Al s (x :: a) (y :: b) (k + s x y)
  | del {a b k} (x) : Al s a b k → Al s (x :: a) b (k + 2)
  | ins {a b k} (y) : Al s a b k → Al s a (y :: b) (k + 2)

/-- the least cost -/
def D (s : Nat → Nat → Nat) : List Nat → List Nat → Nat
  | [], b => 2 * b.length
  | _ :: a, [] => 2 * (a.length + 1)
  | x :: a, y :: b => min (D s a b + s x y) (min (D s a (y :: b) + 2) (D s (x :: a) b + 2))
termination_by a b => a.length + b.length

section
variable {s : Nat → Nat → Nat}
theorem D_nil (b : List Nat) : D s [] b = 2 * b.length := by rw [D]
theorem D_nil' (a : List Nat) : D s a [] = 2 * a.length := by cases a <;> rw [D] <;> rfl
theorem D_cons (x y : Nat) (a b : List Nat) : D s (x :: a) (y :: b) = min (D s a b + s x y) (min (D s a (y :: b) + 2) (D s (x :: a) b + 2)) := by rw [D]
theorem al_ins : ∀ b : List Nat, Al s [] b (2 * b.length)
  | [] => .nil
  | y :: b => by have := Al.ins y (al_ins b); simpa [Nat.mul_add] using this
theorem al_del : ∀ a : List Nat, Al s a [] (2 * a.length)
  | [] => .nil
  | y :: b => by have := Al.del y (al_del b); simpa [Nat.mul_add] using this
theorem al_D : ∀ a b : List Nat, Al s a b (D s a b)
  | [], b => by rw [D_nil]; exact al_ins b
  | x :: a, [] => by rw [D_nil']; exact al_del (x :: a)
  | x :: a, y :: b => by
    rw [D_cons]
    have h1 := Al.sub x y (al_D a b)
    have h2 := Al.del x (al_D a (y :: b))
    have h3 := Al.ins y (al_D (x :: a) b)
    by_cases c1 : D s a b + s x y ≤ min (D s a (y :: b) + 2) (D s (x :: a) b + 2)
    · rw [Nat.min_eq_left c1]; exact h1
    · rw [Nat.min_eq_right (by omega)]
      by_cases c2 : D s a (y :: b) + 2 ≤ D s (x :: a) b + 2
      · rw [Nat.min_eq_left c2]; exact h2
      · rw [Nat.min_eq_right (by omega)]; exact h3
termination_by a b => a.length + b.length
theorem D_le {a b : List Nat} {k : Nat} (h : Al s a b k) : D s a b ≤ k := by
  induction h with
  | nil => rw [D_nil]; exact Nat.le_refl _
  | sub x y _ ih => rw [D_cons]; omega
  | @del a b k x h ih =>
    cases b with
    | nil => rw [D_nil'] at ih ⊢; simp only [List.length_cons]; omega
    | cons y b => rw [D_cons]; omega
  | @ins a b k y h ih =>
    cases a with
    | nil => rw [D_nil] at ih ⊢; simp only [List.length_cons]; omega
    | cons x a => rw [D_cons]; omega
theorem Al.symm (C : Cost s) {a b : List Nat} {k : Nat} (h : Al s a b k) : Al s b a k := by
  induction h with
  | nil => exact .nil
  | sub x y _ ih => rw [C.symm]; exact .sub y x ih
  | del x _ ih => exact .ins x ih
  | ins y _ ih => exact .del y ih
theorem D_symm (C : Cost s) (a b : List Nat) : D s a b = D s b a := Nat.le_antisymm (D_le (al_D b a |>.symm C)) (D_le (al_D a b |>.symm C))
theorem Al.append {a b : List Nat} {k : Nat} (h : Al s a b k) {a' b' : List Nat} {k' : Nat} (h' : Al s a' b' k') : Al s (a ++ a') (b ++ b') (k + k') := by
  induction h with
  | nil => simpa using h'
  | @sub a b k x y _ ih => have := Al.sub x y ih; rw [show k + s x y + k' = k + k' + s x y by omega]; exact this
  | @del a b k x _ ih => have := Al.del x ih; rw [show k + 2 + k' = k + k' + 2 by omega]; exact this
  | @ins a b k y _ ih => have := Al.ins y ih; rw [show k + 2 + k' = k + k' + 2 by omega]; exact this
theorem Al.reverse {a b : List Nat} {k : Nat} (h : Al s a b k) : Al s a.reverse b.reverse k := by
  induction h with
  | nil => exact .nil
  | sub x y _ ih => rw [List.reverse_cons, List.reverse_cons]; have := ih.append (Al.sub x y .nil); simpa using this
  | del x _ ih => rw [List.reverse_cons]; have := ih.append (Al.del x .nil); simpa using this
  | ins y _ ih => rw [List.reverse_cons]; have := ih.append (Al.ins y .nil); simpa using this
theorem D_reverse (a b : List Nat) : D s a.reverse b.reverse = D s a b := by
  refine Nat.le_antisymm (D_le (al_D a b).reverse) ?_
  have := D_le (al_D (s := s) a.reverse b.reverse).reverse
  rwa [List.reverse_reverse, List.reverse_reverse] at this
theorem Al.dropR {a b : List Nat} {k : Nat} (h : Al s a b k) : ∀ {c b'}, b = c :: b' → ∃ k', k' ≤ k + 2 ∧ Al s a b' k' := by
  induction h with
  | nil => intro c b' e; cases e
  | @sub a b k x y h ih => intro c b' e; cases e; exact ⟨_, by omega, .del x h⟩
  | @del a b k x h ih => intro c b' e; obtain ⟨k', h1, h2⟩ := ih e; exact ⟨_, by omega, .del x h2⟩
  | @ins a b k y h ih => intro c b' e; cases e; exact ⟨_, by omega, h⟩
theorem Al.dropL {a b : List Nat} {k : Nat} (h : Al s a b k) : ∀ {c a'}, a = c :: a' → ∃ k', k' ≤ k + 2 ∧ Al s a' b k' := by
  induction h with
  | nil => intro c b' e; cases e
  | @sub a b k x y h ih => intro c b' e; cases e; exact ⟨_, by omega, .ins y h⟩
  | @ins a b k x h ih => intro c b' e; obtain ⟨k', h1, h2⟩ := ih e; exact ⟨_, by omega, .ins x h2⟩
  | @del a b k y h ih => intro c b' e; cases e; exact ⟨_, by omega, h⟩
theorem D_front (C : Cost s) (c : Nat) (a b : List Nat) : D s (c :: a) (c :: b) = D s a b := by
  refine Nat.le_antisymm (D_le (by have := Al.sub c c (al_D (s := s) a b); rwa [C.same, Nat.add_zero] at this)) ?_
  have h := al_D (s := s) (c :: a) (c :: b)
  generalize D s (c :: a) (c :: b) = k at h
  cases h with
  | sub _ _ h => exact Nat.le_trans (D_le h) (by omega)
  | del _ h => obtain ⟨k', h1, h2⟩ := h.dropR rfl; exact Nat.le_trans (D_le h2) (by omega)
  | ins _ h => obtain ⟨k', h1, h2⟩ := h.dropL rfl; exact Nat.le_trans (D_le h2) (by omega)
theorem D_prefix (C : Cost s) : ∀ (p a b : List Nat), D s (p ++ a) (p ++ b) = D s a b
  | [], _, _ => rfl
  | c :: p, a, b => by rw [List.cons_append, List.cons_append, D_front C, D_prefix C p]
theorem D_suffix (C : Cost s) (q a b : List Nat) : D s (a ++ q) (b ++ q) = D s a b := by
  rw [← D_reverse, List.reverse_append, List.reverse_append, D_prefix C, D_reverse]
theorem Al.split {A B : List Nat} {k : Nat} (h : Al s A B k) : ∀ B1 B2, B = B1 ++ B2 → ∃ A2 k2, A2 <:+ A ∧ k2 ≤ k ∧ Al s A2 B2 k2 := by
  induction h with
  | nil => intro B1 B2 e; obtain ⟨rfl, rfl⟩ := List.append_eq_nil_iff.mp e.symm; exact ⟨[], 0, List.suffix_refl _, Nat.le_refl _, .nil⟩
  | @sub a b k x y h ih =>
    intro B1 B2 e
    cases B1 with
    | nil => simp only [List.nil_append] at e; subst e; exact ⟨x :: a, _, List.suffix_refl _, Nat.le_refl _, .sub x y h⟩
    | cons z B1 => cases e; obtain ⟨A2, k2, h1, h2, h3⟩ := ih B1 B2 rfl; exact ⟨A2, k2, h1.trans (List.suffix_cons _ _), by omega, h3⟩
  | @del a b k x h ih =>
    intro B1 B2 e
    obtain ⟨A2, k2, h1, h2, h3⟩ := ih B1 B2 e
    exact ⟨A2, k2, h1.trans (List.suffix_cons _ _), by omega, h3⟩
  | @ins a b k y h ih =>
    intro B1 B2 e
    cases B1 with
    | nil => simp only [List.nil_append] at e; subst e; exact ⟨a, _, List.suffix_refl _, Nat.le_refl _, .ins y h⟩
    | cons z B1 => cases e; obtain ⟨A2, k2, h1, h2, h3⟩ := ih B1 B2 rfl; exact ⟨A2, k2, h1, by omega, h3⟩
theorem Al.len {a b : List Nat} {k : Nat} (h : Al s a b k) : 2 * a.length ≤ 2 * b.length + k ∧ 2 * b.length ≤ 2 * a.length + k := by
  induction h with
  | nil => exact ⟨Nat.le_refl _, Nat.le_refl _⟩
  | sub x y _ ih => simp only [List.length_cons]; omega
  | del x _ ih => simp only [List.length_cons]; omega
  | ins y _ ih => simp only [List.length_cons]; omega
end
end Mine
end
section
namespace Mine
def cell (s : Nat → Nat → Nat) (a b : List Nat) (i j : Nat) : Nat := D s (a.take i).reverse (b.take j).reverse
def rowAt (s : Nat → Nat → Nat) (a b : List Nat) (j : Nat) : List Int := (List.range a.length).map fun k => (cell s a b (k + 1) j : Int)
def rowMix (s : Nat → Nat → Nat) (a b : List Nat) (j k : Nat) : List Int := (List.range a.length).map fun i => (cell s a b (i + 1) (if i < k then j + 1 else j) : Int)
section
variable {s : Nat → Nat → Nat} {a b : List Nat}
theorem take_rev {l : List Nat} {i : Nat} (h : i < l.length) : (l.take (i + 1)).reverse = l[i] :: (l.take i).reverse := by
  rw [List.take_add_one, List.getElem?_eq_getElem h]; simp
theorem cell_0 (j : Nat) (h : j ≤ b.length) : cell s a b 0 j = 2 * j := by
  unfold cell; rw [List.take_zero, List.reverse_nil, D_nil, List.length_reverse, List.length_take, Nat.min_eq_left h]
theorem cell_j0 (i : Nat) (h : i ≤ a.length) : cell s a b i 0 = 2 * i := by
  unfold cell; rw [List.take_zero, List.reverse_nil, D_nil', List.length_reverse, List.length_take, Nat.min_eq_left h]
theorem cell_step {i j : Nat} (hi : i < a.length) (hj : j < b.length) : cell s a b (i + 1) (j + 1) = min (cell s a b i j + s a[i] b[j]) (min (cell s a b i (j + 1) + 2) (cell s a b (i + 1) j + 2)) := by
  unfold cell; rw [take_rev hi, take_rev hj, D_cons]
theorem cell_whole : cell s a b a.length b.length = D s a b := by
  unfold cell; rw [List.take_length, List.take_length, D_reverse]
/-- the program's own reckoning of a place: what stands to the left is 2 * j in the first column -/
theorem cell_turn (C : Cost s) {k j : Nat} {res : Int} (hk : k < a.length) (hj : j < b.length) (hr : res = if k = 0 then (2 * j : Int) else (cell s a b k (j + 1) : Int)) :
    (cell s a b (k + 1) (j + 1) : Int) = min (min res (cell s a b (k + 1) j : Int) + 2) ((cell s a b k j : Int) + (s b[j] a[k] : Nat)) := by
  rw [cell_step hk hj, C.symm]
  have h2 := C.most b[j] a[k]
  by_cases h0 : k = 0
  · subst h0
    rw [if_pos rfl] at hr
    have e1 := cell_0 (s := s) (a := a) (b := b) j (by omega)
    have e2 := cell_0 (s := s) (a := a) (b := b) (j + 1) (by omega)
    subst hr
    omega
  · rw [if_neg h0] at hr
    subst hr
    omega
theorem cell_out (C : Cost s) {j : Nat} {m mn : Int} (ha : 0 < a.length) (hj : j < b.length) (h : ∀ i, 1 ≤ i → i ≤ a.length → mn ≤ (cell s a b i (j + 1) : Int)) (hm : m < mn) : m < (D s a b : Int) := by
  have hal := al_D (s := s) a.reverse b.reverse
  rw [D_reverse] at hal
  have hb : b.reverse = (b.drop (j + 1)).reverse ++ (b.take (j + 1)).reverse := by rw [← List.reverse_append, List.take_append_drop]
  obtain ⟨A2, k2, h1, h2, h3⟩ := hal.split _ _ hb
  have hlen : A2.length ≤ a.length := by have := h1.length_le; simpa using this
  have e : A2 = (a.take A2.length).reverse := by
    have := List.suffix_iff_eq_drop.mp h1
    rw [List.length_reverse] at this
    rw [List.drop_reverse] at this
    rw [show a.length - (a.length - A2.length) = A2.length by omega] at this
    exact this
  rw [e] at h3
  have h4 : cell s a b A2.length (j + 1) ≤ k2 := D_le h3
  by_cases h0 : A2.length = 0
  · rw [h0, cell_0 _ (by omega)] at h4
    have h5 := cell_step (s := s) (a := a) (b := b) (i := 0) (j := j) ha hj
    have h6 := C.most a[0] b[j]
    have h7 := cell_0 (s := s) (a := a) (b := b) j (by omega)
    have h8 := h 1 (by omega) (by omega)
    simp only [Nat.zero_add] at h5
    omega
  · have := h A2.length (by omega) hlen
    omega
theorem D_len (s : Nat → Nat → Nat) (a b : List Nat) : 2 * (b.length : Int) ≤ 2 * a.length + D s a b ∧ 2 * (a.length : Int) ≤ 2 * b.length + D s a b := by
  have := (al_D (s := s) a b).len
  omega
theorem rowMix_0 (j : Nat) : rowMix s a b j 0 = rowAt s a b j := by unfold rowMix rowAt; simp
theorem rowMix_all (j : Nat) : rowMix s a b j a.length = rowAt s a b (j + 1) := by
  unfold rowMix rowAt
  refine List.map_congr_left fun i hi => ?_
  rw [if_pos (List.mem_range.mp hi)]
theorem rowMix_get {j k : Nat} (h : k < a.length) : (rowMix s a b j k)[k]? = some (cell s a b (k + 1) j : Int) := by unfold rowMix; simp [h]
theorem rowMix_len (j k : Nat) : (rowMix s a b j k).length = a.length := by unfold rowMix; simp
theorem rowMix_set {j k : Nat} (h : k < a.length) : (rowMix s a b j k).set k (cell s a b (k + 1) (j + 1) : Int) = rowMix s a b j (k + 1) := by
  refine List.ext_getElem? fun i => ?_
  rw [List.getElem?_set]
  by_cases hi : k = i
  · subst hi
    rw [if_pos rfl, if_pos (by rw [rowMix_len]; exact h)]
    unfold rowMix; simp [h]
  · rw [if_neg hi]
    unfold rowMix
    by_cases hl : i < a.length
    · simp only [List.getElem?_map, List.getElem?_range hl, Option.map_some]
      by_cases h2 : i < k
      · rw [if_pos h2, if_pos (by omega)]
      · rw [if_neg h2, if_neg (by omega)]
    · simp [hl]
theorem row_start : rowAt s a b 0 = (List.range a.length).map fun (k : Nat) => ((2 : Int) + (k : Int) * 2) := by
  unfold rowAt
  refine List.map_congr_left fun i hi => ?_
  rw [cell_j0 _ (by have := List.mem_range.mp hi; omega)]
  omega
end
/-- what the distance tells: the least cost, or more than the bound -/
def Told (s : Nat → Nat → Nat) (a b : List Nat) (m r : Int) : Prop := ((D s a b : Int) ≤ m → r = D s a b) ∧ (m < (D s a b : Int) → m < r)
end Mine
end
section
open PySem PySem.W PyProof.Rows
namespace Mine
def subCost (a b : Str) : Int := if a = b then 0 else if Txt.lower a = Txt.lower b then 1 else 2
theorem s_eq {a b : Str} (h : (a == b) = true) : 0 = subCost a b := by unfold subCost; rw [if_pos (by simpa using h)]
theorem s_lo {a b : Str} (h : (a == b) = false) (h2 : (Txt.lower a == Txt.lower b) = true) : 1 = subCost a b := by unfold subCost; rw [if_neg (by simpa using h), if_pos (by simpa using h2)]
theorem s_no {a b : Str} (h : (a == b) = false) (h2 : (Txt.lower a == Txt.lower b) = false) : 2 = subCost a b := by unfold subCost; rw [if_neg (by simpa using h), if_neg (by simpa using h2)]
def scost (x y : Nat) : Nat := (subCost ⟨#[x]⟩ ⟨#[y]⟩).toNat
theorem subCost_as (x y : Nat) : subCost ⟨#[x]⟩ ⟨#[y]⟩ = (scost x y : Int) := by
  unfold scost subCost
  split
  · rfl
  · split <;> rfl
theorem subCost_symm (a b : Str) : subCost a b = subCost b a := by
  unfold subCost
  simp only [eq_comm (a := a), eq_comm (a := Txt.lower a)]
theorem scost_cost : Cost scost := by
  refine ⟨fun x => ?_, fun x y => ?_, fun x y => ?_⟩
  · unfold scost subCost; rw [if_pos rfl]; rfl
  · unfold scost subCost
    split
    · exact Nat.zero_le _
    · split <;> decide
  · unfold scost
    rw [subCost_symm]
end Mine
end
section
open PySem PySem.W PyProof.Rows
namespace Mine
set_option maxRecDepth 100000 in
set_option maxHeartbeats 4000000 in
theorem subst_c (w : World) (p : Program) (loose : List Str) (mean : ExcName → Option Value) (mg mb : Str → Option Value) (news : List (Addr × Obj)) (a b : Str) (ta tb : Tok) :
   CbClaim PySem.Challenge.rw_rs0052_02.prog w (Mine.hd.heap_39 w.params) p loose mean mg mb 38 news [] (a.length ≤ 1 ∧ b.length ≤ 1) [.str a ta, .str b tb] (fun t => .int (subCost a b) t) := by
  k_with_none
  w_top off
  k_fill
  dsimp only [CbClaim, CbLists, CbRet]
  intros
  rename_i hpre hroom hunits hret
  obtain ⟨hx, hy⟩ := hpre
  k_with "tree" => first | exact s_eq (by assumption) | exact s_lo (by assumption) (by assumption) | exact s_no (by assumption) (by assumption)
  refine wpAny_call ?_
  k_dflt cell_enter
  k_steps
  all_goals first | cb_end hret
end Mine
end
section
open PySem PySem.W PyProof.Rows PySem.Builtin.Str
namespace Mine
abbrev preIs (x y : Str) (i : Int) : Prop := 0 ≤ i ∧ i ≤ (x.length : Int) ∧ i ≤ (y.length : Int) ∧ (lst x).take i.toNat = (lst y).take i.toNat
theorem from_list {x : Str} {i : Int} (h0 : 0 ≤ i) (h1 : i ≤ x.length) : lst (Txt.slice x (some i) none) = (lst x).drop i.toNat := by
  rw [slice_list]
  unfold clipN
  simp only [show ¬ (i < 0) by omega, if_false]
  rw [show min i.toNat x.length = i.toNat by omega, List.take_of_length_le (by rw [List.length_drop, lst_length]; omega)]
theorem len_of_lst {x : Str} {l : List Nat} (h : lst x = l) : x.length = l.length := by rw [← lst_length, h]
theorem from_ne {x : Str} {i : Int} (h0 : 0 ≤ i) (h1 : i ≤ x.length) (hn : ((Txt.slice x (some i) none).length : Int) ≠ 0) : i < x.length := by
  have := len_of_lst (from_list h0 h1)
  rw [List.length_drop, lst_length] at this
  omega
theorem item_inj {x y : Str} {i j : Int} {c d : Nat} (h1 : Txt.item x i = ⟨#[c]⟩) (h2 : Txt.item y j = ⟨#[d]⟩) (h : (Txt.item x i == Txt.item y j) = true) : c = d := by
  rw [h1, h2] at h
  simpa using h
theorem pre_turn {x y : Str} {i : Int} (h1 : 0 ≤ i) (h2 : i ≤ (x.length : Int)) (h3 : i ≤ (y.length : Int)) (h4 : (lst x).take i.toNat = (lst y).take i.toNat)
    (n1 : ((Txt.slice x (some i) none).length : Int) ≠ 0) (n2 : ((Txt.slice y (some i) none).length : Int) ≠ 0) (he : (Txt.item x i == Txt.item y i) = true) : preIs x y (i + 1) := by
  have l1 := from_ne h1 h2 n1
  have l2 := from_ne h1 h3 n2
  obtain ⟨c, _, e2, e3⟩ := item_cons (x := x) (i := i) h1 l1
  obtain ⟨d, _, f2, f3⟩ := item_cons (x := y) (i := i) h1 l2
  have hcd := item_inj e2 f2 he
  refine ⟨by omega, by omega, by omega, ?_⟩
  rw [show (i + 1).toNat = i.toNat + 1 by omega, List.take_add_one, List.take_add_one, h4, e3, f3, hcd]
/-- the rest behind a common front is as far apart -/
theorem pre_D {s : Nat → Nat → Nat} (C : Cost s) {x y : Str} {i : Int} (h : preIs x y i) : D s (lst (Txt.slice x (some i) none)) (lst (Txt.slice y (some i) none)) = D s (lst x) (lst y) := by
  obtain ⟨h1, h2, h3, h4⟩ := h
  rw [from_list h1 h2, from_list h1 h3]
  conv => rhs; rw [← List.take_append_drop i.toNat (lst x), ← List.take_append_drop i.toNat (lst y), ← h4]
  rw [D_prefix C]

/-- a[:post or None] -/
def cutEnd (x : Str) (p : Int) : Str := if p = 0 then Txt.slice x none none else Txt.slice x none (some p)
abbrev postIs (x y : Str) (p : Int) : Prop := p ≤ 0 ∧ 0 ≤ (x.length : Int) + p ∧ 0 ≤ (y.length : Int) + p ∧ (lst x).drop ((x.length : Int) + p).toNat = (lst y).drop ((y.length : Int) + p).toNat
theorem cutEnd_list {x : Str} {p : Int} (h0 : p ≤ 0) (h1 : 0 ≤ (x.length : Int) + p) : lst (cutEnd x p) = (lst x).take ((x.length : Int) + p).toNat := by
  unfold cutEnd
  by_cases hp : p = 0
  · rw [if_pos hp, slice_list]
    unfold clipN
    rw [List.drop_zero, Nat.sub_zero, hp]; congr 1
  · rw [if_neg hp, slice_list]
    unfold clipN
    simp only [show p < 0 by omega, if_true, List.drop_zero, Nat.sub_zero]
    congr 1; omega
theorem cutEnd_0 (x : Str) : Txt.slice x none none = cutEnd x 0 := by unfold cutEnd; rw [if_pos rfl]
theorem cutEnd_n {x : Str} {p : Int} (h : p ≠ 0) : Txt.slice x none (some p) = cutEnd x p := by unfold cutEnd; rw [if_neg h]
theorem cutEnd_len {x : Str} {p : Int} (h0 : p ≤ 0) (h1 : 0 ≤ (x.length : Int) + p) : ((cutEnd x p).length : Int) = x.length + p := by
  have := len_of_lst (cutEnd_list h0 h1)
  rw [List.length_take, lst_length] at this
  omega
theorem item_neg {x : Str} {p : Int} (h0 : p ≤ 0) (h1 : 0 < (x.length : Int) + p) : ∃ c, Txt.item x (p - 1) = ⟨#[c]⟩ ∧ (lst x).drop ((x.length : Int) + (p - 1)).toNat = c :: (lst x).drop ((x.length : Int) + p).toNat := by
  obtain ⟨c, e1, e2, e3⟩ := item_cons (x := x) (i := (x.length : Int) + (p - 1)) (by omega) (by omega)
  refine ⟨c, ?_, ?_⟩
  · rw [← e2]
    unfold Txt.item Txt.charAt seqIndex?
    simp only [show (p - 1 < 0) by omega, show ¬ ((x.length : Int) + (p - 1) < 0) by omega, if_true, if_false]
    rw [Int.add_comm]
  · rw [e1]; congr 2; omega
theorem post_turn {x y : Str} {p : Int} (h1 : p ≤ 0) (h2 : 0 ≤ (x.length : Int) + p) (h3 : 0 ≤ (y.length : Int) + p) (h4 : (lst x).drop ((x.length : Int) + p).toNat = (lst y).drop ((y.length : Int) + p).toNat)
    (n1 : ((cutEnd x p).length : Int) ≠ 0) (n2 : ((cutEnd y p).length : Int) ≠ 0) (he : (Txt.item x (p - 1) == Txt.item y (p - 1)) = true) : postIs x y (p - 1) := by
  have l1 := cutEnd_len h1 h2
  have l2 := cutEnd_len h1 h3
  obtain ⟨c, e2, e3⟩ := item_neg (x := x) (p := p) h1 (by omega)
  obtain ⟨d, f2, f3⟩ := item_neg (x := y) (p := p) h1 (by omega)
  have hcd := item_inj e2 f2 he
  exact ⟨by omega, by omega, by omega, by rw [e3, f3, h4, hcd]⟩
theorem post_D {s : Nat → Nat → Nat} (C : Cost s) {x y : Str} {p : Int} (h : postIs x y p) : D s (lst (cutEnd x p)) (lst (cutEnd y p)) = D s (lst x) (lst y) := by
  obtain ⟨h1, h2, h3, h4⟩ := h
  rw [cutEnd_list h1 h2, cutEnd_list h1 h3]
  conv => rhs; rw [← List.take_append_drop ((x.length : Int) + p).toNat (lst x), ← List.take_append_drop ((y.length : Int) + p).toNat (lst y), ← h4]
  rw [D_suffix C]
end Mine
end
section
open PySem PySem.W PyProof.Rows PySem.Builtin.Str
namespace Mine
theorem ints_from (f : Nat → Int) : ∀ (vs : List Value) (a : Nat), (∀ (j : Nat) (v : Value), vs[j]? = some v → ∃ t, v = .int (f (a + j)) t) → IntsAre vs ((List.range vs.length).map fun k => f (a + k))
  | [], _, _ => IntsAre.nil
  | v :: r, a, h => by
    obtain ⟨t, ht⟩ := h 0 v rfl
    subst ht
    rw [List.length_cons, List.range_succ_eq_map, List.map_cons, List.map_map]
    refine IntsAre.cons _ _ ?_
    have := ints_from f r (a + 1) fun j v hj => by
      obtain ⟨t', ht'⟩ := h (j + 1) v hj
      exact ⟨t', by rw [ht', show a + (j + 1) = a + 1 + j by omega]⟩
    have e : (fun k => f (a + k)) ∘ Nat.succ = fun k => f (a + 1 + k) := by funext k; simp only [Function.comp]; congr 1; omega
    rw [e]; exact this
theorem list_rangeK {prog : Program} {w : World} {A : Around} {E : Value → Shared → Prop} {s : Shared} {h₀ : Heap} {L r : Addr} {m : Str → Option Value} {news : List (Addr × Obj)} {a b c : Int} {t₀ u₀ v₀ : Tok} {n : Nat} {Q : Value → Shared → Prop}
    (hh : A.handled = none) (F : Fr h₀ L s.heap m) (N : News h₀ L s.heap news) (hr : IsRange s.heap r a b c t₀ u₀ v₀) (hsmall : Builtin.Range.small a b c = true) (hn : Builtin.Range.rangeSize a b c = (n : Int)) (hz : n ≤ 2 ^ 24)
    (h : ∀ D us c' h' tk, Fr h₀ L h' m → News h₀ L h' ((D, listOf (List.toArray us) c') :: news) → (∀ p ∈ news, p.1 < D) → IntsAre us ((List.range n).map fun (k : Nat) => a + (k : Int) * c) → Q (.ref D) { s with heap := h', toks := tk }) :
    wpAny (model prog w) A (call (.type "list") [.ref r]) Q E s := by
  refine call_list_range hh hr hsmall hn hz fun h' tk acc c' hk hD hI => ?_
  have hD' : h'.get? s.heap.objs.size = some (listOf (List.toArray acc.toList) c') := by rw [Array.toArray_toList]; exact hD
  refine h _ acc.toList c' h' tk (F.keeps hk) (news_pushed F N hk hD' rfl) (fun p hp => Heap.lt_size (N p hp).1) ?_
  have := ints_from (fun k => a + (k : Int) * c) acc.toList 0 fun j v hj => by
    obtain ⟨t, ht⟩ := hI.2 j v (by rw [← hj, Array.getElem?_toList])
    exact ⟨t, by rw [ht, Nat.zero_add]⟩
  rw [Array.length_toList, hI.1] at this
  simpa using this
/-- the first row's range -/
theorem row_range (n : Nat) (h : n ≤ 40) : Builtin.Range.small 2 (2 * ((n : Int) + 1)) 2 = true ∧ Builtin.Range.rangeSize 2 (2 * ((n : Int) + 1)) 2 = (n : Int) := by
  have : ∀ k : Fin 41, Builtin.Range.small 2 (2 * ((k.val : Int) + 1)) 2 = true ∧ Builtin.Range.rangeSize 2 (2 * ((k.val : Int) + 1)) 2 = (k.val : Int) := by decide +kernel
  exact this ⟨n, by omega⟩
end Mine
end
section
open PySem PySem.W PyProof.Rows
namespace Mine
/-- the body of the k-th statement of a program's main text, a def -/
def stmtsAt (p : Program) (k : Nat) : List Stmt := match p.main.body[k]? with
  | some (.FunctionDef _ _ b _ _ _ _ _ _ _) => b
  | _ => []
/-- and its scope -/
def scopeAt (p : Program) (k : Nat) : Scope := match p.main.body[k]? with
  | some (.FunctionDef _ _ _ _ _ _ sc _ _ _) => sc
  | _ => default
/-- the frame as far as it is named -/
theorem fr_as {h₀ h : Heap} {L : Addr} {m : Str → Option Value} (ps : List (Str × Value)) (h1 : ∀ p ∈ ps, m p.1 = some p.2) (F : Fr h₀ L h m) : Fr h₀ L h (kstB m ps) := by
  have e : kstB m ps = m := funext fun z => kstB_eq h1 fun _ => rfl
  rw [e]; exact F
end Mine
end
section
open PySem PySem.W PyProof.Rows
namespace Mine
section
variable {w : World} {p : Program} {loose : List Str} {mean : ExcName → Option Value} {mg mb : Str → Option Value} {dp un : Nat} {gd : Option (List Code)} {cn : Str} {cs : Scope} {a : Addr} {ccd : Value} {cl : List (Str × Addr)} {outer : List Env} {A₀ : Around} {base h₀ : Heap} {L : Addr} {m : Str → Option Value} {s : Shared} {news : List (Addr × Obj)}
/-- substitution's cost, called -/
theorem subst_r {Q E : Value → Shared → Prop} {x y : Str} {tx ty : Tok} (B : Below A₀ base outer h₀) (F : Fr h₀ L s.heap m) (X : (Mine.hd.heap_39 w.params).In h₀) (N : News h₀ L s.heap news) (T : Top p loose mean mg mb h₀) (hk : cs.kind = .function)
    (hx : x.length ≤ 1) (hy : y.length ≤ 1) (hd : dp + 1 < recursionLimit) (hu : un + 8 < cLine)
    (ret : ∀ (t : Tok) (h' : Heap) (tk' : Nat), Fr h₀ L h' m → News h₀ L h' news → Q (.int (subCost x y) t) { s with heap := h', toks := tk' }) :
    wpAny (model PySem.Challenge.rw_rs0052_02.prog w) (ktrTop dp un gd cn cs L a ccd cl outer) (call (.ref 38) [.str x tx, .str y ty]) Q E s :=
  subst_c w p loose mean mg mb news x y tx ty dp un gd cn cs a ccd cl outer A₀ base h₀ L m s Q E B F X N T hk ⟨hx, hy⟩ hd hu ret
/-- quotedata, called -/
theorem quote_r {Q E : Value → Shared → Prop} {x : Str} {tx : Tok} (B : Below A₀ base outer h₀) (F : Fr h₀ L s.heap m) (X : (Mine.hd.heap_39 w.params).In h₀) (N : News h₀ L s.heap news) (T : Top p loose mean mg mb h₀) (hk : cs.kind = .function)
    (hx : x.length ≤ 2 ^ 18) (hd : dp + 1 < recursionLimit) (hu : un + 8 < cLine)
    (ret : ∀ (t : Tok) (h' : Heap) (tk' : Nat), Fr h₀ L h' m → News h₀ L h' news → Q (.str (quoted x) t) { s with heap := h', toks := tk' }) :
    wpAny (model PySem.Challenge.rw_rs0052_02.prog w) (ktrTop dp un gd cn cs L a ccd cl outer) (call (.ref 94) [.str x tx]) Q E s :=
  quote_c w p loose mean mg mb news x tx dp un gd cn cs a ccd cl outer A₀ base h₀ L m s Q E B F X N T hk hx hd hu ret
/-- parse257 of a reply 257, called -/
theorem parse_r {Q E : Value → Shared → Prop} {x : Str} {tx : Tok} (B : Below A₀ base outer h₀) (F : Fr h₀ L s.heap m) (X : (Mine.hd.heap_39 w.params).In h₀) (N : News h₀ L s.heap news) (T : Top p loose mean mg mb h₀) (hk : cs.kind = .function)
    (hx : x.length ≤ 1048576) (h257 : Txt.slice x none (some 3) = Str.ofString "257") (hd : dp + 1 < recursionLimit) (hu : un + 8 < cLine)
    (ret : ∀ (t : Tok) (h' : Heap) (tk' : Nat), Fr h₀ L h' m → News h₀ L h' news → Q (.str (told257 x) t) { s with heap := h', toks := tk' }) :
    wpAny (model PySem.Challenge.rw_rs0052_02.prog w) (ktrTop dp un gd cn cs L a ccd cl outer) (call (.ref 77) [.str x tx]) Q E s :=
  parse_c w p loose mean mg mb news x tx dp un gd cn cs a ccd cl outer A₀ base h₀ L m s Q E B F X N T hk ⟨hx, h257⟩ hd hu ret
end
end Mine
end
section
open PySem PySem.W PyProof.Rows
namespace Mine
abbrev outerIs (S T : Str) (j : Nat) (ns : List Int) (r : Int) : Prop := ns = rowAt scost (lst S) (lst T) j ∧ r = if j = 0 then 0 else (cell scost (lst S) (lst T) S.length j : Int)
theorem told_of {S T : Str} {mx r : Int} (h : r = (D scost (lst S) (lst T) : Int)) : Told scost (lst S) (lst T) mx r := ⟨fun _ => h, fun h' => by omega⟩
theorem told_out {S T : Str} {mx : Int} (h : mx < (D scost (lst S) (lst T) : Int)) : Told scost (lst S) (lst T) mx (mx + 1) := ⟨fun h' => by omega, fun _ => by omega⟩
theorem outer_end {S T : Str} {ns : List Int} {r mx : Int} (h : outerIs S T (rangeKs 0 T.length).length ns r) (hT : 0 < T.length) : Told scost (lst S) (lst T) mx r := by
  obtain ⟨_, h2⟩ := h
  rw [rangeKs_length, if_neg (by omega)] at h2
  refine told_of ?_
  rw [h2, ← cell_whole, lst_length, lst_length]
abbrev innerIs (S T : Str) (j i : Nat) (ns : List Int) (d r mn : Int) : Prop := ns = rowMix scost (lst S) (lst T) j i ∧ d = (cell scost (lst S) (lst T) i j : Int) ∧ r = (if i = 0 then (2 * j : Int) else (cell scost (lst S) (lst T) i (j + 1) : Int)) ∧ ∀ q, 1 ≤ q → q ≤ i → mn ≤ (cell scost (lst S) (lst T) q (j + 1) : Int)
theorem inner_start {S T : Str} {j : Nat} {k mn : Int} {ns : List Int} (h : ns = rowAt scost (lst S) (lst T) j) (hk : k = j) (hj : j ≤ T.length) : innerIs S T j 0 ns (k * 2) (k * 2) mn := by
  refine ⟨by rw [rowMix_0]; exact h, ?_, by rw [if_pos rfl]; omega, fun q h1 h2 => by omega⟩
  rw [cell_0 _ (by rw [lst_length]; exact hj)]; omega
local macro_rules | `(tactic| walk_at "call ref") => `(tactic| (
  (with_reducible show wpAny _ _ (call (Value.ref 38) _) _ _ _);
  (with_reducible rename Fr _ _ _ _ => F');
  (with_reducible rename News _ _ _ _ => N');
  k_dflt (refine' subst_r ?B F' ?X N' ?T ?K ?x ?y ?D ?U ?_; (case B => k_asm); (case X => k_asm); (case T => k_asm); (case K => exact rfl); (case x => omega); (case y => omega); (case D => ktr_room); (case U => ktr_units)); intro t9 h9 tk9 F9 N9; (try dsimp only)))
theorem inner_turn {S T : Str} {j q : Nat} {ns : List Int} {d res mn mn' k i R : Int} (hns : ns = rowMix scost (lst S) (lst T) j q) (hd : d = (cell scost (lst S) (lst T) q j : Int)) (hr : res = (if q = 0 then (2 * j : Int) else (cell scost (lst S) (lst T) q (j + 1) : Int)))
    (hm : ∀ z, 1 ≤ z → z ≤ q → mn ≤ (cell scost (lst S) (lst T) z (j + 1) : Int)) (hk : k = j) (hi : i = q) (hq : q < S.length) (hj : j < T.length)
    (hR : R = if d + subCost (Txt.item T k) (Txt.item S i) < (if ns.getD i.toNat 0 < res then ns.getD i.toNat 0 else res) + 2 then d + subCost (Txt.item T k) (Txt.item S i) else (if ns.getD i.toNat 0 < res then ns.getD i.toNat 0 else res) + 2) (h1 : mn' ≤ mn) (h2 : mn' ≤ R) :
    innerIs S T j (q + 1) (ns.set i.toNat R) (ns.getD i.toNat 0) R mn' := by
  have hqa : q < (lst S).length := by rw [lst_length]; exact hq
  have hjb : j < (lst T).length := by rw [lst_length]; exact hj
  have hiq : i.toNat = q := by omega
  have hg : ns.getD i.toNat 0 = (cell scost (lst S) (lst T) (q + 1) j : Int) := by
    rw [hns, hiq, List.getD_eq_getElem?_getD, rowMix_get hqa]; rfl
  obtain ⟨c, _, e2, e3⟩ := item_cons (x := S) (i := i) (by omega) (by omega)
  obtain ⟨c', _, f2, f3⟩ := item_cons (x := T) (i := k) (by omega) (by omega)
  rw [hiq, List.getElem?_eq_getElem hqa] at e3
  rw [show k.toNat = j by omega, List.getElem?_eq_getElem hjb] at f3
  have hs : subCost (Txt.item T k) (Txt.item S i) = (scost (lst T)[j] (lst S)[q] : Int) := by
    rw [e2, f2, subCost_as, Option.some.inj e3, Option.some.inj f3]
  have ht := cell_turn scost_cost hqa hjb hr
  have hRc : R = (cell scost (lst S) (lst T) (q + 1) (j + 1) : Int) := by
    rw [ht, hR, hg, hs, ← hd]
    omega
  refine ⟨?_, hg, by rw [if_neg (by omega)]; exact hRc, fun z z1 z2 => ?_⟩
  · rw [hiq, hRc, hns, rowMix_set hqa]
  · by_cases hz : z ≤ q
    · exact Int.le_trans h1 (hm z z1 hz)
    · rw [show z = q + 1 by omega, ← hRc]; exact h2
theorem outer_turn {S T : Str} {j : Nat} {ns : List Int} {d r mn : Int} (hS : 0 < S.length) (h : innerIs S T j S.length ns d r mn) : outerIs S T (j + 1) ns r := by
  obtain ⟨h1, _, h3, _⟩ := h
  refine ⟨?_, ?_⟩
  · rw [h1]
    have := rowMix_all (s := scost) (a := lst S) (b := lst T) j
    rw [lst_length] at this
    exact this
  · rw [if_neg (by omega)]
    rw [if_neg (by omega)] at h3
    exact h3
theorem outer_out {S T : Str} {j : Nat} {ns : List Int} {d r mn mx : Int} (hS : 0 < S.length) (hj : j < T.length) (h : innerIs S T j S.length ns d r mn) (hm : mx < mn) : Told scost (lst S) (lst T) mx (mx + 1) := by
  obtain ⟨_, _, _, h4⟩ := h
  refine told_out (cell_out scost_cost (by rw [lst_length]; exact hS) (by rw [lst_length]; exact hj) (fun i i1 i2 => h4 i i1 (by rw [lst_length] at i2; exact i2)) hm)
theorem sub_cons {α : Type} {x : α} {l l' : List α} (h : l ⊆ l') : ∀ p ∈ x :: l, p ∈ x :: l' := fun p hp => (List.cons_subset_cons x h) hp
theorem ne_all {news own own2 : List (Addr × Obj)} {D' : Addr} {r1 r2 : List Addr} (l1 : ∀ p ∈ news, p.1 < D') (h1 : OwnOff own (D' :: r1)) (h2 : OwnOff own2 (D' :: r2)) : ∀ q ∈ (news ++ own) ++ own2, q.1 ≠ D' := by
  intro q hq
  rcases List.mem_append.mp hq with hq | hq
  · rcases List.mem_append.mp hq with hq | hq
    · exact Nat.ne_of_lt (l1 q hq)
    · exact h1 q hq _ (.head _)
  · exact h2 q hq _ (.head _)
local macro_rules | `(tactic| walk_at "setItem") => `(tactic| (
  (with_reducible show wpAny _ _ (setItem (Value.ref _) (Value.int _ _) (Value.int _ _)) _ _ _);
  (with_reducible rename Fr _ _ _ _ => F'); (with_reducible rename News _ _ _ _ => N');
  k_dflt (refine' ksa_set F' N' (Upd.head ?h) ?i ?a ?b ?c ?_; (case h => assumption); (case i => assumption); (case a => omega); (case b => omega); (case c => omega)); intro h9 F9 N9 I9 L9 _))
section
variable {w : World} {p : Program} {loose : List Str} {mean : ExcName → Option Value} {mg mb : Str → Option Value} {dp un : Nat} {gd : Option (List Code)} {cn : Str} {cs : Scope} {a : Addr} {ccd : Value} {cl : List (Str × Addr)} {outer : List Env} {base h₀ : Heap} {L : Addr} {m : Str → Option Value} {s : Shared} {news : List (Addr × Obj)}
set_option maxRecDepth 100000 in
set_option maxHeartbeats 4000000 in
theorem lev_dp {Q : Flow → Shared → Prop} {S T : Str} {tS tT t0 tm : Tok} {mx : Int} {D' : Addr} {us : List Value} {c' : Nat} {u : Str → Option Value}
    (B' : Below (ktrTop dp un gd cn cs L a ccd cl outer) base (envX cn cs L a ccd cl :: outer) h₀) (X' : (Mine.hd.heap_39 w.params).In h₀) (T' : Top p loose mean mg mb h₀)
    {L' : Addr} (F' : Fr h₀ L' s.heap (kstB u [(Str.ofString "result", .int 0 t0), (Str.ofString "row", .ref D'), (Str.ofString "a", .str S tS), (Str.ofString "b", .str T tT), (Str.ofString "max_cost", .int mx tm)]))
    (N' : News h₀ L' s.heap ((D', PySem.W.listOf us.toArray c') :: news)) (hI : IntsAre us (rowAt scost (lst S) (lst T) 0))
    (l1 : ∀ p ∈ news, p.1 < D') (hST : S.length ≤ T.length) (hS0 : 0 < S.length) (hT40 : T.length ≤ 40) (hd : dp + 4 < recursionLimit) (hu : un + 64 < cLine)
    (ret : ∀ (r : Int) (t : Tok) (h' : Heap) (tk' : Nat) (m' : Str → Option Value), Told scost (lst S) (lst T) mx r → Fr h₀ L' h' m' → News h₀ L' h' news → Q (.ret (.int r t)) { s with heap := h', toks := tk' }) :
    wpAny (model PySem.Challenge.rw_rs0052_02.prog w) ((ktrTop dp un gd cn cs L a ccd cl outer).deeper (envOf (Str.ofString "_levenshtein_distance") (scopeAt PySem.Challenge.rw_rs0052_02.prog 6) L' 45 (.ref 44)))
      (execs ((stmtsAt PySem.Challenge.rw_rs0052_02.prog 6).drop 15) (envOf (Str.ofString "_levenshtein_distance") (scopeAt PySem.Challenge.rw_rs0052_02.prog 6) L' 45 (.ref 44))) Q (fun _ _ => False) s := by
  k_with_none
  w_top off
  revert X'
  k_fill
  intro X'
  conv in (occs := *) scopeAt _ _ => all_goals whnf
  conv in List.drop _ _ => whnf
  dsimp only [kstB] at F'
  (repeat' ((fail_if_success (with_reducible show wpAny _ _ (pyIter _) _ _ _)); (fail_if_success (with_reducible show InvPostN _ _ _ _ _ _ _ _ _)); (fail_if_success (with_reducible show InvEndN _ _ _ _ _ _ _)); first | (k_unfold; (try dsimp only)) | (k_end; wrow_close) | walk1 | (dsimp only; walk1) | (leave1; walk_say "STEP leave1"; try dsimp only) | fail "no step"))
  (rename Fr _ _ _ _ => lF'); (rename News _ _ _ _ => lN'); (rename IsRange _ _ _ _ _ _ _ _ => rgX)
  (with_unfolding_all refine' kst_range (σ := (List Value × List Int × Nat) × (Int × Tok)) (fun c => (D', PySem.W.listOf c.1.1.toArray c.1.2.2) :: news) (fun c => [(Str.ofString "result", .int c.2.1 c.2.2)]) (fun c => IntsAre c.1.1 c.1.2.1) [Str.ofString "bchar", Str.ofString "distance", Str.ofString "minimum", Str.ofString "index", Str.ofString "substitute", Str.ofString "insert_delete"] (fun pre c => outerIs S T pre.length c.1.2.1 c.2.1) ((us, rowAt scost (lst S) (lst T) 0, c'), (0, t0)) (by rfl) rgX (small_one (by omega) (by omega) (by omega) (by omega)) (rangeSize_nat _ _) lF' lN' hI (by kst_all) ?_ ?_ ?_)
  all_goals (clear lF' lN' rgX)
  · exact ⟨rfl, rfl⟩
  · rintro ⟨⟨us, ns, c'⟩, ⟨res, rt⟩⟩ pre k t u h tk own hk hlt hoff hI hP hF hN
    dsimp only at hI hP hN
    obtain ⟨hns, hres⟩ := hP
    try dsimp only at hns hres
    dsimp only [kstB] at hF
    (repeat' ((fail_if_success (with_reducible show wpAny _ _ (pyIter _) _ _ _)); (fail_if_success (with_reducible show InvPostN _ _ _ _ _ _ _ _ _)); (fail_if_success (with_reducible show InvEndN _ _ _ _ _ _ _)); first | (k_unfold; (try dsimp only)) | (k_end; wrow_close) | walk1 | (dsimp only; walk1) | (leave1; walk_say "STEP leave1"; try dsimp only) | fail "no step"))
    (rename Fr _ _ _ _ => lF'); (rename News _ _ _ _ => lN'); (rename IsRange _ _ _ _ _ _ _ _ => rgX)
    (with_unfolding_all refine' kst_range (σ := (List Value × List Int × Nat) × (Int × Tok) × (Int × Tok) × (Int × Tok)) (fun c => (D', PySem.W.listOf c.1.1.toArray c.1.2.2) :: news ++ own) (fun c => [(Str.ofString "distance", .int c.2.1.1 c.2.1.2), (Str.ofString "result", .int c.2.2.1.1 c.2.2.1.2), (Str.ofString "minimum", .int c.2.2.2.1 c.2.2.2.2)]) (fun c => IntsAre c.1.1 c.1.2.1) [Str.ofString "substitute", Str.ofString "insert_delete"] (fun pr c => innerIs S T pre.length pr.length c.1.2.1 c.2.1.1 c.2.2.1.1 c.2.2.2.1) ((us, ns, c'), (k * 2, _), (k * 2, _), (9223372036854775807, _)) (by rfl) rgX (small_one (by omega) (by omega) (by omega) (by omega)) (rangeSize_nat _ _) lF' lN' hI (by kst_all) ?_ ?_ ?_)
    all_goals (clear lF' lN' rgX)
    · exact inner_start hns (by omega) (by omega)
    · rintro ⟨⟨us, ns, c'⟩, ⟨d, dt⟩, ⟨res, rt⟩, ⟨mn, mt⟩⟩ pr i ti u h tk own2 hi hil hoff2 hI hP hF hN
      dsimp only at hI hP hN
      obtain ⟨hns, hd, hr, hm⟩ := hP
      try dsimp only at hns hd hr hm
      have hlen : ns.length = S.length := by rw [hns, rowMix_len, lst_length]
      have hi0 : 0 ≤ i := by omega
      have hne := ne_all l1 hoff hoff2
      simp only [List.cons_append] at hN
      have hi1 : i < (S.length : Int) := by omega
      dsimp only [kstB] at hF
      (repeat' ((fail_if_success (with_reducible show wpAny _ _ (pyIter _) _ _ _)); (fail_if_success (with_reducible show InvPostN _ _ _ _ _ _ _ _ _)); (fail_if_success (with_reducible show InvEndN _ _ _ _ _ _ _)); first | (k_unfold; (try dsimp only)) | (k_end; wrow_close) | walk1 | (dsimp only; walk1) | (leave1; walk_say "STEP leave1"; try dsimp only) | fail "no step"))
      all_goals (
        (rename Fr _ _ _ _ => F9); (rename News _ _ _ _ => N9)
        dsimp only [InvPostN]
        refine' kst_end ⟨⟨_, _, _⟩, ⟨_, _⟩, ⟨_, _⟩, ⟨_, _⟩⟩ F9 N9 ?hn ?ho ?ha ?hf ?hk ?hr ?hp
        (case hk => kst_all)
        (case hn => exact sub_cons (List.subset_append_left _ _))
        (case hf => exact ints_set hI _)
        (case ho => exact fun p hp => List.mem_cons_of_mem _ (List.mem_append_right _ hp))
        (case ha => rfl)
        (case hr => kst_same)
        (case hp => (dsimp only; rw [show (pr ++ [i]).length = pr.length + 1 by simp]; exact inner_turn hns hd hr hm (by omega) (by omega) (by omega) (by omega) rfl (by omega) (by omega))))
    · rintro ⟨⟨us, ns, c'⟩, ⟨d, dt⟩, ⟨res, rt⟩, ⟨mn, mt⟩⟩ u h tk hI hP hF hN
      dsimp only at hI hP hN
      rw [rangeKs_length] at hP
      have hP2 : innerIs S T pre.length S.length ns d res mn := hP
      dsimp only [kstB] at hF
      (repeat' ((fail_if_success (with_reducible show wpAny _ _ (pyIter _) _ _ _)); (fail_if_success (with_reducible show InvPostN _ _ _ _ _ _ _ _ _)); (fail_if_success (with_reducible show InvEndN _ _ _ _ _ _ _)); first | (k_unfold; (try dsimp only)) | (k_end; wrow_close) | walk1 | (dsimp only; walk1) | (leave1; walk_say "STEP leave1"; try dsimp only) | fail "no step"))
      · dsimp only [InvPostN]
        refine ret _ _ _ _ _ (outer_out hS0 (by omega) hP2 (by assumption)) hF (cb_drop hN fun _ h => ?_)
        exact List.mem_append_left _ (List.mem_cons_of_mem _ h)
      · (rename Fr _ _ _ _ => F9); (rename News _ _ _ _ => N9)
        dsimp only [InvPostN]
        refine' kst_end ⟨⟨us, ns, c'⟩, ⟨_, _⟩⟩ F9 N9 ?hn ?ho ?ha ?hf ?hk ?hr ?hp
        (case hk => kst_all)
        (case hf => exact hI)
        (case hn => exact fun p hp => List.mem_append_left _ hp)
        (case ho => exact fun p hp => List.mem_append_right _ hp)
        (case ha => rfl)
        (case hr => kst_same)
        (case hp => (dsimp only; rw [show (pre ++ [k]).length = pre.length + 1 by simp]; exact outer_turn hS0 hP2))
  · rintro ⟨⟨us, ns, c'⟩, ⟨res, rt⟩⟩ u h tk hI hP hF hN
    dsimp only at hI hP hN
    dsimp only [kstB] at hF
    (repeat' ((fail_if_success (with_reducible show wpAny _ _ (pyIter _) _ _ _)); (fail_if_success (with_reducible show InvPostN _ _ _ _ _ _ _ _ _)); (fail_if_success (with_reducible show InvEndN _ _ _ _ _ _ _)); first | (k_unfold; (try dsimp only)) | (k_end; wrow_close) | walk1 | (dsimp only; walk1) | (leave1; walk_say "STEP leave1"; try dsimp only) | fail "no step"))
    refine ret res rt h tk _ ?_ hF (cb_drop hN fun _ h => List.mem_cons_of_mem _ h)
    exact outer_end hP (by omega)
end
end Mine
open Lean Elab Command in
end
section
open PySem PySem.W PyProof.Rows
namespace Mine

local macro_rules | `(tactic| walk_at "subscriptTail Name Slice str ref") => `(tactic| ((with_reducible show wpAny _ _ (subscriptTail _ (Expr.Slice none (some (Expr.BoolOp _ _ _)) none _) _ _) _ _ _); (with_reducible rename Fr _ _ _ _ => F'); (with_reducible rename News _ _ _ _ => N'); refine slice_strN_nn_len (s := ⟨_, _, _, _, _⟩) F' N' ?_; intro _ _ _ _ _ _))
theorem cut_p {x : Str} {p : Int} {t : Tok} (h : p ≠ 0) : ∃ t', Value.str (Txt.slice x none (some p)) t = .str (cutEnd x p) t' := ⟨t, by rw [cutEnd_n h]⟩
theorem cut_0 {x : Str} {p : Int} {t : Tok} (h : p = 0) : ∃ t', Value.str (Txt.slice x none none) t = .str (cutEnd x p) t' := ⟨t, by rw [h, cutEnd_0]⟩
local macro_rules | `(tactic| walk_at "cut end") => `(tactic| ((rename Fr _ _ _ _ => F7); (rename News _ _ _ _ => N7); refine cutQ_mk F7 N7 ?_; first | with_reducible exact cut_p (by assumption) | with_reducible exact cut_0 (by assumption)))
section
variable {w : World} {p : Program} {loose : List Str} {mean : ExcName → Option Value} {mg mb : Str → Option Value} {dp un : Nat} {gd : Option (List Code)} {cn : Str} {cs : Scope} {a : Addr} {ccd : Value} {cl : List (Str × Addr)} {outer : List Env} {A₀ : Around} {base h₀ : Heap} {L : Addr} {m : Str → Option Value} {s : Shared} {news : List (Addr × Obj)}
theorem told_same {x y : Str} {mx : Int} (h : (x == y) = true) : Told scost (lst x) (lst y) mx 0 := by
  have e : x = y := by simpa using h
  subst e
  have := D_prefix (s := scost) scost_cost (lst x) [] []
  rw [List.append_nil, D_nil] at this
  exact ⟨fun _ => by rw [this]; rfl, fun h => by rw [this] at h; exact h⟩
theorem told_nil {x y A B : Str} {mx r : Int} (hD : ∀ s', Cost s' → D s' (lst A) (lst B) = D s' (lst x) (lst y)) (h0 : A.length = 0 ∨ B.length = 0) (hr : r = 2 * ((A.length : Int) + B.length)) : Told scost (lst x) (lst y) mx r := by
  have hd := hD scost scost_cost
  have e : D scost (lst A) (lst B) = 2 * (A.length + B.length) := by
    rcases h0 with h0 | h0
    · have : lst A = [] := List.eq_nil_of_length_eq_zero (by rw [lst_length, h0])
      rw [this, D_nil, lst_length, h0]; omega
    · have : lst B = [] := List.eq_nil_of_length_eq_zero (by rw [lst_length, h0])
      rw [this, D_nil', lst_length, h0]; omega
  rw [e] at hd
  exact ⟨fun _ => by rw [← hd]; omega, fun h => by rw [← hd] at h; omega⟩
theorem told_far {x y S T : Str} {mx : Int} (hD : ∀ s', Cost s' → D s' (lst S) (lst T) = D s' (lst x) (lst y)) (h : mx < ((T.length : Int) - S.length) * 2) : Told scost (lst x) (lst y) mx (mx + 1) := by
  have hd := hD scost scost_cost
  have := D_len scost (lst S) (lst T)
  rw [lst_length, lst_length, hd] at this
  exact ⟨fun h' => by omega, fun _ => by omega⟩
theorem told_move {x y S T : Str} {mx r : Int} (hD : ∀ s', Cost s' → D s' (lst S) (lst T) = D s' (lst x) (lst y)) (h : Told scost (lst S) (lst T) mx r) : Told scost (lst x) (lst y) mx r := by
  unfold Told at h ⊢
  rw [hD scost scost_cost] at h
  exact h
theorem row_as {us : List Value} {S T : Str} (h : IntsAre us ((List.range S.length).map fun (k : Nat) => (2 : Int) + (k : Int) * 2)) : IntsAre us (rowAt scost (lst S) (lst T) 0) := by
  rw [row_start, lst_length]; exact h
set_option maxRecDepth 100000 in
set_option maxHeartbeats 4000000 in
theorem lev_r {Q E : Value → Shared → Prop} {x y : Str} {mx : Int} {tx ty tm : Tok} (B : Below A₀ base outer h₀) (F : Fr h₀ L s.heap m) (X : (Mine.hd.heap_39 w.params).In h₀) (N : News h₀ L s.heap news) (T : Top p loose mean mg mb h₀) (hk : cs.kind = .function)
    (hx : x.length ≤ 40) (hy : y.length ≤ 40) (hroom : dp + 5 < recursionLimit) (hunits : un + 80 < cLine)
    (ret : ∀ (r : Int) (t : Tok) (h' : Heap) (tk' : Nat), Told scost (lst x) (lst y) mx r → Fr h₀ L h' m → News h₀ L h' news → Q (.int r t) { s with heap := h', toks := tk' }) :
    wpAny (model PySem.Challenge.rw_rs0052_02.prog w) (ktrTop dp un gd cn cs L a ccd cl outer) (call (.ref 45) [.str x tx, .str y ty, .int mx tm]) Q E s := by
  k_with_none
  w_top off
  revert X
  k_fill
  intro X
  refine wpAny_call ?_
  k_dflt cell_enter
  (repeat' ((fail_if_success (with_reducible show wpAny _ _ (exec (Stmt.While _ _ _ _) _) _ _ _)); (fail_if_success (with_reducible show wpAny _ _ (exec (Stmt.If _ [Stmt.Assign [Expr.Tuple _ _ _] _ _] [] _) _) _ _ _)); (fail_if_success (with_reducible show wpAny _ _ (pyIter _) _ _ _)); (fail_if_success (with_reducible show CutQ _ _ _ _ _ _ _ _)); (fail_if_success (with_reducible show wpAny _ _ (eval (Expr.Subscript _ (Expr.Slice none (some (Expr.BoolOp _ _ _)) none _) _) _) _ _ _)); (fail_if_success (with_reducible show wpAny _ _ (execs (Stmt.AugAssign (Expr.Name _ _) Operator.Sub _ _ :: _) _) _ _ _)); (fail_if_success (with_reducible show wpAny _ _ (execs (Stmt.For _ _ _ _ _ :: _) _) _ _ _)); (fail_if_success (with_reducible show WOut _ _ _ _ _ _ _ _ _ _)); (fail_if_success (with_reducible show KswPost _ _ _ _ _ _ _ _ _ _ _ _ _ _)); first | (k_unfold; (try dsimp only)) | (k_end; wrow_close) | walk1 | (dsimp only; walk1) | (leave1; walk_say "STEP leave1"; try dsimp only) | fail "no step"))
  · ((rename Fr _ _ _ _ => F9); (rename News _ _ _ _ => N9); exact ret _ _ _ _ (told_same (by assumption)) F9 N9)
  · (rename Fr _ _ _ _ => lF'); (rename News _ _ _ _ => lN')
    (with_unfolding_all refine' while_cut (fun _ => news) (fun c : Int × Tok => [(Str.ofString "pre", .int c.1 c.2)]) [] (fun c => preIs x y c.1) (fun c => preIs x y c.1) (fun c => x.length - c.1.toNat) ⟨0, _⟩ lF' lN' (by kst_all) ?_ ?_ ?_)
    all_goals clear lF' lN'
    · exact ⟨by omega, by omega, by omega, by simp⟩
    rotate_left
    · rintro ⟨i, ti⟩ u h tk hP hF hN
      obtain ⟨h1, h2, h3, h4⟩ := hP
      dsimp only at h1 h2 h3 h4
      dsimp only [kstB] at hF
      (repeat' ((fail_if_success (with_reducible show wpAny _ _ (exec (Stmt.While _ _ _ _) _) _ _ _)); (fail_if_success (with_reducible show wpAny _ _ (exec (Stmt.If _ [Stmt.Assign [Expr.Tuple _ _ _] _ _] [] _) _) _ _ _)); (fail_if_success (with_reducible show wpAny _ _ (pyIter _) _ _ _)); (fail_if_success (with_reducible show CutQ _ _ _ _ _ _ _ _)); (fail_if_success (with_reducible show wpAny _ _ (eval (Expr.Subscript _ (Expr.Slice none (some (Expr.BoolOp _ _ _)) none _) _) _) _ _ _)); (fail_if_success (with_reducible show wpAny _ _ (execs (Stmt.AugAssign (Expr.Name _ _) Operator.Sub _ _ :: _) _) _ _ _)); (fail_if_success (with_reducible show wpAny _ _ (execs (Stmt.For _ _ _ _ _ :: _) _) _ _ _)); (fail_if_success (with_reducible show WOut _ _ _ _ _ _ _ _ _ _)); (fail_if_success (with_reducible show KswPost _ _ _ _ _ _ _ _ _ _ _ _ _ _)); first | (k_unfold; (try dsimp only)) | (k_end; wrow_close) | walk1 | (dsimp only; walk1) | (leave1; walk_say "STEP leave1"; try dsimp only) | fail "no step"))
      · (rename Fr _ _ _ _ => F9); (rename News _ _ _ _ => N9)
        have hP := pre_turn h1 h2 h3 h4 (by with_reducible assumption) (by with_reducible assumption) (by with_reducible assumption)
        have hl := from_ne h1 h2 (by with_reducible assumption)
        dsimp only [KswPost]
        refine ksw_end ⟨i + 1, ?tt⟩ F9 N9 (fun _ h => h) trivial ?ka ?kb hP ?kc
        (case ka => kst_all)
        (case kb => ksw_same)
        (case kc => (dsimp only; omega))
      all_goals (
        (rename Fr _ _ _ _ => F9); (rename News _ _ _ _ => N9)
        refine wout_mk ⟨i, ti⟩ F9 N9 (fun _ h => h) ?_ ?_ ⟨h1, h2, h3, h4⟩
        · kst_all
        · ksw_same)
    · rintro ⟨i, ti⟩ u h tk hP hF hN
      dsimp only [kstB] at hF
      (repeat' ((fail_if_success (with_reducible show wpAny _ _ (exec (Stmt.While _ _ _ _) _) _ _ _)); (fail_if_success (with_reducible show wpAny _ _ (exec (Stmt.If _ [Stmt.Assign [Expr.Tuple _ _ _] _ _] [] _) _) _ _ _)); (fail_if_success (with_reducible show wpAny _ _ (pyIter _) _ _ _)); (fail_if_success (with_reducible show CutQ _ _ _ _ _ _ _ _)); (fail_if_success (with_reducible show wpAny _ _ (eval (Expr.Subscript _ (Expr.Slice none (some (Expr.BoolOp _ _ _)) none _) _) _) _ _ _)); (fail_if_success (with_reducible show wpAny _ _ (execs (Stmt.AugAssign (Expr.Name _ _) Operator.Sub _ _ :: _) _) _ _ _)); (fail_if_success (with_reducible show wpAny _ _ (execs (Stmt.For _ _ _ _ _ :: _) _) _ _ _)); (fail_if_success (with_reducible show WOut _ _ _ _ _ _ _ _ _ _)); (fail_if_success (with_reducible show KswPost _ _ _ _ _ _ _ _ _ _ _ _ _ _)); first | (k_unfold; (try dsimp only)) | (k_end; wrow_close) | walk1 | (dsimp only; walk1) | (leave1; walk_say "STEP leave1"; try dsimp only) | fail "no step"))
      generalize hA : Txt.slice x (some i) none = A at *
      generalize hB : Txt.slice y (some i) none = B at *
      have hD : ∀ s', Cost s' → D s' (lst A) (lst B) = D s' (lst x) (lst y) := by intro s' C; rw [← hA, ← hB]; exact pre_D C hP
      have hAl : A.length ≤ 40 := by omega
      have hBl : B.length ≤ 40 := by omega
      clear hA hB hP
      (rename Fr _ _ _ _ => lF'); (rename News _ _ _ _ => lN')
      (with_unfolding_all refine' while_cut (fun _ => news) (fun c : Int × Tok => [(Str.ofString "post", .int c.1 c.2)]) [] (fun c => postIs A B c.1) (fun c => postIs A B c.1) (fun c => ((A.length : Int) + c.1).toNat) ⟨0, _⟩ lF' lN' (by kst_all) ?_ ?_ ?_)
      all_goals clear lF' lN'
      · exact ⟨by omega, by omega, by omega, by simp [← lst_length]⟩
      rotate_left
      · rintro ⟨p, tp⟩ u h tk hP hF hN
        obtain ⟨h1, h2, h3, h4⟩ := hP
        dsimp only at h1 h2 h3 h4
        have hc1 := cutEnd_len h1 h2
        have hc2 := cutEnd_len h1 h3
        have hl1 : (cutEnd A p).length ≤ 40 := by omega
        have hl2 : (cutEnd B p).length ≤ 40 := by omega
        dsimp only [kstB] at hF
        (repeat' ((fail_if_success (with_reducible show wpAny _ _ (exec (Stmt.While _ _ _ _) _) _ _ _)); (fail_if_success (with_reducible show wpAny _ _ (exec (Stmt.If _ [Stmt.Assign [Expr.Tuple _ _ _] _ _] [] _) _) _ _ _)); (fail_if_success (with_reducible show wpAny _ _ (pyIter _) _ _ _)); (fail_if_success (with_reducible show CutQ _ _ _ _ _ _ _ _)); (fail_if_success (with_reducible show wpAny _ _ (eval (Expr.Subscript _ (Expr.Slice none (some (Expr.BoolOp _ _ _)) none _) _) _) _ _ _)); (fail_if_success (with_reducible show wpAny _ _ (execs (Stmt.AugAssign (Expr.Name _ _) Operator.Sub _ _ :: _) _) _ _ _)); (fail_if_success (with_reducible show wpAny _ _ (execs (Stmt.For _ _ _ _ _ :: _) _) _ _ _)); (fail_if_success (with_reducible show WOut _ _ _ _ _ _ _ _ _ _)); (fail_if_success (with_reducible show KswPost _ _ _ _ _ _ _ _ _ _ _ _ _ _)); first | (k_unfold; (try dsimp only)) | (k_end; wrow_close) | walk1 | (dsimp only; walk1) | (leave1; walk_say "STEP leave1"; try dsimp only) | fail "no step"))
        (rename Fr _ _ _ _ => F8); (rename News _ _ _ _ => N8)
        refine cut_val (fun v => ∃ t, v = .str (cutEnd A p) t) F8 N8 ?_ ?_
        · refine Subscript_ ?_
          (repeat' ((fail_if_success (with_reducible show wpAny _ _ (exec (Stmt.While _ _ _ _) _) _ _ _)); (fail_if_success (with_reducible show wpAny _ _ (exec (Stmt.If _ [Stmt.Assign [Expr.Tuple _ _ _] _ _] [] _) _) _ _ _)); (fail_if_success (with_reducible show wpAny _ _ (pyIter _) _ _ _)); (fail_if_success (with_reducible show CutQ _ _ _ _ _ _ _ _)); (fail_if_success (with_reducible show wpAny _ _ (eval (Expr.Subscript _ (Expr.Slice none (some (Expr.BoolOp _ _ _)) none _) _) _) _ _ _)); (fail_if_success (with_reducible show wpAny _ _ (execs (Stmt.AugAssign (Expr.Name _ _) Operator.Sub _ _ :: _) _) _ _ _)); (fail_if_success (with_reducible show wpAny _ _ (execs (Stmt.For _ _ _ _ _ :: _) _) _ _ _)); (fail_if_success (with_reducible show WOut _ _ _ _ _ _ _ _ _ _)); (fail_if_success (with_reducible show KswPost _ _ _ _ _ _ _ _ _ _ _ _ _ _)); first | (k_unfold; (try dsimp only)) | (k_end; wrow_close) | walk1 | (dsimp only; walk1) | (leave1; walk_say "STEP leave1"; try dsimp only) | fail "no step"))
          all_goals walk_at "cut end"
        rintro _ h' tk' ⟨t, rfl⟩ F' N'
        clear F8 N8
        (repeat' ((fail_if_success (with_reducible show wpAny _ _ (exec (Stmt.While _ _ _ _) _) _ _ _)); (fail_if_success (with_reducible show wpAny _ _ (exec (Stmt.If _ [Stmt.Assign [Expr.Tuple _ _ _] _ _] [] _) _) _ _ _)); (fail_if_success (with_reducible show wpAny _ _ (pyIter _) _ _ _)); (fail_if_success (with_reducible show CutQ _ _ _ _ _ _ _ _)); (fail_if_success (with_reducible show wpAny _ _ (eval (Expr.Subscript _ (Expr.Slice none (some (Expr.BoolOp _ _ _)) none _) _) _) _ _ _)); (fail_if_success (with_reducible show wpAny _ _ (execs (Stmt.AugAssign (Expr.Name _ _) Operator.Sub _ _ :: _) _) _ _ _)); (fail_if_success (with_reducible show wpAny _ _ (execs (Stmt.For _ _ _ _ _ :: _) _) _ _ _)); (fail_if_success (with_reducible show WOut _ _ _ _ _ _ _ _ _ _)); (fail_if_success (with_reducible show KswPost _ _ _ _ _ _ _ _ _ _ _ _ _ _)); first | (k_unfold; (try dsimp only)) | (k_end; wrow_close) | walk1 | (dsimp only; walk1) | (leave1; walk_say "STEP leave1"; try dsimp only) | fail "no step"))
        · (rename Fr _ _ _ _ => F8); (rename News _ _ _ _ => N8)
          refine cut_val (fun v => ∃ t, v = .str (cutEnd B p) t) F8 N8 ?_ ?_
          · refine Subscript_ ?_
            (repeat' ((fail_if_success (with_reducible show wpAny _ _ (exec (Stmt.While _ _ _ _) _) _ _ _)); (fail_if_success (with_reducible show wpAny _ _ (exec (Stmt.If _ [Stmt.Assign [Expr.Tuple _ _ _] _ _] [] _) _) _ _ _)); (fail_if_success (with_reducible show wpAny _ _ (pyIter _) _ _ _)); (fail_if_success (with_reducible show CutQ _ _ _ _ _ _ _ _)); (fail_if_success (with_reducible show wpAny _ _ (eval (Expr.Subscript _ (Expr.Slice none (some (Expr.BoolOp _ _ _)) none _) _) _) _ _ _)); (fail_if_success (with_reducible show wpAny _ _ (execs (Stmt.AugAssign (Expr.Name _ _) Operator.Sub _ _ :: _) _) _ _ _)); (fail_if_success (with_reducible show wpAny _ _ (execs (Stmt.For _ _ _ _ _ :: _) _) _ _ _)); (fail_if_success (with_reducible show WOut _ _ _ _ _ _ _ _ _ _)); (fail_if_success (with_reducible show KswPost _ _ _ _ _ _ _ _ _ _ _ _ _ _)); first | (k_unfold; (try dsimp only)) | (k_end; wrow_close) | walk1 | (dsimp only; walk1) | (leave1; walk_say "STEP leave1"; try dsimp only) | fail "no step"))
            all_goals walk_at "cut end"
          rintro _ h'' tk'' ⟨t', rfl⟩ F'' N''
          clear F8 N8
          (repeat' ((fail_if_success (with_reducible show wpAny _ _ (exec (Stmt.While _ _ _ _) _) _ _ _)); (fail_if_success (with_reducible show wpAny _ _ (exec (Stmt.If _ [Stmt.Assign [Expr.Tuple _ _ _] _ _] [] _) _) _ _ _)); (fail_if_success (with_reducible show wpAny _ _ (pyIter _) _ _ _)); (fail_if_success (with_reducible show CutQ _ _ _ _ _ _ _ _)); (fail_if_success (with_reducible show wpAny _ _ (eval (Expr.Subscript _ (Expr.Slice none (some (Expr.BoolOp _ _ _)) none _) _) _) _ _ _)); (fail_if_success (with_reducible show wpAny _ _ (execs (Stmt.AugAssign (Expr.Name _ _) Operator.Sub _ _ :: _) _) _ _ _)); (fail_if_success (with_reducible show wpAny _ _ (execs (Stmt.For _ _ _ _ _ :: _) _) _ _ _)); (fail_if_success (with_reducible show WOut _ _ _ _ _ _ _ _ _ _)); (fail_if_success (with_reducible show KswPost _ _ _ _ _ _ _ _ _ _ _ _ _ _)); first | (k_unfold; (try dsimp only)) | (k_end; wrow_close) | walk1 | (dsimp only; walk1) | (leave1; walk_say "STEP leave1"; try dsimp only) | fail "no step"))
          · refine wpAny_execs_cons ?_
            refine wpAny_AugAssign_Name ?_
            walk1
            walk1
            walk1
            walk1
            dsimp only
            refine wpAny_execs_nil ?_
            (rename Fr _ _ _ _ => F9); (rename News _ _ _ _ => N9)
            have hP := post_turn h1 h2 h3 h4 (by with_reducible assumption) (by with_reducible assumption) (by with_reducible assumption)
            dsimp only [KswPost]
            refine ksw_end ⟨p - 1, ?tt2⟩ F9 N9 (fun _ h => h) trivial ?ka ?kb hP ?kc
            (case ka => kst_all)
            (case kb => ksw_same)
            (case kc => (dsimp only; omega))
          all_goals (
            (rename Fr _ _ _ _ => F9); (rename News _ _ _ _ => N9)
            refine wout_mk ⟨p, tp⟩ F9 N9 (fun _ h => h) ?_ ?_ ⟨h1, h2, h3, h4⟩
            · kst_all
            · ksw_same)
        · (rename Fr _ _ _ _ => F9); (rename News _ _ _ _ => N9)
          refine wout_mk ⟨p, tp⟩ F9 N9 (fun _ h => h) ?_ ?_ ⟨h1, h2, h3, h4⟩
          · kst_all
          · ksw_same
      · rintro ⟨p, tp⟩ u h tk hP hF hN
        dsimp only [kstB] at hF
        (repeat' ((fail_if_success (with_reducible show wpAny _ _ (exec (Stmt.While _ _ _ _) _) _ _ _)); (fail_if_success (with_reducible show wpAny _ _ (exec (Stmt.If _ [Stmt.Assign [Expr.Tuple _ _ _] _ _] [] _) _) _ _ _)); (fail_if_success (with_reducible show wpAny _ _ (pyIter _) _ _ _)); (fail_if_success (with_reducible show CutQ _ _ _ _ _ _ _ _)); (fail_if_success (with_reducible show wpAny _ _ (eval (Expr.Subscript _ (Expr.Slice none (some (Expr.BoolOp _ _ _)) none _) _) _) _ _ _)); (fail_if_success (with_reducible show wpAny _ _ (execs (Stmt.AugAssign (Expr.Name _ _) Operator.Sub _ _ :: _) _) _ _ _)); (fail_if_success (with_reducible show wpAny _ _ (execs (Stmt.For _ _ _ _ _ :: _) _) _ _ _)); (fail_if_success (with_reducible show WOut _ _ _ _ _ _ _ _ _ _)); (fail_if_success (with_reducible show KswPost _ _ _ _ _ _ _ _ _ _ _ _ _ _)); first | (k_unfold; (try dsimp only)) | (k_end; wrow_close) | walk1 | (dsimp only; walk1) | (leave1; walk_say "STEP leave1"; try dsimp only) | fail "no step"))
        (rename Fr _ _ _ _ => F8); (rename News _ _ _ _ => N8)
        refine cut_val (fun v => ∃ t, v = .str (cutEnd A p) t) F8 N8 ?_ ?_
        · refine Subscript_ ?_
          (repeat' ((fail_if_success (with_reducible show wpAny _ _ (exec (Stmt.While _ _ _ _) _) _ _ _)); (fail_if_success (with_reducible show wpAny _ _ (exec (Stmt.If _ [Stmt.Assign [Expr.Tuple _ _ _] _ _] [] _) _) _ _ _)); (fail_if_success (with_reducible show wpAny _ _ (pyIter _) _ _ _)); (fail_if_success (with_reducible show CutQ _ _ _ _ _ _ _ _)); (fail_if_success (with_reducible show wpAny _ _ (eval (Expr.Subscript _ (Expr.Slice none (some (Expr.BoolOp _ _ _)) none _) _) _) _ _ _)); (fail_if_success (with_reducible show wpAny _ _ (execs (Stmt.AugAssign (Expr.Name _ _) Operator.Sub _ _ :: _) _) _ _ _)); (fail_if_success (with_reducible show wpAny _ _ (execs (Stmt.For _ _ _ _ _ :: _) _) _ _ _)); (fail_if_success (with_reducible show WOut _ _ _ _ _ _ _ _ _ _)); (fail_if_success (with_reducible show KswPost _ _ _ _ _ _ _ _ _ _ _ _ _ _)); first | (k_unfold; (try dsimp only)) | (k_end; wrow_close) | walk1 | (dsimp only; walk1) | (leave1; walk_say "STEP leave1"; try dsimp only) | fail "no step"))
          all_goals walk_at "cut end"
        rintro _ h' tk' ⟨t, rfl⟩ F' N'
        clear F8 N8
        (repeat' ((fail_if_success (with_reducible show wpAny _ _ (exec (Stmt.While _ _ _ _) _) _ _ _)); (fail_if_success (with_reducible show wpAny _ _ (exec (Stmt.If _ [Stmt.Assign [Expr.Tuple _ _ _] _ _] [] _) _) _ _ _)); (fail_if_success (with_reducible show wpAny _ _ (pyIter _) _ _ _)); (fail_if_success (with_reducible show CutQ _ _ _ _ _ _ _ _)); (fail_if_success (with_reducible show wpAny _ _ (eval (Expr.Subscript _ (Expr.Slice none (some (Expr.BoolOp _ _ _)) none _) _) _) _ _ _)); (fail_if_success (with_reducible show wpAny _ _ (execs (Stmt.AugAssign (Expr.Name _ _) Operator.Sub _ _ :: _) _) _ _ _)); (fail_if_success (with_reducible show wpAny _ _ (execs (Stmt.For _ _ _ _ _ :: _) _) _ _ _)); (fail_if_success (with_reducible show WOut _ _ _ _ _ _ _ _ _ _)); (fail_if_success (with_reducible show KswPost _ _ _ _ _ _ _ _ _ _ _ _ _ _)); first | (k_unfold; (try dsimp only)) | (k_end; wrow_close) | walk1 | (dsimp only; walk1) | (leave1; walk_say "STEP leave1"; try dsimp only) | fail "no step"))
        (rename Fr _ _ _ _ => F8); (rename News _ _ _ _ => N8)
        refine cut_val (fun v => ∃ t, v = .str (cutEnd B p) t) F8 N8 ?_ ?_
        · refine Subscript_ ?_
          (repeat' ((fail_if_success (with_reducible show wpAny _ _ (exec (Stmt.While _ _ _ _) _) _ _ _)); (fail_if_success (with_reducible show wpAny _ _ (exec (Stmt.If _ [Stmt.Assign [Expr.Tuple _ _ _] _ _] [] _) _) _ _ _)); (fail_if_success (with_reducible show wpAny _ _ (pyIter _) _ _ _)); (fail_if_success (with_reducible show CutQ _ _ _ _ _ _ _ _)); (fail_if_success (with_reducible show wpAny _ _ (eval (Expr.Subscript _ (Expr.Slice none (some (Expr.BoolOp _ _ _)) none _) _) _) _ _ _)); (fail_if_success (with_reducible show wpAny _ _ (execs (Stmt.AugAssign (Expr.Name _ _) Operator.Sub _ _ :: _) _) _ _ _)); (fail_if_success (with_reducible show wpAny _ _ (execs (Stmt.For _ _ _ _ _ :: _) _) _ _ _)); (fail_if_success (with_reducible show WOut _ _ _ _ _ _ _ _ _ _)); (fail_if_success (with_reducible show KswPost _ _ _ _ _ _ _ _ _ _ _ _ _ _)); first | (k_unfold; (try dsimp only)) | (k_end; wrow_close) | walk1 | (dsimp only; walk1) | (leave1; walk_say "STEP leave1"; try dsimp only) | fail "no step"))
          all_goals walk_at "cut end"
        rintro _ h'' tk'' ⟨t', rfl⟩ F'' N''
        clear F8 N8
        have hD2 : ∀ s', Cost s' → D s' (lst (cutEnd A p)) (lst (cutEnd B p)) = D s' (lst x) (lst y) := by intro s' C; rw [post_D C hP, hD s' C]
        have hl1 : (cutEnd A p).length ≤ 40 := by have := cutEnd_len hP.1 hP.2.1; have := hP.1; dsimp only at *; omega
        have hl2 : (cutEnd B p).length ≤ 40 := by have := cutEnd_len hP.1 hP.2.2.1; have := hP.1; dsimp only at *; omega
        clear hP hD
        generalize cutEnd A p = A' at *
        generalize cutEnd B p = B' at *
        (repeat' ((fail_if_success (with_reducible show wpAny _ _ (exec (Stmt.While _ _ _ _) _) _ _ _)); (fail_if_success (with_reducible show wpAny _ _ (exec (Stmt.If _ [Stmt.Assign [Expr.Tuple _ _ _] _ _] [] _) _) _ _ _)); (fail_if_success (with_reducible show wpAny _ _ (pyIter _) _ _ _)); (fail_if_success (with_reducible show CutQ _ _ _ _ _ _ _ _)); (fail_if_success (with_reducible show wpAny _ _ (eval (Expr.Subscript _ (Expr.Slice none (some (Expr.BoolOp _ _ _)) none _) _) _) _ _ _)); (fail_if_success (with_reducible show wpAny _ _ (execs (Stmt.AugAssign (Expr.Name _ _) Operator.Sub _ _ :: _) _) _ _ _)); (fail_if_success (with_reducible show wpAny _ _ (execs (Stmt.For _ _ _ _ _ :: _) _) _ _ _)); (fail_if_success (with_reducible show WOut _ _ _ _ _ _ _ _ _ _)); (fail_if_success (with_reducible show KswPost _ _ _ _ _ _ _ _ _ _ _ _ _ _)); first | (k_unfold; (try dsimp only)) | (k_end; wrow_close) | walk1 | (dsimp only; walk1) | (leave1; walk_say "STEP leave1"; try dsimp only) | fail "no step"))
        · (rename Fr _ _ _ _ => lF'); (rename News _ _ _ _ => lN')
          refine stmt_cut (σ := (Str × Tok) × (Str × Tok)) (fun _ => news) (fun c => [(Str.ofString "a", .str c.1.1 c.1.2), (Str.ofString "b", .str c.2.1 c.2.2)]) [] (fun c => c.1.1.length ≤ c.2.1.length ∧ 0 < c.1.1.length ∧ c.2.1.length ≤ 40 ∧ ∀ s', Cost s' → D s' (lst c.1.1) (lst c.2.1) = D s' (lst x) (lst y)) lF' ?now ?done
          case now =>
            (rename Fr _ _ _ _ => lF9)
            refine wpAny_If ?_
            (repeat' ((fail_if_success (with_reducible show wpAny _ _ (exec (Stmt.While _ _ _ _) _) _ _ _)); (fail_if_success (with_reducible show wpAny _ _ (exec (Stmt.If _ [Stmt.Assign [Expr.Tuple _ _ _] _ _] [] _) _) _ _ _)); (fail_if_success (with_reducible show wpAny _ _ (pyIter _) _ _ _)); (fail_if_success (with_reducible show CutQ _ _ _ _ _ _ _ _)); (fail_if_success (with_reducible show wpAny _ _ (eval (Expr.Subscript _ (Expr.Slice none (some (Expr.BoolOp _ _ _)) none _) _) _) _ _ _)); (fail_if_success (with_reducible show wpAny _ _ (execs (Stmt.AugAssign (Expr.Name _ _) Operator.Sub _ _ :: _) _) _ _ _)); (fail_if_success (with_reducible show wpAny _ _ (execs (Stmt.For _ _ _ _ _ :: _) _) _ _ _)); (fail_if_success (with_reducible show WOut _ _ _ _ _ _ _ _ _ _)); (fail_if_success (with_reducible show KswPost _ _ _ _ _ _ _ _ _ _ _ _ _ _)); first | (k_unfold; (try dsimp only)) | (k_end; wrow_close) | walk1 | (dsimp only; walk1) | (leave1; walk_say "STEP leave1"; try dsimp only) | fail "no step"))
            · (rename Fr _ _ _ _ => F9); (rename News _ _ _ _ => N9)
              refine wout_mk ((B', t'), (A', t)) F9 N9 (fun _ h => List.mem_cons_of_mem _ h) ?_ ?_ ⟨by dsimp only; omega, by dsimp only; omega, hl1, fun s' C => by rw [D_symm C]; exact hD2 s' C⟩
              · kst_all
              · ksw_same
            · (rename Fr _ _ _ _ => F9); (rename News _ _ _ _ => N9)
              refine wout_mk ((A', t), (B', t')) F9 N9 (fun _ h => h) ?_ ?_ ⟨by dsimp only; omega, by dsimp only; omega, hl2, hD2⟩
              · kst_all
              · ksw_same
          case done =>
            rintro ⟨⟨S, tS⟩, ⟨T, tT⟩⟩ u h tk hX hF hN
            obtain ⟨hST, hS0, hT40, hDST⟩ := hX
            dsimp only at hST hS0 hT40 hDST
            dsimp only [kstB] at hF
            clear hD2 hl1 hl2 lF' lN'
            (repeat' ((fail_if_success (with_reducible show wpAny _ _ (exec (Stmt.While _ _ _ _) _) _ _ _)); (fail_if_success (with_reducible show wpAny _ _ (exec (Stmt.If _ [Stmt.Assign [Expr.Tuple _ _ _] _ _] [] _) _) _ _ _)); (fail_if_success (with_reducible show wpAny _ _ (pyIter _) _ _ _)); (fail_if_success (with_reducible show CutQ _ _ _ _ _ _ _ _)); (fail_if_success (with_reducible show wpAny _ _ (eval (Expr.Subscript _ (Expr.Slice none (some (Expr.BoolOp _ _ _)) none _) _) _) _ _ _)); (fail_if_success (with_reducible show wpAny _ _ (execs (Stmt.AugAssign (Expr.Name _ _) Operator.Sub _ _ :: _) _) _ _ _)); (fail_if_success (with_reducible show wpAny _ _ (execs (Stmt.For _ _ _ _ _ :: _) _) _ _ _)); (fail_if_success (with_reducible show WOut _ _ _ _ _ _ _ _ _ _)); (fail_if_success (with_reducible show KswPost _ _ _ _ _ _ _ _ _ _ _ _ _ _)); first | (k_unfold; (try dsimp only)) | (k_end; wrow_close) | walk1 | (dsimp only; walk1) | (leave1; walk_say "STEP leave1"; try dsimp only) | fail "no step"))
            · ((rename Fr _ _ _ _ => F9); (rename News _ _ _ _ => N9); exact ret _ _ _ _ (told_far hDST (by omega)) F9 N9)
            · (rename Fr _ _ _ _ => F8); (rename News _ _ _ _ => N8); (rename IsRange _ _ _ _ _ _ _ _ => rg)
              refine list_rangeK (n := S.length) rfl F8 N8 rg (row_range _ (by omega)).1 (row_range _ (by omega)).2 (by omega) ?_
              intro D' us c' h9 tk9 F9 N9 l1 hI
              clear F8 N8 rg
              (repeat' ((fail_if_success (with_reducible show wpAny _ _ (exec (Stmt.While _ _ _ _) _) _ _ _)); (fail_if_success (with_reducible show wpAny _ _ (exec (Stmt.If _ [Stmt.Assign [Expr.Tuple _ _ _] _ _] [] _) _) _ _ _)); (fail_if_success (with_reducible show wpAny _ _ (pyIter _) _ _ _)); (fail_if_success (with_reducible show CutQ _ _ _ _ _ _ _ _)); (fail_if_success (with_reducible show wpAny _ _ (eval (Expr.Subscript _ (Expr.Slice none (some (Expr.BoolOp _ _ _)) none _) _) _) _ _ _)); (fail_if_success (with_reducible show wpAny _ _ (execs (Stmt.AugAssign (Expr.Name _ _) Operator.Sub _ _ :: _) _) _ _ _)); (fail_if_success (with_reducible show wpAny _ _ (execs (Stmt.For _ _ _ _ _ :: _) _) _ _ _)); (fail_if_success (with_reducible show WOut _ _ _ _ _ _ _ _ _ _)); (fail_if_success (with_reducible show KswPost _ _ _ _ _ _ _ _ _ _ _ _ _ _)); first | (k_unfold; (try dsimp only)) | (k_end; wrow_close) | walk1 | (dsimp only; walk1) | (leave1; walk_say "STEP leave1"; try dsimp only) | fail "no step"))
              (rename Fr _ _ _ _ => F7); (rename News _ _ _ _ => N7)
              refine wpAny_mono (lev_dp (by assumption) (by assumption) (by assumption) (fr_as [(Str.ofString "result", .int 0 _), (Str.ofString "row", .ref D'), (Str.ofString "a", .str S tS), (Str.ofString "b", .str T tT), (Str.ofString "max_cost", .int mx tm)] (by kst_all) F7) N7 (row_as hI) l1 hST hS0 hT40 (by omega) (by omega) ?_) (fun _ _ h => h) (fun _ _ h => h.elim)
              intro r t h' tk' m' hT F6 N6
              (repeat' ((fail_if_success (with_reducible show wpAny _ _ (exec (Stmt.While _ _ _ _) _) _ _ _)); (fail_if_success (with_reducible show wpAny _ _ (exec (Stmt.If _ [Stmt.Assign [Expr.Tuple _ _ _] _ _] [] _) _) _ _ _)); (fail_if_success (with_reducible show wpAny _ _ (pyIter _) _ _ _)); (fail_if_success (with_reducible show CutQ _ _ _ _ _ _ _ _)); (fail_if_success (with_reducible show wpAny _ _ (eval (Expr.Subscript _ (Expr.Slice none (some (Expr.BoolOp _ _ _)) none _) _) _) _ _ _)); (fail_if_success (with_reducible show wpAny _ _ (execs (Stmt.AugAssign (Expr.Name _ _) Operator.Sub _ _ :: _) _) _ _ _)); (fail_if_success (with_reducible show wpAny _ _ (execs (Stmt.For _ _ _ _ _ :: _) _) _ _ _)); (fail_if_success (with_reducible show WOut _ _ _ _ _ _ _ _ _ _)); (fail_if_success (with_reducible show KswPost _ _ _ _ _ _ _ _ _ _ _ _ _ _)); first | (k_unfold; (try dsimp only)) | (k_end; wrow_close) | walk1 | (dsimp only; walk1) | (leave1; walk_say "STEP leave1"; try dsimp only) | fail "no step"))
              ((rename Fr _ _ _ _ => F9); (rename News _ _ _ _ => N9); exact ret _ _ _ _ (told_move hDST hT) F9 N9)
        all_goals ((rename Fr _ _ _ _ => F9); (rename News _ _ _ _ => N9); exact ret _ _ _ _ (told_nil hD2 (by omega) rfl) F9 N9)
end
end Mine
open Lean Elab Command in
end
section
namespace Mine
theorem fmod_lo {a b : Int} (h : 0 < b) : 0 ≤ a.fmod b := Int.fmod_nonneg_of_pos a h
theorem fmod_hi {a b : Int} (h : 0 < b) : a.fmod b < b := Int.fmod_lt_of_pos a h
end Mine
end
section
open PySem PySem.W PyProof.Rows
namespace Mine
def eltOf : Stmt → Expr
  | .Assign _ (.ListComp e _ _ _) _ => e
  | _ => default
def lcScope : Stmt → Scope
  | .Assign _ (.ListComp _ _ s _) _ => s
  | _ => default
def iterOf : Stmt → Expr
  | .Assign _ (.ListComp _ (g :: _) _ _) _ => g.iter
  | _ => default
def stmtAt (p : Program) (k j : Nat) : Stmt := ((stmtsAt p k)[j]?).getD default
/-- a cell of the script -/
abbrev cellIs (y : Value) : Prop := ∃ c t, y = .int c t ∧ 0 ≤ c ∧ c < 1000000
section
variable {fa lc : Addr} {w : World} {p : Program} {loose : List Str} {mean : ExcName → Option Value} {mg mb : Str → Option Value} {h₀ : Heap} {m : Str → Option Value} {s : Shared}
set_option maxRecDepth 100000 in
set_option maxHeartbeats 1000000 in
theorem elt_w {L' C S : Addr} {oC cell : Obj} {m₂ : Str → Option Value} {ext : List (Addr × Obj)} {vs : List Value} {ns : List Int} {i : Nat} {own : Int} {ti to : Tok} {Q : Value → Shared → Prop}
    (X : (Mine.hd.heap_39 w.params).In h₀) (T : Top p loose mean mg mb h₀) (F : Fr h₀ L' s.heap m) (N : News h₀ L' s.heap ((C, oC) :: (L' + 1, cell) :: ext))
    (hcell : cell.data = .cell (some (.ref S))) (hC : LCg.NsObj oC m₂) (h1 : m₂ (Str.ofString "place") = some (.int i ti)) (h2 : m₂ (Str.ofString "own") = some (.int own to)) (hl : h₀.IsList S vs.toArray) (hi : IntsAre vs ns) (hlen : ns.length ≤ 63) (hi9 : i ≤ 8)
    (hQ : ∀ y h' tk', cellIs y → Fr h₀ L' h' m → News h₀ L' h' ((C, oC) :: (L' + 1, cell) :: ext) → Q y { s with heap := h', toks := tk' }) :
    wpAny (model PySem.Challenge.rw_rs0052_02.prog w) (callerA.deeper (envOfC (Str.ofString "law") (scopeAt PySem.Challenge.rw_rs0052_02.prog 20) L' fa (.ref lc)))
      (eval (eltOf (stmtAt PySem.Challenge.rw_rs0052_02.prog 20 0)) (compEnvC (lcScope (stmtAt PySem.Challenge.rw_rs0052_02.prog 20 0)) [(Str.ofString "script", L' + 1)] C (envOfC (Str.ofString "law") (scopeAt PySem.Challenge.rw_rs0052_02.prog 20) L' fa (.ref lc)))) Q (fun _ _ => False) s := by
  k_with_none
  w_top off
  revert X
  k_fill
  intro X
  conv in (occs := *) scopeAt _ _ => all_goals whnf
  conv in (occs := *) lcScope _ => all_goals whnf
  conv in (occs := *) eltOf _ => all_goals whnf
  k_steps
  (rename Fr _ _ _ _ => F9); (rename News _ _ _ _ => N9)
  refine sumK (vs := (slicePick vs.toArray (some (i : Int)) (some 63) (some 5)).toList) rfl F9 N9 (by rw [Array.toArray_toList]; exact News.isList N9 (.head _)) (hi.pick _ _ _) ?_
  intro h8 tk8 t8 F8 N8
  clear F9 N9
  k_steps
  refine hQ _ _ _ ⟨_, _, rfl, ?_, ?_⟩ F8 (cb_drop N8 fun _ h => List.mem_cons_of_mem _ h)
  · exact fmod_lo (by decide)
  · exact fmod_hi (by decide)
theorem int_at {l : List Value} (h : ∀ v ∈ l, ∃ n t, v = .int n t) (i : Nat) (v : Value) (e : l.toArray[i]? = some v) : ∃ n t, v = .int n t := h v (by
  rw [List.getElem?_toArray] at e; exact List.mem_of_getElem? e)
set_option maxRecDepth 100000 in
set_option maxHeartbeats 1000000 in
theorem iter_w {L' : Addr} {cell : Obj} {rest : List (Addr × Obj)} {Q : Value → Shared → Prop}
    (X : (Mine.hd.heap_39 w.params).In h₀) (T : Top p loose mean mg mb h₀) (F : Fr h₀ L' s.heap m) (N : News h₀ L' s.heap ((L' + 1, cell) :: rest))
    (hQ : ∀ (items : Array Value) (xv : Value) (s₁ : Shared), items.size = 5 → (∀ (i : Nat) (v : Value), items[i]? = some v → ∃ n t, v = .int n t) → EnumSrc h₀ L' m ((L' + 1, cell) :: rest) items s xv s₁ → Q xv s₁) :
    wpAny (model PySem.Challenge.rw_rs0052_02.prog w) (callerA.deeper (envOfC (Str.ofString "law") (scopeAt PySem.Challenge.rw_rs0052_02.prog 20) L' fa (.ref lc)))
      (eval (iterOf (stmtAt PySem.Challenge.rw_rs0052_02.prog 20 0)) (envOfC (Str.ofString "law") (scopeAt PySem.Challenge.rw_rs0052_02.prog 20) L' fa (.ref lc))) Q (fun _ _ => False) s := by
  k_with_none
  w_top off
  revert X
  k_fill
  intro X
  conv in (occs := *) scopeAt _ _ => all_goals whnf
  conv in (occs := *) iterOf _ => all_goals whnf
  k_steps
  (rename Fr _ _ _ _ => F9); (rename News _ _ _ _ => N9)
  exact wpAny_mono (enum_src (s₀ := s) ⟨_, _, rfl⟩ F9 N9 fun p hp => by
      rename _ < _ ∧ AllLt _ _ => l1
      rcases List.mem_cons.mp hp with rfl | hp
      · exact Nat.ne_of_lt l1.1
      · exact Nat.ne_of_lt (kst_ltOf l1.2 p hp)) (fun xv s₁ h => hQ _ xv s₁ rfl (int_at (by simp)) h) fun _ _ h => h
set_option maxRecDepth 100000 in
set_option maxHeartbeats 1000000 in
theorem cells_st {L' S : Addr} {cell : Obj} {rest : List (Addr × Obj)} {vs : List Value} {ns : List Int} {Q : Flow → Shared → Prop}
    (X : (Mine.hd.heap_39 w.params).In h₀) (T : Top p loose mean mg mb h₀) (F : Fr h₀ L' s.heap m) (N : News h₀ L' s.heap ((L' + 1, cell) :: rest))
    (hcell : cell.data = .cell (some (.ref S))) (hl : h₀.IsList S vs.toArray) (hi : IntsAre vs ns) (hlen : ns.length ≤ 63)
    (hQ : ∀ D ys h' tk', ys.length = 5 → (∀ (i : Nat) y, ys[i]? = some y → cellIs y) → Fr h₀ L' h' (fun z => if z = Str.ofString "cells" then some (.ref D) else m z) → News h₀ L' h' ((D, LCg.lst ys) :: (L' + 1, cell) :: rest) → (∀ p ∈ (L' + 1, cell) :: rest, p.1 < D) → Q .next { s with heap := h', toks := tk' }) :
    wpAny (model PySem.Challenge.rw_rs0052_02.prog w) (callerA.deeper (envOfC (Str.ofString "law") (scopeAt PySem.Challenge.rw_rs0052_02.prog 20) L' fa (.ref lc)))
      (exec (stmtAt PySem.Challenge.rw_rs0052_02.prog 20 0) (envOfC (Str.ofString "law") (scopeAt PySem.Challenge.rw_rs0052_02.prog 20) L' fa (.ref lc))) Q (fun _ _ => False) s := by
  k_with_none
  w_top off
  have X0 := X
  revert X
  k_fill
  intro X
  conv in (occs := *) stmtAt _ _ _ => all_goals whnf
  refine' assign_enum (h₀ := h₀) (n := 5) (Pv := fun _ v => ∃ n t, v = .int n t) (news := (L' + 1, cell) :: rest) (cl := [(Str.ofString "script", L' + 1)]) (m := m) (Y := fun _ y => cellIs y) rfl (by with_unfolding_all rfl) (by with_unfolding_all rfl) (by with_unfolding_all rfl) (by with_unfolding_all rfl) (by decide) rfl (by decide) (by rfl) (by rfl) (by decide) rfl ?sz ?it ?el ?fin
  case it => exact iter_w X0 T F N fun items xv s₁ h1 h2 h3 => ⟨items, h1, h2, h3⟩
  case sz => decide
  case el =>
    intro i C oC m₂ h tk t v ext hi8 hv hC h1 h2 F' hsub N'
    obtain ⟨own, to, rfl⟩ := hv
    refine elt_w (ext := ext) X0 T F' (fun q hq => ?_) hcell hC h1 h2 hl hi hlen ?_ ?_
    · rcases List.mem_cons.mp hq with rfl | hq
      · exact N' _ (.head _)
      · rcases List.mem_cons.mp hq with rfl | hq
        · exact N' _ (.tail _ (hsub _ (.head _)))
        · exact N' _ (.tail _ hq)
    · omega
    · intro y h' tk' hy F9 N9
      refine ⟨h', tk', rfl, F9, fun q hq => ?_, hy⟩
      rcases List.mem_cons.mp hq with rfl | hq
      · exact N9 _ (.head _)
      · exact N9 _ (.tail _ (.tail _ hq))
  case fin =>
    intro D ys h tk hl hY F9 N9 hlt9
    exact hQ D ys h tk hl hY F9 N9 hlt9
end
end Mine
end
section
open PySem PySem.W PyProof.Rows PySem.Builtin.Str PySem.Builtin
namespace Mine
/-- cut at each c -/
def splitC (c : Nat) : List Nat → List (List Nat)
  | [] => [[]]
  | k :: r => if k = c then [] :: splitC c r else match splitC c r with
    | [] => [[k]]
    | q :: s => (k :: q) :: s
def joinL (z : List Nat) : List (List Nat) → List Nat
  | [] => []
  | [q] => q
  | q :: r => q ++ z ++ joinL z r
/-- c turned to z -/
def replC (c : Nat) (z : List Nat) : List Nat → List Nat
  | [] => []
  | k :: r => if k = c then z ++ replC c z r else k :: replC c z r
/-- return and feed turned to z -/
def repl2 (z : List Nat) : List Nat → List Nat
  | [] => []
  | 13 :: 10 :: r => z ++ repl2 z r
  | k :: r => k :: repl2 z r
theorem splitC_ne (c : Nat) : ∀ l, splitC c l ≠ []
  | [] => by simp [splitC]
  | k :: r => by
    rw [splitC]
    split
    · simp
    · have := splitC_ne c r
      split <;> simp
theorem splitC_self (c : Nat) (r : List Nat) : splitC c (c :: r) = [] :: splitC c r := by rw [splitC, if_pos rfl]
theorem splitC_other {c k : Nat} (h : k ≠ c) (r : List Nat) : ∃ q s, splitC c r = q :: s ∧ splitC c (k :: r) = (k :: q) :: s := by
  cases e : splitC c r with
  | nil => exact absurd e (splitC_ne c r)
  | cons q s => exact ⟨q, s, rfl, by rw [splitC, if_neg h, e]⟩
theorem splitC_free {c : Nat} : ∀ {l : List Nat}, c ∉ l → splitC c l = [l]
  | [], _ => rfl
  | k :: r, h => by
    have hk : k ≠ c := fun e => h (e ▸ .head _)
    rw [splitC, if_neg hk, splitC_free (fun e => h (.tail _ e))]
theorem splitC_app {c : Nat} : ∀ {l : List Nat} (r : List Nat), c ∉ l → splitC c (l ++ c :: r) = l :: splitC c r
  | [], r, _ => splitC_self c r
  | k :: l, r, h => by
    have hk : k ≠ c := fun e => h (e ▸ .head _)
    rw [List.cons_append, splitC, if_neg hk, splitC_app r (fun e => h (.tail _ e))]
theorem joinL_cons (z q : List Nat) {r : List (List Nat)} (h : r ≠ []) : joinL z (q :: r) = q ++ z ++ joinL z r := by
  cases r with
  | nil => exact absurd rfl h
  | cons a b => rfl
theorem join_splitC (c : Nat) (z : List Nat) : ∀ l, joinL z (splitC c l) = replC c z l
  | [] => rfl
  | k :: r => by
    by_cases h : k = c
    · subst h
      rw [splitC_self, joinL_cons _ _ (splitC_ne _ _), join_splitC, replC, if_pos rfl]; rfl
    · obtain ⟨q, s, e1, e2⟩ := splitC_other h r
      have ih := join_splitC c z r
      rw [e1] at ih
      rw [e2, replC, if_neg h, ← ih]
      cases s with
      | nil => rfl
      | cons a b => simp [joinL]
theorem splitC_join {c : Nat} : ∀ {ps : List (List Nat)}, ps ≠ [] → (∀ q ∈ ps, c ∉ q) → splitC c (joinL [c] ps) = ps
  | [], h, _ => absurd rfl h
  | [q], _, h => splitC_free (h q (.head _))
  | q :: a :: b, _, h => by
    rw [joinL_cons _ _ (by simp), List.append_assoc, List.singleton_append, splitC_app _ (h q (.head _)), splitC_join (by simp) fun x hx => h x (.tail _ hx)]
theorem lst_join (sep : Str) : ∀ ps : List Str, lst (Str.join sep ps) = joinL (lst sep) (ps.map lst)
  | [] => rfl
  | [_] => rfl
  | q :: a :: b => by
    show lst (q ++ sep ++ Str.join sep (a :: b)) = _
    rw [lst_app, lst_app, lst_join sep (a :: b)]
    rfl
theorem txt_join (sep : Str) (ps : List Str) : lst (Txt.join sep ps) = joinL (lst sep) (ps.map lst) := by
  unfold Txt.join
  rw [StrLaws.glued_eq_join, lst_join]
theorem split_ne (x y : Str) : Txt.split x y ≠ [] := by
  unfold Txt.split
  split
  · simp
  · split
    · simp
    · obtain ⟨a, b, e⟩ := StrLaws.partsFrom_ne x y.length 0 (occurrences x y 0 x.length (x.length + 1))
      rw [StrLaws.partsBetween_eq, e]; simp
theorem split_one (x : Str) (c : Nat) : (Txt.split x ⟨#[c]⟩).map lst = splitC c (lst x) := by
  have h := congrArg lst (StrLaws.join_split x ⟨#[c]⟩)
  rw [lst_join] at h
  rw [← h]
  refine (splitC_join (by simpa using split_ne x _) ?_).symm
  intro q hq
  obtain ⟨a, ha, rfl⟩ := List.mem_map.mp hq
  exact StrLaws.split_free x c a ha
theorem replace_one (x z : Str) (c : Nat) : lst (Txt.replace x ⟨#[c]⟩ z) = replC c (lst z) (lst x) := by
  rw [StrLaws.replace_one, lst_join, split_one, join_splitC]
/-- how often -/
theorem count_chain (x : Str) (c : Nat) : ∀ (cuts : List Nat) (a f : Nat), StrLaws.ChainG x ⟨#[c]⟩ x.length a cuts f → (∀ k, f ≤ k → ¬ StrLaws.At x ⟨#[c]⟩ x.length k) → ((lst x).drop a).count c = cuts.length
  | [], a, f, h, hn => by
    have e : f = a := h
    subst e
    refine List.count_eq_zero.mpr fun hm => ?_
    obtain ⟨i, hi⟩ := List.getElem?_of_mem hm
    rw [List.getElem?_drop] at hi
    exact hn (f + i) (by omega) ((StrLaws.subAt_one x c _).mpr hi)
  | k :: r, a, f, h, hn => by
    obtain ⟨h1, h2, h3, h4⟩ := h
    have hk := (StrLaws.subAt_one x c k).mp h2
    have ih := count_chain x c r _ f h4 hn
    have hkl : k < (lst x).length := by
      have := (List.getElem?_eq_some_iff.mp hk).1
      exact this
    have e : (lst x).drop a = ((lst x).drop a).take (k - a) ++ c :: (lst x).drop (k + 1) := by
      have e1 := List.take_append_drop (k - a) ((lst x).drop a)
      rw [List.drop_drop, show a + (k - a) = k by omega, List.drop_eq_getElem_cons hkl] at e1
      have e2 : (lst x)[k] = c := by
        have := (List.getElem?_eq_some_iff.mp hk).2
        exact this
      rw [e2] at e1
      exact e1.symm
    have h0 : (((lst x).drop a).take (k - a)).count c = 0 := by
      refine List.count_eq_zero.mpr fun hm => ?_
      obtain ⟨i, hi⟩ := List.getElem?_of_mem hm
      have hlt : i < k - a := by
        have := (List.getElem?_eq_some_iff.mp hi).1
        rw [List.length_take] at this
        omega
      rw [List.getElem?_take_of_lt hlt, List.getElem?_drop] at hi
      exact h3 (a + i) (by omega) (by omega) ((StrLaws.subAt_one x c _).mpr hi)
    rw [e, List.count_append, h0, List.count_cons_self]
    have ih' : List.count c ((lst x).drop (k + 1)) = r.length := ih
    rw [ih', List.length_cons]; omega
theorem count_one (x : Str) (c : Nat) : Txt.count x ⟨#[c]⟩ = ((lst x).count c : Int) := by
  obtain ⟨f, h, hn⟩ := StrLaws.occ_tight x ⟨#[c]⟩ (Nat.le_refl 1)
  have := count_chain x c _ 0 f h hn
  rw [List.drop_zero] at this
  unfold Txt.count
  rw [this]
theorem repl2_other {z : List Nat} {k : Nat} {r : List Nat} (h : ¬ (k = 13 ∧ r.head? = some 10)) : repl2 z (k :: r) = k :: repl2 z r := by
  rw [repl2]
  intro r' e1 e2
  subst e1 e2
  exact h ⟨rfl, rfl⟩
theorem repl2_free (z : List Nat) : ∀ (l : List Nat), (∀ i, ¬ (l[i]? = some 13 ∧ l[i + 1]? = some 10)) → repl2 z l = l
  | [], _ => rfl
  | k :: r, h => by
    rw [repl2_other (fun ⟨e1, e2⟩ => h 0 (by cases r with | nil => simp at e2 | cons q s => simp at e2; simp [e1, e2])), repl2_free z r fun i => h (i + 1)]
theorem repl2_app (z : List Nat) : ∀ (l r : List Nat), (∀ i, i < l.length → ¬ ((l ++ 13 :: r)[i]? = some 13 ∧ (l ++ 13 :: r)[i + 1]? = some 10)) → repl2 z (l ++ 13 :: 10 :: r) = l ++ z ++ repl2 z r
  | [], r, _ => by rw [List.nil_append, repl2]; rfl
  | k :: l, r, h => by
    have h0 := h 0 (by simp)
    rw [List.cons_append, repl2_other, repl2_app z l r]
    · rfl
    · intro i hi
      have := h (i + 1) (by simpa using hi)
      simpa using this
    · rintro ⟨e1, e2⟩
      refine h0 ⟨by simp [e1], ?_⟩
      cases l with
      | nil => simp at e2
      | cons q s => simp at e2; simp [e2]
theorem subAt_two (x : Str) (c d i : Nat) : StrLaws.At x ⟨#[c, d]⟩ x.length i ↔ ((lst x)[i]? = some c ∧ (lst x)[i + 1]? = some d) := by
  unfold StrLaws.At
  rw [StrLaws.subAt_eq]
  have hl : (⟨#[c, d]⟩ : Str).length = 2 := rfl
  rw [hl]
  show (i + 2 ≤ x.length ∧ (((lst x).drop i).take 2 == [c, d]) = true) ↔ _
  rw [beq_iff_eq]
  have hx : (lst x).length = x.length := lst_length x
  constructor
  · rintro ⟨h1, h2⟩
    rw [List.drop_eq_getElem_cons (by omega), List.drop_eq_getElem_cons (by omega)] at h2
    simp only [List.take_succ_cons, List.take_zero, List.cons.injEq, and_true] at h2
    rw [List.getElem?_eq_getElem (by omega), List.getElem?_eq_getElem (by omega), h2.1, h2.2]
    exact ⟨rfl, rfl⟩
  · rintro ⟨h1, h2⟩
    obtain ⟨l1, e1⟩ := List.getElem?_eq_some_iff.mp h1
    obtain ⟨l2, e2⟩ := List.getElem?_eq_some_iff.mp h2
    refine ⟨by omega, ?_⟩
    rw [List.drop_eq_getElem_cons l1, List.drop_eq_getElem_cons l2, e1, e2]
    rfl
theorem repl2_chain (x z : Str) : ∀ (cuts : List Nat) (a f : Nat), StrLaws.ChainG x ⟨#[13, 10]⟩ x.length a cuts f → (∀ k, f ≤ k → ¬ StrLaws.At x ⟨#[13, 10]⟩ x.length k) → lst (Str.join z (StrLaws.partsFrom x 2 a cuts)) = repl2 (lst z) ((lst x).drop a)
  | [], a, f, h, hn => by
    have e : f = a := h
    subst e
    have e2 : lst (strSub x f x.length) = (lst x).drop f := by
      show (strSub x f x.length).cps.toList = _
      rw [StrLaws.strSub_toList, List.take_of_length_le (by rw [List.length_drop]; exact Nat.le_of_eq (by rw [show x.cps.toList.length = x.length from lst_length x]))]
      rfl
    show lst (strSub x f x.length) = _
    rw [e2, repl2_free]
    intro i hi
    rw [List.getElem?_drop, List.getElem?_drop] at hi
    exact hn (f + i) (by omega) ((subAt_two x 13 10 _).mpr hi)
  | k :: r, a, f, h, hn => by
    obtain ⟨h1, h2, h3, h4⟩ := h
    have hk := (subAt_two x 13 10 k).mp h2
    have ih := repl2_chain x z r _ f h4 hn
    obtain ⟨l1, e1⟩ := List.getElem?_eq_some_iff.mp hk.1
    obtain ⟨l2, e2⟩ := List.getElem?_eq_some_iff.mp hk.2
    have e : (lst x).drop a = ((lst x).drop a).take (k - a) ++ 13 :: 10 :: (lst x).drop (k + 2) := by
      have q := List.take_append_drop (k - a) ((lst x).drop a)
      rw [List.drop_drop, show a + (k - a) = k by omega, List.drop_eq_getElem_cons l1, List.drop_eq_getElem_cons l2, e1, e2] at q
      exact q.symm
    obtain ⟨q, s, es⟩ := StrLaws.partsFrom_ne x 2 (k + 2) r
    have hj : lst (Str.join z (StrLaws.partsFrom x 2 a (k :: r))) = lst (strSub x a k) ++ lst z ++ lst (Str.join z (StrLaws.partsFrom x 2 (k + 2) r)) := by
      show lst (Str.join z (strSub x a k :: StrLaws.partsFrom x 2 (k + 2) r)) = _
      rw [es]
      show lst (strSub x a k ++ z ++ Str.join z (q :: s)) = _
      rw [lst_app, lst_app]
    have ih' : lst (Str.join z (StrLaws.partsFrom x 2 (k + 2) r)) = repl2 (lst z) ((lst x).drop (k + 2)) := ih
    have hp : lst (strSub x a k) = ((lst x).drop a).take (k - a) := StrLaws.strSub_toList x a k
    rw [hj, ih', hp, e, repl2_app]
    · rw [← e]
    · intro i hi
      have hi' : i < k - a := by
        rw [List.length_take] at hi
        omega
      have hg : ∀ j, j ≤ k - a → (((lst x).drop a).take (k - a) ++ 13 :: (lst x).drop (k + 2))[j]? = (lst x)[a + j]? := by
        intro j hj
        have hlen : (((lst x).drop a).take (k - a)).length = k - a := by rw [List.length_take, List.length_drop]; omega
        by_cases hjk : j < k - a
        · rw [List.getElem?_append_left (by rw [hlen]; exact hjk), List.getElem?_take_of_lt hjk, List.getElem?_drop]
        · rw [List.getElem?_append_right (by rw [hlen]; omega), hlen, show j - (k - a) = 0 by omega, show a + j = k by omega, hk.1]
          rfl
      rw [hg i (by omega), hg (i + 1) (by omega)]
      intro hh
      exact h3 (a + i) (by omega) (by omega) ((subAt_two x 13 10 _).mpr hh)
end Mine
end
section
open PySem PySem.W PyProof.Rows
namespace Mine
theorem fr_some {h₀ h : Heap} {L : Addr} {m : Str → Option Value} (ps : List (Str × Value)) (h1 : ∀ p ∈ ps, m p.1 = some p.2) (F : Fr h₀ L h m) : ∃ u, Fr h₀ L h (kstB u ps) := ⟨m, fr_as ps h1 F⟩
section
variable {prog : Program} {w : World} {A : Around} {E : Value → Shared → Prop} {s : Shared} {h₀ : Heap} {L D : Addr} {news : List (Addr × Obj)}
end
end Mine
end
section
open PySem PySem.W PyProof.Rows
namespace Mine
def lawName (x : Str) : Str := ⟨(nameOf (lst x)).toArray⟩
theorem qt1 : Str.ofString "\"" = ⟨#[34]⟩ := by decide +kernel
theorem empty_lst : lst (Str.ofString "") = [] := by decide +kernel
end Mine
end
section
open PySem PySem.W PyProof.Rows
namespace Mine
/-- a row with one dot more where it begins with one -/
def dotl : List Nat → List Nat
  | 46 :: r => 46 :: 46 :: r
  | r => r
theorem dotl_dot (r : List Nat) : dotl (46 :: r) = 46 :: 46 :: r := rfl
theorem dotl_other {k : Nat} (h : k ≠ 46) (r : List Nat) : dotl (k :: r) = k :: r := by
  unfold dotl
  split
  · rename_i e; cases e; exact absurd rfl h
  · rfl
/-- the text as it is sent -/
def sentS (first : Bool) (x : Str) : Str := ⟨(dots first (crlf (lst x))).toArray⟩
theorem sent_quoted (x : Str) : sentS true x = quoted x := rfl
theorem dot1 : Str.ofString "." = ⟨#[46]⟩ := by decide +kernel
theorem crlf_of : Str.ofString "\r\n" = ⟨#[13, 10]⟩ := by decide +kernel
end Mine
end
section
open PySem PySem.W PyProof.Rows PySem.Builtin.Str PySem.Builtin
namespace Mine
theorem mem_joinL {z : List Nat} {c : Nat} : ∀ {ps : List (List Nat)} {q : List Nat}, q ∈ ps → c ∈ q → c ∈ joinL z ps
  | [p], q, hq, hc => by rw [List.mem_singleton.mp hq] at hc; exact hc
  | p :: a :: r, q, hq, hc => by
    rw [joinL_cons z p (by simp)]
    rcases List.mem_cons.mp hq with rfl | hq
    · simp [hc]
    · have := mem_joinL (z := z) hq hc
      simp [this]
/-- a text cut at its line ends, by a sign that it has not -/
theorem split_two (x : Str) {M : Nat} (hM : M ∉ lst x) : (Txt.split x ⟨#[13, 10]⟩).map lst = splitC M (repl2 [M] (lst x)) := by
  have hj : joinL [M] ((Txt.split x ⟨#[13, 10]⟩).map lst) = repl2 [M] (lst x) := by
    obtain ⟨f, h, hn⟩ := StrLaws.occ_tight x ⟨#[13, 10]⟩ (by decide)
    have key := repl2_chain x ⟨#[M]⟩ _ 0 f h hn
    rw [List.drop_zero] at key
    rw [← show lst ⟨#[M]⟩ = [M] from rfl, ← lst_join]
    unfold Txt.split
    split
    · rename_i hc
      show lst x = _
      refine (repl2_free _ _ ?_).symm
      intro i hi
      have h1 : x.length < 2 := by
        have hk : Builtin.Str.strKind ⟨#[13, 10]⟩ = 1 := by decide +kernel
        rw [hk, Bool.or_eq_true, decide_eq_true_eq, decide_eq_true_eq] at hc
        rcases hc with hc | hc
        · exact hc
        · exfalso
          have : 1 ≤ Builtin.Str.strKind x := by unfold Builtin.Str.strKind; split <;> (try split) <;> omega
          omega
      obtain ⟨l2, _⟩ := List.getElem?_eq_some_iff.mp hi.2
      rw [lst_length] at l2
      omega
    · split
      · rename_i hc
        rw [List.isEmpty_iff.mp hc] at key
        have e : StrLaws.partsFrom x 2 0 [] = [x] := by
          show [strSub x 0 x.length] = [x]
          rw [StrLaws.sub_whole]
        rw [e] at key
        exact key
      · rw [StrLaws.partsBetween_eq]
        exact key
  rw [← hj]
  refine (splitC_join (by simpa using split_ne x _) ?_).symm
  intro q hq hc
  have hl : joinL [13, 10] ((Txt.split x ⟨#[13, 10]⟩).map lst) = lst x := by
    have := lst_join ⟨#[13, 10]⟩ (Txt.split x ⟨#[13, 10]⟩)
    rw [StrLaws.join_split] at this
    exact this.symm
  exact hM (by rw [← hl]; exact mem_joinL hq hc)
theorem repl2_rows (z : List Nat) : ∀ (ps : List (List Nat)), (∀ q ∈ ps, 13 ∉ q) → repl2 z (joinL [13, 10] ps) = joinL z ps
  | [], _ => rfl
  | [q], h => repl2_free z q fun i hi => h q (.head _) (List.mem_of_getElem? hi.1)
  | q :: a :: r, h => by
    rw [joinL_cons [13, 10] q (by simp), joinL_cons z q (by simp), List.append_assoc]
    show repl2 z (q ++ 13 :: 10 :: joinL [13, 10] (a :: r)) = _
    rw [repl2_app, repl2_rows z (a :: r) fun p hp => h p (.tail _ hp)]
    intro i hi hh
    have := hh.1
    rw [List.getElem?_append_left hi] at this
    exact h q (.head _) (List.mem_of_getElem? this)
/-- rows joined by line ends are cut into the rows -/
theorem split_rows {x : Str} {ps : List (List Nat)} (h0 : ps ≠ []) (hx : lst x = joinL [13, 10] ps) (h : ∀ q ∈ ps, 13 ∉ q) : (Txt.split x ⟨#[13, 10]⟩).map lst = ps := by
  obtain ⟨M, hM⟩ : ∃ M, M ∉ lst x := ⟨(lst x).sum + 1, fun hm => by
    have : ∀ (l : List Nat) (a : Nat), a ∈ l → a ≤ l.sum := by
      intro l
      induction l with
      | nil => intro a h; simp at h
      | cons k r ih => intro a h; rcases List.mem_cons.mp h with rfl | h <;> simp <;> first | omega | (have := ih a h; omega)
    have := this _ _ hm; omega⟩
  rw [split_two x hM, hx, repl2_rows [M] ps h]
  refine splitC_join h0 ?_
  intro q hq hc
  exact hM (by rw [hx]; exact mem_joinL hq hc)
theorem crlf_row {t : List Nat} : ∀ {r : List Nat}, 10 ∉ r → 13 ∉ r → crlf (r ++ t) = r ++ crlf t
  | [], _, _ => rfl
  | k :: r, h1, h2 => by
    simp only [List.mem_cons, not_or] at h1 h2
    rw [List.cons_append, crlf_cons_other (by simp [Ne.symm h1.1, Ne.symm h2.1]), crlf_row h1.2 h2.2]; rfl
abbrev isEnd (e : List Nat) : Prop := e = [10] ∨ e = [13] ∨ e = [13, 10]
theorem crlf_end {e t : List Nat} (h : isEnd e) (ht : t.head? ≠ some 10) : crlf (e ++ t) = 13 :: 10 :: crlf t := by
  rcases h with rfl | rfl | rfl
  · show crlf (10 :: t) = _
    rw [crlf] <;> simp
  · show crlf (13 :: t) = _
    rw [crlf]
    · rw [if_pos (by simp)]
    · intro r' _ e; subst e; exact ht rfl
  · show crlf (13 :: 10 :: t) = _
    rw [crlf]
theorem dots_free : ∀ {r : List Nat}, 10 ∉ r → dots false r = r
  | [], _ => by simp [dots]
  | k :: r, h => by
    simp only [List.mem_cons, not_or] at h
    rw [dots, if_neg (by simp), show (k == 10) = false by simpa using Ne.symm h.1, dots_free h.2]
theorem dots_row0 {t : List Nat} : ∀ {r : List Nat}, 10 ∉ r → dots false (r ++ 13 :: 10 :: t) = r ++ 13 :: 10 :: dots true t
  | [], _ => by
    show dots false (13 :: 10 :: t) = _
    rw [dots, if_neg (by simp), dots, if_neg (by simp)]; rfl
  | k :: r, h => by
    simp only [List.mem_cons, not_or] at h
    rw [List.cons_append, dots, if_neg (by simp), show (k == 10) = false by simpa using Ne.symm h.1, dots_row0 h.2]; rfl
theorem dots_row {t : List Nat} {r : List Nat} (h : 10 ∉ r) : dots true (r ++ 13 :: 10 :: t) = dotl r ++ 13 :: 10 :: dots true t := by
  cases r with
  | nil =>
    show dots true (13 :: 10 :: t) = _
    rw [dots, if_neg (by simp), dots, if_neg (by simp)]; rfl
  | cons k r =>
    simp only [List.mem_cons, not_or] at h
    by_cases hk : k = 46
    · subst hk
      rw [List.cons_append, dots, if_pos (by simp), dots_row0 h.2]; rfl
    · rw [List.cons_append, dots, if_neg (by simp [hk]), show (k == 10) = false by simpa using Ne.symm h.1, dots_row0 h.2, dotl_other hk]; rfl
theorem dots_last {r : List Nat} (h : 10 ∉ r) : dots true r = dotl r := by
  cases r with
  | nil => simp [dots, dotl]
  | cons k r =>
    simp only [List.mem_cons, not_or] at h
    by_cases hk : k = 46
    · subst hk
      rw [dots, if_pos (by simp), dots_free h.2]; rfl
    · rw [dots, if_neg (by simp [hk]), show (k == 10) = false by simpa using Ne.symm h.1, dots_free h.2, dotl_other hk]
/-- three rows with ends of any kind, sent -/
theorem sent_rows {r0 r1 r2 e0 e1 : List Nat} (h0 : 13 ∉ r0 ∧ 10 ∉ r0) (h1 : 13 ∉ r1 ∧ 10 ∉ r1) (h2 : 13 ∉ r2 ∧ 10 ∉ r2) (n1 : r1 ≠ []) (he0 : isEnd e0) (he1 : isEnd e1) :
    dots true (crlf (r0 ++ e0 ++ r1 ++ e1 ++ r2)) = joinL [13, 10] [dotl r0, dotl r1, dotl r2] := by
  have a1 : (r1 ++ e1 ++ r2).head? ≠ some 10 := by
    cases r1 with
    | nil => exact absurd rfl n1
    | cons k r => intro e; exact h1.2 (by simp at e; simp [e])
  have a2 : r2.head? ≠ some 10 := by
    cases r2 with
    | nil => simp
    | cons k r => intro e; exact h2.2 (by simp at e; simp [e])
  have e : r0 ++ e0 ++ r1 ++ e1 ++ r2 = r0 ++ (e0 ++ (r1 ++ (e1 ++ r2))) := by simp [List.append_assoc]
  rw [List.append_assoc] at a1
  rw [e, crlf_row h0.2 h0.1, crlf_end he0 a1, crlf_row h1.2 h1.1, crlf_end he1 a2, show crlf r2 = r2 by have := crlf_row (t := []) h2.2 h2.1; simpa [crlf] using this, dots_row h0.2, dots_row h1.2, dots_last h2.2]
  rw [joinL_cons _ _ (by simp), joinL_cons _ _ (by simp)]
  simp [joinL]
end Mine
end
section
open PySem PySem.W PyProof.Rows
namespace Mine
def op1 : Str := Str.ofString "257 \""
theorem lst_op1 : lst op1 = [50, 53, 55, 32, 34] := by decide +kernel
theorem lst_257 : lst (Str.ofString "257") = [50, 53, 55] := by decide +kernel
theorem lst_bq : lst (Str.ofString " \"") = [32, 34] := by decide +kernel
theorem lst_mk (l : List Nat) : lst ⟨l.toArray⟩ = l := by simp [lst]
theorem lst_sentS (b : Bool) (x : Str) : lst (sentS b x) = dots b (crlf (lst x)) := lst_mk _
theorem lst_lawName (x : Str) : lst (lawName x) = nameOf (lst x) := lst_mk _
/-- slices at the front -/
theorem slice_to (x : Str) (n : Nat) : lst (Txt.slice x none (some (n : Int))) = (lst x).take n := by
  rw [slice_list]
  unfold clipN
  simp only [show ¬ ((n : Int) < 0) by omega, if_false, List.drop_zero, Nat.sub_zero, Int.toNat_natCast]
  rw [← lst_length, ← List.take_take, List.take_of_length_le (Nat.le_of_eq rfl : (lst x).length ≤ (lst x).length)] <;> try rfl
theorem slice_mid (x : Str) (a b : Nat) : lst (Txt.slice x (some (a : Int)) (some (b : Int))) = ((lst x).drop a).take (b - a) := by
  rw [slice_list]
  unfold clipN
  simp only [show ¬ ((a : Int) < 0) by omega, show ¬ ((b : Int) < 0) by omega, if_false, Int.toNat_natCast]
  rw [← lst_length]
  by_cases ha : a ≤ (lst x).length
  · rw [Nat.min_eq_left ha]
    by_cases hb : b ≤ (lst x).length
    · rw [Nat.min_eq_left hb]
    · rw [Nat.min_eq_right (by omega), List.take_of_length_le (by rw [List.length_drop]; omega), List.take_of_length_le (by rw [List.length_drop]; omega)]
  · have e1 : min a (lst x).length = (lst x).length := by omega
    rw [e1, List.drop_of_length_le (Nat.le_refl _), List.drop_of_length_le (show (lst x).length ≤ a by omega)]; simp
theorem slice_from (x : Str) (a : Nat) : lst (Txt.slice x (some (a : Int)) none) = (lst x).drop a := by
  rw [slice_list]
  unfold clipN
  simp only [show ¬ ((a : Int) < 0) by omega, if_false, Int.toNat_natCast]
  rw [← lst_length]
  by_cases ha : a ≤ (lst x).length
  · rw [Nat.min_eq_left ha, List.take_of_length_le (by rw [List.length_drop]; omega)]
  · rw [Nat.min_eq_right (by omega), List.drop_of_length_le (Nat.le_refl _), List.drop_of_length_le (by omega)]; simp
end Mine
end
section
open PySem PySem.W PyProof.Rows
namespace Mine
theorem D_sub {s : Nat → Nat → Nat} (C : Cost s) {a b : List Nat} (h : a.Sublist b) : (D s a b : Int) = 2 * ((b.length : Int) - a.length) := by
  have key : Al s a b (2 * (b.length - a.length)) := by
    induction h with
    | slnil => exact .nil
    | @cons a b x h ih =>
      have := h.length_le
      have e := Al.ins x ih
      rw [show 2 * ((x :: b).length - a.length) = 2 * (b.length - a.length) + 2 by simp only [List.length_cons]; omega]
      exact e
    | @cons_cons a b x h ih =>
      have e := Al.sub x x ih
      rw [C.same, Nat.add_zero] at e
      rw [show 2 * ((x :: b).length - (x :: a).length) = 2 * (b.length - a.length) by simp only [List.length_cons]; omega]
      exact e
  have h1 := D_le key
  have h2 := D_len s a b
  have := h.length_le
  omega
end Mine
end
section
open PySem PySem.W PyProof.Rows
namespace Mine
theorem dots_sub : ∀ (t : List Nat) (b : Bool), t.Sublist (dots b t)
  | [], b => by cases b <;> simp [dots]
  | c :: r, b => by
    rw [dots]
    split
    · rename_i h
      have hc : c = 46 := by simp at h; exact h.2
      subst hc
      exact ((dots_sub r _).cons_cons _).cons _
    · exact (dots_sub r _).cons_cons _
theorem dots_len : ∀ (t : List Nat) (b : Bool), (dots b t).length ≤ 2 * t.length
  | [], b => by cases b <;> simp [dots]
  | c :: r, b => by
    rw [dots]
    split
    · have := dots_len r false; simp only [List.length_cons]; omega
    · have := dots_len r (c == 10); simp only [List.length_cons]; omega
theorem crlf_len' : ∀ x : List Nat, (crlf x).length ≤ 2 * x.length := by
  intro x
  induction x using crlf.induct with
  | case1 => simp [crlf]
  | case2 r ih => simp only [crlf, List.length_cons]; omega
  | case3 c r h1 h2 ih => rw [crlf]; · rw [if_pos h2]; simp only [List.length_cons]; omega
                          · exact h1
  | case4 c r h1 h2 ih => rw [crlf]; · rw [if_neg h2]; simp only [List.length_cons]; omega
                          · exact h1
theorem sent_len (b : Bool) (x : Str) : (sentS b x).length ≤ 4 * x.length := by
  rw [← lst_length, lst_sentS]
  have h1 := dots_len (crlf (lst x)) b
  have h2 := crlf_len' (lst x)
  rw [lst_length] at h2
  omega
theorem front3 {o y z : Str} (h : lst y = lst o ++ lst z) (hl : (lst o).length = 5) : Txt.slice y none (some 3) = Txt.slice o none (some 3) := by
  refine str_ext ?_
  rw [show (3 : Int) = ((3 : Nat) : Int) from rfl, slice_to, slice_to, h, List.take_append_of_le_length (by omega)]
theorem front5 {o y z : Str} (h : lst y = lst o ++ lst z) (hl : (lst o).length = 5) : Txt.slice y (some 3) (some 5) = Txt.slice o (some 3) none := by
  refine str_ext ?_
  rw [show (3 : Int) = ((3 : Nat) : Int) from rfl, show (5 : Int) = ((5 : Nat) : Int) from rfl, slice_mid, slice_from, h, List.drop_append_of_le_length (by omega), List.take_append_of_le_length (by rw [List.length_drop]; omega), List.take_of_length_le (by rw [List.length_drop]; omega)]
theorem told_front {o y z : Str} (h : lst y = lst o ++ lst z) (hl : (lst o).length = 5) : told257 y = if (Txt.slice o (some 3) none != Str.ofString " \"") = true then Str.ofString "" else lawName z := by
  unfold told257
  rw [front5 h hl]
  by_cases hc : Txt.slice o (some 3) none = Str.ofString " \""
  · rw [if_pos hc, if_neg (by simp [hc])]
    refine str_ext ?_
    rw [lst_mk, lst_lawName, h, ← hl, List.drop_left]
  · rw [if_neg hc, if_pos (by simpa using hc)]
/-- the distances, told -/
theorem told_eq {S T : Str} {m r d : Int} (h : Told scost (lst S) (lst T) m r) (hd : (D scost (lst S) (lst T) : Int) = d) (hm : d ≤ m) : r = d := by
  have := h.1 (by omega); omega
theorem t_sub {S T : Str} {m r : Int} (h : Told scost (lst S) (lst T) m r) (hs : (lst S).Sublist (lst T)) (hm : 2 * ((T.length : Int) - S.length) ≤ m) : r = 2 * ((T.length : Int) - S.length) := by
  refine told_eq h ?_ hm
  rw [D_sub scost_cost hs, lst_length, lst_length]
end Mine
end
section
open PySem PySem.W PyProof.Rows
namespace Mine
/-- marks ahead of another sign, read -/
theorem marks_name {l : Nat} (hl : l ≠ 34) (t : List Nat) : ∀ (s : Nat), nameOf (List.replicate s 34 ++ l :: t) = List.replicate (s / 2) 34 ++ (if s % 2 = 0 then l :: nameOf t else [])
  | 0 => by simp [nameOf_other hl]
  | 1 => by
    show nameOf (34 :: l :: t) = _
    rw [nameOf_end (by simp [hl])]; simp
  | s + 2 => by
    have ih := marks_name hl t s
    rw [show List.replicate (s + 2) 34 ++ l :: t = 34 :: 34 :: (List.replicate s 34 ++ l :: t) by rw [List.replicate_succ, List.replicate_succ]; rfl, nameOf, ih, show (s + 2) / 2 = s / 2 + 1 by omega, List.replicate_succ, show (s + 2) % 2 = s % 2 by omega]
    rfl
theorem last_slice (x : Str) : lst (Txt.slice x (some (-1)) none) = (lst x).drop ((lst x).length - 1) := by
  rw [slice_list]
  unfold clipN
  rw [← lst_length]
  simp only [show ((-1 : Int) < 0) by decide, if_true]
  rw [show ((-1 : Int) + ((lst x).length : Int)).toNat = (lst x).length - 1 by omega, List.take_of_length_le (by rw [List.length_drop]; omega)]
/-- what is told of marks, a letter and a tail -/
theorem told_marks {x : Str} {s l : Nat} {t : List Nat} (hl : l ≠ 34) (ht : nameOf t = []) (h : lst x = [50, 53, 55, 32, 34] ++ (List.replicate s 34 ++ l :: t)) :
    lst (told257 x) = List.replicate (s / 2) 34 ++ (if s % 2 = 0 then [l] else []) := by
  have h1 := told_front (o := op1) (y := x) (z := ⟨(List.replicate s 34 ++ l :: t).toArray⟩) (by rw [lst_op1, lst_mk]; exact h) (by rw [lst_op1]; rfl)
  have h2 : (Txt.slice op1 (some 3) none != Str.ofString " \"") = false := by
    have : Txt.slice op1 (some 3) none = Str.ofString " \"" := str_ext (by rw [show (3 : Int) = ((3 : Nat) : Int) from rfl, slice_from, lst_op1, lst_bq]; rfl)
    simp [this]
  rw [h1, if_neg (by rw [h2]; exact Bool.false_ne_true), lst_lawName, lst_mk, marks_name hl, ht]
end Mine
end
section
open PySem PySem.W PyProof.Rows
namespace Mine
/-- the k-th reading's bit -/
def bitG (n k : Nat) : Bool := decide (n / 2 ^ k % 2 = 1)
def sigG (n k : Nat) : Nat := if bitG n k ≠ bitG n (k + 1) then 65 + k else 97 + k
def wordG (n : Nat) : List Nat := (List.range 4).map (sigG n)
/-- a count's word -/
def gw (n : Nat) : Str := ⟨(wordG n).toArray⟩
theorem lst_gw (n : Nat) : lst (gw n) = wordG n := by simp [gw, lst]
theorem gw_len (n : Nat) : (gw n).length = 4 := by rw [← lst_length, lst_gw]; simp [wordG]
theorem marks_mul (n : Nat) : lst (Txt.mul (Str.ofString "\"") (n : Int)) = List.replicate n 34 := by
  rw [qt1]
  exact (mul_one_list 34 n).trans (by simp)
theorem dots_mul (n : Nat) : lst (Txt.mul (Str.ofString ".") (n : Int)) = List.replicate n 46 := by
  rw [dot1]
  exact (mul_one_list 46 n).trans (by simp)
theorem x1 : Str.ofString "x" = ⟨#[120]⟩ := by decide +kernel
theorem lst_x : lst (Str.ofString "x") = [120] := by decide +kernel
theorem replC_rep (s : Nat) (t : List Nat) : replC 120 [] (List.replicate s 34 ++ t) = List.replicate s 34 ++ replC 120 [] t := by
  induction s with
  | zero => rfl
  | succ s ih => rw [List.replicate_succ, List.cons_append, replC, if_neg (by decide), ih]; rfl
/-- a turn's marks -/
theorem turn_marks {z : Str} {n k : Nat} (h : lst z = List.replicate (n / 2 ^ k / 2) 34 ++ (if n / 2 ^ k % 2 = 0 then [120] else [])) :
    lst (Txt.replace z (Str.ofString "x") (Str.ofString "")) = List.replicate (n / 2 ^ (k + 1)) 34 := by
  rw [x1, replace_one, empty_lst, h, replC_rep, Nat.div_div_eq_div_mul, ← Nat.pow_succ]
  split <;> simp [replC]
theorem turn_bit {z : Str} {n k : Nat} (h : lst z = List.replicate (n / 2 ^ k / 2) 34 ++ (if n / 2 ^ k % 2 = 0 then [120] else [])) :
    (Txt.slice z (some (-1)) none != Str.ofString "x") = bitG n k := by
  have e := last_slice z
  rw [h] at e
  unfold bitG
  by_cases h0 : n / 2 ^ k % 2 = 0
  · rw [if_pos h0] at e
    have : Txt.slice z (some (-1)) none = Str.ofString "x" := str_ext (by rw [e, lst_x]; simp)
    rw [this]
    simp [h0]
  · rw [if_neg h0] at e
    have hn : Txt.slice z (some (-1)) none ≠ Str.ofString "x" := by
      intro hh
      rw [hh, lst_x] at e
      have : (120 : Nat) ∈ List.replicate (n / 2 ^ k / 2) 34 := by
        have : 120 ∈ [120] := .head _
        rw [e] at this
        simpa using List.mem_of_mem_drop this
      have := List.eq_of_mem_replicate this
      omega
    have h1 : n / 2 ^ k % 2 = 1 := by omega
    rw [decide_eq_true h1]
    simpa using hn
end Mine
end
section
open PySem PySem.W PyProof.Rows
namespace Mine
theorem joinL_flat : ∀ ps : List (List Nat), joinL [] ps = ps.flatten
  | [] => rfl
  | [q] => by simp [joinL]
  | q :: r :: t => by
    rw [joinL_cons [] q (by simp), joinL_flat (r :: t)]
    simp
theorem flat_one (f : Nat → Nat) (l : List Nat) : (l.map fun i => [f i]).flatten = l.map f := by
  induction l with
  | nil => rfl
  | cons a l ih => simp [ih]
theorem join_vals : ∀ (ys : List Value) (f : Nat → Nat), (∀ i y, ys[i]? = some y → ∃ t, y = Value.str ⟨#[f i]⟩ t) → ∃ l : List (Str × Tok), strValues l = ys ∧ l.map (·.1) = (List.range ys.length).map (fun i => ⟨#[f i]⟩)
  | [], _, _ => ⟨[], rfl, rfl⟩
  | y :: r, f, h => by
    obtain ⟨t, e⟩ := h 0 y rfl
    obtain ⟨l, h1, h2⟩ := join_vals r (fun i => f (i + 1)) fun i z hz => h (i + 1) z hz
    refine ⟨(⟨#[f 0]⟩, t) :: l, ?_, ?_⟩
    · rw [e, ← h1]; rfl
    · rw [List.map_cons, h2, List.length_cons, List.range_succ_eq_map, List.map_cons, List.map_map]; rfl
theorem len_sum (f : Nat → Nat) (l : List Nat) : ((l.map fun i => (⟨#[f i]⟩ : Str)).map (·.length)).sum = l.length := by
  induction l with
  | nil => rfl
  | cons a l ih =>
    simp only [List.map_cons, List.sum_cons, List.length_cons, ih]
    show 1 + _ = _
    omega
theorem join_f {prog : Program} {w : World} {A : Around} {E : Value → Shared → Prop} {s : Shared} {Q : Value → Shared → Prop} {D : Addr} {ys : List Value} {t : Tok} (f : Nat → Nat) (hl : s.heap.IsList D ys.toArray) (hy : ∀ i y, ys[i]? = some y → ∃ t, y = Value.str ⟨#[f i]⟩ t) (hn : ys.length ≤ 100)
    (h : ∀ t' k, Q (Value.str ⟨((List.range ys.length).map f).toArray⟩ t') { s with toks := k }) : wpAny (model prog w) A (call (.builtin "str.join") [.str (Str.ofString "") t, .ref D]) Q E s := by
  obtain ⟨l, h1, h2⟩ := join_vals ys f hy
  have hz : (Str.ofString "").length = 0 := by decide
  have h3 : l.length = ys.length := by have := congrArg List.length h2; simpa using this
  refine SC.join (l := l) (texts := l.map (·.1)) (by rw [h1]; exact hl) rfl (joinOk_of (by rw [h2, len_sum, hz, List.length_range, Nat.mul_zero]; exact Nat.le_trans hn (by decide))) fun t' k => ?_
  have e : Txt.join (Str.ofString "") (l.map (·.1)) = ⟨((List.range ys.length).map f).toArray⟩ := by
    refine str_ext ?_
    rw [txt_join, empty_lst, h2, joinL_flat, List.map_map]
    exact (flat_one f _).trans (by simp [lst])
  rw [e]
  exact h t' k
theorem items_up : ∀ k : Fin 4, Txt.item (Str.ofString "ABCD") (k.val : Int) = ⟨#[65 + k.val]⟩ := by decide +kernel
theorem items_dn : ∀ k : Fin 4, Txt.item (Str.ofString "abcd") (k.val : Int) = ⟨#[97 + k.val]⟩ := by decide +kernel
theorem el_up {n k : Nat} (hk : k < 4) (h : (bitG n k != bitG n (k + 1)) = true) : Txt.item (Str.ofString "ABCD") (k : Int) = ⟨#[sigG n k]⟩ := by
  rw [items_up ⟨k, hk⟩]
  unfold sigG
  rw [if_pos (by simpa using h)]
theorem el_dn {n k : Nat} (hk : k < 4) (h : (bitG n k != bitG n (k + 1)) = false) : Txt.item (Str.ofString "abcd") (k : Int) = ⟨#[sigG n k]⟩ := by
  rw [items_dn ⟨k, hk⟩]
  unfold sigG
  rw [if_neg (by simpa using h)]
theorem gray_all : ∀ n : Fin 17, ∀ k : Fin 4, decide ((((n.val : Int) + 2 ^ Int.toNat (k.val : Int)).fdiv (2 ^ ((k.val : Int) + 1).toNat)).fmod 2 ≠ 0) = (bitG n.val k.val != bitG n.val (k.val + 1)) := by decide +kernel
theorem gray_up {n k : Nat} (hn : n ≤ 16) (hk : k < 4) (h : (((n : Int) + 2 ^ Int.toNat (k : Int)).fdiv (2 ^ ((k : Int) + 1).toNat)).fmod 2 ≠ 0) : Txt.item (Str.ofString "ABCD") (k : Int) = ⟨#[sigG n k]⟩ :=
  el_up hk ((gray_all ⟨n, by omega⟩ ⟨k, hk⟩).symm.trans (decide_eq_true h))
theorem gray_dn {n k : Nat} (hn : n ≤ 16) (hk : k < 4) (h : (((n : Int) + 2 ^ Int.toNat (k : Int)).fdiv (2 ^ ((k : Int) + 1).toNat)).fmod 2 = 0) : Txt.item (Str.ofString "abcd") (k : Int) = ⟨#[sigG n k]⟩ :=
  el_dn hk ((gray_all ⟨n, by omega⟩ ⟨k, hk⟩).symm.trans (decide_eq_false (by simpa using h)))
end Mine
end
section
open PySem PySem.W PyProof.Rows
namespace Mine
section
variable {prog : Program} {w : World} {A : Around} {E : Value → Shared → Prop} {s : Shared} {h₀ : Heap} {L D : Addr} {news : List (Addr × Obj)}
/-- an item of a list of the ledger, at a place told by a hypothesis -/
theorem led_item {value slice : PySem.Expr} {Q : Value → Shared → Prop} {ys : List Value} {n : Nat} {k : Int} {u : Tok} {v : Value} (N : News h₀ L s.heap news) (hm : (D, PySem.W.listOf ys.toArray n) ∈ news) (h0 : 0 ≤ k) (hk : k ≤ 64) (hv : ys[k.toNat]? = some v) (h : Q v s)
    (hs : subscripted slice false (.ref D) (.int k u) = operate [.ref D, .int k u] (getItem (.ref D) (.int k u)) := by with_unfolding_all rfl) :
    wpAny (model prog w) A (subscriptTail value slice (.ref D) (.int k u)) Q E s := by
  have hl : s.heap.IsList D ys.toArray := PySem.IsL.isList (n := n) (N _ hm).1
  exact tail_any hl.typeIs slot_list_getitem.lookup (wpAny_getItem_list hl h0 (by omega) (by rw [List.getElem?_toArray]; exact hv) h) hs
/-- an item of a tuple of the ledger, of which a property is known -/
theorem tup_prop {value slice : PySem.Expr} {Q : Value → Shared → Prop} {ys : List Value} {k : Int} {u : Tok} (N : News h₀ L s.heap news) (hm : (D, ({ cls := .type "tuple", data := .seq ys.toArray } : Obj)) ∈ news) (h0 : 0 ≤ k) (hk : k < ys.length) (hz : ys.length ≤ 64)
    (h : ∀ v, ys[k.toNat]? = some v → Q v s)
    (hs : subscripted slice false (.ref D) (.int k u) = operate [.ref D, .int k u] (getItem (.ref D) (.int k u)) := by with_unfolding_all rfl) :
    wpAny (model prog w) A (subscriptTail value slice (.ref D) (.int k u)) Q E s := by
  have ht : IsTup s.heap D ys.toArray := News.isTup N hm
  have hlt : k.toNat < ys.length := by omega
  have e : ys[k.toNat]? = some ys[k.toNat] := List.getElem?_eq_getElem hlt
  have hj : seqIndex? k ys.length = some k.toNat := by
    unfold seqIndex?
    simp only [show ¬ (k < 0) by omega, if_false, h0, hk, decide_true, Bool.and_self, if_true]
  exact item_tupleT (j := k.toNat) ht (by omega) (by omega) hj e (h _ e) hs
end
end Mine
end
section
open PySem PySem.W PyProof.Rows
namespace Mine
theorem nat_in {c : Int} {n : Nat} (h0 : 0 ≤ c) (h1 : c < (n : Int)) : ∃ k : Nat, 1 + c = (k : Int) ∧ 1 ≤ k ∧ k ≤ n := ⟨(1 + c).toNat, by omega, by omega, by omega⟩
theorem nat_of {c : Int} {n : Nat} (h0 : 0 ≤ c) (h1 : c < (n : Int)) : ∃ k : Nat, c = (k : Int) ∧ k < n := ⟨c.toNat, by omega, by omega⟩
local macro_rules | `(tactic| walk_at "own item") => `(tactic| 
  ((with_reducible show wpAny _ _ (subscriptTail (Expr.Name _ _) _ (Value.ref _) (Value.int _ _)) _ _ _); (with_reducible rename News _ _ _ _ => N'); k_dflt (refine' led_item N' ?m ?a ?b ?c ?_ ?d; (case m => k_mem); (case a => decide); (case b => decide); (case c => exact rfl); (case d => with_unfolding_all rfl))))
section
variable {fa lc : Addr} {w : World} {p : Program} {loose : List Str} {mean : ExcName → Option Value} {mg mb : Str → Option Value} {base h₀ : Heap} {m : Str → Option Value} {s : Shared} {Q : Flow → Shared → Prop}
set_option maxRecDepth 100000 in
set_option maxHeartbeats 400000 in
theorem law_counts {L' D : Addr} {rest : List (Addr × Obj)} {c0 c1 c2 c3 c4 : Int} {t0 t1 t2 t3 t4 : Tok}
    (B : Below callerA base [] h₀) (X : (Mine.hd.heap_39 w.params).In h₀) (T : Top p loose mean mg mb h₀)
    (F : Fr h₀ L' s.heap (fun z => if z = Str.ofString "cells" then some (.ref D) else m z)) (N : News h₀ L' s.heap ((D, LCg.lst [.int c0 t0, .int c1 t1, .int c2 t2, .int c3 t3, .int c4 t4]) :: rest))
    (ret : ∀ (n0 n1 n2 k : Nat) C vs j tk h' tk' u, 1 ≤ n0 → n0 ≤ 11 → 1 ≤ n1 → n1 ≤ 11 → n2 ≤ 15 → 1 ≤ k → k ≤ 4 → @LT.lt Nat _ D C → IntsAre vs [(n0 : Int), (n1 : Int), (n2 : Int), ((n0 + k : Nat) : Int), ((n1 + k : Nat) : Int), (n2 : Int)] → Fr h₀ L' h' (kstB u [(Str.ofString "times", .int (k : Int) tk), (Str.ofString "counts", .ref C), (Str.ofString "cells", .ref D)]) → News h₀ L' h' ((C, PySem.W.listOf vs.toArray j) :: (D, LCg.lst [.int c0 t0, .int c1 t1, .int c2 t2, .int c3 t3, .int c4 t4]) :: rest) → Q .next { s with heap := h', toks := tk' }) :
    wpAny (model PySem.Challenge.rw_rs0052_02.prog w) (callerA.deeper (envOfC (Str.ofString "law") (scopeAt PySem.Challenge.rw_rs0052_02.prog 20) L' fa (.ref lc)))
      (execs (((stmtsAt PySem.Challenge.rw_rs0052_02.prog 20).drop 1).take 3) (envOfC (Str.ofString "law") (scopeAt PySem.Challenge.rw_rs0052_02.prog 20) L' fa (.ref lc))) Q (fun _ _ => False) s := by
  k_with_none
  w_top off
  revert X
  k_fill
  intro X
  conv in (occs := *) scopeAt _ _ => all_goals whnf
  conv in (occs := *) List.drop _ _ => all_goals whnf
  simp only [List.take_succ_cons, List.take_zero]
  (repeat' ((fail_if_success (with_reducible show wpAny _ _ (execs [] _) _ _ _)); first | walk_at "own item" | ((fail_if_success (with_reducible show wpAny _ _ (subscriptTail _ _ (Value.ref _) _) _ _ _)); first | walk1 | (dsimp only; walk1))))
  all_goals ((rename Fr _ _ _ _ => F9); (rename News _ _ _ _ => N9))
  obtain ⟨n0, e0, a0, b0⟩ : ∃ n : Nat, 1 + c0.fmod 11 = (n : Int) ∧ 1 ≤ n ∧ n ≤ 11 := nat_in (fmod_lo (by decide)) (fmod_hi (by decide))
  obtain ⟨n1, e1, a1, b1⟩ : ∃ n : Nat, 1 + c1.fmod 11 = (n : Int) ∧ 1 ≤ n ∧ n ≤ 11 := nat_in (fmod_lo (by decide)) (fmod_hi (by decide))
  obtain ⟨n2, e2, b2⟩ : ∃ n : Nat, c2.fmod 16 = (n : Int) ∧ n < 16 := nat_of (fmod_lo (by decide)) (fmod_hi (by decide))
  obtain ⟨k, e3, a3, b3⟩ : ∃ n : Nat, 1 + c3.fmod 4 = (n : Int) ∧ 1 ≤ n ∧ n ≤ 4 := nat_in (fmod_lo (by decide)) (fmod_hi (by decide))
  rw [e0, e1, e2, e3, ← Int.natCast_add, ← Int.natCast_add] at N9
  rw [e3] at F9
  refine wpAny_execs_nil ?_
  obtain ⟨u9, F8⟩ := fr_some [(Str.ofString "times", .int (k : Int) _), (Str.ofString "counts", .ref _), (Str.ofString "cells", .ref D)] (by kst_all) F9
  exact ret n0 n1 n2 k _ _ _ _ _ _ u9 a0 b0 a1 b1 (by omega) a3 b3 (And.left (by assumption : _ ∧ AllLt _ rest)) (.cons _ _ (.cons _ _ (.cons _ _ (.cons _ _ (.cons _ _ (.cons _ _ .nil)))))) F8 (cb_drop N9 fun p hp => List.mem_cons_of_mem _ hp)
end
end Mine
end
section
open PySem PySem.W PyProof.Rows
namespace Mine
/-- sent, so many times -/
def qN : Nat → Str → Str
  | 0, x => x
  | n + 1, x => quoted (qN n x)
theorem quoted_len (x : Str) : (quoted x).length ≤ 4 * x.length := sent_len true x
theorem qN_len {x : Str} {N : Nat} (h : x.length ≤ N) : ∀ n, (qN n x).length ≤ 4 ^ n * N
  | 0 => by simpa [qN] using h
  | n + 1 => by
    have h1 := qN_len h n
    have h2 := quoted_len (qN n x)
    have e : 4 ^ (n + 1) * N = 4 * (4 ^ n * N) := by rw [Nat.pow_succ, Nat.mul_comm (4 ^ n) 4, Nat.mul_assoc]
    rw [e]
    exact Nat.le_trans h2 (Nat.mul_le_mul_left _ h1)
theorem qN_in {x : Str} (h : x.length ≤ 1000) {n : Nat} (hn : n ≤ 4) : (qN n x).length ≤ 256000 := by
  have h1 := qN_len h n
  have h2 : 4 ^ n ≤ 256 := Nat.le_trans (Nat.pow_le_pow_right (by decide) hn) (by decide)
  have h3 : 4 ^ n * 1000 ≤ 256 * 1000 := Nat.mul_le_mul_right _ h2
  omega
end Mine
end
section
open PySem PySem.W PyProof.Rows
namespace Mine
local macro_rules | `(tactic| walk_at "own call") => `(tactic| (
  (with_reducible show wpAny _ _ (call (Value.ref 94) _) _ _ _);
  (with_reducible rename Fr _ _ _ _ => F');
  (with_reducible rename News _ _ _ _ => N');
  k_dflt (refine' quote_r ?B F' ?X N' ?T ?K ?x ?D ?U ?_; (case B => k_asm); (case X => k_asm); (case T => k_asm); (case K => exact rfl); (case x => omega); (case D => ktr_room); (case U => ktr_units)); intro t9 h9 tk9 F9 N9; (try dsimp only)))
section
variable {w : World} {p : Program} {loose : List Str} {mean : ExcName → Option Value} {mg mb : Str → Option Value} {dp un : Nat} {gd : Option (List Code)} {cn : Str} {cs : Scope} {a : Addr} {ccd : Value} {cl : List (Str × Addr)} {outer : List Env} {A₀ : Around} {base h₀ : Heap} {L : Addr} {m : Str → Option Value} {s : Shared} {news : List (Addr × Obj)}
set_option maxRecDepth 100000 in
set_option maxHeartbeats 2000000 in
theorem lsent_r {Q E : Value → Shared → Prop} {x : Str} {k : Nat} {tx tk₀ : Tok} (B : Below A₀ base outer h₀) (F : Fr h₀ L s.heap m) (X : (Mine.hd.heap_39 w.params).In h₀) (N : News h₀ L s.heap news) (T : Top p loose mean mg mb h₀) (hk : cs.kind = .function)
    (hx : x.length ≤ 1000) (hk4 : k ≤ 4) (hroom : dp + 5 < recursionLimit) (hunits : un + 80 < cLine)
    (ret : ∀ (t : Tok) (h' : Heap) (tk' : Nat), Fr h₀ L h' m → News h₀ L h' news → Q (.str (qN k x) t) { s with heap := h', toks := tk' }) :
    wpAny (model PySem.Challenge.rw_rs0052_02.prog w) (ktrTop dp un gd cn cs L a ccd cl outer) (call (.ref 101) [.str x tx, .int (k : Int) tk₀]) Q E s := by
  k_with_none
  w_top off
  revert X
  k_fill
  intro X
  refine wpAny_call ?_
  k_dflt cell_enter
  rename Fr _ _ _ _ => F1
  obtain ⟨u, F2⟩ := fr_some [(Str.ofString "text", .str x tx), (Str.ofString "times", .int (k : Int) tk₀)] (by kst_all) F1
  clear F1
  dsimp only [kstB] at F2
  (repeat' ((fail_if_success (with_reducible show wpAny _ _ (pyIter _) _ _ _)); (fail_if_success (with_reducible show wpAny _ _ (exec (Stmt.For _ _ _ _ _) _) _ _ _)); (fail_if_success (with_reducible show InvPostN _ _ _ _ _ _ _ _ _)); (fail_if_success (with_reducible show InvEndN _ _ _ _ _ _ _)); first | walk_at "own call" | ((fail_if_success (with_reducible show wpAny _ _ (call (Value.ref _) _) _ _ _)); first | (k_unfold; (try dsimp only)) | (k_end; wrow_close) | walk1 | (dsimp only; walk1) | (leave1; walk_say "STEP leave1"; try dsimp only) | fail "no step")))
  (rename Fr _ _ _ _ => lF');
  k_dflt (refine' For_invVF lF' ?k1 ?k2 ?_; (case k1 => exact rfl); (case k2 => exact rfl));
  (repeat' ((fail_if_success (with_reducible show wpAny _ _ (pyIter _) _ _ _)); (fail_if_success (with_reducible show wpAny _ _ (exec (Stmt.For _ _ _ _ _) _) _ _ _)); (fail_if_success (with_reducible show InvPostN _ _ _ _ _ _ _ _ _)); (fail_if_success (with_reducible show InvEndN _ _ _ _ _ _ _)); first | walk_at "own call" | ((fail_if_success (with_reducible show wpAny _ _ (call (Value.ref _) _) _ _ _)); first | (k_unfold; (try dsimp only)) | (k_end; wrow_close) | walk1 | (dsimp only; walk1) | (leave1; walk_say "STEP leave1"; try dsimp only) | fail "no step")))
  (rename Fr _ _ _ _ => lF'); (rename News _ _ _ _ => lN'); (rename IsRange _ _ _ _ _ _ _ _ => rgX)
  (with_unfolding_all refine' kst_range (σ := Str × Tok) (fun _ => news) (fun c => [(Str.ofString "text", .str c.1 c.2)]) (fun _ => True) [] (fun pre c => c.1 = qN pre.length x) (x, tx) (by rfl) rgX (small_one (by omega) (by omega) (by omega) (by omega)) (rangeSize_nat _ _) lF' lN' trivial (by kst_all) ?_ ?_ ?_)
  all_goals (clear lF' lN' rgX)
  · rfl
  · rintro ⟨y, ty⟩ pre k2 t u h tk own hk2 hlt hoff hI hP hF hN
    dsimp only at hP hN
    dsimp only [kstB] at hF
    have hyl : y.length ≤ 256000 := by rw [hP]; exact qN_in hx (by omega)
    (repeat' ((fail_if_success (with_reducible show wpAny _ _ (pyIter _) _ _ _)); (fail_if_success (with_reducible show wpAny _ _ (exec (Stmt.For _ _ _ _ _) _) _ _ _)); (fail_if_success (with_reducible show InvPostN _ _ _ _ _ _ _ _ _)); (fail_if_success (with_reducible show InvEndN _ _ _ _ _ _ _)); first | walk_at "own call" | ((fail_if_success (with_reducible show wpAny _ _ (call (Value.ref _) _) _ _ _)); first | (k_unfold; (try dsimp only)) | (k_end; wrow_close) | walk1 | (dsimp only; walk1) | (leave1; walk_say "STEP leave1"; try dsimp only) | fail "no step")))
    (rename Fr _ _ _ _ => F9); (rename News _ _ _ _ => N9)
    dsimp only [InvPostN]
    refine' kst_end (quoted y, _) F9 N9 ?hn ?ho ?ha ?hf ?hk ?hr ?hp
    (case hn => exact fun p hp => List.mem_append_left _ hp)
    (case ho => exact fun p hp => List.mem_append_right _ hp)
    (case ha => rfl)
    (case hf => trivial)
    (case hk => kst_all)
    (case hr => kst_same)
    (case hp => (dsimp only; rw [show (pre ++ [k2]).length = pre.length + 1 by simp, hP]; rfl))
  · rintro ⟨y, ty⟩ u h tk hI hP hF hN
    dsimp only at hP hN
    rw [rangeKs_length] at hP
    dsimp only [kstB] at hF
    (repeat' ((fail_if_success (with_reducible show wpAny _ _ (pyIter _) _ _ _)); (fail_if_success (with_reducible show wpAny _ _ (exec (Stmt.For _ _ _ _ _) _) _ _ _)); (fail_if_success (with_reducible show InvPostN _ _ _ _ _ _ _ _ _)); (fail_if_success (with_reducible show InvEndN _ _ _ _ _ _ _)); first | walk_at "own call" | ((fail_if_success (with_reducible show wpAny _ _ (call (Value.ref _) _) _ _ _)); first | (k_unfold; (try dsimp only)) | (k_end; wrow_close) | walk1 | (dsimp only; walk1) | (leave1; walk_say "STEP leave1"; try dsimp only) | fail "no step")))
    (rename Fr _ _ _ _ => F9); (rename News _ _ _ _ => N9)
    rw [hP]
    exact ret _ _ _ F9 N9
end
end Mine
end
section
open PySem PySem.W PyProof.Rows
namespace Mine
def DF (s : Nat → Nat → Nat) : Nat → List Nat → List Nat → Nat
  | 0, _, _ => 0
  | _ + 1, [], b => 2 * b.length
  | _ + 1, _ :: a, [] => 2 * (a.length + 1)
  | f + 1, x :: a, y :: b => min (DF s f a b + s x y) (min (DF s f a (y :: b) + 2) (DF s f (x :: a) b + 2))
def lowN (x : Nat) : Nat := if Nat.ble 97 x then x else x + 32
def c2 (x y : Nat) : Nat := if Nat.beq x y then 0 else if Nat.beq (lowN x) (lowN y) then 1 else 2
def sigs : List Nat := [65, 66, 67, 68, 97, 98, 99, 100, 120]
theorem c2_is : ∀ x ∈ sigs, ∀ y ∈ sigs, scost x y = c2 x y := by decide +kernel
theorem DF_eq : ∀ (f : Nat) (a b : List Nat), a.length + b.length < f → (∀ x ∈ a, x ∈ sigs) → (∀ x ∈ b, x ∈ sigs) → DF c2 f a b = D scost a b
  | 0, _, _, h, _, _ => absurd h (Nat.not_lt_zero _)
  | f + 1, [], b, h, _, _ => by rw [D_nil]; rfl
  | f + 1, x :: a, [], h, _, _ => by rw [D_nil']; rfl
  | f + 1, x :: a, y :: b, h, ha, hb => by
    simp only [List.length_cons] at h
    have a' : ∀ z ∈ a, z ∈ sigs := fun z hz => ha z (.tail _ hz)
    have b' : ∀ z ∈ b, z ∈ sigs := fun z hz => hb z (.tail _ hz)
    rw [D_cons, DF, DF_eq f a b (by omega) a' b', DF_eq f a (y :: b) (by simp; omega) a' hb, DF_eq f (x :: a) b (by simp; omega) ha b', c2_is x (ha x (.head _)) y (hb y (.head _))]
/-- how many of the first letters are otherwise -/
def ham (n a b : Nat) : Nat := ((List.range n).filter fun k => decide (sigG a k ≠ sigG b k)).length
theorem word_sigs : ∀ a : Fin 16, ∀ x ∈ wordG a.val, x ∈ sigs := by decide +kernel
theorem word_all : ∀ a b : Fin 16, DF c2 9 (wordG a.val) (wordG b.val) = ham 4 a.val b.val ∧ (ham 4 a.val b.val = 0 ∨ 2 ^ ham 4 a.val b.val < 3 * ((a.val : Int) - b.val).natAbs) := by decide +kernel
theorem shift_all : ∀ a b : Fin 16, DF c2 9 (wordG a.val) (120 :: (wordG b.val).take 3) = 4 + ham 3 a.val b.val := by decide +kernel
theorem word_len (a : Nat) : (wordG a).length = 4 := by simp [wordG]
theorem D_word {a b : Nat} (ha : a ≤ 15) (hb : b ≤ 15) : D scost (wordG a) (wordG b) = ham 4 a b := by
  rw [← DF_eq 9 _ _ (by rw [word_len, word_len]; decide) (word_sigs ⟨a, by omega⟩) (word_sigs ⟨b, by omega⟩)]
  exact (word_all ⟨a, by omega⟩ ⟨b, by omega⟩).1
theorem yuen {a b : Nat} (ha : a ≤ 15) (hb : b ≤ 15) : ham 4 a b = 0 ∨ 2 ^ ham 4 a b < 3 * ((a : Int) - b).natAbs := (word_all ⟨a, by omega⟩ ⟨b, by omega⟩).2
theorem D_shift {a b : Nat} (ha : a ≤ 15) (hb : b ≤ 15) : D scost (wordG a) (120 :: (wordG b).take 3) = 4 + ham 3 a b := by
  rw [← DF_eq 9 _ _ (by simp [word_len]) (word_sigs ⟨a, by omega⟩) (fun x hx => ?_)]
  · exact shift_all ⟨a, by omega⟩ ⟨b, by omega⟩
  · rcases List.mem_cons.mp hx with rfl | hx
    · decide
    · exact word_sigs ⟨b, by omega⟩ x (List.mem_of_mem_take hx)
theorem ham_le (n a b : Nat) : ham n a b ≤ n := by
  unfold ham
  have := List.length_filter_le (fun k => decide (sigG a k ≠ sigG b k)) (List.range n)
  simpa using this
end Mine
end
section
open PySem PySem.W PyProof.Rows
namespace Mine
/-- a row of dots -/
def dotsS (n : Nat) : Str := ⟨(List.replicate n 46).toArray⟩
/-- a row of dots behind an o -/
def oDots (n : Nat) : Str := ⟨(111 :: List.replicate n 46).toArray⟩
theorem lst_dots (n : Nat) : lst (dotsS n) = List.replicate n 46 := by simp [dotsS, lst]
theorem lst_oDots (n : Nat) : lst (oDots n) = 111 :: List.replicate n 46 := by simp [oDots, lst]
theorem dots_len' (n : Nat) : (dotsS n).length = n := by rw [← lst_length, lst_dots, List.length_replicate]
theorem oDots_len (n : Nat) : (oDots n).length = n + 1 := by rw [← lst_length, lst_oDots, List.length_cons, List.length_replicate]
theorem dots_is (n : Nat) : Txt.mul (Str.ofString ".") (n : Int) = dotsS n := str_ext (by rw [dots_mul, lst_dots])
theorem lst_o : lst (Str.ofString "o") = [111] := by decide +kernel
theorem o_is (n : Nat) : Str.ofString "o" ++ dotsS n = oDots n := str_ext (by rw [lst_app, lst_o, lst_dots, lst_oDots]; rfl)
theorem dots_count (n : Nat) : Txt.count (dotsS n) (Str.ofString ".") = (n : Int) := by
  rw [dot1, count_one, lst_dots, List.count_replicate_self]
theorem oDots_count (n : Nat) : Txt.count (oDots n) (Str.ofString ".") = (n : Int) := by
  rw [dot1, count_one, lst_oDots, List.count_cons_of_ne (by decide), List.count_replicate_self]
theorem one_ok {x : Str} {n : Nat} (hx : x.length = 1) (h : n ≤ 1000) : MulOk x (n : Int) := by
  refine ⟨?_, fun h1 h2 => ?_, fun h1 h2 => ?_⟩
  · rw [decide_eq_false (by omega), decide_eq_false (by omega)]; rfl
  · rw [hx]
    have : (1 : Int) ≤ (2 ^ 63 - 1) / (n : Int) := by
      rw [Int.le_ediv_iff_mul_le (by omega)]
      omega
    omega
  · rw [hx, Nat.one_mul]
    show decide (((n : Int).toNat) > sizeLine) = false
    rw [decide_eq_false]
    have : sizeLine = 16777216 := by decide
    omega
theorem map_lst_inj : ∀ l1 l2 : List Str, l1.map lst = l2.map lst → l1 = l2
  | [], [], _ => rfl
  | [], _ :: _, h => by simp at h
  | _ :: _, [], h => by simp at h
  | a :: r, b :: t, h => by
    simp only [List.map_cons, List.cons.injEq] at h
    rw [str_ext h.1, map_lst_inj r t h.2]
section
variable {prog : Program} {w : World} {A : Around} {E : Value → Shared → Prop} {s : Shared} {h₀ : Heap} {L : Addr} {m : Str → Option Value} {news : List (Addr × Obj)} {Q : Value → Shared → Prop}
theorem len_dot1 : (Str.ofString ".").length = 1 := by decide +kernel
/-- dots made -/
theorem mul_dots {n : Nat} {t u : Tok} (hn : n ≤ 1000) (h : ∀ t' k, (dotsS n).length = n → Q (.str (dotsS n) t') { s with toks := k }) : wpAny (model prog w) A (binaryOp .Mult (.str (Str.ofString ".") t) (.int (n : Int) u)) Q E s :=
  SB.mul (one_ok len_dot1 hn) fun t' k => by rw [dots_is]; exact h t' k (dots_len' n)
theorem add_o {n : Nat} {t u : Tok} (hn : n ≤ 1000) (h : ∀ t' k, (oDots n).length = n + 1 → Q (.str (oDots n) t') { s with toks := k }) : wpAny (model prog w) A (binaryOp .Add (.str (Str.ofString "o") t) (.str (dotsS n) u)) Q E s := by
  refine SBL.add (fun t' k _ => ?_) ?_
  · rw [o_is]; exact h t' k (oDots_len n)
  · rw [dots_len', show (Str.ofString "o").length = 1 by decide +kernel]
    have : sizeLine = 16777216 := by decide
    omega
/-- two texts, one behind the other -/
theorem add_txt {x y : Str} {t u : Tok} (hx : x.length ≤ 10000) (hy : y.length ≤ 10000) (h : ∀ t' k, (x ++ y).length = x.length + y.length → Q (.str (x ++ y) t') { s with toks := k }) : wpAny (model prog w) A (binaryOp .Add (.str x t) (.str y u)) Q E s := by
  refine SBL.add (fun t' k _ => h t' k (Str.length_append x y)) ?_
  have : sizeLine = 16777216 := by decide
  omega
/-- a line end -/
theorem end_item {value slice : PySem.Expr} {D : Addr} {k : Int} {u t0 t1 t2 : Tok} (N : News h₀ L s.heap news) (hm : (D, ({ cls := .type "tuple", data := .seq #[.str (Str.ofString "\n") t0, .str (Str.ofString "\x0d") t1, .str (Str.ofString "\x0d\n") t2] } : Obj)) ∈ news) (h0 : 0 ≤ k) (hk : k < 3)
    (h : ∀ e t, isEnd (lst e) → e.length ≤ 2 → Q (.str e t) s)
    (hs : subscripted slice false (.ref D) (.int k u) = operate [.ref D, .int k u] (getItem (.ref D) (.int k u)) := by with_unfolding_all rfl) :
    wpAny (model prog w) A (subscriptTail value slice (.ref D) (.int k u)) Q E s := by
  refine tup_prop (ys := [_, _, _]) N hm h0 hk (by show 3 ≤ 64; decide) (fun v hv => ?_) hs
  rcases (by omega : k = 0 ∨ k = 1 ∨ k = 2) with rfl | rfl | rfl
  · cases hv; exact h _ _ (.inl (by decide +kernel)) (by decide +kernel)
  · cases hv; exact h _ _ (.inr (.inl (by decide +kernel))) (by decide +kernel)
  · cases hv; exact h _ _ (.inr (.inr (by decide +kernel))) (by decide +kernel)
/-- what stands behind a reply -/
theorem tail_item {value slice : PySem.Expr} {D : Addr} {k : Int} {u t0 t1 t2 : Tok} {z : Str} (hz : nameOf (lst z) = [] ∧ z.length ≤ 3) (N : News h₀ L s.heap news) (hm : (D, ({ cls := .type "tuple", data := .seq #[.str (Str.ofString "") t0, .str (Str.ofString "\"") t1, .str z t2] } : Obj)) ∈ news) (h0 : 0 ≤ k) (hk : k < 3)
    (h : ∀ e t, nameOf (lst e) = [] → e.length ≤ 3 → Q (.str e t) s)
    (hs : subscripted slice false (.ref D) (.int k u) = operate [.ref D, .int k u] (getItem (.ref D) (.int k u)) := by with_unfolding_all rfl) :
    wpAny (model prog w) A (subscriptTail value slice (.ref D) (.int k u)) Q E s := by
  refine tup_prop (ys := [_, _, _]) N hm h0 hk (by show 3 ≤ 64; decide) (fun v hv => ?_) hs
  rcases (by omega : k = 0 ∨ k = 1 ∨ k = 2) with rfl | rfl | rfl
  · cases hv; exact h _ _ (by rw [empty_lst]; simp [nameOf]) (by decide +kernel)
  · cases hv; exact h _ _ (by rw [show lst (Str.ofString "\"") = [34] by decide +kernel]; simp [nameOf]) (by decide +kernel)
  · cases hv; exact h _ _ hz.1 hz.2
theorem tail_x : nameOf (lst (Str.ofString "\" x")) = [] ∧ (Str.ofString "\" x").length ≤ 3 := ⟨by rw [show lst (Str.ofString "\" x") = [34, 32, 120] by decide +kernel]; simp [nameOf], by decide +kernel⟩
/-- three rows cut -/
theorem split_three {x a b c : Str} {t u : Tok} (F : Fr h₀ L s.heap m) (N : News h₀ L s.heap news) (hx : x.length ≤ 1000000) (hs : (Txt.split x ⟨#[13, 10]⟩).map lst = [lst a, lst b, lst c])
    (h : ∀ D t0 t1 t2 h' k, Fr h₀ L h' m → News h₀ L h' ((D, PySem.W.listOf #[.str a t0, .str b t1, .str c t2] 0) :: news) → (∀ p ∈ news, p.1 < D) → Q (.ref D) { s with heap := h', toks := k }) :
    wpAny (model prog w) A (call (.builtin "str.split") [.str x t, .str (Str.ofString "\x0d\n") u]) Q E s := by
  have hz : sizeLine = 16777216 := by decide
  have hsz : x.length + 2 ≤ sizeLine := by omega
  refine KSpl.split1 F N (by decide +kernel) (fun D l h' k e _ F' N' hlt => ?_) hsz
  rw [crlf_of] at e
  have e2 : (Txt.split x ⟨#[13, 10]⟩) = [a, b, c] := map_lst_inj _ [a, b, c] hs
  rw [e2] at e
  obtain ⟨t0, l1, r0, e3⟩ := KSpl.cons_of e
  obtain ⟨t1, l2, r1, e4⟩ := KSpl.cons_of e3
  obtain ⟨t2, l3, r2, e5⟩ := KSpl.cons_of e4
  rw [r0, r1, r2, KSpl.nil_of e5] at N'
  exact h D t0 t1 t2 h' k F' N' hlt
end
/-- the sent rows -/
theorem no_end {c n : Nat} (h : c ≠ 13 ∧ c ≠ 10) : 13 ∉ List.replicate n c ∧ 10 ∉ List.replicate n c :=
  ⟨fun hm => h.1 (List.eq_of_mem_replicate hm).symm, fun hm => h.2 (List.eq_of_mem_replicate hm).symm⟩
theorem no_end_o (n : Nat) : 13 ∉ 111 :: List.replicate n 46 ∧ 10 ∉ 111 :: List.replicate n 46 := by
  have := no_end (c := 46) (n := n) (by decide)
  simp only [List.mem_cons, not_or]
  exact ⟨⟨by decide, this.1⟩, ⟨by decide, this.2⟩⟩
theorem dotl_rep {n : Nat} (h : 1 ≤ n) : dotl (List.replicate n 46) = List.replicate (n + 1) 46 := by
  obtain ⟨k, rfl⟩ : ∃ k, n = k + 1 := ⟨n - 1, by omega⟩
  rw [List.replicate_succ, dotl_dot, ← List.replicate_succ, ← List.replicate_succ]
theorem sent_once {x : Str} {n0 n1 n2 : Nat} {e0 e1 : List Nat} (h0 : 1 ≤ n0) (h1 : 1 ≤ n1) (he0 : isEnd e0) (he1 : isEnd e1) (hx : lst x = List.replicate n0 46 ++ e0 ++ List.replicate n1 46 ++ e1 ++ 111 :: List.replicate n2 46) :
    lst (quoted x) = joinL [13, 10] [List.replicate (n0 + 1) 46, List.replicate (n1 + 1) 46, 111 :: List.replicate n2 46] := by
  have := sent_rows (r0 := List.replicate n0 46) (r1 := List.replicate n1 46) (r2 := 111 :: List.replicate n2 46) (no_end (by decide)) (no_end (by decide)) (no_end_o n2) (by intro h; have := congrArg List.length h; simp at this; omega) he0 he1
  rw [dotl_rep h0, dotl_rep h1, dotl_other (by decide)] at this
  rw [← this, ← hx]
  simp [← sent_quoted, sentS, lst]
theorem sent_times {x : Str} {n0 n1 n2 : Nat} {e0 e1 : List Nat} (h0 : 1 ≤ n0) (h1 : 1 ≤ n1) (he0 : isEnd e0) (he1 : isEnd e1) (hx : lst x = List.replicate n0 46 ++ e0 ++ List.replicate n1 46 ++ e1 ++ 111 :: List.replicate n2 46) :
    ∀ k, lst (qN (k + 1) x) = joinL [13, 10] [List.replicate (n0 + (k + 1)) 46, List.replicate (n1 + (k + 1)) 46, 111 :: List.replicate n2 46]
  | 0 => sent_once h0 h1 he0 he1 hx
  | k + 1 => by
    have ih := sent_times h0 h1 he0 he1 hx k
    show lst (quoted (qN (k + 1) x)) = _
    refine sent_once (n0 := n0 + (k + 1)) (n1 := n1 + (k + 1)) (e0 := [13, 10]) (e1 := [13, 10]) (by omega) (by omega) (.inr (.inr rfl)) (.inr (.inr rfl)) ?_
    rw [ih]; simp [joinL]
theorem sent_split {x : Str} {n0 n1 n2 k : Nat} {e0 e1 : List Nat} (h0 : 1 ≤ n0) (h1 : 1 ≤ n1) (hk : 1 ≤ k) (he0 : isEnd e0) (he1 : isEnd e1) (hx : lst x = List.replicate n0 46 ++ e0 ++ List.replicate n1 46 ++ e1 ++ 111 :: List.replicate n2 46) :
    (Txt.split (qN k x) ⟨#[13, 10]⟩).map lst = [lst (dotsS (n0 + k)), lst (dotsS (n1 + k)), lst (oDots n2)] := by
  obtain ⟨j, rfl⟩ : ∃ j, k = j + 1 := ⟨k - 1, by omega⟩
  rw [lst_dots, lst_dots, lst_oDots]
  refine split_rows (by simp) (sent_times h0 h1 he0 he1 hx j) ?_
  intro q hq
  simp only [List.mem_cons, List.not_mem_nil, or_false] at hq
  rcases hq with rfl | rfl | rfl
  · exact (no_end (by decide)).1
  · exact (no_end (by decide)).1
  · exact (no_end_o n2).1
end Mine
end
section
open PySem PySem.W PyProof.Rows
namespace Mine
theorem int6 {vs : List Value} {a b c d e f : Int} (h : IntsAre vs [a, b, c, d, e, f]) : ∃ t0 t1 t2 t3 t4 t5, vs = [.int a t0, .int b t1, .int c t2, .int d t3, .int e t4, .int f t5] := by
  obtain ⟨t0, v1, r0, h0⟩ := h.cons_inv
  obtain ⟨t1, v2, r1, h1⟩ := h0.cons_inv
  obtain ⟨t2, v3, r2, h2⟩ := h1.cons_inv
  obtain ⟨t3, v4, r3, h3⟩ := h2.cons_inv
  obtain ⟨t4, v5, r4, h4⟩ := h3.cons_inv
  obtain ⟨t5, v6, r5, h5⟩ := h4.cons_inv
  rw [r0, r1, r2, r3, r4, r5, h5.nil_inv]
  exact ⟨_, _, _, _, _, _, rfl⟩
local macro_rules | `(tactic| walk_at "own item") => `(tactic| first
  | ((with_reducible show wpAny _ _ (subscriptTail (Expr.Name (Str.ofString "ends") _) _ (Value.ref _) (Value.int _ _)) _ _ _); (with_reducible rename News _ _ _ _ => N'); k_dflt (refine' end_item N' ?m ?a ?b ?_ ?d; (case m => k_mem); (case a => exact fmod_lo (by decide)); (case b => exact fmod_hi (by decide)); (case d => simp only [subscripted])); intro e9 t9 he9 hl9)
  | ((with_reducible show wpAny _ _ (subscriptTail (Expr.Tuple _ _ _) _ (Value.ref _) (Value.int _ _)) _ _ _); (with_reducible rename News _ _ _ _ => N'); k_dflt (refine' tail_item ?ztail N' ?m ?a ?b ?_ ?d; (case ztail => first | exact tail_x | exact tail_b); (case m => k_mem); (case a => exact fmod_lo (by decide)); (case b => exact fmod_hi (by decide)); (case d => simp only [subscripted])); intro y9 ty9 hy9 hyl9)
  | ((with_reducible show wpAny _ _ (subscriptTail (Expr.Name _ _) _ (Value.ref _) (Value.int _ _)) _ _ _); (with_reducible rename News _ _ _ _ => N'); k_dflt (refine' led_item N' ?m ?a ?b ?c ?_ ?d; (case m => k_mem); (case a => decide); (case b => decide); (case c => exact rfl); (case d => with_unfolding_all rfl))))
local macro_rules | `(tactic| walk_at "own text") => `(tactic| first
  | ((with_reducible show wpAny _ _ (binaryOp Operator.Mult (Value.str _ _) (Value.int _ _)) _ _ _); k_dflt (refine' mul_dots ?a ?_; (case a => omega)); intro _ _ _)
  | ((with_reducible show wpAny _ _ (binaryOp Operator.Add (Value.str (Str.ofString "o") _) (Value.str _ _)) _ _ _); k_dflt (refine' add_o ?a ?_; (case a => omega)); intro _ _ _)
  | ((with_reducible show wpAny _ _ (binaryOp Operator.Add (Value.str _ _) (Value.str _ _)) _ _ _); k_dflt (refine' add_txt ?a ?b ?_; (case a => omega); (case b => omega)); intro _ _ _)
  | ((with_reducible show wpAny _ _ (binaryOp Operator.FloorDiv (Value.int _ _) (Value.int _ _)) _ _ _); (with_reducible refine floordiv_int ?a ?_ (Or.inl (PyProof.noPylong_small ?b))); (case a => decide); (case b => decide)))
local macro_rules | `(tactic| walk_at "own store") => `(tactic| (
  (with_reducible show wpAny _ _ (storeName _ (Str.ofString "tail") _) _ _ _);
  (with_reducible rename Fr _ _ _ _ => F');
  (with_reducible rename News _ _ _ _ => N');
  k_dflt (refine' storeX_C (cl := [(Str.ofString "other", _), (Str.ofString "word", _), (Str.ofString "apart", _), (Str.ofString "first", _), (Str.ofString "second", _), (Str.ofString "words", _), (Str.ofString "tail", _), (Str.ofString "script", _)]) F' N' ?c ?U ?d ?_ ?a ?b; (case a => rfl); (case b => rfl); (case c => rfl); (case U => k_updF); (case d => assumption)); intro h8 o8 F8 N8 d8; (try dsimp only at N8)))
local macro_rules | `(tactic| walk_at "own call") => `(tactic| (
  (with_reducible show wpAny _ _ (call (Value.ref _) _) _ _ _);
  (with_reducible rename Fr _ _ _ _ => F');
  (with_reducible rename News _ _ _ _ => N');
  k_dflt (refine' lsent_r ?B F' ?X N' ?T ?K ?x ?y ?D ?U ?_; (case B => k_asm); (case X => k_asm); (case T => k_asm); (case K => exact rfl); (case x => omega); (case y => omega); (case D => ktr_room); (case U => ktr_units); intro t9 h9 tk9 F9 N9);
  (try dsimp only)))
section
variable {fa lc : Addr} {w : World} {p : Program} {loose : List Str} {mean : ExcName → Option Value} {mg mb : Str → Option Value} {base h₀ : Heap} {m : Str → Option Value} {s : Shared} {Q : Flow → Shared → Prop}
set_option maxRecDepth 100000 in
set_option maxHeartbeats 1000000 in
theorem law_rows {L' D C : Addr} {o2 o3 o4 o5 o6 o7 o8 : Obj} {vs : List Value} {n0 n1 n2 k j : Nat} {u : Str → Option Value} {tk : Tok} {c0 c1 c2 c3 c4 : Int} {t0 t1 t2 t3 t4 : Tok}
    (a0 : 1 ≤ n0) (b0 : n0 ≤ 11) (a1 : 1 ≤ n1) (b1 : n1 ≤ 11) (b2 : n2 ≤ 15) (a3 : 1 ≤ k) (b3 : k ≤ 4) (hvs : IntsAre vs [(n0 : Int), (n1 : Int), (n2 : Int), ((n0 + k : Nat) : Int), ((n1 + k : Nat) : Int), (n2 : Int)])
    (hD : @LT.lt Nat _ (L' + 8) D) (hC : @LT.lt Nat _ D C) (h2 : o2.data = .cell none)
    (B : Below callerA base [] h₀) (X : (Mine.hd.heap_39 w.params).In h₀) (T : Top p loose mean mg mb h₀)
    (F : Fr h₀ L' s.heap (kstB u [(Str.ofString "times", .int (k : Int) tk), (Str.ofString "counts", .ref C), (Str.ofString "cells", .ref D)]))
    (N : News h₀ L' s.heap [(C, PySem.W.listOf vs.toArray j), (D, LCg.lst [.int c0 t0, .int c1 t1, .int c2 t2, .int c3 t3, .int c4 t4]), (L' + 1 + 1, o2), (L' + 1 + 1 + 1, o3), (L' + 1 + 1 + 1 + 1, o4), (L' + 1 + 1 + 1 + 1 + 1, o5), (L' + 1 + 1 + 1 + 1 + 1 + 1, o6), (L' + 1 + 1 + 1 + 1 + 1 + 1 + 1, o7), (L' + 1 + 1 + 1 + 1 + 1 + 1 + 1 + 1, o8)])
    (ret : ∀ R U S o2' y ty r0 r1 r2 u0 u1 u2 s0 s1 s2 h' tk' u', nameOf (lst y) = [] → y.length ≤ 3 → o2'.data = .cell (some (.str y ty)) → @LT.lt Nat _ C R → @LT.lt Nat _ R U → @LT.lt Nat _ U S → Fr h₀ L' h' (kstB u' [(Str.ofString "counts", .ref C), (Str.ofString "rows", .ref R), (Str.ofString "due", .ref U), (Str.ofString "sent", .ref S)]) →
      News h₀ L' h' [(S, PySem.W.listOf #[.str (dotsS (n0 + k)) s0, .str (dotsS (n1 + k)) s1, .str (oDots n2) s2] 0), (U, PySem.W.listOf #[.str (dotsS (n0 + k)) u0, .str (dotsS (n1 + k)) u1, .str (oDots n2) u2] 0), (R, PySem.W.listOf #[.str (dotsS n0) r0, .str (dotsS n1) r1, .str (oDots n2) r2] 0), (C, PySem.W.listOf vs.toArray j), (L' + 1 + 1, o2'), (L' + 1 + 1 + 1, o3), (L' + 1 + 1 + 1 + 1, o4), (L' + 1 + 1 + 1 + 1 + 1, o5), (L' + 1 + 1 + 1 + 1 + 1 + 1, o6), (L' + 1 + 1 + 1 + 1 + 1 + 1 + 1, o7), (L' + 1 + 1 + 1 + 1 + 1 + 1 + 1 + 1, o8)] → Q .next { s with heap := h', toks := tk' }) :
    wpAny (model PySem.Challenge.rw_rs0052_02.prog w) (callerA.deeper (envOfC (Str.ofString "law") (scopeAt PySem.Challenge.rw_rs0052_02.prog 20) L' fa (.ref lc)))
      (execs (((stmtsAt PySem.Challenge.rw_rs0052_02.prog 20).drop 4).take 6) (envOfC (Str.ofString "law") (scopeAt PySem.Challenge.rw_rs0052_02.prog 20) L' fa (.ref lc))) Q (fun _ _ => False) s := by
  obtain ⟨v0, v1, v2, v3, v4, v5, rfl⟩ := int6 hvs
  clear hvs
  k_with_none
  w_top off
  revert X
  k_fill
  intro X
  conv in (occs := *) scopeAt _ _ => all_goals whnf
  conv in (occs := *) List.drop _ _ => all_goals whnf
  simp only [List.take_succ_cons, List.take_zero]
  dsimp only [kstB] at F
  (repeat' ((fail_if_success (with_reducible show wpAny _ _ (execs [] _) _ _ _)); (fail_if_success (with_reducible show wpAny _ _ (call (Value.builtin "str.split") _) _ _ _)); first | walk_at "own item" |  walk_at "own text" | walk_at "own store" | walk_at "own call" | ((fail_if_success (with_reducible show wpAny _ _ (call (Value.ref _) _) _ _ _)); (fail_if_success (with_reducible show wpAny _ _ (subscriptTail _ _ (Value.ref _) _) _ _ _)); first | walk1 | (dsimp only; walk1))))
  (rename Fr _ _ _ _ => F9); (rename News _ _ _ _ => N9)
  (rename isEnd _ => he1); revert he1; (rename isEnd _ => he0); intro he1
  have hq : ∀ {z : Str}, z.length ≤ 1000 → (qN k z).length ≤ 1000000 := fun h => Nat.le_trans (qN_in h b3) (by decide)
  k_dflt (refine' split_three F9 N9 (hq (by omega)) (sent_split a0 a1 a3 he0 he1 (by rw [lst_app, lst_app, lst_app, lst_app, lst_dots, lst_dots, lst_oDots])) ?_)
  intro S s0 s1 s2 h' tk' F8 N8 lS
  clear F9 N9
  dsimp only
  (repeat' ((fail_if_success (with_reducible show wpAny _ _ (execs [] _) _ _ _)); (fail_if_success (with_reducible show wpAny _ _ (call (Value.builtin "str.split") _) _ _ _)); first | walk_at "own item" |  walk_at "own text" | walk_at "own store" | walk_at "own call" | ((fail_if_success (with_reducible show wpAny _ _ (call (Value.ref _) _) _ _ _)); (fail_if_success (with_reducible show wpAny _ _ (subscriptTail _ _ (Value.ref _) _) _ _ _)); first | walk1 | (dsimp only; walk1))))
  (rename Fr _ _ _ _ => F7); (rename News _ _ _ _ => N7)
  refine wpAny_execs_nil ?_
  obtain ⟨u9, F8⟩ := fr_some [(Str.ofString "counts", .ref C), (Str.ofString "rows", .ref _), (Str.ofString "due", .ref _), (Str.ofString "sent", .ref S)] (by kst_all) F7
  refine' ret _ _ S _ _ _ _ _ _ _ _ _ _ _ _ _ _ _ ?hy ?hyl ?hd ?l1 ?l2 ?l3 F8 ?hN
  (case hN => exact fun p hp => N7 p (by revert p; lcg_sub))
  (case hy => assumption)
  (case hyl => assumption)
  (case hd => assumption)
  (case l1 => omega)
  (case l2 => omega)
  (case l3 => (have l9 := allLt_of lS; simp only [AllLt] at l9; omega))
end
end Mine
end
section
open PySem PySem.W PyProof.Rows PySem.Calls
namespace Mine
section
variable {prog : Program} {w : World} {A₀ A : Around} {s : Shared} {base h₀ : Heap} {L : Addr} {m : Str → Option Value} {env : Env} {outer : List Env} {news : List (Addr × Obj)} {K : Frag} {p : Program} {loose : List Str} {mean : ExcName → Option Value} {mg mb : Str → Option Value}
  {R : Result → Shared → Prop} {name qual : Str} {params : Arguments} {body : List Stmt} {scope : Scope} {dV kV doc pm cdv ct oc : Value} {an od : Option Addr} {osl : Array (Option Value)} {f : Addr} {args : Args} {binds : List (Str × Value)}
/-- a def with cells of its own, called -/
theorem code_defC (B : Below A₀ base outer h₀) (F : Fr h₀ L s.heap m) (X₀ : K.In h₀) (N : News h₀ L s.heap news) (T : Top p loose mean mg mb h₀) (hA : A.frames = some (env :: outer)) (hf : env.frame = some L) (hke : env.scope.kind = .function)
    (ho : K.lookup f = some ⟨oc, od, .func (fnOf name qual params body scope dV kV doc pm an cdv ct), osl⟩) (hcd : codeIn K cdv qual = true) (hroom : A.depth < recursionLimit)
    (hbind : BindsTo s (fnOf name qual params body scope dV kV doc pm an cdv ct) args binds)
    (hkind : ∀ n, ∀ x ∈ binds, scope.names.lookup x.1 = some .local ∨ (scope.names.lookup x.1 = some .cell ∧ ((cellsFrom n scope.names []).lookup x.1).isSome = true))
    (hnd : ((cellsFrom 0 scope.names []).map (·.1)).Nodup)
    (h : ∀ g L' h₁ tk cells, Fr h₀ L g m → Fr g L' h₁ (bindL (envOfC qual scope L' f cdv).kindOf binds fun _ => none) → News g L' h₁ (cells ++ news) →
      CellsAre (bindC (envOfC qual scope L' f cdv).kindOf binds fun _ => none) (cellsFrom (L' + 1) scope.names []) cells → Below A base (env :: outer) g → K.In g → Top p loose mean mg mb g → (∀ p ∈ news, p.1 < L') →
      wpAny (model prog w) (A.deeper (envOfC qual scope L' f cdv)) (execs body (envOfC qual scope L' f cdv))
        (fun fl s' => LeaveK h₀ L m g R (match fl with | .ret v => v | _ => .none) s')
        (fun e s' => wpAny (model prog w) (A.deeper (envOfC qual scope L' f cdv)) (leaving (envOfC qual scope L' f cdv) e) (fun _ s'' => R (.error e) s'') (fun e' s'' => R (.error e') s'') s')
        { s with heap := h₁, toks := tk })
    (hco : scope.isCoroutine = false) (hgen : scope.isGenerator = false) (hk : scope.kind = .function) : codeAny (model prog w) A (.call (.ref f) args) R s := by
  have X := X₀.keeps F.keep
  exact callX_cells B F N T.nolimit hA hf hke (X _ _ ho) rfl (codeRec_of X hcd) hroom hbind hkind hnd (fun g L' h₁ tk cells FG F' N' Y B' st l => h g L' h₁ tk cells FG F' N' Y B' (X₀.keeps st) (T.keeps st) l) hco hgen hk
end
end Mine
end
section
open PySem PySem.W PyProof.Rows
namespace Mine
/-- no run lowers the count of tokens -/
theorem runs_toks {M : Model} {Γ : Ctx} {p : Pos} {t : Sem Fin} {fs : List Frame} {s s' : Shared} {e : End} (h : Runs M Γ p t fs s e s') : s.toks ≤ s'.toks := by
  induction h with
  | fresh _ ih => exact Nat.le_trans (Nat.le_succ _) ih
  | call _ _ ih1 ih2 => exact Nat.le_trans ih1 ih2
  | resumeFresh _ _ _ _ ih1 ih2 => exact Nat.le_trans ih1 ih2
  | resumeSuspended _ _ _ _ ih1 ih2 => exact Nat.le_trans ih1 ih2
  | segRet _ _ ih1 ih2 => exact Nat.le_trans ih1 ih2
  | segGen _ _ ih1 ih2 => exact Nat.le_trans ih1 ih2
  | segSuspGen _ _ _ _ ih1 ih2 => exact Nat.le_trans ih1 ih2
  | _ => first | exact Nat.le_refl _ | assumption
theorem wakes_toks {M : Model} {Γ : Ctx} {p : Pos} {g : Nat} {r : Resume} {s s' : Shared} {res : GenResult} (h : Wakes M Γ p g r s res s') : s.toks ≤ s'.toks := by
  unfold Wakes at h
  split at h
  · exact h.elim
  · split at h
    · obtain ⟨e₁, s₁, h1, _, _, rfl⟩ := h
      have := runs_toks h1; exact this
    · obtain ⟨_, rfl⟩ := h; exact Nat.le_refl _
    · obtain ⟨_, rfl⟩ := h; exact Nat.le_refl _
  · obtain ⟨e₁, s₁, h1, _, _, rfl⟩ := h
    have := runs_toks h1; exact this
  · obtain ⟨_, rfl⟩ := h; exact Nat.le_refl _
  · obtain ⟨_, rfl⟩ := h; exact Nat.le_refl _
theorem wp_toks {α : Type} {M : Model} {Γ : Ctx} (n : Nat) (t : Sem α) (Q : α → Pos → Shared → Prop) (E : Value → Pos → Shared → Prop) (p : Pos) (s : Shared) (hn : n ≤ s.toks) (h : Sem.wp M Γ t Q E p s) :
    Sem.wp M Γ t (fun a p' s' => Q a p' s' ∧ n ≤ s'.toks) E p s := by
  induction t generalizing p s with
  | pure a => exact ⟨h, hn⟩
  | raise e => exact h
  | unsupported => exact h
  | finish => exact h
  | rule _ k ih => exact ih _ p s hn h
  | «at» p' k ih => exact ih _ p' s hn h
  | load a b k ih => obtain ⟨o, ho, h⟩ := h; exact ⟨o, ho, ih _ p s hn h⟩
  | update a b f k ih => exact ⟨h.1, ih _ p _ hn h.2⟩
  | loadIfAlive a k ih => exact ih _ p s hn h
  | point l k ih => exact ih _ p s hn h
  | register => exact h
  | alloc o k ih => exact ih _ p _ hn h
  | fresh k ih => exact ih _ p _ (Nat.le_succ_of_le hn) h
  | ask k ih => exact ih _ p s hn h
  | choose src m k ih => exact ⟨h.1, ih _ p _ hn h.2⟩
  | os q l k ih => exact ih _ p _ hn h
  | call c hd g l k ih =>
    obtain ⟨r, s', hr, h⟩ := h
    exact ⟨r, s', hr, ih _ p s' (Nat.le_trans hn (runs_toks hr)) h⟩
  | handled own k ih => exact ih _ p s hn h
  | genState g k ih => obtain ⟨st, hs, h⟩ := h; exact ⟨st, hs, ih _ p s hn h⟩
  | newGen c k ih => exact ih _ p _ hn h
  | resume g r l k ih =>
    obtain ⟨res, s', hr, h⟩ := h
    exact ⟨res, s', hr, ih _ p s' (Nat.le_trans hn (wakes_toks hr)) h⟩
  | yield => exact h
  | stack k ih => exact ih _ p s hn h
  | fork => exact h
  | thread k ih => exact ih _ p s hn h
  | await => exact h
theorem wpAny_toks {α : Type} {M : Model} {A : Around} {t : Sem α} {Q : α → Shared → Prop} {E : Value → Shared → Prop} {s : Shared} (h : wpAny M A t (fun v s' => s.toks ≤ s'.toks → Q v s') E s) : wpAny M A t Q E s :=
  fun Γ p hΓ => Sem.wp_mono M Γ t (fun _ _ _ x => x.1 x.2) (fun _ _ _ x => x) p s (wp_toks s.toks t _ _ p s (Nat.le_refl _) (h Γ p hΓ))
theorem repl_K {prog : Program} {w : World} {A : Around} {E : Value → Shared → Prop} {s : Shared} {x y z : Str} {t : Tok} {u : Nat} {Q : Value → Shared → Prop} (hu : 1 ≤ u) (hyz : (y == z) = false) (hb : x.length + (x.length + 1) * z.length ≤ 16777216)
    (hq : ∀ (t' : Tok) (k : Nat), s.toks ≤ k → Q (.str (Txt.replace x y z) t') { s with toks := k }) : wpAny (model prog w) A (call (.builtin "str.replace") [.str x t, .str y u, .str z (u + 1)]) Q E s := by
  have h1 : u ≠ 0 := by omega
  have h2 : u + 1 ≠ 0 := by omega
  have h3 : u ≠ u + 1 := by omega
  exact wpAny_toks (SC.replace h1 h2 h3 hyz hb fun t' k hk => hq t' k hk)
theorem pos_in {α : Type} {M : Model} {A : Around} {t : Sem α} {Q : α → Shared → Prop} {E : Value → Shared → Prop} {s : Shared} {h' : Heap} {n : Nat} (hn : 1 ≤ n) (h : ∀ tk, 1 ≤ tk → wpAny M A t Q E { s with heap := h', toks := tk }) : wpAny M A t Q E { s with heap := h', toks := n } := h n hn
end Mine
end
section
open PySem PySem.W PyProof.Rows
namespace Mine
section
variable {prog : Program} {w : World} {A : Around} {h₀ : Heap} {L : Addr} {m : Str → Option Value} {env : Env} {ct elt : Expr} {x : Str} {scope : Scope} {cl : List (Str × Addr)} {s : Shared} {S : List (Addr × Obj) → Prop} {P : Nat → Value → Prop} {Fin : List Value → List (Addr × Obj) → Prop} {news : List (Addr × Obj)}
/-- a block over a list or a range: what each item gives, told place by place -/
theorem comp_idx {n : Nat} (Y : Nat → Value → Prop)
    (turn : ∀ i v I oI C oC D m₂ ys h tk (E' : Value → Shared → Prop), i < n → P i v → LCg.NsObj oC m₂ → m₂ x = some v → Fr h₀ L h m → News h₀ L h ((I, oI) :: (C, oC) :: (D, LCg.lst ys) :: news) → LCg.Off3 I C D news → ((@Ne Nat I C) ∧ (@Ne Nat I D) ∧ (@Ne Nat C D)) →
      wpAny (model prog w) A (eval elt (compEnvC scope cl C env)) (LCg.CompEnd h₀ L m { s with heap := h, toks := tk } I oI C oC D (LCg.lst ys) S (fun y news' => news' = news ∧ Y i y)) E' { s with heap := h, toks := tk })
    (fin : ∀ ys, ys.length = n → (∀ i y, ys[i]? = some y → Y i y) → Fin ys news) : LCg.CompRest prog w A h₀ L m env elt x scope cl s S P Fin n 0 [] news := by
  have key : ∀ (j i : Nat) (ys : List Value), i + j = n → ys.length = i → (∀ i y, ys[i]? = some y → Y i y) → LCg.CompRest prog w A h₀ L m env elt x scope cl s S P Fin j i ys news := by
    intro j
    induction j with
    | zero =>
      intro i ys hi hl hy
      exact LCg.CompRest.zero (fin ys (by omega) hy)
    | succ j ih =>
      intro i ys hi hl hy
      refine LCg.CompRest.succ ?_
      intro v I oI C oC D m₂ h tk E' hv hC hx F N off ne
      refine wpAny_mono (turn i v I oI C oC D m₂ ys h tk E' (by omega) hv hC hx F N off ne) (fun y s₂ hq => ?_) fun _ _ e => e
      obtain ⟨h', tk', nw, e, F', N', off', hS, hn, hy'⟩ := hq
      rw [hn] at N' off' hS
      refine ⟨h', tk', news, e, F', N', off', hS, ih (i + 1) _ (by omega) (by simp [hl]) ?_⟩
      intro k z hz
      by_cases hk : k < ys.length
      · exact hy k z (by rw [← hz, List.getElem?_append_left hk])
      · have hk2 : k < (ys ++ [y]).length := by
          rcases Nat.lt_or_ge k (ys ++ [y]).length with h | h
          · exact h
          · rw [List.getElem?_eq_none h] at hz; cases hz
        rw [List.length_append, List.length_singleton] at hk2
        have hke : k = i := by omega
        subst hke
        rw [List.getElem?_append_right (by omega), hl, Nat.sub_self] at hz
        cases hz
        exact hy'
  exact key n 0 [] (by omega) rfl fun _ _ h => by simp at h
/-- a block over a range with a test that keeps the place itself -/
theorem comp_filt {n : Nat} (keep : Nat → Bool)
    (test : ∀ i v I oI C oC D m₂ ys h tk (E' : Value → Shared → Prop), i < n → P i v → LCg.NsObj oC m₂ → m₂ x = some v → Fr h₀ L h m → News h₀ L h ((I, oI) :: (C, oC) :: (D, LCg.lst ys) :: news) → LCg.Off3 I C D news → ((@Ne Nat I C) ∧ (@Ne Nat I D) ∧ (@Ne Nat C D)) →
      wpAny (model prog w) A (isTrue ct (compEnvC scope cl C env) (eval ct (compEnvC scope cl C env))) (fun ok s₂ => LCg.CompEnd h₀ L m { s with heap := h, toks := tk } I oI C oC D (LCg.lst ys) S (fun _ news' => news' = news ∧ ok = keep i) Value.none s₂) E' { s with heap := h, toks := tk })
    (item : ∀ i v I oI C oC D m₂ ys h tk (E' : Value → Shared → Prop), i < n → P i v → LCg.NsObj oC m₂ → m₂ x = some v → Fr h₀ L h m → News h₀ L h ((I, oI) :: (C, oC) :: (D, LCg.lst ys) :: news) → LCg.Off3 I C D news → ((@Ne Nat I C) ∧ (@Ne Nat I D) ∧ (@Ne Nat C D)) → S news →
      wpAny (model prog w) A (eval elt (compEnvC scope cl C env)) (LCg.CompEnd h₀ L m { s with heap := h, toks := tk } I oI C oC D (LCg.lst ys) S (fun y news' => news' = news ∧ ∃ t, y = .int (i : Int) t)) E' { s with heap := h, toks := tk })
    (fin : ∀ ys, IntsAre ys (((List.range n).filter keep).map fun (i : Nat) => (i : Int)) → Fin ys news) : LCt.CompRestT prog w A h₀ L m env ct elt x scope cl s S P Fin n 0 [] news := by
  have key : ∀ (j i : Nat) (ys : List Value), i + j = n → IntsAre ys (((List.range i).filter keep).map fun (i : Nat) => (i : Int)) → LCt.CompRestT prog w A h₀ L m env ct elt x scope cl s S P Fin j i ys news := by
    intro j
    induction j with
    | zero =>
      intro i ys hi hy
      rw [show i = n by omega] at hy
      exact LCt.CompRestT.zero (fin ys hy)
    | succ j ih =>
      intro i ys hi hy
      refine LCt.CompRestT.succ ?_
      intro v I oI C oC D m₂ h tk E' hv hC hx F N off ne
      refine wpAny_mono (test i v I oI C oC D m₂ ys h tk E' (by omega) hv hC hx F N off ne) (fun ok s₂ hq => ?_) fun _ _ e => e
      obtain ⟨h', tk', nw, e, F', N', off', hS, hn, hk⟩ := hq
      subst e
      rw [hn] at N' off' hS
      by_cases hok : ok = true
      · rw [if_pos hok]
        refine wpAny_mono (item i v I oI C oC D m₂ ys h' tk' E' (by omega) hv hC hx F' N' off' ne hS) (fun y s₃ hq => ?_) fun _ _ e => e
        obtain ⟨h2, tk2, nw2, e, F2, N2, off2, hS2, hn2, t, rfl⟩ := hq
        rw [hn2] at N2 off2 hS2
        refine ⟨h2, tk2, news, e, F2, N2, off2, hS2, ih (i + 1) _ (by omega) ?_⟩
        rw [List.range_succ, List.filter_append, List.map_append]
        refine IntsAre.append hy ?_
        have hf : keep i = true := by rw [← hk]; exact hok
        have e1 : ([i].filter keep).map (fun (i : Nat) => (i : Int)) = [(i : Int)] := by simp [hf]
        rw [e1]
        exact .cons _ t .nil
      · rw [if_neg hok]
        refine ⟨h', tk', news, rfl, F', N', off', hS, ih (i + 1) _ (by omega) ?_⟩
        rw [List.range_succ, List.filter_append, List.map_append]
        have hf : keep i = false := by rw [← hk]; simpa using hok
        have e1 : ([i].filter keep).map (fun (i : Nat) => (i : Int)) = [] := by simp [hf]
        rw [e1, List.append_nil]
        exact hy
  exact key n 0 [] (by omega) .nil
end
end Mine
end
section
open PySem PySem.W PyProof.Rows
namespace Mine
section
variable {w : World} {p : Program} {loose : List Str} {mean : ExcName → Option Value} {mg mb : Str → Option Value} {dp un : Nat} {gd : Option (List Code)} {cn : Str} {cs : Scope} {a : Addr} {ccd : Value} {cl : List (Str × Addr)} {outer : List Env} {A₀ : Around} {base h₀ : Heap} {L : Addr} {m : Str → Option Value} {s : Shared} {news : List (Addr × Obj)}
theorem parse_q {Q E : Value → Shared → Prop} {x z : Str} {tx : Tok} (hz : told257 x = z) (B : Below A₀ base outer h₀) (F : Fr h₀ L s.heap m) (X : (Mine.hd.heap_39 w.params).In h₀) (N : News h₀ L s.heap news) (T : Top p loose mean mg mb h₀) (hk : cs.kind = .function)
    (hx : x.length ≤ 1048576) (h257 : Txt.slice x none (some 3) = Str.ofString "257") (hd : dp + 1 < recursionLimit) (hu : un + 8 < cLine)
    (ret : ∀ (t : Tok) (h' : Heap) (tk' : Nat), Fr h₀ L h' m → News h₀ L h' news → Q (.str z t) { s with heap := h', toks := tk' }) :
    wpAny (model PySem.Challenge.rw_rs0052_02.prog w) (ktrTop dp un gd cn cs L a ccd cl outer) (call (.ref 77) [.str x tx]) Q E s := by
  subst hz
  exact parse_r B F X N T hk hx h257 hd hu ret
end
theorem repl_x {prog : Program} {w : World} {A : Around} {E : Value → Shared → Prop} {s : Shared} {x : Str} {t : Tok} {u : Nat} {Q : Value → Shared → Prop} (hu : 1 ≤ u) (hx : x.length ≤ 1000) (hq : ∀ (t' : Tok) (k : Nat), s.toks ≤ k → Q (.str (Txt.replace x (Str.ofString "x") (Str.ofString "")) t') { s with toks := k }) :
    wpAny (model prog w) A (call (.builtin "str.replace") [.str x t, .str (Str.ofString "x") u, .str (Str.ofString "") (u + 1)]) Q E s :=
  repl_K hu (by decide +kernel) (by rw [show (Str.ofString "").length = 0 by decide +kernel]; omega) fun t' k h => hq t' k h
local macro_rules | `(tactic| walk_at "own repl") => `(tactic| (
  (with_reducible show wpAny _ _ (call (Value.builtin "str.replace") [Value.str _ _, Value.str _ _, Value.str _ _]) _ _ _);
  k_dflt (refine' repl_x ?a ?b ?_; (case a => omega); (case b => omega)); intro _ _ _; (try dsimp only)))
theorem ne_ownR {h₀ : Heap} {news own : List (Addr × Obj)} {n c : Addr} {o : Obj} {r1 : List Addr} (l0 : c < n) (l1 : ∀ p ∈ news, p.1 < n) (h1 : OwnOff own (n :: r1)) : ∀ q ∈ (c, o) :: (news ++ own), q.1 ≠ n := by
  intro q hq
  rcases List.mem_cons.mp hq with rfl | hq
  · exact Nat.ne_of_lt l0
  · rcases List.mem_append.mp hq with hq | hq
    · exact Nat.ne_of_lt (l1 q hq)
    · exact h1 q hq _ (.head _)
local macro_rules | `(tactic| walk_at "own append") => `(tactic| (
  (with_reducible show wpAny _ _ (call (Value.builtin "list.append") [Value.ref _, _]) _ _ _);
  (with_reducible rename Fr _ _ _ _ => F');
  (with_reducible rename News _ _ _ _ => N');
  k_dflt (refine' append_head F' N' ?ap ?_ ?z; (case ap => with_reducible assumption); (case z => with_reducible assumption)); intro h8 F8 N8; (try dsimp only)))
local macro_rules | `(tactic| walk_at "own pos") => `(tactic| (
  (with_reducible show wpAny _ _ (execs (Stmt.Assign [Expr.Name (Str.ofString "marks") _] (Expr.Call (Expr.Attribute _ _ _) _ _ _) _ :: _) _) _ _ _);
  k_dflt (refine' pos_in ?h ?_; (case h => exact Nat.le_add_left 1 _)); intro tk7 htk7))
local macro_rules | `(tactic| walk_at "own call") => `(tactic| (
  (with_reducible show wpAny _ _ (call (Value.ref 77) _) _ _ _);
  (with_reducible rename Fr _ _ _ _ => F');
  (with_reducible rename News _ _ _ _ => N');
  k_dflt (refine' parse_q ?z ?B F' ?X N' ?T ?K ?x ?y ?D ?U ?_; (case z => with_reducible assumption); (case B => k_asm); (case X => k_asm); (case T => k_asm); (case K => exact rfl); (case x => with_reducible first | assumption | omega); (case y => with_reducible assumption); (case D => ktr_room); (case U => ktr_units)); intro t9 h9 tk9 F9 N9; (try dsimp only)))
local macro_rules | `(tactic| walk_at "own store") => `(tactic| (
  (with_reducible show wpAny _ _ (storeName _ (Str.ofString "odd") _) _ _ _);
  k_dflt (refine' storeX_C (cl := [(Str.ofString "odd", _)]) ?F ?N ?c ?U ?d ?_ ?a ?b; (case a => rfl); (case b => rfl); (case F => k_asm); (case N => k_asm); (case c => rfl); (case U => exact UpdF.tail (Nat.ne_of_gt (And.left (by assumption))) (UpdF.head (by assumption))); (case d => assumption)); intro h8 o8 F8 N8 d8; (try dsimp only at N8)))
local macro_rules | `(tactic| walk_at "own slice") => `(tactic| (
  (with_reducible show wpAny _ _ (subscriptTail _ (Expr.Slice (some _) none none _) (Value.str _ _) (Value.ref _)) _ _ _);
  (with_reducible rename Fr _ _ _ _ => F');
  (with_reducible rename News _ _ _ _ => N');
  k_dflt (refine' slice_strN_sn (hsz := ?hsz) (s := ⟨_, _, _, _, _⟩) F' N' ?_; (case hsz => exact Nat.le_trans (by assumption) (by decide))); intro _ _ _ F8 N8; (try dsimp only)))
section
variable {w : World} {p : Program} {loose : List Str} {mean : ExcName → Option Value} {mg mb : Str → Option Value} {dp un : Nat} {gd : Option (List Code)} {cn : Str} {cs : Scope} {a : Addr} {ccd : Value} {cl : List (Str × Addr)} {outer : List Env} {A₀ : Around} {base h₀ : Heap} {L : Addr} {m : Str → Option Value} {s : Shared} {news : List (Addr × Obj)}
set_option maxRecDepth 100000 in
set_option maxHeartbeats 1000000 in
theorem lread_r {Q E : Value → Shared → Prop} {x y : Str} {n : Nat} {tx ty : Tok} (B : Below A₀ base outer h₀) (F : Fr h₀ L s.heap m) (X : (Mine.hd.heap_39 w.params).In h₀) (N : News h₀ L s.heap news) (T : Top p loose mean mg mb h₀) (hk : cs.kind = .function)
    (hx : x.length ≤ 1000) (hn : Txt.count x (Str.ofString ".") = (n : Int)) (hn16 : n ≤ 16) (hy : nameOf (lst y) = []) (hyl : y.length ≤ 3) (hroom : dp + 5 < recursionLimit) (hunits : un + 80 < cLine)
    (ret : ∀ (t : Tok) (h' : Heap) (tk' : Nat), Fr h₀ L h' m → News h₀ L h' news → Q (.str (gw n) t) { s with heap := h', toks := tk' }) :
    wpAny (model PySem.Challenge.rw_rs0052_02.prog w) (ktrTop dp un gd cn cs L a ccd cl outer) (call (.ref 106) [.str x tx, .str y ty]) Q E s := by
  k_with_none
  w_top off
  revert X
  k_fill
  intro X
  refine wpAny_call ?_
  k_dflt (refine' code_defC ?k1 ?k2 ?k3 ?k4 ?k5 ?kA ?kF ?kK ?k6 ?k7 ?k8 ?k9 ?kB ?kC ?_ ?c2 ?c3 ?c4; (case kA => exact rfl); (case kF => exact rfl); (case kK => assumption); (case k1 => k_asm); (case k2 => k_asm); (case k3 => k_asm); (case k4 => k_asm); (case k5 => k_asm); (case k6 => k_is); (case k7 => k_is); (case k8 => ktr_room); (case k9 => exact BindsTo.of_eq rfl); (case kB => intro n z hz; have hz2 : z ∈ [(Str.ofString "row", Value.str x tx), (Str.ofString "tail", Value.str y ty)] := hz; rcases List.mem_cons.mp hz2 with rfl | hz3; (· exact Or.inl rfl); (· rw [List.mem_singleton.mp hz3]; exact Or.inl rfl)); (case kC => decide); (case c2 => exact rfl); (case c3 => exact rfl); (case c4 => exact rfl); k_whole; intro g' L' h' tk' cells FG' F' N' Y' B' X' T' D'; (try dsimp only); (try k_lift B'); (try k_fold))
  obtain ⟨oc, rfl, hoc⟩ := CellsAre.one Y'
  clear Y'
  have hoc2 : oc.data = .cell none := hoc.trans rfl
  clear hoc
  obtain ⟨u, F2⟩ := fr_some [(Str.ofString "row", .str x tx), (Str.ofString "tail", .str y ty)] (by kst_all) F'
  clear F'
  dsimp only [kstB] at F2
  simp only [List.cons_append, List.nil_append] at N'
  have hne : ∀ p ∈ news, p.1 ≠ L' + 1 := fun p hp => Nat.ne_of_lt (Nat.lt_succ_of_lt (D' p hp))
  (repeat' ((fail_if_success (with_reducible show wpAny _ _ (pyIter _) _ _ _)); (fail_if_success (with_reducible show wpAny _ _ (exec (Stmt.For _ _ _ _ _) _) _ _ _)); (fail_if_success (with_reducible show InvPostN _ _ _ _ _ _ _ _ _)); (fail_if_success (with_reducible show InvEndN _ _ _ _ _ _ _)); first | walk_at "own call" | walk_at "own store" | walk_at "own slice" | walk_at "own append" | walk_at "own pos" | walk_at "own repl" | ((fail_if_success (with_reducible show wpAny _ _ (call (Value.ref _) _) _ _ _)); first | (k_unfold; (try dsimp only)) | (k_end; wrow_close) | walk1 | (dsimp only; walk1) | (leave1; walk_say "STEP leave1"; try dsimp only) | fail "no step")))
  rename Obj => oc2
  rename _ < _ ∧ AllLt _ _ => l1
  rename Obj.data oc2 = _ => hoc3
  have hM : lst (Txt.mul (Str.ofString "\"") (Txt.count x (Str.ofString "."))) = List.replicate n 34 := by rw [hn]; exact marks_mul n
  (rename Fr _ _ _ _ => lF');
  k_dflt (refine' For_invVF lF' ?k1 ?k2 ?_; (case k1 => exact rfl); (case k2 => exact rfl));
  (repeat' ((fail_if_success (with_reducible show wpAny _ _ (pyIter _) _ _ _)); (fail_if_success (with_reducible show wpAny _ _ (exec (Stmt.For _ _ _ _ _) _) _ _ _)); (fail_if_success (with_reducible show InvPostN _ _ _ _ _ _ _ _ _)); (fail_if_success (with_reducible show InvEndN _ _ _ _ _ _ _)); first | walk_at "own call" | walk_at "own store" | walk_at "own slice" | walk_at "own append" | walk_at "own pos" | walk_at "own repl" | ((fail_if_success (with_reducible show wpAny _ _ (call (Value.ref _) _) _ _ _)); first | (k_unfold; (try dsimp only)) | (k_end; wrow_close) | walk1 | (dsimp only; walk1) | (leave1; walk_say "STEP leave1"; try dsimp only) | fail "no step")))
  (rename Fr _ _ _ _ => lF'); (rename News _ _ _ _ => lN'); (rename IsRange _ _ _ _ _ _ _ _ => rgX)
  (with_unfolding_all refine' kst_range (σ := (Str × Tok) × (List Value × Nat)) (fun c => (_, PySem.W.listOf c.2.1.toArray c.2.2) :: (L' + 1, oc2) :: news) (fun c => [(Str.ofString "marks", .str c.1.1 c.1.2)]) (fun _ => True) [Str.ofString "told"] (fun pre c => lst c.1.1 = List.replicate (n / 2 ^ pre.length) 34 ∧ c.2.1 = (List.range pre.length).map fun i => Value.bool (bitG n i)) ((_, _), ([], 0)) (by rfl) rgX (small_one (by omega) (by omega) (by omega) (by omega)) (rangeSize_nat _ _) lF' lN' trivial (by kst_all) ?_ ?_ ?_)
  all_goals (clear lF' lN' rgX)
  · exact ⟨by simpa using hM, rfl⟩
  · rintro ⟨⟨mk, tm⟩, ⟨vs, nn⟩⟩ pre k2 t u h tk own hk2 hlt hoff hI hP hF hN
    dsimp only at hP hN
    dsimp only [kstB] at hF
    obtain ⟨hP1, hP2⟩ := hP
    have hdiv : n / 2 ^ pre.length ≤ 16 := Nat.le_trans (Nat.div_le_self _ _) hn16
    have hml : mk.length ≤ 16 := by rw [← lst_length, hP1, List.length_replicate]; exact hdiv
    have hlx : lst (((Str.ofString "257 \"" ++ mk) ++ Str.ofString "x") ++ y) = [50, 53, 55, 32, 34] ++ (List.replicate (n / 2 ^ pre.length) 34 ++ 120 :: lst y) := by
      rw [lst_app, lst_app, lst_app, hP1, show lst (Str.ofString "257 \"") = [50, 53, 55, 32, 34] from lst_op1, show lst (Str.ofString "x") = [120] by decide +kernel]; simp
    have h257 : Txt.slice (((Str.ofString "257 \"" ++ mk) ++ Str.ofString "x") ++ y) none (some 3) = Str.ofString "257" := by
      refine str_ext ?_
      rw [show (3 : Int) = ((3 : Nat) : Int) from rfl, slice_to, hlx, lst_257]; rfl
    have hll : (((Str.ofString "257 \"" ++ mk) ++ Str.ofString "x") ++ y).length ≤ 1048576 := by
      rw [← lst_length, hlx]
      simp only [List.length_append, List.length_cons, List.length_nil, List.length_replicate, lst_length]
      omega
    have htold := told_marks (by decide) hy hlx
    generalize hz : told257 (((Str.ofString "257 \"" ++ mk) ++ Str.ofString "x") ++ y) = zz at htold
    have hzl : zz.length ≤ 17 := by
      rw [← lst_length, htold, List.length_append, List.length_replicate]
      split <;> simp <;> omega
    simp only [List.cons_append] at hN
    have hap := ne_ownR (h₀ := h₀) (o := oc2) l1.1 (kst_ltOf l1.2) hoff
    have hvl : vs.length = pre.length := by rw [hP2]; simp
    have hsz : vs.toArray.size ≤ sizeLine := by
      rw [List.size_toArray, hvl]
      exact Nat.le_trans (Nat.le_of_lt hlt) (by decide)
    (repeat' ((fail_if_success (with_reducible show wpAny _ _ (pyIter _) _ _ _)); (fail_if_success (with_reducible show wpAny _ _ (exec (Stmt.For _ _ _ _ _) _) _ _ _)); (fail_if_success (with_reducible show InvPostN _ _ _ _ _ _ _ _ _)); (fail_if_success (with_reducible show InvEndN _ _ _ _ _ _ _)); first | walk_at "own call" | walk_at "own store" | walk_at "own slice" | walk_at "own append" | walk_at "own pos" | walk_at "own repl" | ((fail_if_success (with_reducible show wpAny _ _ (call (Value.ref _) _) _ _ _)); first | (k_unfold; (try dsimp only)) | (k_end; wrow_close) | walk1 | (dsimp only; walk1) | (leave1; walk_say "STEP leave1"; try dsimp only) | fail "no step")))
    (rename Fr _ _ _ _ => F9); (rename News _ _ _ _ => N9)
    dsimp only [InvPostN]
    rw [List.push_toArray] at N9
    refine' kst_end ⟨⟨Txt.replace zz (Str.ofString "x") (Str.ofString ""), _⟩, ⟨vs ++ [.bool (Txt.slice zz (some (-1)) none != Str.ofString "x")], nn + 1⟩⟩ F9 N9 ?hn ?ho ?ha ?hf ?hk ?hr ?hp
    (case hn => exact fun p hp => by (simp only [List.mem_cons, List.mem_append] at hp ⊢; rcases hp with h | h | h <;> simp [h]))
    (case ho => exact fun p hp => List.mem_cons_of_mem _ (List.mem_cons_of_mem _ (List.mem_append_right _ hp)))
    (case ha => rfl)
    (case hf => trivial)
    (case hk => kst_all)
    (case hr => kst_same)
    (case hp => exact ⟨by (dsimp only; rw [List.length_append, List.length_singleton]; exact turn_marks htold), by (dsimp only; rw [hP2, turn_bit htold, List.length_append, List.length_singleton, List.range_succ, List.map_append]; rfl)⟩)
  · rintro ⟨⟨mk, tm⟩, ⟨vs, nn⟩⟩ u h tk hI hP hF hN
    dsimp only at hP hN
    rw [rangeKs_length] at hP
    obtain ⟨-, hP2⟩ := hP
    dsimp only [kstB] at hF
    iterate 8 (try ((fail_if_success (with_reducible show wpAny _ _ (eval (Expr.ListComp _ _ _ _) _) _ _ _)); walk1))
    refine' LCg.ListComp_U (cl := [(Str.ofString "odd", L' + 1)]) hF (by with_unfolding_all rfl) (by decide) (by rfl) (by decide) (by rfl) ?_
    iterate 9 (try ((fail_if_success (with_reducible show LCg.CompSrc _ _ _ _ _ _ _ _ _ _ _ _ _ _)); walk1))
    (rename Fr _ _ _ _ => F8); (rename News _ _ _ _ => N8); (rename IsRange _ _ _ _ _ _ _ _ => rg8)
    refine' LCg.CompSrc.range (n := 4) rfl F8 N8 rg8 (by decide) (by rfl) (by decide) (fun g => comp_idx (fun i y => ∃ t, y = .str ⟨#[sigG n i]⟩ t) ?turn ?fin)
    case turn =>
      intro i v I oI C oC D m₂ ys h tk E' hi hv hC hx F' N' off ne
      obtain ⟨t, rfl⟩ := hv
      have e5 : vs = [.bool (bitG n 0), .bool (bitG n 1), .bool (bitG n 2), .bool (bitG n 3), .bool (bitG n 4)] := hP2
      subst e5
      rcases (by omega : i = 0 ∨ i = 1 ∨ i = 2 ∨ i = 3) with rfl | rfl | rfl | rfl
      all_goals (simp only [Int.zero_add] at hx)
      · change m₂ _ = some (.int 0 t) at hx
        (repeat' ((fail_if_success (with_reducible show wpAny _ _ (pyIter _) _ _ _)); (fail_if_success (with_reducible show wpAny _ _ (exec (Stmt.For _ _ _ _ _) _) _ _ _)); (fail_if_success (with_reducible show InvPostN _ _ _ _ _ _ _ _ _)); (fail_if_success (with_reducible show InvEndN _ _ _ _ _ _ _)); first | walk_at "own call" | walk_at "own store" | walk_at "own slice" | walk_at "own append" | walk_at "own pos" | walk_at "own repl" | ((fail_if_success (with_reducible show wpAny _ _ (call (Value.ref _) _) _ _ _)); first | (k_unfold; (try dsimp only)) | (k_end; wrow_close) | walk1 | (dsimp only; walk1) | (leave1; walk_say "STEP leave1"; try dsimp only) | fail "no step")))
        all_goals ((rename Fr _ _ _ _ => F9); (rename News _ _ _ _ => N9); refine ⟨_, _, _, rfl, F9, N9, off, trivial, rfl, _, congrArg (Value.str · _) ?_⟩)
        · exact el_up (k := 0) (by decide) (by assumption)
        · exact el_dn (k := 0) (by decide) (by assumption)
      · change m₂ _ = some (.int 1 t) at hx
        (repeat' ((fail_if_success (with_reducible show wpAny _ _ (pyIter _) _ _ _)); (fail_if_success (with_reducible show wpAny _ _ (exec (Stmt.For _ _ _ _ _) _) _ _ _)); (fail_if_success (with_reducible show InvPostN _ _ _ _ _ _ _ _ _)); (fail_if_success (with_reducible show InvEndN _ _ _ _ _ _ _)); first | walk_at "own call" | walk_at "own store" | walk_at "own slice" | walk_at "own append" | walk_at "own pos" | walk_at "own repl" | ((fail_if_success (with_reducible show wpAny _ _ (call (Value.ref _) _) _ _ _)); first | (k_unfold; (try dsimp only)) | (k_end; wrow_close) | walk1 | (dsimp only; walk1) | (leave1; walk_say "STEP leave1"; try dsimp only) | fail "no step")))
        all_goals ((rename Fr _ _ _ _ => F9); (rename News _ _ _ _ => N9); refine ⟨_, _, _, rfl, F9, N9, off, trivial, rfl, _, congrArg (Value.str · _) ?_⟩)
        · exact el_up (k := 1) (by decide) (by assumption)
        · exact el_dn (k := 1) (by decide) (by assumption)
      · change m₂ _ = some (.int 2 t) at hx
        (repeat' ((fail_if_success (with_reducible show wpAny _ _ (pyIter _) _ _ _)); (fail_if_success (with_reducible show wpAny _ _ (exec (Stmt.For _ _ _ _ _) _) _ _ _)); (fail_if_success (with_reducible show InvPostN _ _ _ _ _ _ _ _ _)); (fail_if_success (with_reducible show InvEndN _ _ _ _ _ _ _)); first | walk_at "own call" | walk_at "own store" | walk_at "own slice" | walk_at "own append" | walk_at "own pos" | walk_at "own repl" | ((fail_if_success (with_reducible show wpAny _ _ (call (Value.ref _) _) _ _ _)); first | (k_unfold; (try dsimp only)) | (k_end; wrow_close) | walk1 | (dsimp only; walk1) | (leave1; walk_say "STEP leave1"; try dsimp only) | fail "no step")))
        all_goals ((rename Fr _ _ _ _ => F9); (rename News _ _ _ _ => N9); refine ⟨_, _, _, rfl, F9, N9, off, trivial, rfl, _, congrArg (Value.str · _) ?_⟩)
        · exact el_up (k := 2) (by decide) (by assumption)
        · exact el_dn (k := 2) (by decide) (by assumption)
      · change m₂ _ = some (.int 3 t) at hx
        (repeat' ((fail_if_success (with_reducible show wpAny _ _ (pyIter _) _ _ _)); (fail_if_success (with_reducible show wpAny _ _ (exec (Stmt.For _ _ _ _ _) _) _ _ _)); (fail_if_success (with_reducible show InvPostN _ _ _ _ _ _ _ _ _)); (fail_if_success (with_reducible show InvEndN _ _ _ _ _ _ _)); first | walk_at "own call" | walk_at "own store" | walk_at "own slice" | walk_at "own append" | walk_at "own pos" | walk_at "own repl" | ((fail_if_success (with_reducible show wpAny _ _ (call (Value.ref _) _) _ _ _)); first | (k_unfold; (try dsimp only)) | (k_end; wrow_close) | walk1 | (dsimp only; walk1) | (leave1; walk_say "STEP leave1"; try dsimp only) | fail "no step")))
        all_goals ((rename Fr _ _ _ _ => F9); (rename News _ _ _ _ => N9); refine ⟨_, _, _, rfl, F9, N9, off, trivial, rfl, _, congrArg (Value.str · _) ?_⟩)
        · exact el_up (k := 3) (by decide) (by assumption)
        · exact el_dn (k := 3) (by decide) (by assumption)
    case fin =>
      intro ys hl hy
      intro D2 h tk F7 N7 o7
      dsimp only
      iterate 4 (try ((fail_if_success (with_reducible show wpAny _ _ (call _ _) _ _ _)); walk1))
      refine join_f (sigG n) (PySem.IsL.isList (n := ys.length) (N7 _ (.head _)).1) hy (by omega) ?_
      intro t' k
      rw [hl]
      dsimp only
      k_steps
      (rename Fr _ _ _ _ => F9); (rename News _ _ _ _ => N9)
      exact ret _ _ _ F9 (cb_drop N9 fun _ h => .tail _ (.tail _ (.tail _ h)))
end
end Mine
end
section
open PySem PySem.W PyProof.Rows
namespace Mine
local macro_rules | `(tactic| walk_at "own pow") => `(tactic| ((with_reducible show wpAny _ _ (binaryOp .Pow (Value.int _ _) (Value.int _ _)) _ _ _); (with_reducible refine pow_int_small ?a ?b ?c ?_); (case a => decide); (case b => decide); (case c => decide)))
local macro_rules | `(tactic| walk_at "own div") => `(tactic| ((with_reducible show wpAny _ _ (binaryOp .FloorDiv (Value.int _ _) (Value.int _ _)) _ _ _); (with_reducible refine floordiv_int ?a ?_ (Or.inl (PyProof.noPylong_small ?b))); (case a => decide); (case b => decide)))
local macro_rules | `(tactic| walk_at "own mod") => `(tactic| ((with_reducible show wpAny _ _ (binaryOp .Mod (Value.int _ _) (Value.int _ _)) _ _ _); (with_reducible refine mod_int' ?a ?_); (case a => decide)))
section
variable {w : World} {p : Program} {loose : List Str} {mean : ExcName → Option Value} {mg mb : Str → Option Value} {dp un : Nat} {gd : Option (List Code)} {cn : Str} {cs : Scope} {a : Addr} {ccd : Value} {cl : List (Str × Addr)} {outer : List Env} {A₀ : Around} {base h₀ : Heap} {L : Addr} {m : Str → Option Value} {s : Shared} {news : List (Addr × Obj)}
set_option maxRecDepth 100000 in
set_option maxHeartbeats 1000000 in
theorem lgray_r {Q E : Value → Shared → Prop} {n : Nat} {tn : Tok} (B : Below A₀ base outer h₀) (F : Fr h₀ L s.heap m) (X : (Mine.hd.heap_39 w.params).In h₀) (N : News h₀ L s.heap news) (T : Top p loose mean mg mb h₀) (hk : cs.kind = .function)
    (hn16 : n ≤ 16) (hroom : dp + 5 < recursionLimit) (hunits : un + 80 < cLine)
    (ret : ∀ (t : Tok) (h' : Heap) (tk' : Nat), Fr h₀ L h' m → News h₀ L h' news → Q (.str (gw n) t) { s with heap := h', toks := tk' }) :
    wpAny (model PySem.Challenge.rw_rs0052_02.prog w) (ktrTop dp un gd cn cs L a ccd cl outer) (call (.ref 111) [.int (n : Int) tn]) Q E s := by
  k_with_none
  w_top off
  revert X
  k_fill
  intro X
  refine wpAny_call ?_
  k_dflt (refine' code_defC ?k1 ?k2 ?k3 ?k4 ?k5 ?kA ?kF ?kK ?k6 ?k7 ?k8 ?k9 ?kB ?kC ?_ ?c2 ?c3 ?c4; (case kA => exact rfl); (case kF => exact rfl); (case kK => assumption); (case k1 => k_asm); (case k2 => k_asm); (case k3 => k_asm); (case k4 => k_asm); (case k5 => k_asm); (case k6 => k_is); (case k7 => k_is); (case k8 => ktr_room); (case k9 => exact BindsTo.of_eq rfl); (case kB => intro i z hz; have hz2 : z ∈ [(Str.ofString "count", Value.int (n : Int) tn)] := hz; (rw [List.mem_singleton.mp hz2]; exact Or.inr ⟨rfl, rfl⟩)); (case kC => decide); (case c2 => exact rfl); (case c3 => exact rfl); (case c4 => exact rfl); k_whole; intro g' L' h' tk' cells FG' F' N' Y' B' X' T' D'; (try dsimp only); (try k_lift B'); (try k_fold))
  obtain ⟨oc, rfl, hoc⟩ := CellsAre.one Y'
  clear Y'
  have hoc2 : oc.data = .cell (some (.int (n : Int) tn)) := hoc.trans rfl
  clear hoc
  simp only [List.cons_append, List.nil_append] at N'
  iterate 8 (try ((fail_if_success (with_reducible show wpAny _ _ (eval (Expr.ListComp _ _ _ _) _) _ _ _)); walk1))
  (rename Fr _ _ _ _ => hF); (rename News _ _ _ _ => hN)
  refine' LCg.ListComp_U (cl := [(Str.ofString "count", L' + 1)]) hF (by with_unfolding_all rfl) (by decide) (by rfl) (by decide) (by rfl) ?_
  iterate 9 (try ((fail_if_success (with_reducible show LCg.CompSrc _ _ _ _ _ _ _ _ _ _ _ _ _ _)); walk1))
  (rename Fr _ _ _ _ => F8); (rename News _ _ _ _ => N8); (rename IsRange _ _ _ _ _ _ _ _ => rg8)
  refine' LCg.CompSrc.range (n := 4) rfl F8 N8 rg8 (by decide) (by rfl) (by decide) (fun g => comp_idx (fun i y => ∃ t, y = .str ⟨#[sigG n i]⟩ t) ?turn ?fin)
  case turn =>
    intro i v I oI C oC D m₂ ys h tk E' hi hv hC hx F' N' off ne
    obtain ⟨t, rfl⟩ := hv
    rcases (by omega : i = 0 ∨ i = 1 ∨ i = 2 ∨ i = 3) with rfl | rfl | rfl | rfl
    all_goals (simp only [Int.zero_add] at hx)
    · change m₂ _ = some (.int 0 t) at hx
      (repeat' ((fail_if_success (with_reducible show wpAny _ _ (pyIter _) _ _ _)); (fail_if_success (with_reducible show LCg.CompEnd _ _ _ _ _ _ _ _ _ _ _ _ _ _)); first | walk_at "own pow" | walk_at "own div" | walk_at "own mod" | ((fail_if_success (with_reducible show wpAny _ _ (call (Value.ref _) _) _ _ _)); first | (k_unfold; (try dsimp only)) | (k_end; wrow_close) | walk1 | (dsimp only; walk1) | (leave1; walk_say "STEP leave1"; try dsimp only) | fail "no step")))
      all_goals ((rename Fr _ _ _ _ => F9); (rename News _ _ _ _ => N9); refine ⟨_, _, _, rfl, F9, N9, off, trivial, rfl, _, congrArg (Value.str · _) ?_⟩)
      · exact gray_up (k := 0) hn16 (by decide) (by assumption)
      · exact gray_dn (k := 0) hn16 (by decide) (by assumption)
    · change m₂ _ = some (.int 1 t) at hx
      (repeat' ((fail_if_success (with_reducible show wpAny _ _ (pyIter _) _ _ _)); (fail_if_success (with_reducible show LCg.CompEnd _ _ _ _ _ _ _ _ _ _ _ _ _ _)); first | walk_at "own pow" | walk_at "own div" | walk_at "own mod" | ((fail_if_success (with_reducible show wpAny _ _ (call (Value.ref _) _) _ _ _)); first | (k_unfold; (try dsimp only)) | (k_end; wrow_close) | walk1 | (dsimp only; walk1) | (leave1; walk_say "STEP leave1"; try dsimp only) | fail "no step")))
      all_goals ((rename Fr _ _ _ _ => F9); (rename News _ _ _ _ => N9); refine ⟨_, _, _, rfl, F9, N9, off, trivial, rfl, _, congrArg (Value.str · _) ?_⟩)
      · exact gray_up (k := 1) hn16 (by decide) (by assumption)
      · exact gray_dn (k := 1) hn16 (by decide) (by assumption)
    · change m₂ _ = some (.int 2 t) at hx
      (repeat' ((fail_if_success (with_reducible show wpAny _ _ (pyIter _) _ _ _)); (fail_if_success (with_reducible show LCg.CompEnd _ _ _ _ _ _ _ _ _ _ _ _ _ _)); first | walk_at "own pow" | walk_at "own div" | walk_at "own mod" | ((fail_if_success (with_reducible show wpAny _ _ (call (Value.ref _) _) _ _ _)); first | (k_unfold; (try dsimp only)) | (k_end; wrow_close) | walk1 | (dsimp only; walk1) | (leave1; walk_say "STEP leave1"; try dsimp only) | fail "no step")))
      all_goals ((rename Fr _ _ _ _ => F9); (rename News _ _ _ _ => N9); refine ⟨_, _, _, rfl, F9, N9, off, trivial, rfl, _, congrArg (Value.str · _) ?_⟩)
      · exact gray_up (k := 2) hn16 (by decide) (by assumption)
      · exact gray_dn (k := 2) hn16 (by decide) (by assumption)
    · change m₂ _ = some (.int 3 t) at hx
      (repeat' ((fail_if_success (with_reducible show wpAny _ _ (pyIter _) _ _ _)); (fail_if_success (with_reducible show LCg.CompEnd _ _ _ _ _ _ _ _ _ _ _ _ _ _)); first | walk_at "own pow" | walk_at "own div" | walk_at "own mod" | ((fail_if_success (with_reducible show wpAny _ _ (call (Value.ref _) _) _ _ _)); first | (k_unfold; (try dsimp only)) | (k_end; wrow_close) | walk1 | (dsimp only; walk1) | (leave1; walk_say "STEP leave1"; try dsimp only) | fail "no step")))
      all_goals ((rename Fr _ _ _ _ => F9); (rename News _ _ _ _ => N9); refine ⟨_, _, _, rfl, F9, N9, off, trivial, rfl, _, congrArg (Value.str · _) ?_⟩)
      · exact gray_up (k := 3) hn16 (by decide) (by assumption)
      · exact gray_dn (k := 3) hn16 (by decide) (by assumption)
  case fin =>
    intro ys hl hy
    intro D2 h tk F7 N7 o7
    dsimp only
    iterate 4 (try ((fail_if_success (with_reducible show wpAny _ _ (call _ _) _ _ _)); walk1))
    refine join_f (sigG n) (PySem.IsL.isList (n := ys.length) (N7 _ (.head _)).1) hy (by omega) ?_
    intro t' k
    rw [hl]
    dsimp only
    k_steps
    (rename Fr _ _ _ _ => F9); (rename News _ _ _ _ => N9)
    exact ret _ _ _ F9 (cb_drop N9 fun _ h => .tail _ (.tail _ h))
end
end Mine
end
section
open PySem PySem.W PyProof.Rows
namespace Mine
def small (x : Str) : Prop := ∀ c ∈ lst x, c < 1114112
theorem strOk_of {x : Str} (h : small x) : PyData.strOk x = true := by
  unfold PyData.strOk
  rw [Array.all_eq_true']
  intro c hc
  simpa using h c (by simpa [lst] using hc)
theorem lay_strs : ∀ ts : List Str, (∀ x ∈ ts, small x) → PyData.canLayAll0 (ts.map PyData.str) = true
  | [], _ => rfl
  | x :: r, h => by
    rw [List.map_cons, PyData.canLayAll0, PyData.canLay0, strOk_of (h x (.head _)), lay_strs r fun y hy => h y (.tail _ hy)]; rfl
theorem depth_strs : ∀ ts : List Str, PyData.depthAll (ts.map PyData.str) = 0
  | [] => rfl
  | _ :: r => by simp [PyData.depthAll, PyData.depth, depth_strs r]
theorem shaped_strs {ts : List Str} (h : ∀ x ∈ ts, small x) : SeqAt.shaped (.list (ts.map PyData.str)) = true := by
  simp [SeqAt.shaped, PyData.canLay0, PyData.depth, lay_strs ts h, depth_strs]
theorem same_strs : ∀ ts : List Str, PySem.Spec.sameAll (ts.map PyData.str) (ts.map PyData.str) = true
  | [] => rfl
  | _ :: r => by simp [PySem.Spec.sameAll, PySem.Spec.same, same_strs r]
section
variable {prog : Program} {w : World} {A : Around} {E : Value → Shared → Prop} {s : Shared} {a b : Addr} {xs ys : List Value} {ts : List Str} {Q : Value → Shared → Prop}
theorem ne_strs (ha : s.heap.IsList a xs.toArray) (hb : s.heap.IsList b ys.toArray) (hi : StrsAre xs ts) (hj : StrsAre ys ts) (hs : ∀ x ∈ ts, small x) (hu : A.units + 64 < cLine) (h : Q (.bool false) s) :
    wpAny (model prog w) A (compareOp .NotEq (.ref a) (.ref b)) Q E s :=
  ne_dataH_same (reads_newData ha hi.carried) (reads_newData hb hj.carried) (shaped_strs hs) (shaped_strs hs) hu (SeqAt.noMix_of_shape (.list .str) rfl _ _ (list_map_has fun _ => rfl) (list_map_has fun _ => rfl)) (by
    rw [show PySem.Spec.same (.list (ts.map PyData.str)) (.list (ts.map PyData.str)) = true by rw [PySem.Spec.same]; exact same_strs ts]; exact h)
theorem led_list {h₀ : Heap} {L D : Addr} {news : List (Addr × Obj)} {ys : List Value} {n : Nat} (N : News h₀ L s.heap news) (hm : (D, PySem.W.listOf ys.toArray n) ∈ news) : s.heap.IsList D ys.toArray := PySem.IsL.isList (n := n) (N _ hm).1
end
theorem small_dots (n : Nat) : small (dotsS n) := fun c hc => by
  rw [lst_dots] at hc
  rw [List.eq_of_mem_replicate hc]; decide
theorem small_oDots (n : Nat) : small (oDots n) := fun c hc => by
  rw [lst_oDots] at hc
  rcases List.mem_cons.mp hc with rfl | hc
  · decide
  · rw [List.eq_of_mem_replicate hc]; decide
theorem small_gw (n : Nat) : small (gw n) := fun c hc => by
  rw [lst_gw] at hc
  unfold wordG at hc
  obtain ⟨k, hk, rfl⟩ := List.mem_map.mp hc
  have := List.mem_range.mp hk
  unfold sigG
  split <;> omega
theorem small_3 {a b c : Str} (ha : small a) (hb : small b) (hc : small c) : ∀ x ∈ [a, b, c], small x := by
  intro x hx
  simp only [List.mem_cons, List.not_mem_nil, or_false] at hx
  rcases hx with rfl | rfl | rfl
  · exact ha
  · exact hb
  · exact hc
theorem small_gws (l : List Nat) : ∀ x ∈ l.map gw, small x := by
  intro x hx
  obtain ⟨n, _, rfl⟩ := List.mem_map.mp hx
  exact small_gw n
/-- the six counts -/
def six (n0 n1 n2 k : Nat) : List Nat := [n0, n1, n2, n0 + k, n1 + k, n2]
def cnt6 (n0 n1 n2 k i : Nat) : Nat := (six n0 n1 n2 k).getD i 0
theorem rows6 {n0 n1 n2 k i : Nat} {v : Value} {r0 r1 r2 s0 s1 s2 : Tok} (b0 : n0 ≤ 11) (b1 : n1 ≤ 11) (b2 : n2 ≤ 15) (b3 : k ≤ 4)
    (h : (#[.str (dotsS n0) r0, .str (dotsS n1) r1, .str (oDots n2) r2, .str (dotsS (n0 + k)) s0, .str (dotsS (n1 + k)) s1, .str (oDots n2) s2] : Array Value)[i]? = some v) :
    ∃ x t, v = .str x t ∧ x.length ≤ 1000 ∧ Txt.count x (Str.ofString ".") = (cnt6 n0 n1 n2 k i : Int) ∧ cnt6 n0 n1 n2 k i ≤ 16 := by
  match i, h with
  | 0, h => cases h; exact ⟨_, _, rfl, by rw [dots_len']; omega, dots_count _, by show n0 ≤ 16; omega⟩
  | 1, h => cases h; exact ⟨_, _, rfl, by rw [dots_len']; omega, dots_count _, by show n1 ≤ 16; omega⟩
  | 2, h => cases h; exact ⟨_, _, rfl, by rw [oDots_len]; omega, oDots_count _, by show n2 ≤ 16; omega⟩
  | 3, h => cases h; exact ⟨_, _, rfl, by rw [dots_len']; omega, dots_count _, by show n0 + k ≤ 16; omega⟩
  | 4, h => cases h; exact ⟨_, _, rfl, by rw [dots_len']; omega, dots_count _, by show n1 + k ≤ 16; omega⟩
  | 5, h => cases h; exact ⟨_, _, rfl, by rw [oDots_len]; omega, oDots_count _, by show n2 ≤ 16; omega⟩
  | j + 6, h => exact nomatch h
theorem ints6 {n0 n1 n2 k i : Nat} {vs : List Value} {v : Value} (b0 : n0 ≤ 11) (b1 : n1 ≤ 11) (b2 : n2 ≤ 15) (b3 : k ≤ 4) (hvs : IntsAre vs [(n0 : Int), (n1 : Int), (n2 : Int), ((n0 + k : Nat) : Int), ((n1 + k : Nat) : Int), (n2 : Int)])
    (h : vs.toArray[i]? = some v) : ∃ t, v = .int (cnt6 n0 n1 n2 k i : Int) t ∧ cnt6 n0 n1 n2 k i ≤ 16 := by
  obtain ⟨n, t, rfl, e⟩ := IntsAre.at hvs i v (by simpa using h)
  refine ⟨t, ?_⟩
  match i, e with
  | 0, e => cases e; exact ⟨rfl, by show n0 ≤ 16; omega⟩
  | 1, e => cases e; exact ⟨rfl, by show n1 ≤ 16; omega⟩
  | 2, e => cases e; exact ⟨rfl, by show n2 ≤ 16; omega⟩
  | 3, e => cases e; exact ⟨rfl, by show n0 + k ≤ 16; omega⟩
  | 4, e => cases e; exact ⟨rfl, by show n1 + k ≤ 16; omega⟩
  | 5, e => cases e; exact ⟨rfl, by show n2 ≤ 16; omega⟩
  | j + 6, e => exact nomatch e
theorem strs_idx : ∀ (ys : List Value) (f : Nat → Str), (∀ i y, ys[i]? = some y → ∃ t, y = Value.str (f i) t) → StrsAre ys ((List.range ys.length).map f)
  | [], _, _ => .nil
  | y :: r, f, h => by
    obtain ⟨t, e⟩ := h 0 y rfl
    rw [List.length_cons, List.range_succ_eq_map, List.map_cons, List.map_map, e]
    exact .cons _ t (strs_idx r (fun i => f (i + 1)) fun i z hz => h (i + 1) z hz)
theorem words6 {n0 n1 n2 k : Nat} {ys : List Value} (hl : ys.length = 6) (h : ∀ i y, ys[i]? = some y → ∃ t, y = Value.str (gw (cnt6 n0 n1 n2 k i)) t) : StrsAre ys ((six n0 n1 n2 k).map gw) := by
  have := strs_idx ys (fun i => gw (cnt6 n0 n1 n2 k i)) h
  rw [hl] at this
  exact this
end Mine
end
section
open PySem PySem.W PyProof.Rows
namespace Mine
local macro_rules | `(tactic| walk_at "own neq") => `(tactic| (
  (with_reducible show wpAny _ _ (compareOp CmpOp.NotEq (Value.ref _) (Value.ref _)) _ _ _);
  (with_reducible rename News _ _ _ _ => N');
  k_dflt (refine' ne_strs (led_list N' ?ma) (led_list N' ?mb) ?si ?sj ?hs ?hu ?_; (case ma => k_mem); (case mb => k_mem); (case si => first | assumption | exact .cons _ _ (.cons _ _ (.cons _ _ .nil))); (case sj => first | assumption | exact .cons _ _ (.cons _ _ (.cons _ _ .nil))); (case hu => ke_room); (case hs => first | exact small_gws _ | exact small_3 (small_dots _) (small_dots _) (small_oDots _)))))
local macro_rules | `(tactic| walk_at "own call") => `(tactic| (
  (with_reducible show wpAny _ _ (call (Value.ref _) _) _ _ _);
  (with_reducible rename Fr _ _ _ _ => F');
  (with_reducible rename News _ _ _ _ => N');
  k_dflt (first
  | (refine' lread_r ?B F' ?X N' ?T ?K ?x ?cnt ?n16 ?y ?yl ?D ?U ?_; (case B => k_asm); (case X => k_asm); (case T => k_asm); (case K => exact rfl); (case cnt => assumption); (case x => assumption); (case n16 => assumption); (case y => assumption); (case yl => assumption); (case D => ktr_room); (case U => ktr_units))
  | (refine' lgray_r ?B F' ?X N' ?T ?K ?n16 ?D ?U ?_; (case B => k_asm); (case X => k_asm); (case T => k_asm); (case K => exact rfl); (case n16 => assumption); (case D => ktr_room); (case U => ktr_units))); intro t9 h9 tk9 F9 N9; (try dsimp only)))
local macro_rules | `(tactic| walk_at "own store") => `(tactic| (
  (with_reducible show wpAny _ _ (storeName _ (Str.ofString "words") _) _ _ _);
  (with_reducible rename Fr _ _ _ _ => F');
  (with_reducible rename News _ _ _ _ => N');
  k_dflt (refine' storeX_C (cl := [(Str.ofString "other", _), (Str.ofString "word", _), (Str.ofString "apart", _), (Str.ofString "first", _), (Str.ofString "second", _), (Str.ofString "words", _), (Str.ofString "tail", _), (Str.ofString "script", _)]) F' N' ?c ?U ?d ?_ ?a ?b; (case a => rfl); (case b => rfl); (case c => rfl); (case U => k_updF); (case d => assumption)); intro h8 o8 F8 N8 d8; (try dsimp only at N8)))
section
variable {fa lc : Addr} {w : World} {p : Program} {loose : List Str} {mean : ExcName → Option Value} {mg mb : Str → Option Value} {base h₀ : Heap} {m : Str → Option Value} {s : Shared} {Q : Flow → Shared → Prop}
set_option maxRecDepth 100000 in
set_option maxHeartbeats 1000000 in
theorem law_words {L' C R U S : Addr} {o2 o3 o4 o5 o6 o7 o8 : Obj} {vs : List Value} {n0 n1 n2 k j : Nat} {u : Str → Option Value} {y : Str} {ty r0 r1 r2 u0 u1 u2 s0 s1 s2 : Tok}
    (b0 : n0 ≤ 11) (b1 : n1 ≤ 11) (b2 : n2 ≤ 15) (b3 : k ≤ 4) (hvs : IntsAre vs [(n0 : Int), (n1 : Int), (n2 : Int), ((n0 + k : Nat) : Int), ((n1 + k : Nat) : Int), (n2 : Int)])
    (hC : @LT.lt Nat _ (L' + 8) C) (hR : @LT.lt Nat _ C R) (hU : @LT.lt Nat _ R U) (hS : @LT.lt Nat _ U S) (h2 : o2.data = .cell (some (.str y ty))) (hy : nameOf (lst y) = []) (hyl : y.length ≤ 3) (h3 : o3.data = .cell none)
    (B : Below callerA base [] h₀) (X : (Mine.hd.heap_39 w.params).In h₀) (T : Top p loose mean mg mb h₀)
    (F : Fr h₀ L' s.heap (kstB u [(Str.ofString "counts", .ref C), (Str.ofString "rows", .ref R), (Str.ofString "due", .ref U), (Str.ofString "sent", .ref S)]))
    (N : News h₀ L' s.heap [(S, PySem.W.listOf #[.str (dotsS (n0 + k)) s0, .str (dotsS (n1 + k)) s1, .str (oDots n2) s2] 0), (U, PySem.W.listOf #[.str (dotsS (n0 + k)) u0, .str (dotsS (n1 + k)) u1, .str (oDots n2) u2] 0), (R, PySem.W.listOf #[.str (dotsS n0) r0, .str (dotsS n1) r1, .str (oDots n2) r2] 0), (C, PySem.W.listOf vs.toArray j), (L' + 1 + 1, o2), (L' + 1 + 1 + 1, o3), (L' + 1 + 1 + 1 + 1, o4), (L' + 1 + 1 + 1 + 1 + 1, o5), (L' + 1 + 1 + 1 + 1 + 1 + 1, o6), (L' + 1 + 1 + 1 + 1 + 1 + 1 + 1, o7), (L' + 1 + 1 + 1 + 1 + 1 + 1 + 1 + 1, o8)])
    (ret : ∀ W o3' ys h' tk' u', StrsAre ys ((six n0 n1 n2 k).map gw) → o3'.data = .cell (some (.ref W)) → (∀ i : Nat, 2 ≤ i → i ≤ 8 → @Ne Nat W (L' + i)) → Fr h₀ L' h' (kstB u' [(Str.ofString "counts", .ref C)]) → News h₀ L' h' [(W, PySem.W.listOf ys.toArray ys.length), (C, PySem.W.listOf vs.toArray j), (L' + 1 + 1 + 1, o3'), (L' + 1 + 1 + 1 + 1, o4), (L' + 1 + 1 + 1 + 1 + 1, o5), (L' + 1 + 1 + 1 + 1 + 1 + 1, o6), (L' + 1 + 1 + 1 + 1 + 1 + 1 + 1, o7), (L' + 1 + 1 + 1 + 1 + 1 + 1 + 1 + 1, o8)] → Q .next { s with heap := h', toks := tk' }) :
    wpAny (model PySem.Challenge.rw_rs0052_02.prog w) (callerA.deeper (envOfC (Str.ofString "law") (scopeAt PySem.Challenge.rw_rs0052_02.prog 20) L' fa (.ref lc)))
      (execs (((stmtsAt PySem.Challenge.rw_rs0052_02.prog 20).drop 10).take 3) (envOfC (Str.ofString "law") (scopeAt PySem.Challenge.rw_rs0052_02.prog 20) L' fa (.ref lc))) Q (fun _ _ => False) s := by
  k_with_none
  w_top off
  revert X
  k_fill
  intro X
  conv in (occs := *) scopeAt _ _ => all_goals whnf
  conv in (occs := *) List.drop _ _ => all_goals whnf
  simp only [List.take_succ_cons, List.take_zero]
  dsimp only [kstB] at F
  (repeat' ((fail_if_success (with_reducible show LCg.CompEnd _ _ _ _ _ _ _ _ _ _ _ _ _ _)); (fail_if_success (with_reducible show wpAny _ _ (eval (Expr.ListComp _ _ _ _) _) _ _ _)); first | ((with_reducible show wpAny _ _ (execs [] _) _ _ _); refine wpAny_execs_nil ?_; (try dsimp only)) | walk_at "own neq" | walk_at "own call" | walk_at "own store" | ((fail_if_success (with_reducible show wpAny _ _ (call (Value.ref _) _) _ _ _)); (fail_if_success (with_reducible show wpAny _ _ (subscriptTail _ _ (Value.ref _) _) _ _ _)); first | walk1 | (dsimp only; walk1))))
  (rename Fr _ _ _ _ => hF)
  refine' LCg.ListComp_U (cl := [(Str.ofString "tail", L' + 1 + 1)]) hF (by with_unfolding_all rfl) (by decide) (by rfl) (by decide) (by rfl) ?_
  iterate 9 (try ((fail_if_success (with_reducible show LCg.CompSrc _ _ _ _ _ _ _ _ _ _ _ _ _ _)); walk1))
  (rename Fr _ _ _ _ => F8); (rename News _ _ _ _ => N8)
  refine' LCg.CompSrc.ledger rfl F8 N8 (.head _) ?sz (fun g => comp_idx (fun i z => ∃ t, z = .str (gw (cnt6 n0 n1 n2 k i)) t) ?turn ?fin)
  case sz => show 6 ≤ sizeLine; decide
  case turn =>
    intro i v I oI C2 oC D2 m₂ ys h tk E' hi hv hC2 hx F' N' off ne
    obtain ⟨x, t, rfl, hxl, hcnt, hle⟩ := rows6 b0 b1 b2 b3 hv
    (repeat' ((fail_if_success (with_reducible show LCg.CompEnd _ _ _ _ _ _ _ _ _ _ _ _ _ _)); (fail_if_success (with_reducible show wpAny _ _ (eval (Expr.ListComp _ _ _ _) _) _ _ _)); first | ((with_reducible show wpAny _ _ (execs [] _) _ _ _); refine wpAny_execs_nil ?_; (try dsimp only)) | walk_at "own neq" | walk_at "own call" | walk_at "own store" | ((fail_if_success (with_reducible show wpAny _ _ (call (Value.ref _) _) _ _ _)); (fail_if_success (with_reducible show wpAny _ _ (subscriptTail _ _ (Value.ref _) _) _ _ _)); first | walk1 | (dsimp only; walk1))))
    (rename Fr _ _ _ _ => F9); (rename News _ _ _ _ => N9)
    exact ⟨_, _, _, rfl, F9, N9, off, .inr ⟨_, .head _, rfl, _, rfl⟩, rfl, _, rfl⟩
  case fin =>
    intro ys hl hy9
    have hws := words6 hl hy9
    intro W h tk F7 N7 oW
    simp only [LCg.Off1, and_true] at oW
    dsimp only
    clear F8 N8
    (repeat' ((fail_if_success (with_reducible show LCg.CompEnd _ _ _ _ _ _ _ _ _ _ _ _ _ _)); (fail_if_success (with_reducible show wpAny _ _ (eval (Expr.ListComp _ _ _ _) _) _ _ _)); first | ((with_reducible show wpAny _ _ (execs [] _) _ _ _); refine wpAny_execs_nil ?_; (try dsimp only)) | walk_at "own neq" | walk_at "own call" | walk_at "own store" | ((fail_if_success (with_reducible show wpAny _ _ (call (Value.ref _) _) _ _ _)); (fail_if_success (with_reducible show wpAny _ _ (subscriptTail _ _ (Value.ref _) _) _ _ _)); first | walk1 | (dsimp only; walk1))))
    (rename Fr _ _ _ _ => hF)
    refine' LCg.ListComp_U (cl := []) hF (by with_unfolding_all rfl) (by decide) (by rfl) (by decide) (by rfl) ?_
    iterate 9 (try ((fail_if_success (with_reducible show LCg.CompSrc _ _ _ _ _ _ _ _ _ _ _ _ _ _)); walk1))
    (rename Fr _ _ _ _ => F8); (rename News _ _ _ _ => N8)
    refine' LCg.CompSrc.ledger (k := j) (its := vs.toArray) rfl F8 N8 ?mem ?sz (fun g => comp_idx (fun i z => ∃ t, z = .str (gw (cnt6 n0 n1 n2 k i)) t) ?turn2 ?fin2)
    case mem => k_mem
    case sz => rw [List.size_toArray, hvs.length]; show 6 ≤ sizeLine; decide
    case turn2 =>
      intro i v I oI C2 oC D2 m₂ ys2 h tk E' hi hv hC2 hx F' N' off ne
      obtain ⟨t, rfl, hle⟩ := ints6 b0 b1 b2 b3 hvs hv
      (repeat' ((fail_if_success (with_reducible show LCg.CompEnd _ _ _ _ _ _ _ _ _ _ _ _ _ _)); (fail_if_success (with_reducible show wpAny _ _ (eval (Expr.ListComp _ _ _ _) _) _ _ _)); first | ((with_reducible show wpAny _ _ (execs [] _) _ _ _); refine wpAny_execs_nil ?_; (try dsimp only)) | walk_at "own neq" | walk_at "own call" | walk_at "own store" | ((fail_if_success (with_reducible show wpAny _ _ (call (Value.ref _) _) _ _ _)); (fail_if_success (with_reducible show wpAny _ _ (subscriptTail _ _ (Value.ref _) _) _ _ _)); first | walk1 | (dsimp only; walk1))))
      (rename Fr _ _ _ _ => F9); (rename News _ _ _ _ => N9)
      exact ⟨_, _, _, rfl, F9, N9, off, .inr ⟨_, by k_mem, rfl, _, rfl⟩, rfl, _, rfl⟩
    case fin2 =>
      intro ys2 hl2 hy2
      have hws2 := words6 (hl2.trans (by rw [List.size_toArray, hvs.length]; rfl)) hy2
      intro G h tk F7 N7 o7
      dsimp only
      clear F8 N8
      (repeat' ((fail_if_success (with_reducible show LCg.CompEnd _ _ _ _ _ _ _ _ _ _ _ _ _ _)); (fail_if_success (with_reducible show wpAny _ _ (eval (Expr.ListComp _ _ _ _) _) _ _ _)); first | ((with_reducible show wpAny _ _ (execs [] _) _ _ _); refine wpAny_execs_nil ?_; (try dsimp only)) | walk_at "own neq" | walk_at "own call" | walk_at "own store" | ((fail_if_success (with_reducible show wpAny _ _ (call (Value.ref _) _) _ _ _)); (fail_if_success (with_reducible show wpAny _ _ (subscriptTail _ _ (Value.ref _) _) _ _ _)); first | walk1 | (dsimp only; walk1))))
      (rename Fr _ _ _ _ => F9); (rename News _ _ _ _ => N9)
      obtain ⟨u9, F8⟩ := fr_some [(Str.ofString "counts", .ref C)] (by kst_all) F9
      refine' ret W _ ys _ _ u9 hws ?hd ?hW F8 ?hN
      (case hN => exact fun p hp => N9 p (by revert p; lcg_sub))
      (case hd => assumption)
      (case hW => intro i h1 h2 e; omega)
end
end Mine
end
section
open PySem PySem.W PyProof.Rows
namespace Mine
def keepT (p : Int) (t : Nat) : Bool := decide (t = 0) || decide ((2 : Int) ^ t < p)
def keepW (a b : Nat) (k : Nat) : Bool := Txt.item (gw a) (k : Int) != Txt.item (gw b) (k : Int)
theorem gw_item {n k : Nat} (hk : k < 4) : Txt.item (gw n) (k : Int) = ⟨#[sigG n k]⟩ := by
  obtain ⟨c, _, e, h⟩ := item_cons (x := gw n) (i := (k : Int)) (by omega) (by rw [gw_len]; omega)
  rw [e]
  rw [lst_gw, Int.toNat_natCast] at h
  unfold wordG at h
  rw [List.getElem?_map, List.getElem?_range hk] at h
  cases h; rfl
theorem keepW_is {a b k : Nat} (hk : k < 4) : keepW a b k = decide (sigG a k ≠ sigG b k) := by
  unfold keepW
  rw [gw_item hk, gw_item hk]
  by_cases h : sigG a k = sigG b k <;> simp [h]
theorem filt_len {a b n : Nat} (hn : n ≤ 4) : ((List.range n).filter (keepW a b)).length = ham n a b := by
  unfold ham
  rw [List.filter_congr fun k hk => keepW_is (a := a) (b := b) (by have := List.mem_range.mp hk; omega)]
theorem keepT_a {p : Int} {t : Nat} (h : (t : Int) = 0) : true = keepT p t := by
  unfold keepT; rw [decide_eq_true (by omega), Bool.true_or]
theorem keepT_b {p : Int} {t : Nat} (h : (2 : Int) ^ (t : Int).toNat < p) : true = keepT p t := by
  unfold keepT; rw [Int.toNat_natCast] at h; rw [decide_eq_true h, Bool.or_true]
theorem keepT_c {p : Int} {t : Nat} (h0 : (t : Int) ≠ 0) (h : ¬ (2 : Int) ^ (t : Int).toNat < p) : false = keepT p t := by
  unfold keepT; rw [Int.toNat_natCast] at h; rw [decide_eq_false h, Bool.or_false, decide_eq_false (by omega)]
abbrev apartZ (a b : Nat) : Int := 3 * (if (b : Int) - (a : Int) < 0 then -((b : Int) - (a : Int)) else (b : Int) - (a : Int))
theorem told_way {a b : Nat} (ha : a ≤ 15) (hb : b ≤ 15) {M r : Int} (hM : ∀ t : Nat, t < 6 → keepT (apartZ a b) t = true → (t : Int) ≤ M)
    (h : Told scost (lst (gw a)) (lst (gw b)) M r) : r = (ham 4 a b : Int) := by
  refine told_eq h (by rw [lst_gw, lst_gw, D_word ha hb]) (hM _ (Nat.lt_of_le_of_lt (ham_le 4 a b) (by decide)) ?_)
  unfold keepT
  rcases yuen ha hb with e | e
  · rw [e]; rfl
  · rw [Bool.or_eq_true]
    right
    rw [decide_eq_true_eq]
    have e2 : apartZ a b = ((3 * ((a : Int) - b).natAbs : Nat) : Int) := by unfold apartZ; split <;> omega
    rw [e2]
    have : ((2 ^ ham 4 a b : Nat) : Int) < ((3 * ((a : Int) - b).natAbs : Nat) : Int) := Int.ofNat_lt.mpr e
    simpa using this
theorem told_back {a b : Nat} (ha : a ≤ 15) (hb : b ≤ 15) {r : Int} (h : Told scost (lst (gw b)) (lst (gw a)) ((ham 4 a b : Int) - 1) r) : (ham 4 a b : Int) ≤ r := by
  have hd : D scost (lst (gw b)) (lst (gw a)) = ham 4 a b := by rw [D_symm scost_cost, lst_gw, lst_gw, D_word ha hb]
  have := h.2 (by rw [hd]; omega)
  omega
theorem told_shift {a b : Nat} (ha : a ≤ 15) (hb : b ≤ 15) {z : Str} {r : Int} (hz : lst z = 120 :: (wordG b).take 3) (h : Told scost (lst (gw a)) (lst z) (4 + (ham 3 a b : Int)) r) : r = 4 + (ham 3 a b : Int) :=
  told_eq h (by rw [lst_gw, hz, D_shift ha hb]; omega) (Int.le_refl _)
theorem told_part {a : Nat} {z : Str} {r : Int} (hz : lst z = [sigG a 1, sigG a 3]) (h : Told scost (lst z) (lst (gw a)) 4 r) : r = 4 := by
  have hs : (lst z).Sublist (lst (gw a)) := by
    rw [hz, lst_gw]
    show [sigG a 1, sigG a 3].Sublist [sigG a 0, sigG a 1, sigG a 2, sigG a 3]
    exact .cons _ (.cons₂ _ (.cons _ (.cons₂ _ .slnil)))
  have l1 : z.length = 2 := by rw [← lst_length, hz]; rfl
  rw [t_sub h hs (by rw [gw_len, l1]; decide), gw_len, l1]
  rfl
end Mine
end
section
open PySem PySem.W PyProof.Rows
namespace Mine
section
variable {prog : Program} {w : World} {A : Around} {E : Value → Shared → Prop} {s : Shared} {h₀ : Heap} {L D : Addr} {m : Str → Option Value} {news : List (Addr × Obj)} {Q : Value → Shared → Prop}
theorem len_is {ys : List Value} {n k : Nat} (N : News h₀ L s.heap news) (hm : (D, PySem.W.listOf ys.toArray n) ∈ news) (hl : ys.length = k) (hk : k ≤ 1000) (h : ∀ t tk, Q (.int (k : Int) t) { s with toks := tk }) :
    wpAny (model prog w) A (call (.builtin "len") [.ref D]) Q E s :=
  len_list (led_list N hm) (by rw [List.size_toArray, hl]; omega) (by rw [List.size_toArray, hl]; exact h _ _)
theorem keepT_pos (p : Int) : 0 < (((List.range 6).filter (keepT p)).map fun (i : Nat) => (i : Int)).length :=
  List.length_pos_of_mem (a := (0 : Int)) (List.mem_map.mpr ⟨0, List.mem_filter.mpr ⟨by decide, by unfold keepT; rfl⟩, rfl⟩)
theorem max_is {ys : List Value} {n : Nat} {p : Int} (F : Fr h₀ L s.heap m) (N : News h₀ L s.heap news) (hm : (D, PySem.W.listOf ys.toArray n) ∈ news) (hi : IntsAre ys (((List.range 6).filter (keepT p)).map fun (i : Nat) => (i : Int))) (hh : A.handled = none)
    (h : ∀ h' M t tk, (∀ t : Nat, t < 6 → keepT p t = true → (t : Int) ≤ M) → Fr h₀ L h' m → News h₀ L h' news → Q (.int M t) { s with heap := h', toks := tk }) : wpAny (model prog w) A (call (.builtin "max") [.ref D]) Q E s :=
  kso_max F N (led_list N hm) hi (keepT_pos p) hh fun h' M t tk F' N' _ hM => h h' M t tk (fun i h1 h2 => hM _ (List.mem_map.mpr ⟨i, List.mem_filter.mpr ⟨List.mem_range.mpr h1, h2⟩, rfl⟩)) F' N'
/-- a letter of a word -/
theorem gw_at {value slice : Expr} {n : Nat} {k : Int} {t u : Tok} (h0 : 0 ≤ k) (h1 : k < 4) (h : ∀ v, Q (.str (Txt.item (gw n) k) v) { s with toks := s.toks + 1 })
    (hs : subscripted slice false (.str (gw n) t) (.int k u) = operate [.str (gw n) t, .int k u] (getItem (.str (gw n) t) (.int k u)))
    (ht : ∀ r, letTemporaryGo value (.str (gw n) t) r = pure ()) :
    wpAny (model prog w) A (subscriptTail value slice (.str (gw n) t) (.int k u)) Q E s :=
  item_str (fitsSsize_of (N := 9223372036854775808) (by omega) (by omega) (Int.le_refl _)) (by omega) (by rw [gw_len]; omega) (fun _ => h _) hs ht
end
theorem way_len {a b n : Nat} {ys : List Value} (hn : n ≤ 4) (h : IntsAre ys (((List.range n).filter (keepW a b)).map fun (i : Nat) => (i : Int))) : ys.length = ham n a b := by
  rw [h.length, List.length_map, filt_len hn]
theorem off1_of {D : Addr} : ∀ {l : List (Addr × Obj)}, (∀ p ∈ l, p.1 ≠ D) → LCg.Off1 D l
  | [], _ => trivial
  | p :: r, h => ⟨h p (.head _), off1_of fun q hq => h q (.tail _ hq)⟩
theorem of_off1 {D : Addr} : ∀ {l : List (Addr × Obj)}, LCg.Off1 D l → ∀ p ∈ l, p.1 ≠ D
  | [], _, _, h => nomatch h
  | q :: r, x, p, h => by
    rcases List.mem_cons.mp h with rfl | h
    · exact x.1
    · exact of_off1 x.2 p h
theorem cnt6_le {n0 n1 n2 k : Nat} (b0 : n0 ≤ 11) (b1 : n1 ≤ 11) (b2 : n2 ≤ 15) (b3 : k ≤ 4) (i : Nat) : cnt6 n0 n1 n2 k i ≤ 15 := by
  match i with
  | 0 => show n0 ≤ 15; omega
  | 1 => show n1 ≤ 15; omega
  | 2 => show n2 ≤ 15; omega
  | 3 => show n0 + k ≤ 15; omega
  | 4 => show n1 + k ≤ 15; omega
  | 5 => show n2 ≤ 15; omega
  | j + 6 => exact Nat.zero_le 15
theorem int_at6 {n0 n1 n2 k : Nat} {vs : List Value} (hvs : IntsAre vs [(n0 : Int), (n1 : Int), (n2 : Int), ((n0 + k : Nat) : Int), ((n1 + k : Nat) : Int), (n2 : Int)]) {i : Nat} (hi : i < 6) : ∃ t, vs[((i : Nat) : Int).toNat]? = some (.int (cnt6 n0 n1 n2 k i : Int) t) := by
  rw [Int.toNat_natCast]
  refine IntsAre.get hvs i _ ?_
  match i, hi with
  | 0, _ => rfl
  | 1, _ => rfl
  | 2, _ => rfl
  | 3, _ => rfl
  | 4, _ => rfl
  | 5, _ => rfl
theorem str_at6 {n0 n1 n2 k : Nat} {ws : List Value} (hws : StrsAre ws ((six n0 n1 n2 k).map gw)) {i : Nat} (hi : i < 6) : ∃ t, ws[((i : Nat) : Int).toNat]? = some (.str (gw (cnt6 n0 n1 n2 k i)) t) := by
  rw [Int.toNat_natCast]
  refine StrsAre.get hws i _ ?_
  match i, hi with
  | 0, _ => rfl
  | 1, _ => rfl
  | 2, _ => rfl
  | 3, _ => rfl
  | 4, _ => rfl
  | 5, _ => rfl
end Mine
end
section
open PySem PySem.W PyProof.Rows PySem.Spec
namespace Mine
section
variable {prog : Program} {w : World} {A : Around} {E : Value → Shared → Prop} {s : Shared} {env : Env} {h₀ : Heap} {target : Expr} {body : List Stmt} {Q : Flow → Shared → Prop}
/-- a turn's end -/
def TurnE (h₀ : Heap) (L : Addr) (s : Shared) (I : Addr) (it : Obj) (J : (Str → Option Value) → List (Addr × Obj) → Prop) (f : Flow) (s₂ : Shared) : Prop :=
  f = .next ∧ ∃ h' tk' m' news', s₂ = { s with heap := h', toks := tk' } ∧ Fr h₀ L h' m' ∧ News h₀ L h' ((I, it) :: news') ∧ (∀ p ∈ news', p.1 ≠ I) ∧ J m' news'
theorem iter_rangeT {r : Addr} {a₀ b₀ : Int} {t₀ u₀ v₀ : Tok} {n : Nat} {m₀ : Str → Option Value} {news : List (Addr × Obj)} (J : Nat → (Str → Option Value) → List (Addr × Obj) → Prop)
    (hh : A.handled = none) (hr : IsRange s.heap r a₀ b₀ 1 t₀ u₀ v₀) (hsmall : Builtin.Range.small a₀ b₀ 1 = true) (hn : Builtin.Range.rangeSize a₀ b₀ 1 = (n : Int)) (F : Fr h₀ env.locals s.heap m₀) (N : News h₀ env.locals s.heap news)
    (hgo : ∀ I v, letOwnedTupleGo target (.ref I) v = pure ()) (h0 : J 0 m₀ news)
    (turn : ∀ i t I it m₁ news₁ s₁, i < n → J i m₁ news₁ → Fr h₀ env.locals s₁.heap m₁ → News h₀ env.locals s₁.heap ((I, it) :: news₁) → (∀ p ∈ news₁, p.1 ≠ I) →
      wpAny (model prog w) A (assign target env (.int (a₀ + (i : Int)) t)) (fun _ s₃ => wpAny (model prog w) A (execs body env) (TurnE h₀ env.locals s₁ I it (J (i + 1))) E s₃) E s₁)
    (done : ∀ h' tk m' news', Fr h₀ env.locals h' m' → News h₀ env.locals h' news' → J n m' news' → Q .next { s with heap := h', toks := tk }) :
    wpAny (model prog w) A (pyIter (.ref r)) (fun it s₂ => LoopAtT prog w A h₀ env target body Q E it s₂) E s := by
  refine wpAny_pyIter_range hr hsmall ?_
  have W : Walks prog w A s.heap.objs.size [s.heap.objs.size] [s.heap.objs.size] n (fun i v => i < n ∧ ∃ t, v = .int (a₀ + i * 1) t)
      (fun i h => IsRangeIter h s.heap.objs.size (a₀ + (i : Nat) * 1) ((n : Int) - (i : Nat)) 1) := (Walks.range hh _ a₀ 1 n).bound
  have hnew := next_is_new F
  refine ⟨_, _, _, n, _, _, m₀, news, J, rfl, W, ?_, ?_, ?_, (by show IsRangeIter _ _ _ _ _; rw [hn]; simpa using Heap.get?_push_size _ rfl), F.push _, (fun p hp => ⟨Heap.get?_push_of_some _ (N p hp).1, (N p hp).2⟩), ?_, h0, ?_, ?_⟩
  · intro hm
    exact absurd F.ns.lt ((List.mem_singleton.mp hm) ▸ Nat.lt_irrefl _)
  · intro b hb
    rw [List.mem_singleton.mp hb]
    exact hnew
  · intro p hp hI
    exact absurd (Heap.lt_size (N p hp).1) ((List.mem_singleton.mp hI) ▸ Nat.lt_irrefl _)
  · intro i s' v Q' _ hq
    rw [hgo]
    exact wpAny_pure hq
  · rintro i v m₁ news₁ s₁ own hi ⟨_, t, rfl⟩ hJ hoff hown hget hall hst F₁ N₁
    have hst' : ∃ o, s₁.heap.get? s.heap.objs.size = some o := ⟨_, hst⟩
    obtain ⟨o, ho⟩ := hst'
    have hmem := hall s.heap.objs.size (List.mem_singleton.mpr rfl) hnew _ ho
    have N₂ : News h₀ env.locals s₁.heap ((s.heap.objs.size, o) :: news₁) := fun p hp => by
      rcases List.mem_cons.mp hp with rfl | hp
      · exact N₁ _ (List.mem_append_left _ hmem)
      · exact N₁ _ (List.mem_append_right _ hp)
    rw [Int.mul_one]
    refine wpAny_mono (turn i t _ o m₁ news₁ s₁ hi hJ F₁ N₂ (fun p hp e => hoff p hp (List.mem_singleton.mpr e))) (fun _ s₃ h₃ => wpAny_mono h₃ (fun f s₂ h₂ => ?_) fun _ _ e => e) fun _ _ e => e
    obtain ⟨rfl, h', tk', m', news', rfl, F', N', ho', hJ'⟩ := h₂
    refine ⟨rfl, h', tk', m', news', rfl, F', fun p hp => ?_, fun p hp hI => ho' p hp (List.mem_singleton.mp hI), hJ'⟩
    rcases List.mem_append.mp hp with hp | hp
    · have h1 : p.1 = s.heap.objs.size := List.mem_singleton.mp (hown p hp)
      have h2 : s₁.heap.get? p.1 = some p.2 := hget p hp
      have h3 : p = (s.heap.objs.size, o) := by
        rw [h1, ho] at h2
        exact Prod.ext h1 (Option.some.inj h2).symm
      rw [h3]; exact N' _ (List.mem_cons_self ..)
    · exact N' _ (List.mem_cons_of_mem _ hp)
  · rintro h' tk m' news' F' N' _ hJ
    exact done h' tk m' news' F' N' hJ
theorem iter_tupT {ax : Addr} {ot : Obj} {items : Array Value} {m₀ : Str → Option Value} {news : List (Addr × Obj)} (J : Nat → (Str → Option Value) → List (Addr × Obj) → Prop)
    (hh : A.handled = none) (ht : s.heap.IsTuple ax items) (F : Fr h₀ env.locals s.heap m₀) (N : News h₀ env.locals s.heap news) (hm : ∀ i m' news', J i m' news' → (ax, ot) ∈ news')
    (hgo : ∀ I v, letOwnedTupleGo target (.ref I) v = pure ()) (h0 : J 0 m₀ news)
    (turn : ∀ i v I it m₁ news₁ s₁, items[i]? = some v → J i m₁ news₁ → Fr h₀ env.locals s₁.heap m₁ → News h₀ env.locals s₁.heap ((I, it) :: news₁) → (∀ p ∈ news₁, p.1 ≠ I) →
      wpAny (model prog w) A (assign target env v) (fun _ s₃ => wpAny (model prog w) A (execs body env) (TurnE h₀ env.locals s₁ I it (J (i + 1))) E s₃) E s₁)
    (done : ∀ h' tk m' news', Fr h₀ env.locals h' m' → News h₀ env.locals h' news' → J items.size m' news' → Q .next { s with heap := h', toks := tk }) :
    wpAny (model prog w) A (pyIter (.ref ax)) (fun it s₂ => LoopAtT prog w A h₀ env target body Q E it s₂) E s := by
  refine wpAny_pyIter_tuple ht ?_
  have hlt : ax < s.heap.objs.size := by obtain ⟨_, e, _⟩ := id ht; exact Heap.lt_size e
  have hax := N _ (hm 0 _ _ h0)
  have hnew := next_is_new F
  have up : ∀ b o, s.heap.get? b = some o → (s.heap.push { cls := .type "tuple_iterator", data := .fields #[.ref ax, .int 0 0] }).get? b = some o := fun b o e => Heap.get?_push_of_some _ e
  refine ⟨_, _, _, items.size, _, _, m₀, news, J, rfl, Walks.tuple hh s.heap.objs.size ax (Nat.ne_of_lt hlt) items, ?_, ?_, ?_, ⟨⟨_, Heap.get?_push_size _ rfl, rfl, rfl⟩, ?_⟩, F.push _, (fun p hp => ⟨Heap.get?_push_of_some _ (N p hp).1, (N p hp).2⟩), ?_, h0, ?_, ?_⟩
  · intro hmem
    rcases List.mem_cons.mp hmem with e | hmem
    · exact absurd F.ns.lt (e ▸ Nat.lt_irrefl _)
    · exact hax.2.1 (List.mem_singleton.mp hmem).symm
  · intro b hb
    rw [List.mem_singleton.mp hb]
    exact hnew
  · intro p hp hI
    exact absurd (Heap.lt_size (N p hp).1) ((List.mem_singleton.mp hI) ▸ Nat.lt_irrefl _)
  · obtain ⟨o, e, r⟩ := id ht; exact ⟨o, up _ _ e, r⟩
  · intro i s' v Q' _ hq
    rw [hgo]
    exact wpAny_pure hq
  · rintro i v m₁ news₁ s₁ own hi hPv hJ hoff hown hget hall hst F₁ N₁
    obtain ⟨o, ho⟩ : ∃ o, s₁.heap.get? s.heap.objs.size = some o := by obtain ⟨o, e, _⟩ := hst.1; exact ⟨o, e⟩
    have hmem := hall s.heap.objs.size (.head _) hnew _ ho
    have N₂ : News h₀ env.locals s₁.heap ((s.heap.objs.size, o) :: news₁) := fun p hp => by
      rcases List.mem_cons.mp hp with rfl | hp
      · exact N₁ _ (List.mem_append_left _ hmem)
      · exact N₁ _ (List.mem_append_right _ hp)
    refine wpAny_mono (turn i v _ o m₁ news₁ s₁ hPv hJ F₁ N₂ (fun p hp e => hoff p hp (List.mem_singleton.mpr e))) (fun _ s₃ h₃ => wpAny_mono h₃ (fun f s₂ h₂ => ?_) fun _ _ e => e) fun _ _ e => e
    obtain ⟨rfl, h', tk', m', news', rfl, F', N', ho', hJ'⟩ := h₂
    refine ⟨rfl, h', tk', m', news', rfl, F', fun p hp => ?_, fun p hp hI => ho' p hp (List.mem_singleton.mp hI), hJ'⟩
    rcases List.mem_append.mp hp with hp | hp
    · have h2 : s₁.heap.get? p.1 = some p.2 := hget p hp
      rcases List.mem_cons.mp (hown p hp) with h1 | h1
      · have h3 : p = (s.heap.objs.size, o) := by
          rw [h1, ho] at h2
          exact Prod.ext h1 (Option.some.inj h2).symm
        rw [h3]; exact N' _ (List.mem_cons_self ..)
      · have h1' : p.1 = ax := List.mem_singleton.mp h1
        have e1 := (N₁ (ax, ot) (List.mem_append_right _ (hm _ _ _ hJ))).1
        have h3 : p = (ax, ot) := by
          rw [h1', e1] at h2
          exact Prod.ext h1' (Option.some.inj h2).symm
        rw [h3]; exact N' _ (List.mem_cons_of_mem _ (hm _ _ _ hJ'))
    · exact N' _ (List.mem_cons_of_mem _ hp)
  · rintro h' tk m' news' F' N' _ hJ
    exact done h' tk m' news' F' N' hJ
end
end Mine
end
section
open PySem PySem.W PyProof.Rows
namespace Mine
def bodyOf : Stmt → List Stmt
  | .For _ _ b _ _ => b
  | _ => []
def fstOf (l : List Stmt) : Stmt := (l[0]?).getD default
section
variable {w : World} {p : Program} {loose : List Str} {mean : ExcName → Option Value} {mg mb : Str → Option Value} {dp un : Nat} {gd : Option (List Code)} {cn : Str} {cs : Scope} {a : Addr} {ccd : Value} {cl : List (Str × Addr)} {outer : List Env} {A₀ : Around} {base h₀ : Heap} {L : Addr} {m : Str → Option Value} {s : Shared} {news : List (Addr × Obj)} {Q E : Value → Shared → Prop}
theorem lev_way {x y : Nat} {mx : Int} {tx ty tm : Tok} (hx : x ≤ 15) (hy : y ≤ 15) (hM : ∀ t : Nat, t < 6 → keepT (apartZ x y) t = true → (t : Int) ≤ mx) (B : Below A₀ base outer h₀) (F : Fr h₀ L s.heap m) (X : (Mine.hd.heap_39 w.params).In h₀) (N : News h₀ L s.heap news) (T : Top p loose mean mg mb h₀) (hk : cs.kind = .function)
    (hd : dp + 5 < recursionLimit) (hu : un + 80 < cLine)
    (ret : ∀ (t : Tok) (h' : Heap) (tk' : Nat), Fr h₀ L h' m → News h₀ L h' news → Q (.int (ham 4 x y : Int) t) { s with heap := h', toks := tk' }) :
    wpAny (model PySem.Challenge.rw_rs0052_02.prog w) (ktrTop dp un gd cn cs L a ccd cl outer) (call (.ref 45) [.str (gw x) tx, .str (gw y) ty, .int mx tm]) Q E s :=
  lev_r B F X N T hk (by rw [gw_len]; decide) (by rw [gw_len]; decide) hd hu fun r t h' tk' hT F' N' => by rw [told_way hx hy hM hT]; exact ret t h' tk' F' N'
theorem lev_back {x y : Nat} {tx ty tm : Tok} (hx : x ≤ 15) (hy : y ≤ 15) (B : Below A₀ base outer h₀) (F : Fr h₀ L s.heap m) (X : (Mine.hd.heap_39 w.params).In h₀) (N : News h₀ L s.heap news) (T : Top p loose mean mg mb h₀) (hk : cs.kind = .function)
    (hd : dp + 5 < recursionLimit) (hu : un + 80 < cLine)
    (ret : ∀ (r : Int) (t : Tok) (h' : Heap) (tk' : Nat), (ham 4 x y : Int) ≤ r → Fr h₀ L h' m → News h₀ L h' news → Q (.int r t) { s with heap := h', toks := tk' }) :
    wpAny (model PySem.Challenge.rw_rs0052_02.prog w) (ktrTop dp un gd cn cs L a ccd cl outer) (call (.ref 45) [.str (gw y) tx, .str (gw x) ty, .int ((ham 4 x y : Int) - 1) tm]) Q E s :=
  lev_r B F X N T hk (by rw [gw_len]; decide) (by rw [gw_len]; decide) hd hu fun r t h' tk' hT F' N' => ret r t h' tk' (told_back hx hy hT) F' N'
end
local macro_rules | `(tactic| walk_at "own call") => `(tactic| (
  (with_reducible show wpAny _ _ (call (Value.ref _) _) _ _ _);
  (with_reducible rename Fr _ _ _ _ => F');
  (with_reducible rename News _ _ _ _ => N');
  k_dflt (first
  | (refine' lev_way ?x ?y ?mm ?B F' ?X N' ?T ?K ?D ?U ?_; (case mm => assumption); (case x => assumption); (case y => assumption); (case B => k_asm); (case X => k_asm); (case T => k_asm); (case K => exact rfl); (case D => ktr_room); (case U => ktr_units); intro t9 h9 tk9 F9 N9)
  | (refine' lev_back ?x ?y ?B F' ?X N' ?T ?K ?D ?U ?_; (case x => assumption); (case y => assumption); (case B => k_asm); (case X => k_asm); (case T => k_asm); (case K => exact rfl); (case D => ktr_room); (case U => ktr_units); intro r9 t9 h9 tk9 hr9 F9 N9)); (try dsimp only)))
local macro_rules | `(tactic| walk_at "own sub") => `(tactic| ((with_reducible show wpAny _ _ (subscriptTail _ _ (Value.str (gw _) _) (Value.int _ _)) _ _ _); k_dflt (refine' gw_at ?a ?b ?_ ?d ?e; (case a => omega); (case b => omega); (case d => simp only [subscripted]); (case e => intro _; rfl)); intro _))
local macro_rules | `(tactic| walk_at "own item") => `(tactic|
  ((with_reducible show wpAny _ _ (subscriptTail (Expr.Name _ _) _ (Value.ref _) (Value.int _ _)) _ _ _); (with_reducible rename News _ _ _ _ => N'); k_dflt (refine' led_item N' ?m ?a ?b ?c ?_ ?d; (case m => k_mem); (case a => omega); (case b => omega); (case c => assumption); (case d => simp only [subscripted]))))
local macro_rules | `(tactic| walk_at "own pow") => `(tactic| ((with_reducible show wpAny _ _ (binaryOp .Pow (Value.int _ _) (Value.int _ _)) _ _ _); (with_reducible refine pow_int_small ?a ?b ?c ?_); (case a => omega); (case b => omega); (case c => decide)))
local macro_rules | `(tactic| walk_at "own store") => `(tactic| (
  (with_reducible show wpAny _ _ (storeName _ (Str.ofString "apart") _) _ _ _);
  (with_reducible rename Fr _ _ _ _ => F');
  (with_reducible rename News _ _ _ _ => N');
  k_dflt (refine' storeX_C (cl := [(Str.ofString "other", _), (Str.ofString "word", _), (Str.ofString "apart", _), (Str.ofString "first", _), (Str.ofString "second", _), (Str.ofString "words", _), (Str.ofString "tail", _), (Str.ofString "script", _)]) F' N' ?c ?U ?d ?_ ?a ?b; (case a => rfl); (case b => rfl); (case c => rfl); (case U => k_updF); (case d => assumption)); intro h8 o8 F8 N8 d8; (try dsimp only at N8)))
section
variable {fa lc : Addr} {w : World} {p : Program} {loose : List Str} {mean : ExcName → Option Value} {mg mb : Str → Option Value} {base h₀ : Heap} {m : Str → Option Value} {s : Shared} {Q : Flow → Shared → Prop}
set_option maxRecDepth 100000 in
set_option maxHeartbeats 1000000 in
theorem turn_w {L' C W I1 I2 : Addr} {it1 it2 o3 o4 o5 o6 o7 o8 : Obj} {vs ws : List Value} {jc jw i j a b : Nat} {u : Str → Option Value} {ta tb ti tj xa xb : Tok} {v6 : Option Value}
    (hi : i < 6) (hj : j < 6) (ha : a ≤ 15) (hb : b ≤ 15) (hva : vs[((i : Nat) : Int).toNat]? = some (.int (a : Int) ta)) (hvb : vs[((j : Nat) : Int).toNat]? = some (.int (b : Int) tb)) (hwa : ws[((i : Nat) : Int).toNat]? = some (.str (gw a) xa)) (hwb : ws[((j : Nat) : Int).toNat]? = some (.str (gw b) xb))
    (h3 : o3.data = .cell (some (.ref W))) (h4 : o4.data = .cell (some (.int (j : Int) tj))) (h5 : o5.data = .cell (some (.int (i : Int) ti))) (h6 : o6.data = .cell v6)
    (hC : @LT.lt Nat _ (L' + 8) C) (hW : @Ne Nat W (L' + 6)) (hI1 : @Ne Nat I1 (L' + 6)) (hI2 : @Ne Nat I2 (L' + 6))
    (B : Below callerA base [] h₀) (X : (Mine.hd.heap_39 w.params).In h₀) (T : Top p loose mean mg mb h₀)
    (F : Fr h₀ L' s.heap (kstB u [(Str.ofString "counts", .ref C)]))
    (N : News h₀ L' s.heap [(I2, it2), (I1, it1), (W, PySem.W.listOf ws.toArray jw), (C, PySem.W.listOf vs.toArray jc), (L' + 1 + 1 + 1, o3), (L' + 1 + 1 + 1 + 1, o4), (L' + 1 + 1 + 1 + 1 + 1, o5), (L' + 1 + 1 + 1 + 1 + 1 + 1, o6), (L' + 1 + 1 + 1 + 1 + 1 + 1 + 1, o7), (L' + 1 + 1 + 1 + 1 + 1 + 1 + 1 + 1, o8)])
    (ret : ∀ o6' v h' tk' u', o6'.data = .cell v → Fr h₀ L' h' (kstB u' [(Str.ofString "counts", .ref C)]) → News h₀ L' h' [(I2, it2), (I1, it1), (W, PySem.W.listOf ws.toArray jw), (C, PySem.W.listOf vs.toArray jc), (L' + 1 + 1 + 1, o3), (L' + 1 + 1 + 1 + 1, o4), (L' + 1 + 1 + 1 + 1 + 1, o5), (L' + 1 + 1 + 1 + 1 + 1 + 1, o6'), (L' + 1 + 1 + 1 + 1 + 1 + 1 + 1, o7), (L' + 1 + 1 + 1 + 1 + 1 + 1 + 1 + 1, o8)] → Q .next { s with heap := h', toks := tk' }) :
    wpAny (model PySem.Challenge.rw_rs0052_02.prog w) (callerA.deeper (envOfC (Str.ofString "law") (scopeAt PySem.Challenge.rw_rs0052_02.prog 20) L' fa (.ref lc)))
      (execs (bodyOf (fstOf (bodyOf (stmtAt PySem.Challenge.rw_rs0052_02.prog 20 13)))) (envOfC (Str.ofString "law") (scopeAt PySem.Challenge.rw_rs0052_02.prog 20) L' fa (.ref lc))) Q (fun _ _ => False) s := by
  k_with_none
  w_top off
  revert X
  k_fill
  intro X
  conv in (occs := *) scopeAt _ _ => all_goals whnf
  conv in (occs := *) bodyOf _ => all_goals whnf
  dsimp only [kstB] at F
  (repeat' ((fail_if_success (with_reducible show LCg.CompEnd _ _ _ _ _ _ _ _ _ _ _ _ _ _)); (fail_if_success (with_reducible show wpAny _ _ (eval (Expr.ListComp _ _ _ _) _) _ _ _)); (fail_if_success (with_reducible show wpAny _ _ (call (Value.builtin "max") _) _ _ _)); (fail_if_success (with_reducible show wpAny _ _ (call (Value.builtin "len") _) _ _ _)); first | ((with_reducible show wpAny _ _ (execs [] _) _ _ _); refine wpAny_execs_nil ?_; (try dsimp only)) | walk_at "own sub" | walk_at "own item" | walk_at "own store" | walk_at "own pow" | walk_at "own call" | ((fail_if_success (with_reducible show wpAny _ _ (call (Value.ref _) _) _ _ _)); (fail_if_success (with_reducible show wpAny _ _ (subscriptTail _ _ (Value.ref _) _) _ _ _)); first | walk1 | (dsimp only; walk1))))
  (rename Fr _ _ _ _ => hF)
  refine' LCt.ListComp_T hF (by with_unfolding_all rfl) (by decide) (by rfl) (by decide) (by rfl) ?_
  iterate 9 (try ((fail_if_success (with_reducible show LCt.CompSrcT _ _ _ _ _ _ _ _ _ _ _ _ _ _ _)); walk1))
  (rename Fr _ _ _ _ => F8); (rename News _ _ _ _ => N8); (rename IsRange _ _ _ _ _ _ _ _ => rg8)
  refine' LCt.CompSrcT.range (n := 6) rfl F8 N8 rg8 (by decide) (by rfl) (by decide) (fun g => comp_filt (keepT (apartZ a b)) ?test ?item ?fin)
  case test =>
    intro t v I oI C2 oC D2 m₂ ys h tk E' ht hv hC2 hx F' N' off ne
    obtain ⟨t9, rfl⟩ := hv
    simp only [Int.zero_add] at hx
    (repeat' ((fail_if_success (with_reducible show LCg.CompEnd _ _ _ _ _ _ _ _ _ _ _ _ _ _)); (fail_if_success (with_reducible show wpAny _ _ (eval (Expr.ListComp _ _ _ _) _) _ _ _)); (fail_if_success (with_reducible show wpAny _ _ (call (Value.builtin "max") _) _ _ _)); (fail_if_success (with_reducible show wpAny _ _ (call (Value.builtin "len") _) _ _ _)); first | ((with_reducible show wpAny _ _ (execs [] _) _ _ _); refine wpAny_execs_nil ?_; (try dsimp only)) | walk_at "own sub" | walk_at "own item" | walk_at "own store" | walk_at "own pow" | walk_at "own call" | ((fail_if_success (with_reducible show wpAny _ _ (call (Value.ref _) _) _ _ _)); (fail_if_success (with_reducible show wpAny _ _ (subscriptTail _ _ (Value.ref _) _) _ _ _)); first | walk1 | (dsimp only; walk1))))
    all_goals ((rename Fr _ _ _ _ => F9); (rename News _ _ _ _ => N9); refine ⟨_, _, _, rfl, F9, N9, off, trivial, rfl, ?_⟩)
    · exact keepT_a (by assumption)
    · exact keepT_b (by assumption)
    · exact keepT_c (by assumption) (by assumption)
  case item =>
    intro t v I oI C2 oC D2 m₂ ys h tk E' ht hv hC2 hx F' N' off ne hS
    obtain ⟨t9, rfl⟩ := hv
    simp only [Int.zero_add] at hx
    (repeat' ((fail_if_success (with_reducible show LCg.CompEnd _ _ _ _ _ _ _ _ _ _ _ _ _ _)); (fail_if_success (with_reducible show wpAny _ _ (eval (Expr.ListComp _ _ _ _) _) _ _ _)); (fail_if_success (with_reducible show wpAny _ _ (call (Value.builtin "max") _) _ _ _)); (fail_if_success (with_reducible show wpAny _ _ (call (Value.builtin "len") _) _ _ _)); first | ((with_reducible show wpAny _ _ (execs [] _) _ _ _); refine wpAny_execs_nil ?_; (try dsimp only)) | walk_at "own sub" | walk_at "own item" | walk_at "own store" | walk_at "own pow" | walk_at "own call" | ((fail_if_success (with_reducible show wpAny _ _ (call (Value.ref _) _) _ _ _)); (fail_if_success (with_reducible show wpAny _ _ (subscriptTail _ _ (Value.ref _) _) _ _ _)); first | walk1 | (dsimp only; walk1))))
    (rename Fr _ _ _ _ => F9); (rename News _ _ _ _ => N9)
    exact ⟨_, _, _, rfl, F9, N9, off, trivial, rfl, _, rfl⟩
  case fin =>
    intro ys hl
    intro D2 h tk F7 N7 oW
    simp only [LCg.Off1, and_true] at oW
    dsimp only
    (repeat' ((fail_if_success (with_reducible show LCg.CompEnd _ _ _ _ _ _ _ _ _ _ _ _ _ _)); (fail_if_success (with_reducible show wpAny _ _ (eval (Expr.ListComp _ _ _ _) _) _ _ _)); (fail_if_success (with_reducible show wpAny _ _ (call (Value.builtin "max") _) _ _ _)); (fail_if_success (with_reducible show wpAny _ _ (call (Value.builtin "len") _) _ _ _)); first | ((with_reducible show wpAny _ _ (execs [] _) _ _ _); refine wpAny_execs_nil ?_; (try dsimp only)) | walk_at "own sub" | walk_at "own item" | walk_at "own store" | walk_at "own pow" | walk_at "own call" | ((fail_if_success (with_reducible show wpAny _ _ (call (Value.ref _) _) _ _ _)); (fail_if_success (with_reducible show wpAny _ _ (subscriptTail _ _ (Value.ref _) _) _ _ _)); first | walk1 | (dsimp only; walk1))))
    clear F8 N8
    k_dflt (refine' max_is F7 N7 (.head _) hl rfl ?_)
    intro h9 M tM tk9 hM F6 N6
    dsimp only
    clear F7 N7
    (repeat' ((fail_if_success (with_reducible show LCg.CompEnd _ _ _ _ _ _ _ _ _ _ _ _ _ _)); (fail_if_success (with_reducible show wpAny _ _ (eval (Expr.ListComp _ _ _ _) _) _ _ _)); (fail_if_success (with_reducible show wpAny _ _ (call (Value.builtin "max") _) _ _ _)); (fail_if_success (with_reducible show wpAny _ _ (call (Value.builtin "len") _) _ _ _)); first | ((with_reducible show wpAny _ _ (execs [] _) _ _ _); refine wpAny_execs_nil ?_; (try dsimp only)) | walk_at "own sub" | walk_at "own item" | walk_at "own store" | walk_at "own pow" | walk_at "own call" | ((fail_if_success (with_reducible show wpAny _ _ (call (Value.ref _) _) _ _ _)); (fail_if_success (with_reducible show wpAny _ _ (subscriptTail _ _ (Value.ref _) _) _ _ _)); first | walk1 | (dsimp only; walk1))))
    (rename Fr _ _ _ _ => hF)
    refine' LCt.ListComp_T hF (by with_unfolding_all rfl) (by decide) (by rfl) (by decide) (by rfl) ?_
    iterate 9 (try ((fail_if_success (with_reducible show LCt.CompSrcT _ _ _ _ _ _ _ _ _ _ _ _ _ _ _)); walk1))
    (rename Fr _ _ _ _ => F8); (rename News _ _ _ _ => N8); (rename IsRange _ _ _ _ _ _ _ _ => rg8)
    refine' LCt.CompSrcT.range (n := 4) rfl F8 N8 rg8 (by decide) (by rfl) (by decide) (fun g => comp_filt (keepW a b) ?test2 ?item2 ?fin2)
    case test2 =>
      intro t v I oI C2 oC D2 m₂ ys h tk E' ht hv hC2 hx F' N' off ne
      obtain ⟨t9, rfl⟩ := hv
      simp only [Int.zero_add] at hx
      (repeat' ((fail_if_success (with_reducible show LCg.CompEnd _ _ _ _ _ _ _ _ _ _ _ _ _ _)); (fail_if_success (with_reducible show wpAny _ _ (eval (Expr.ListComp _ _ _ _) _) _ _ _)); (fail_if_success (with_reducible show wpAny _ _ (call (Value.builtin "max") _) _ _ _)); (fail_if_success (with_reducible show wpAny _ _ (call (Value.builtin "len") _) _ _ _)); first | ((with_reducible show wpAny _ _ (execs [] _) _ _ _); refine wpAny_execs_nil ?_; (try dsimp only)) | walk_at "own sub" | walk_at "own item" | walk_at "own store" | walk_at "own pow" | walk_at "own call" | ((fail_if_success (with_reducible show wpAny _ _ (call (Value.ref _) _) _ _ _)); (fail_if_success (with_reducible show wpAny _ _ (subscriptTail _ _ (Value.ref _) _) _ _ _)); first | walk1 | (dsimp only; walk1))))
      (rename Fr _ _ _ _ => F9); (rename News _ _ _ _ => N9)
      exact ⟨_, _, _, rfl, F9, N9, off, trivial, rfl, rfl⟩
    case item2 =>
      intro t v I oI C2 oC D2 m₂ ys h tk E' ht hv hC2 hx F' N' off ne hS
      obtain ⟨t9, rfl⟩ := hv
      simp only [Int.zero_add] at hx
      (repeat' ((fail_if_success (with_reducible show LCg.CompEnd _ _ _ _ _ _ _ _ _ _ _ _ _ _)); (fail_if_success (with_reducible show wpAny _ _ (eval (Expr.ListComp _ _ _ _) _) _ _ _)); (fail_if_success (with_reducible show wpAny _ _ (call (Value.builtin "max") _) _ _ _)); (fail_if_success (with_reducible show wpAny _ _ (call (Value.builtin "len") _) _ _ _)); first | ((with_reducible show wpAny _ _ (execs [] _) _ _ _); refine wpAny_execs_nil ?_; (try dsimp only)) | walk_at "own sub" | walk_at "own item" | walk_at "own store" | walk_at "own pow" | walk_at "own call" | ((fail_if_success (with_reducible show wpAny _ _ (call (Value.ref _) _) _ _ _)); (fail_if_success (with_reducible show wpAny _ _ (subscriptTail _ _ (Value.ref _) _) _ _ _)); first | walk1 | (dsimp only; walk1))))
      (rename Fr _ _ _ _ => F9); (rename News _ _ _ _ => N9)
      exact ⟨_, _, _, rfl, F9, N9, off, trivial, rfl, _, rfl⟩
    case fin2 =>
      intro ys2 hl2
      intro D3 h tk F7 N7 oX
      simp only [LCg.Off1, and_true] at oX
      dsimp only
      (repeat' ((fail_if_success (with_reducible show LCg.CompEnd _ _ _ _ _ _ _ _ _ _ _ _ _ _)); (fail_if_success (with_reducible show wpAny _ _ (eval (Expr.ListComp _ _ _ _) _) _ _ _)); (fail_if_success (with_reducible show wpAny _ _ (call (Value.builtin "max") _) _ _ _)); (fail_if_success (with_reducible show wpAny _ _ (call (Value.builtin "len") _) _ _ _)); first | ((with_reducible show wpAny _ _ (execs [] _) _ _ _); refine wpAny_execs_nil ?_; (try dsimp only)) | walk_at "own sub" | walk_at "own item" | walk_at "own store" | walk_at "own pow" | walk_at "own call" | ((fail_if_success (with_reducible show wpAny _ _ (call (Value.ref _) _) _ _ _)); (fail_if_success (with_reducible show wpAny _ _ (subscriptTail _ _ (Value.ref _) _) _ _ _)); first | walk1 | (dsimp only; walk1))))
      clear F8 N8
      k_dflt (refine' len_is N7 (.head _) (way_len (by decide) hl2) (Nat.le_trans (ham_le 4 a b) (by decide)) ?_)
      intro tw tk9
      dsimp only
      (repeat' ((fail_if_success (with_reducible show LCg.CompEnd _ _ _ _ _ _ _ _ _ _ _ _ _ _)); (fail_if_success (with_reducible show wpAny _ _ (eval (Expr.ListComp _ _ _ _) _) _ _ _)); (fail_if_success (with_reducible show wpAny _ _ (call (Value.builtin "max") _) _ _ _)); (fail_if_success (with_reducible show wpAny _ _ (call (Value.builtin "len") _) _ _ _)); first | ((with_reducible show wpAny _ _ (execs [] _) _ _ _); refine wpAny_execs_nil ?_; (try dsimp only)) | walk_at "own sub" | walk_at "own item" | walk_at "own store" | walk_at "own pow" | walk_at "own call" | ((fail_if_success (with_reducible show wpAny _ _ (call (Value.ref _) _) _ _ _)); (fail_if_success (with_reducible show wpAny _ _ (subscriptTail _ _ (Value.ref _) _) _ _ _)); first | walk1 | (dsimp only; walk1))))
      all_goals first
        | exact absurd rfl (by assumption : (ham 4 a b : Int) ≠ (ham 4 a b : Int))
        | ((rename Fr _ _ _ _ => F9); (rename News _ _ _ _ => N9);
           obtain ⟨u9, F8⟩ := fr_some [(Str.ofString "counts", .ref C)] (by kst_all) F9;
           refine' ret _ _ _ _ u9 ?hd F8 ?hN;
           (case hN => exact fun p hp => N9 p (by revert p; lcg_sub));
           (case hd => assumption))
end
end Mine
end
section
open PySem PySem.W PyProof.Rows
namespace Mine
local macro_rules | `(tactic| walk_at "own store") => `(tactic| (
  (with_reducible show wpAny _ _ (storeName _ _ _) _ _ _);
  (with_reducible rename Fr _ _ _ _ => F');
  (with_reducible rename News _ _ _ _ => N');
  k_dflt (refine' storeX_C (cl := [(Str.ofString "other", _), (Str.ofString "word", _), (Str.ofString "apart", _), (Str.ofString "first", _), (Str.ofString "second", _), (Str.ofString "words", _), (Str.ofString "tail", _), (Str.ofString "script", _)]) F' N' ?c ?U ?d ?_ ?a ?b; (case a => rfl); (case b => rfl); (case c => rfl); (case U => k_updF); (case d => assumption)); intro h8 o8 F8 N8 d8; (try dsimp only at N8)))
section
variable {fa lc : Addr} {w : World} {p : Program} {loose : List Str} {mean : ExcName → Option Value} {mg mb : Str → Option Value} {base h₀ : Heap} {m : Str → Option Value} {s : Shared} {Q : Flow → Shared → Prop}
set_option maxRecDepth 100000 in
set_option maxHeartbeats 1000000 in
theorem loops_w {L' C W : Addr} {o3 o4 o5 o6 o7 o8 : Obj} {vs ws : List Value} {jc jw n0 n1 n2 k : Nat} {u : Str → Option Value} {v4 v5 v6 : Option Value}
    (b0 : n0 ≤ 11) (b1 : n1 ≤ 11) (b2 : n2 ≤ 15) (b3 : k ≤ 4) (hvs : IntsAre vs [(n0 : Int), (n1 : Int), (n2 : Int), ((n0 + k : Nat) : Int), ((n1 + k : Nat) : Int), (n2 : Int)]) (hws : StrsAre ws ((six n0 n1 n2 k).map gw))
    (h3 : o3.data = .cell (some (.ref W))) (h4 : o4.data = .cell v4) (h5 : o5.data = .cell v5) (h6 : o6.data = .cell v6)
    (hC : @LT.lt Nat _ (L' + 8) C) (hW4 : @Ne Nat W (L' + 4)) (hW5 : @Ne Nat W (L' + 5)) (hW6 : @Ne Nat W (L' + 6))
    (B : Below callerA base [] h₀) (X : (Mine.hd.heap_39 w.params).In h₀) (T : Top p loose mean mg mb h₀)
    (F : Fr h₀ L' s.heap (kstB u [(Str.ofString "counts", .ref C)]))
    (N : News h₀ L' s.heap [(W, PySem.W.listOf ws.toArray jw), (C, PySem.W.listOf vs.toArray jc), (L' + 1 + 1 + 1, o3), (L' + 1 + 1 + 1 + 1, o4), (L' + 1 + 1 + 1 + 1 + 1, o5), (L' + 1 + 1 + 1 + 1 + 1 + 1, o6), (L' + 1 + 1 + 1 + 1 + 1 + 1 + 1, o7), (L' + 1 + 1 + 1 + 1 + 1 + 1 + 1 + 1, o8)])
    (ret : ∀ h' tk' u', Fr h₀ L' h' (kstB u' []) → News h₀ L' h' [(W, PySem.W.listOf ws.toArray jw), (L' + 1 + 1 + 1, o3), (L' + 1 + 1 + 1 + 1 + 1 + 1 + 1, o7), (L' + 1 + 1 + 1 + 1 + 1 + 1 + 1 + 1, o8)] → Q .next { s with heap := h', toks := tk' }) :
    wpAny (model PySem.Challenge.rw_rs0052_02.prog w) (callerA.deeper (envOfC (Str.ofString "law") (scopeAt PySem.Challenge.rw_rs0052_02.prog 20) L' fa (.ref lc)))
      (exec (stmtAt PySem.Challenge.rw_rs0052_02.prog 20 13) (envOfC (Str.ofString "law") (scopeAt PySem.Challenge.rw_rs0052_02.prog 20) L' fa (.ref lc))) Q (fun _ _ => False) s := by
  k_with_none
  w_top off
  have X0 := X
  revert X
  k_fill
  intro X
  conv in (occs := *) stmtAt _ _ _ => all_goals whnf
  refine' For_invT h₀ ?_ ?hs ?hE
  case hs => intro _; rfl
  case hE => passes_own
  dsimp only [kstB] at F
  (repeat' ((fail_if_success (with_reducible show wpAny _ _ (exec (Stmt.For _ _ _ _ _) _) _ _ _)); (fail_if_success (with_reducible show wpAny _ _ (pyIter _) _ _ _)); first | walk_at "own store" | walk1 | (dsimp only; walk1)))
  (rename Fr _ _ _ _ => F1); (rename News _ _ _ _ => N1); (rename IsRange _ _ _ _ _ _ _ _ => rg1)
  refine' iter_rangeT (n := 6) (fun _ m' news' => ∃ u' q4 q5 q6 w4 w5 w6, m' = kstB u' [(Str.ofString "counts", Value.ref C)] ∧ Obj.data q4 = .cell w4 ∧ Obj.data q5 = .cell w5 ∧ Obj.data q6 = .cell w6 ∧ news' = [(W, PySem.W.listOf ws.toArray jw), (C, PySem.W.listOf vs.toArray jc), (L' + 1 + 1 + 1, o3), (L' + 1 + 1 + 1 + 1, q4), (L' + 1 + 1 + 1 + 1 + 1, q5), (L' + 1 + 1 + 1 + 1 + 1 + 1, q6), (L' + 1 + 1 + 1 + 1 + 1 + 1 + 1, o7), (L' + 1 + 1 + 1 + 1 + 1 + 1 + 1 + 1, o8)])
    rfl rg1 (by decide) (by rfl) F1 N1 (fun _ _ => rfl) ⟨u, o4, o5, o6, v4, v5, v6, rfl, h4, h5, h6, rfl⟩ ?turn ?done
  case done =>
    rintro h' tk m' news' F2 N2 ⟨u', q4, q5, q6, w4, w5, w6, rfl, -, -, -, rfl⟩
    exact ret h' tk (kstB u' [(Str.ofString "counts", Value.ref C)]) F2 (fun p hp => N2 p (by revert p; lcg_sub))
  case turn =>
    rintro j t I1 it1 m₁ news₁ s₁ hj ⟨u1, q4, q5, q6, w4, w5, w6, rfl, hq4, hq5, hq6, rfl⟩ F2 N2 hoff
    have off1 := off1_of hoff
    simp only [LCg.Off1, and_true] at off1
    simp only [Int.zero_add]
    clear F1 N1 rg1 h4 h5 h6
    dsimp only [kstB] at F2
    (repeat' ((fail_if_success (with_reducible show wpAny _ _ (exec (Stmt.For _ _ _ _ _) _) _ _ _)); (fail_if_success (with_reducible show wpAny _ _ (pyIter _) _ _ _)); first | walk_at "own store" | walk1 | (dsimp only; walk1)))
    rename _ = Data.cell (some (Value.int _ _)) => hs4
    refine' For_invT h₀ ?_ ?hs ?hE
    case hs => intro _; rfl
    case hE => passes_own
    (repeat' ((fail_if_success (with_reducible show wpAny _ _ (exec (Stmt.For _ _ _ _ _) _) _ _ _)); (fail_if_success (with_reducible show wpAny _ _ (pyIter _) _ _ _)); first | walk_at "own store" | walk1 | (dsimp only; walk1)))
    (rename Fr _ _ _ _ => F3); (rename News _ _ _ _ => N3); (rename IsRange _ _ _ _ _ _ _ _ => rg3)
    rename Obj => x4
    refine' iter_rangeT (fun _ m' news' => ∃ u' q5 q6 w5 w6, m' = kstB u' [(Str.ofString "counts", Value.ref C)] ∧ Obj.data q5 = .cell w5 ∧ Obj.data q6 = .cell w6 ∧ news' = [(I1, it1), (W, PySem.W.listOf ws.toArray jw), (C, PySem.W.listOf vs.toArray jc), (L' + 1 + 1 + 1, o3), (L' + 1 + 1 + 1 + 1, x4), (L' + 1 + 1 + 1 + 1 + 1, q5), (L' + 1 + 1 + 1 + 1 + 1 + 1, q6), (L' + 1 + 1 + 1 + 1 + 1 + 1 + 1, o7), (L' + 1 + 1 + 1 + 1 + 1 + 1 + 1 + 1, o8)])
      rfl rg3 (small_one (by omega) (by omega) (by omega) (by omega)) (rangeSize_nat _ _) F3 N3 (fun _ _ => rfl) ⟨u1, q5, q6, w5, w6, rfl, hq5, hq6, rfl⟩ ?turn ?done
    case done =>
      rintro h' tk m' news' F4 N4 ⟨u', q5, q6, w5, w6, rfl, hd5, hd6, rfl⟩
      dsimp only
      refine wpAny_execs_nil ?_
      exact ⟨rfl, _, _, _, _, rfl, F4, N4, of_off1 (by simp only [LCg.Off1, and_true]; exact off1), u', _, _, _, _, _, _, rfl, hs4, hd5, hd6, rfl⟩
    case turn =>
      rintro i t2 I2 it2 m₂ news₂ s₂ hi ⟨u2, q5, q6, w5, w6, rfl, hq5, hq6, rfl⟩ F4 N4 hoff2
      have off2 := off1_of hoff2
      simp only [LCg.Off1, and_true] at off2
      simp only [Int.zero_add]
      clear F3 N3 rg3
      dsimp only [kstB] at F4
      walk1
      walk_at "own store"
      try dsimp only
      rename _ = Data.cell (some (Value.int (i : Int) t2)) => hs5
      (rename Fr _ _ _ _ => F5); (rename News _ _ _ _ => N5)
      have hi6 : i < 6 := by omega
      obtain ⟨ta, hva⟩ := int_at6 hvs hi6
      obtain ⟨tb, hvb⟩ := int_at6 hvs hj
      obtain ⟨xa, hwa⟩ := str_at6 hws hi6
      obtain ⟨xb, hwb⟩ := str_at6 hws hj
      refine turn_w (u := u2) hi6 hj (cnt6_le b0 b1 b2 b3 i) (cnt6_le b0 b1 b2 b3 j) hva hvb hwa hwb h3 hs4 hs5 hq6 hC (by omega) (by omega) (by omega) B X0 T F5 N5 ?_
      intro q6' w6' h6' tk6' u6' hd6 F6 N6
      exact ⟨rfl, _, _, _, _, rfl, F6, N6, of_off1 (by simp only [LCg.Off1, and_true]; exact off2), u6', _, _, _, _, rfl, hs5, hd6, rfl⟩
end
end Mine
end
section
open PySem PySem.W PyProof.Rows
namespace Mine
section
variable {w : World} {p : Program} {loose : List Str} {mean : ExcName → Option Value} {mg mb : Str → Option Value} {dp un : Nat} {gd : Option (List Code)} {cn : Str} {cs : Scope} {a : Addr} {ccd : Value} {cl : List (Str × Addr)} {outer : List Env} {A₀ : Around} {base h₀ : Heap} {L : Addr} {m : Str → Option Value} {s : Shared} {news : List (Addr × Obj)} {Q E : Value → Shared → Prop}
theorem x_slice (b : Nat) : lst (Str.ofString "x" ++ Txt.slice (gw b) none (some 3)) = 120 :: (wordG b).take 3 := by
  rw [lst_app, lst_x, show (3 : Int) = ((3 : Nat) : Int) from rfl, slice_to, lst_gw]; rfl
theorem x_len (b : Nat) : (Str.ofString "x" ++ Txt.slice (gw b) none (some 3)).length ≤ 40 := by
  rw [← lst_length, x_slice]; simp; omega
theorem sl_len (b : Nat) : (Txt.slice (gw b) none (some 3)).length ≤ 40 := by
  rw [← lst_length, show (3 : Int) = ((3 : Nat) : Int) from rfl, slice_to]; simp; omega
theorem two_items (a : Nat) : lst (Txt.item (gw a) 1 ++ Txt.item (gw a) 3) = [sigG a 1, sigG a 3] := by
  rw [lst_app, show (1 : Int) = ((1 : Nat) : Int) from rfl, show (3 : Int) = ((3 : Nat) : Int) from rfl, gw_item (by decide), gw_item (by decide)]; rfl
theorem lev_shift {x y : Nat} {tx ty tm : Tok} (hx : x ≤ 15) (hy : y ≤ 15) (B : Below A₀ base outer h₀) (F : Fr h₀ L s.heap m) (X : (Mine.hd.heap_39 w.params).In h₀) (N : News h₀ L s.heap news) (T : Top p loose mean mg mb h₀) (hk : cs.kind = .function)
    (hd : dp + 5 < recursionLimit) (hu : un + 80 < cLine)
    (ret : ∀ (t : Tok) (h' : Heap) (tk' : Nat), Fr h₀ L h' m → News h₀ L h' news → Q (.int (4 + (ham 3 x y : Int)) t) { s with heap := h', toks := tk' }) :
    wpAny (model PySem.Challenge.rw_rs0052_02.prog w) (ktrTop dp un gd cn cs L a ccd cl outer) (call (.ref 45) [.str (gw x) tx, .str (Str.ofString "x" ++ Txt.slice (gw y) none (some 3)) ty, .int (4 + (ham 3 x y : Int)) tm]) Q E s :=
  lev_r B F X N T hk (by rw [gw_len]; decide) (x_len y) hd hu fun r t h' tk' hT F' N' => by rw [told_shift hx hy (x_slice y) hT]; exact ret t h' tk' F' N'
theorem lev_part {x : Nat} {tx ty tm : Tok} (B : Below A₀ base outer h₀) (F : Fr h₀ L s.heap m) (X : (Mine.hd.heap_39 w.params).In h₀) (N : News h₀ L s.heap news) (T : Top p loose mean mg mb h₀) (hk : cs.kind = .function)
    (hd : dp + 5 < recursionLimit) (hu : un + 80 < cLine)
    (ret : ∀ (t : Tok) (h' : Heap) (tk' : Nat), Fr h₀ L h' m → News h₀ L h' news → Q (.int 4 t) { s with heap := h', toks := tk' }) :
    wpAny (model PySem.Challenge.rw_rs0052_02.prog w) (ktrTop dp un gd cn cs L a ccd cl outer) (call (.ref 45) [.str (Txt.item (gw x) 1 ++ Txt.item (gw x) 3) tx, .str (gw x) ty, .int 4 tm]) Q E s :=
  lev_r B F X N T hk (by rw [← lst_length, two_items]; show 2 ≤ 40; decide) (by rw [gw_len]; decide) hd hu fun r t h' tk' hT F' N' => by rw [told_part (two_items x) hT]; exact ret t h' tk' F' N'
end
section
variable {prog : Program} {w : World} {A : Around} {E : Value → Shared → Prop} {s : Shared} {Q : Value → Shared → Prop}
theorem gw_at1 {value slice : Expr} {n : Nat} {k : Int} {t u : Tok} (h0 : 0 ≤ k) (h1 : k < 4) (h : ∀ v, (Txt.item (gw n) k).length = 1 → Q (.str (Txt.item (gw n) k) v) { s with toks := s.toks + 1 })
    (hs : subscripted slice false (.str (gw n) t) (.int k u) = operate [.str (gw n) t, .int k u] (getItem (.str (gw n) t) (.int k u)))
    (ht : ∀ r, letTemporaryGo value (.str (gw n) t) r = pure ()) :
    wpAny (model prog w) A (subscriptTail value slice (.str (gw n) t) (.int k u)) Q E s :=
  gw_at h0 h1 (fun v => h v (by rw [show k = ((k.toNat : Nat) : Int) by omega, gw_item (by omega)]; rfl)) hs ht
theorem add_x {y : Nat} {t u : Tok} (h : ∀ t' k, Q (.str (Str.ofString "x" ++ Txt.slice (gw y) none (some 3)) t') { s with toks := k }) : wpAny (model prog w) A (binaryOp .Add (.str (Str.ofString "x") t) (.str (Txt.slice (gw y) none (some 3)) u)) Q E s :=
  add_txt (by decide +kernel) (Nat.le_trans (sl_len y) (by decide)) fun t' k _ => h t' k
theorem add_i {x : Nat} {t u : Tok} (h1 : (Txt.item (gw x) 1).length = 1) (h3 : (Txt.item (gw x) 3).length = 1) (h : ∀ t' k, Q (.str (Txt.item (gw x) 1 ++ Txt.item (gw x) 3) t') { s with toks := k }) : wpAny (model prog w) A (binaryOp .Add (.str (Txt.item (gw x) 1) t) (.str (Txt.item (gw x) 3) u)) Q E s :=
  add_txt (by omega) (by omega) fun t' k _ => h t' k
end
local macro_rules | `(tactic| walk_at "own call") => `(tactic| (
  (with_reducible show wpAny _ _ (call (Value.ref _) _) _ _ _);
  (with_reducible rename Fr _ _ _ _ => F');
  (with_reducible rename News _ _ _ _ => N');
  k_dflt (first
  | (refine' lev_shift ?x ?y ?B F' ?X N' ?T ?K ?D ?U ?_; (case x => assumption); (case y => assumption); (case B => k_asm); (case X => k_asm); (case T => k_asm); (case K => exact rfl); (case D => ktr_room); (case U => ktr_units))
  | (refine' lev_part ?B F' ?X N' ?T ?K ?D ?U ?_; (case B => k_asm); (case X => k_asm); (case T => k_asm); (case K => exact rfl); (case D => ktr_room); (case U => ktr_units))); intro t9 h9 tk9 F9 N9; (try dsimp only)))
local macro_rules | `(tactic| walk_at "own text") => `(tactic| first
  | ((with_reducible show wpAny _ _ (subscriptTail _ _ (Value.str (gw _) _) (Value.int _ _)) _ _ _); k_dflt (refine' gw_at1 ?a ?b ?_ ?d ?e; (case a => omega); (case b => omega); (case d => simp only [subscripted]); (case e => intro _; rfl)); intro _ _)
  | ((with_reducible show wpAny _ _ (subscriptTail _ (Expr.Slice none (some _) none _) (Value.str _ _) (Value.ref _)) _ _ _); (with_reducible rename Fr _ _ _ _ => F'); (with_reducible rename News _ _ _ _ => N'); k_dflt (refine' slice_strN_ns (hsz := ?hsz) (s := ⟨_, _, _, _, _⟩) F' N' ?_; (case hsz => exact Nat.le_trans (by assumption) (by decide))); intro _ _ _ F8 N8; (try dsimp only))
  | ((with_reducible show wpAny _ _ (binaryOp Operator.Add (Value.str (Str.ofString "x") _) (Value.str _ _)) _ _ _); k_dflt (refine' add_x ?_); intro _ _)
  | ((with_reducible show wpAny _ _ (binaryOp Operator.Add (Value.str _ _) (Value.str _ _)) _ _ _); k_dflt (refine' add_i ?a ?b ?_; (case a => assumption); (case b => assumption)); intro _ _))
local macro_rules | `(tactic| walk_at "own item") => `(tactic|
  ((with_reducible show wpAny _ _ (subscriptTail (Expr.Name _ _) _ (Value.ref _) (Value.int _ _)) _ _ _); (with_reducible rename News _ _ _ _ => N'); k_dflt (refine' led_item N' ?m ?a ?b ?c ?_ ?d; (case m => k_mem); (case a => omega); (case b => omega); (case c => assumption); (case d => simp only [subscripted]))))
local macro_rules | `(tactic| walk_at "own store") => `(tactic| (
  (with_reducible show wpAny _ _ (storeName _ _ _) _ _ _);
  (with_reducible rename Fr _ _ _ _ => F');
  (with_reducible rename News _ _ _ _ => N');
  k_dflt (refine' storeX_C (cl := [(Str.ofString "other", _), (Str.ofString "word", _), (Str.ofString "apart", _), (Str.ofString "first", _), (Str.ofString "second", _), (Str.ofString "words", _), (Str.ofString "tail", _), (Str.ofString "script", _)]) F' N' ?c ?U ?d ?_ ?a ?b; (case a => rfl); (case b => rfl); (case c => rfl); (case U => k_updF); (case d => assumption)); intro h8 o8 F8 N8 d8; (try dsimp only at N8)))
section
variable {fa lc : Addr} {w : World} {p : Program} {loose : List Str} {mean : ExcName → Option Value} {mg mb : Str → Option Value} {base h₀ : Heap} {m : Str → Option Value} {s : Shared} {Q : Flow → Shared → Prop}
set_option maxRecDepth 100000 in
set_option maxHeartbeats 1000000 in
theorem turn_m {L' W I1 U : Addr} {it1 ou o3 o7 o8 : Obj} {ws : List Value} {jw a b : Nat} {pl : Int} {tp : Tok} {u : Str → Option Value} {xa xb : Tok} {v7 v8 : Option Value}
    (hp0 : 0 ≤ pl) (hp5 : pl < 5) (ha : a ≤ 15) (hb : b ≤ 15) (hwa : ws[pl.toNat]? = some (.str (gw a) xa)) (hwb : ws[(pl + 1).toNat]? = some (.str (gw b) xb))
    (h3 : o3.data = .cell (some (.ref W))) (h7 : o7.data = .cell v7) (h8 : o8.data = .cell v8)
    (hW7 : @Ne Nat W (L' + 7)) (hW8 : @Ne Nat W (L' + 8)) (hI7 : @Ne Nat I1 (L' + 7)) (hI8 : @Ne Nat I1 (L' + 8)) (hU7 : @Ne Nat U (L' + 7)) (hU8 : @Ne Nat U (L' + 8))
    (B : Below callerA base [] h₀) (X : (Mine.hd.heap_39 w.params).In h₀) (T : Top p loose mean mg mb h₀)
    (F : Fr h₀ L' s.heap (kstB u [(Str.ofString "place", .int pl tp)]))
    (N : News h₀ L' s.heap [(I1, it1), (U, ou), (W, PySem.W.listOf ws.toArray jw), (L' + 1 + 1 + 1, o3), (L' + 1 + 1 + 1 + 1 + 1 + 1 + 1, o7), (L' + 1 + 1 + 1 + 1 + 1 + 1 + 1 + 1, o8)])
    (ret : ∀ o7' o8' w7 w8 h' tk' u', o7'.data = .cell w7 → o8'.data = .cell w8 → Fr h₀ L' h' u' → News h₀ L' h' [(I1, it1), (U, ou), (W, PySem.W.listOf ws.toArray jw), (L' + 1 + 1 + 1, o3), (L' + 1 + 1 + 1 + 1 + 1 + 1 + 1, o7'), (L' + 1 + 1 + 1 + 1 + 1 + 1 + 1 + 1, o8')] → Q .next { s with heap := h', toks := tk' }) :
    wpAny (model PySem.Challenge.rw_rs0052_02.prog w) (callerA.deeper (envOfC (Str.ofString "law") (scopeAt PySem.Challenge.rw_rs0052_02.prog 20) L' fa (.ref lc)))
      (execs (bodyOf (stmtAt PySem.Challenge.rw_rs0052_02.prog 20 14)) (envOfC (Str.ofString "law") (scopeAt PySem.Challenge.rw_rs0052_02.prog 20) L' fa (.ref lc))) Q (fun _ _ => False) s := by
  k_with_none
  w_top off
  revert X
  k_fill
  intro X
  conv in (occs := *) scopeAt _ _ => all_goals whnf
  conv in (occs := *) bodyOf _ => all_goals whnf
  dsimp only [kstB] at F
  have hlb : (gw b).length ≤ 4 := Nat.le_of_eq (gw_len b)
  (repeat' ((fail_if_success (with_reducible show LCg.CompEnd _ _ _ _ _ _ _ _ _ _ _ _ _ _)); (fail_if_success (with_reducible show wpAny _ _ (eval (Expr.ListComp _ _ _ _) _) _ _ _)); (fail_if_success (with_reducible show wpAny _ _ (call (Value.builtin "len") _) _ _ _)); first | ((with_reducible show wpAny _ _ (execs [] _) _ _ _); refine wpAny_execs_nil ?_; (try dsimp only)) | walk_at "own text" | walk_at "own item" | walk_at "own store" | walk_at "own call" | ((fail_if_success (with_reducible show wpAny _ _ (call (Value.ref _) _) _ _ _)); (fail_if_success (with_reducible show wpAny _ _ (subscriptTail _ _ (Value.ref _) _) _ _ _)); first | walk1 | (dsimp only; walk1))))
  (rename Fr _ _ _ _ => hF)
  refine' LCt.ListComp_T hF (by with_unfolding_all rfl) (by decide) (by rfl) (by decide) (by rfl) ?_
  iterate 9 (try ((fail_if_success (with_reducible show LCt.CompSrcT _ _ _ _ _ _ _ _ _ _ _ _ _ _ _)); walk1))
  (rename Fr _ _ _ _ => F8); (rename News _ _ _ _ => N8); (rename IsRange _ _ _ _ _ _ _ _ => rg8)
  refine' LCt.CompSrcT.range (n := 3) rfl F8 N8 rg8 (by decide) (by rfl) (by decide) (fun g => comp_filt (keepW a b) ?test2 ?item2 ?fin2)
  case test2 =>
    intro t v I oI C2 oC D2 m₂ ys h tk E' ht hv hC2 hx F' N' off ne
    obtain ⟨t9, rfl⟩ := hv
    simp only [Int.zero_add] at hx
    (repeat' ((fail_if_success (with_reducible show LCg.CompEnd _ _ _ _ _ _ _ _ _ _ _ _ _ _)); (fail_if_success (with_reducible show wpAny _ _ (eval (Expr.ListComp _ _ _ _) _) _ _ _)); (fail_if_success (with_reducible show wpAny _ _ (call (Value.builtin "len") _) _ _ _)); first | ((with_reducible show wpAny _ _ (execs [] _) _ _ _); refine wpAny_execs_nil ?_; (try dsimp only)) | walk_at "own text" | walk_at "own item" | walk_at "own store" | walk_at "own call" | ((fail_if_success (with_reducible show wpAny _ _ (call (Value.ref _) _) _ _ _)); (fail_if_success (with_reducible show wpAny _ _ (subscriptTail _ _ (Value.ref _) _) _ _ _)); first | walk1 | (dsimp only; walk1))))
    (rename Fr _ _ _ _ => F9); (rename News _ _ _ _ => N9)
    exact ⟨_, _, _, rfl, F9, N9, off, trivial, rfl, rfl⟩
  case item2 =>
    intro t v I oI C2 oC D2 m₂ ys h tk E' ht hv hC2 hx F' N' off ne hS
    obtain ⟨t9, rfl⟩ := hv
    simp only [Int.zero_add] at hx
    (repeat' ((fail_if_success (with_reducible show LCg.CompEnd _ _ _ _ _ _ _ _ _ _ _ _ _ _)); (fail_if_success (with_reducible show wpAny _ _ (eval (Expr.ListComp _ _ _ _) _) _ _ _)); (fail_if_success (with_reducible show wpAny _ _ (call (Value.builtin "len") _) _ _ _)); first | ((with_reducible show wpAny _ _ (execs [] _) _ _ _); refine wpAny_execs_nil ?_; (try dsimp only)) | walk_at "own text" | walk_at "own item" | walk_at "own store" | walk_at "own call" | ((fail_if_success (with_reducible show wpAny _ _ (call (Value.ref _) _) _ _ _)); (fail_if_success (with_reducible show wpAny _ _ (subscriptTail _ _ (Value.ref _) _) _ _ _)); first | walk1 | (dsimp only; walk1))))
    (rename Fr _ _ _ _ => F9); (rename News _ _ _ _ => N9)
    exact ⟨_, _, _, rfl, F9, N9, off, trivial, rfl, _, rfl⟩
  case fin2 =>
    intro ys2 hl2
    intro D3 h tk F7 N7 oX
    simp only [LCg.Off1, and_true] at oX
    dsimp only
    (repeat' ((fail_if_success (with_reducible show LCg.CompEnd _ _ _ _ _ _ _ _ _ _ _ _ _ _)); (fail_if_success (with_reducible show wpAny _ _ (eval (Expr.ListComp _ _ _ _) _) _ _ _)); (fail_if_success (with_reducible show wpAny _ _ (call (Value.builtin "len") _) _ _ _)); first | ((with_reducible show wpAny _ _ (execs [] _) _ _ _); refine wpAny_execs_nil ?_; (try dsimp only)) | walk_at "own text" | walk_at "own item" | walk_at "own store" | walk_at "own call" | ((fail_if_success (with_reducible show wpAny _ _ (call (Value.ref _) _) _ _ _)); (fail_if_success (with_reducible show wpAny _ _ (subscriptTail _ _ (Value.ref _) _) _ _ _)); first | walk1 | (dsimp only; walk1))))
    clear F8 N8
    k_dflt (refine' len_is N7 (.head _) (way_len (by decide) hl2) (Nat.le_trans (ham_le 3 a b) (by decide)) ?_)
    intro tw tk9
    dsimp only
    (repeat' ((fail_if_success (with_reducible show LCg.CompEnd _ _ _ _ _ _ _ _ _ _ _ _ _ _)); (fail_if_success (with_reducible show wpAny _ _ (eval (Expr.ListComp _ _ _ _) _) _ _ _)); (fail_if_success (with_reducible show wpAny _ _ (call (Value.builtin "len") _) _ _ _)); first | ((with_reducible show wpAny _ _ (execs [] _) _ _ _); refine wpAny_execs_nil ?_; (try dsimp only)) | walk_at "own text" | walk_at "own item" | walk_at "own store" | walk_at "own call" | ((fail_if_success (with_reducible show wpAny _ _ (call (Value.ref _) _) _ _ _)); (fail_if_success (with_reducible show wpAny _ _ (subscriptTail _ _ (Value.ref _) _) _ _ _)); first | walk1 | (dsimp only; walk1))))
    all_goals first
      | exact absurd rfl (by assumption)
      | ((rename Fr _ _ _ _ => F9); (rename News _ _ _ _ => N9);
         refine' ret _ _ _ _ _ _ _ ?hd ?he F9 ?hN;
         (case hN => exact fun p hp => N9 p (by revert p; lcg_sub));
         (case hd => assumption); (case he => assumption))
end
end Mine
end
section
open PySem PySem.W PyProof.Rows
namespace Mine
theorem tri_item {t0 t1 t2 : Tok} {i : Nat} {v : Value} (h : (#[.int 0 t0, .int 2 t1, .int 4 t2] : Array Value)[i]? = some v) : ∃ (q : Nat) (t : Tok), v = .int (q : Int) t ∧ q < 5 := by
  match i, h with
  | 0, h => cases h; exact ⟨0, _, rfl, by decide⟩
  | 1, h => cases h; exact ⟨2, _, rfl, by decide⟩
  | 2, h => cases h; exact ⟨4, _, rfl, by decide⟩
  | j + 3, h => exact nomatch h
section
variable {fa lc : Addr} {w : World} {p : Program} {loose : List Str} {mean : ExcName → Option Value} {mg mb : Str → Option Value} {base h₀ : Heap} {m : Str → Option Value} {s : Shared} {Q : Flow → Shared → Prop}
set_option maxRecDepth 100000 in
set_option maxHeartbeats 1000000 in
theorem last_w {L' W : Addr} {o3 o7 o8 : Obj} {ws : List Value} {jw n0 n1 n2 k : Nat} {u : Str → Option Value} {v7 v8 : Option Value}
    (b0 : n0 ≤ 11) (b1 : n1 ≤ 11) (b2 : n2 ≤ 15) (b3 : k ≤ 4) (hws : StrsAre ws ((six n0 n1 n2 k).map gw))
    (h3 : o3.data = .cell (some (.ref W))) (h7 : o7.data = .cell v7) (h8 : o8.data = .cell v8)
    (hW7 : @Ne Nat W (L' + 7)) (hW8 : @Ne Nat W (L' + 8))
    (B : Below callerA base [] h₀) (X : (Mine.hd.heap_39 w.params).In h₀) (T : Top p loose mean mg mb h₀)
    (F : Fr h₀ L' s.heap u)
    (N : News h₀ L' s.heap [(W, PySem.W.listOf ws.toArray jw), (L' + 1 + 1 + 1, o3), (L' + 1 + 1 + 1 + 1 + 1 + 1 + 1, o7), (L' + 1 + 1 + 1 + 1 + 1 + 1 + 1 + 1, o8)])
    (ret : ∀ h' tk' m' news', Fr h₀ L' h' m' → News h₀ L' h' news' → Q .next { s with heap := h', toks := tk' }) :
    wpAny (model PySem.Challenge.rw_rs0052_02.prog w) (callerA.deeper (envOfC (Str.ofString "law") (scopeAt PySem.Challenge.rw_rs0052_02.prog 20) L' fa (.ref lc)))
      (exec (stmtAt PySem.Challenge.rw_rs0052_02.prog 20 14) (envOfC (Str.ofString "law") (scopeAt PySem.Challenge.rw_rs0052_02.prog 20) L' fa (.ref lc))) Q (fun _ _ => False) s := by
  k_with_none
  w_top off
  have X0 := X
  revert X
  k_fill
  intro X
  conv in (occs := *) stmtAt _ _ _ => all_goals whnf
  refine' For_invT h₀ ?_ ?hs ?hE
  case hs => intro _; rfl
  case hE => passes_own
  (repeat' ((fail_if_success (with_reducible show wpAny _ _ (exec (Stmt.For _ _ _ _ _) _) _ _ _)); (fail_if_success (with_reducible show wpAny _ _ (pyIter _) _ _ _)); first | walk1 | (dsimp only; walk1)))
  (rename Fr _ _ _ _ => F1); (rename News _ _ _ _ => N1)
  rename _ ∧ _ => lU
  have hTu := News.isTup N1 (.head _)
  refine' iter_tupT (fun _ m' news' => ∃ q7 q8 w7 w8, Obj.data q7 = .cell w7 ∧ Obj.data q8 = .cell w8 ∧ news' = [(_, _), (W, PySem.W.listOf ws.toArray jw), (L' + 1 + 1 + 1, o3), (L' + 1 + 1 + 1 + 1 + 1 + 1 + 1, q7), (L' + 1 + 1 + 1 + 1 + 1 + 1 + 1 + 1, q8)])
    rfl hTu F1 N1 ?mem (fun _ _ => rfl) ⟨o7, o8, v7, v8, h7, h8, rfl⟩ ?turn ?done
  case mem =>
    rintro i m' news' ⟨q7, q8, w7, w8, -, -, rfl⟩
    exact .head _
  case done =>
    rintro h' tk m' news' F2 N2 -
    exact ret h' tk m' news' F2 N2
  case turn =>
    rintro i v I1 it1 m₁ news₁ s₁ hv ⟨q7, q8, w7, w8, hq7, hq8, rfl⟩ F2 N2 hoff
    obtain ⟨q, tq, rfl, hq⟩ := tri_item hv
    have off1 := off1_of hoff
    simp only [LCg.Off1, and_true] at off1
    clear F1 N1
    walk1
    walk1
    try dsimp only
    (rename Fr _ _ _ _ => F5); (rename News _ _ _ _ => N5)
    obtain ⟨u9, F6⟩ := fr_some [(Str.ofString "place", .int (q : Int) tq)] (by kst_all) F5
    obtain ⟨xa, hwa⟩ := str_at6 hws (i := q) (by omega)
    obtain ⟨xb, hwb⟩ := str_at6 hws (i := q + 1) (by omega)
    refine turn_m (u := u9) (by omega) (by omega) (cnt6_le b0 b1 b2 b3 q) (cnt6_le b0 b1 b2 b3 (q + 1)) hwa hwb h3 hq7 hq8 hW7 hW8 (by omega) (by omega) (by omega) (by omega) B X0 T F6 N5 ?_
    intro q7' q8' w7' w8' h' tk' u' hd7 hd8 F7 N7
    exact ⟨rfl, _, _, _, _, rfl, F7, N7, of_off1 (by simp only [LCg.Off1, and_true]; exact off1), _, _, _, _, hd7, hd8, rfl⟩
end
end Mine
end
section
open PySem PySem.W PyProof.Rows
namespace Mine
section
variable {M : Model} {A : Around} {env : Env} {E : Value → Shared → Prop} {s : Shared} {Q : Flow → Shared → Prop}
theorem wp_execs_app (Γ : Ctx) (hΓ : Γ.In A) : ∀ (l1 l2 : List Stmt) (p : Pos) (s : Shared), Sem.wp M Γ (execs l1 env) (fun f _ s' => match f with | .next => wpAny M A (execs l2 env) Q E s' | f => Q f s') (fun e _ s' => E e s') p s →
    Sem.wp M Γ (execs (l1 ++ l2) env) (fun f _ s' => Q f s') (fun e _ s' => E e s') p s
  | [], l2, p, s, h => (show wpAny M A (execs l2 env) Q E s from h) Γ p hΓ
  | a :: l1, l2, p, s, h => by
    rw [List.cons_append, execs_cons, Sem.wp_bind']
    rw [execs_cons, Sem.wp_bind'] at h
    refine Sem.wp_mono M Γ _ (fun f p' s' h' => ?_) (fun _ _ _ h' => h') _ _ h
    cases f <;> first | exact wp_execs_app Γ hΓ l1 l2 p' s' h' | exact h'
theorem drop_split (l : List Stmt) (a b : Nat) : l.drop a = (l.drop a).take b ++ l.drop (a + b) := by
  rw [← List.drop_drop, List.take_append_drop]
end
end Mine
end
section
open PySem PySem.W PyProof.Rows
namespace Mine
section
variable {M : Model} {A : Around} {env : Env} {E : Value → Shared → Prop} {s : Shared} {Q : Flow → Shared → Prop}
theorem execs_app {l1 l2 : List Stmt} (h : wpAny M A (execs l1 env) (fun f s' => match f with | .next => wpAny M A (execs l2 env) Q E s' | f => Q f s') E s) : wpAny M A (execs (l1 ++ l2) env) Q E s :=
  fun Γ p hΓ => wp_execs_app Γ hΓ l1 l2 p s (h Γ p hΓ)
theorem drop_one (l : List Stmt) (k : Nat) (h : k < l.length) : l.drop k = (l[k]?).getD default :: l.drop (k + 1) := by
  rw [List.drop_eq_getElem_cons h, List.getElem?_eq_getElem h]; rfl
end
end Mine
end
section
open PySem PySem.W PyProof.Rows
namespace Mine
theorem five {ys : List Value} (h : ys.length = 5) : ∃ a b c d e, ys = [a, b, c, d, e] := by
  match ys, h with
  | [a, b, c, d, e], _ => exact ⟨a, b, c, d, e, rfl⟩
section
variable {fa lc : Addr} {w : World} {p : Program} {loose : List Str} {mean : ExcName → Option Value} {mg mb : Str → Option Value} {base h₀ : Heap} {m : Str → Option Value} {s : Shared} {Q : Flow → Shared → Prop}
set_option maxRecDepth 100000 in
set_option maxHeartbeats 1000000 in
theorem end_w {L' : Addr} {news : List (Addr × Obj)}
    (B : Below callerA base [] h₀) (X : (Mine.hd.heap_39 w.params).In h₀) (T : Top p loose mean mg mb h₀)
    (F : Fr h₀ L' s.heap m) (N : News h₀ L' s.heap news)
    (ret : ∀ h' tk' m' news', Fr h₀ L' h' m' → News h₀ L' h' news' → Q (.ret (.bool true)) { s with heap := h', toks := tk' }) :
    wpAny (model PySem.Challenge.rw_rs0052_02.prog w) (callerA.deeper (envOfC (Str.ofString "law") (scopeAt PySem.Challenge.rw_rs0052_02.prog 20) L' fa (.ref lc)))
      (execs ((stmtsAt PySem.Challenge.rw_rs0052_02.prog 20).drop 15) (envOfC (Str.ofString "law") (scopeAt PySem.Challenge.rw_rs0052_02.prog 20) L' fa (.ref lc))) Q (fun _ _ => False) s := by
  k_with_none
  w_top off
  revert X
  k_fill
  intro X
  conv in (occs := *) scopeAt _ _ => all_goals whnf
  conv in (occs := *) List.drop _ _ => all_goals whnf
  iterate 6 (try ((fail_if_success (with_reducible show Q _ _)); walk1))
  exact ret _ _ _ _ F N
set_option maxRecDepth 100000 in
set_option maxHeartbeats 4000000 in
theorem law_chain {L' S : Addr} {cell o2 o3 o4 o5 o6 o7 o8 : Obj} {vs : List Value} {ns : List Int}
    (B : Below callerA base [] h₀) (X : (Mine.hd.heap_39 w.params).In h₀) (T : Top p loose mean mg mb h₀)
    (F : Fr h₀ L' s.heap m) (N : News h₀ L' s.heap [(L' + 1, cell), (L' + 1 + 1, o2), (L' + 1 + 1 + 1, o3), (L' + 1 + 1 + 1 + 1, o4), (L' + 1 + 1 + 1 + 1 + 1, o5), (L' + 1 + 1 + 1 + 1 + 1 + 1, o6), (L' + 1 + 1 + 1 + 1 + 1 + 1 + 1, o7), (L' + 1 + 1 + 1 + 1 + 1 + 1 + 1 + 1, o8)]) (hcell : cell.data = .cell (some (.ref S))) (hl : h₀.IsList S vs.toArray) (hi : IntsAre vs ns) (hlen : ns.length ≤ 63)
    (h2 : o2.data = .cell none) (h3 : o3.data = .cell none) (h4 : o4.data = .cell none) (h5 : o5.data = .cell none) (h6 : o6.data = .cell none) (h7 : o7.data = .cell none) (h8 : o8.data = .cell none)
    (ret : ∀ h' tk' m' news', Fr h₀ L' h' m' → News h₀ L' h' news' → Q (.ret (.bool true)) { s with heap := h', toks := tk' }) :
    wpAny (model PySem.Challenge.rw_rs0052_02.prog w) (callerA.deeper (envOfC (Str.ofString "law") (scopeAt PySem.Challenge.rw_rs0052_02.prog 20) L' fa (.ref lc)))
      (execs (stmtsAt PySem.Challenge.rw_rs0052_02.prog 20) (envOfC (Str.ofString "law") (scopeAt PySem.Challenge.rw_rs0052_02.prog 20) L' fa (.ref lc))) Q (fun _ _ => False) s := by
  have hn : (stmtsAt PySem.Challenge.rw_rs0052_02.prog 20).length = 16 := by rfl
  rw [show stmtsAt PySem.Challenge.rw_rs0052_02.prog 20 = (stmtsAt PySem.Challenge.rw_rs0052_02.prog 20).drop 0 from rfl, drop_one _ 0 (by rw [hn]; decide)]
  refine wpAny_execs_cons (cells_st X T F N hcell hl hi hlen ?_)
  intro D ys h1 tk1 hys hc F1 N1 hlt
  obtain ⟨y0, y1, y2, y3, y4, rfl⟩ := five hys
  obtain ⟨c0, t0, rfl, _⟩ := hc 0 y0 rfl
  obtain ⟨c1, t1, rfl, _⟩ := hc 1 y1 rfl
  obtain ⟨c2, t2, rfl, _⟩ := hc 2 y2 rfl
  obtain ⟨c3, t3, rfl, _⟩ := hc 3 y3 rfl
  obtain ⟨c4, t4, rfl, _⟩ := hc 4 y4 rfl
  clear hc hys
  have hD : @LT.lt Nat _ (L' + 8) D := hlt (L' + 1 + 1 + 1 + 1 + 1 + 1 + 1 + 1, o8) (by k_mem)
  show wpAny _ _ (execs ((stmtsAt PySem.Challenge.rw_rs0052_02.prog 20).drop 1) _) Q _ _
  rw [drop_split _ 1 3]
  refine execs_app (law_counts (rest := [(L' + 1 + 1, o2), (L' + 1 + 1 + 1, o3), (L' + 1 + 1 + 1 + 1, o4), (L' + 1 + 1 + 1 + 1 + 1, o5), (L' + 1 + 1 + 1 + 1 + 1 + 1, o6), (L' + 1 + 1 + 1 + 1 + 1 + 1 + 1, o7), (L' + 1 + 1 + 1 + 1 + 1 + 1 + 1 + 1, o8)]) B X T F1 (fun p hp => N1 p (by revert p; lcg_sub)) ?_)
  intro n0 n1 n2 k C vs2 j tk h' tk' u a0 b0 a1 b1 b2 a3 b3 hDC hvs F2 N2
  show wpAny _ _ (execs ((stmtsAt PySem.Challenge.rw_rs0052_02.prog 20).drop 4) _) Q _ _
  rw [drop_split _ 4 6]
  refine execs_app (law_rows a0 b0 a1 b1 b2 a3 b3 hvs hD hDC h2 B X T F2 N2 ?_)
  intro R U Sn o2' y ty r0 r1 r2 u0 u1 u2 s0 s1 s2 h3' tk3 u3 hy hyl ho2 hCR hRU hUS F3 N3
  show wpAny _ _ (execs ((stmtsAt PySem.Challenge.rw_rs0052_02.prog 20).drop 10) _) Q _ _
  rw [drop_split _ 10 3]
  refine execs_app (law_words b0 b1 b2 b3 hvs (Nat.lt_trans hD hDC) hCR hRU hUS ho2 hy hyl h3 B X T F3 N3 ?_)
  intro W o3' ws h4' tk4 u4 hws ho3 hW F4 N4
  show wpAny _ _ (execs ((stmtsAt PySem.Challenge.rw_rs0052_02.prog 20).drop 13) _) Q _ _
  rw [drop_one _ 13 (by rw [hn]; decide)]
  refine wpAny_execs_cons (loops_w b0 b1 b2 b3 hvs hws ho3 h4 h5 h6 (Nat.lt_trans hD hDC) (hW 4 (by decide) (by decide)) (hW 5 (by decide) (by decide)) (hW 6 (by decide) (by decide)) B X T F4 N4 ?_)
  intro h5' tk5 u5 F5 N5
  show wpAny _ _ (execs ((stmtsAt PySem.Challenge.rw_rs0052_02.prog 20).drop 14) _) Q _ _
  rw [drop_one _ 14 (by rw [hn]; decide)]
  refine wpAny_execs_cons (last_w b0 b1 b2 b3 hws ho3 h7 h8 (hW 7 (by decide) (by decide)) (hW 8 (by decide) (by decide)) B X T F5 N5 ?_)
  intro h6' tk6 m6 news6 F6 N6
  exact end_w B X T F6 N6 fun h' tk' m' news' F' N' => ret h' tk' m' news' F' N'
end
set_option maxRecDepth 100000 in
set_option maxHeartbeats 4000000 in
theorem law_t : PySem.Challenge.rw_rs0052_02.Holds := by
  refine hd ?_
  k_go0
  rename Shared => s1
  rename Heap => h1
  (rename Top _ _ _ _ _ _ => T9); (rename Below _ _ _ _ => B9); (rename Frag.In _ _ => X9); (rename Fr _ _ _ _ => F9); (rename News _ _ _ _ => N9); (rename IntsAre _ _ => hI); (rename Heap.IsList _ _ _ => hL); (rename ¬ _ < _ => hcond)
  (rename Obj.data _ = _ => d1); revert d1
  (rename Obj.data _ = _ => d2); revert d2
  (rename Obj.data _ = _ => d3); revert d3
  (rename Obj.data _ = _ => d4); revert d4
  (rename Obj.data _ = _ => d5); revert d5
  (rename Obj.data _ = _ => d6); revert d6
  (rename Obj.data _ = _ => d7); revert d7
  (rename Obj.data _ = _ => d8)
  intro d7 d6 d5 d4 d3 d2 d1
  have key := fun Q fa lc tk => law_chain (Q := Q) (fa := fa) (lc := lc) (h₀ := s1.heap) (base := s1.heap) (L' := s1.heap.objs.size) (s := { s1 with heap := h1, toks := tk }) B9 X9 T9 F9 (fun p hp => N9 p (by revert p; lcg_sub)) (d1.trans rfl) hL hI (by omega) (d2.trans rfl) (d3.trans rfl) (d4.trans rfl) (d5.trans rfl) (d6.trans rfl) (d7.trans rfl) (d8.trans rfl)
  refine wpAny_mono (key (fun fl s' => fl = Flow.ret (.bool true) ∧ ∃ h' tk' m' news', s' = { s1 with heap := h', toks := tk' } ∧ Fr s1.heap s1.heap.objs.size h' m' ∧ News s1.heap s1.heap.objs.size h' news') _ _ _ (fun h' tk' m' news' F' N' => ⟨rfl, h', tk', m', news', rfl, F', N'⟩)) ?_ (fun _ _ h => h.elim)
  rintro fl s' ⟨rfl, h', tk', m', news', rfl, F', N'⟩
  dsimp only
  k_end
  wrow_close
end Mine
end
theorem PySem.Challenge.cw_rs0052_02_holds : PySem.Challenge.rw_rs0052_02.Holds := by
  exact Mine.law_t
