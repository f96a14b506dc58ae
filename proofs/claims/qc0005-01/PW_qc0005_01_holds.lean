import PyProof.Rows.All
import Wide.All
import OpenK.AllK
import Wide.FinOn
import Lean
import PySem.Challenge.RW_qc0005_01
set_option Elab.async false

section
open PySem PySem.W PyProof.Rows
namespace Mine
set_option maxRecDepth 100000 in
set_option maxHeartbeats 8000000 in
open_top hd for PySem.Challenge.rw_qc0005_01
end Mine
end

section
open PySem PySem.W PyProof.Rows
namespace Mine

def Says (w : World) (mean : ExcName → Option Value) (mg mb : Str → Option Value) (k : Nat) (f : Addr) (vals : List Value) (news : List (Addr × Obj)) (Post : Value → List (Addr × Obj) → Prop) : Prop :=
  ∀ (dp un : Nat) (gd : Option (List Code)) (cn : Str) (cs : Scope) (a : Addr) (ccd : Value) (cl : List (Str × Addr)) (outer : List Env) (A₀ : Around) (base h₀ : Heap) (L : Addr) (m : Str → Option Value) (s : Shared)
    (Q E : Value → Shared → Prop),
    Below A₀ base outer h₀ → Fr h₀ L s.heap m → Frag.In (Mine.hd.heap_39 (World.params w)) h₀ → News h₀ L s.heap news → Top hd.view_39 (looseW hd.view_39 [Str.ofString "insort_left", Str.ofString "bisect_left"]) mean mg mb h₀ → cs.kind = .function → dp + k < recursionLimit → un + 8 * k < cLine →
    (∀ r news' h' tk', Post r news' → Fr h₀ L h' m → News h₀ L h' news' → Q r { s with heap := h', toks := tk' }) →
    wpAny (model (RowW.prog (OpenRow.toRowW (OpenLaw.row Challenge.rw_qc0005_01))) w) (ktrTop dp un gd cn cs L a ccd cl outer) (call (.ref f) vals) Q E s
end Mine
namespace Mine
open PySem PySem.W PyProof.Rows
theorem says_use {w : World} {mean : ExcName → Option Value} {mg mb : Str → Option Value} {k : Nat} {f : Addr} {vals : List Value} {news : List (Addr × Obj)} {Post : Value → List (Addr × Obj) → Prop}
    {dp un : Nat} {gd : Option (List Code)} {cn : Str} {cs : Scope} {a : Addr} {ccd : Value} {cl : List (Str × Addr)} {outer : List Env} {A₀ : Around} {base h₀ : Heap} {L : Addr} {m : Str → Option Value} {s : Shared} {Q E : Value → Shared → Prop}
    (C : Says w mean mg mb k f vals news Post)
    (B : Below A₀ base outer h₀) (F : Fr h₀ L s.heap m) (X : Frag.In (Mine.hd.heap_39 (World.params w)) h₀) (N : News h₀ L s.heap news) (T : Top hd.view_39 (looseW hd.view_39 [Str.ofString "insort_left", Str.ofString "bisect_left"]) mean mg mb h₀)
    (hk : cs.kind = .function) (hd : dp + k < recursionLimit) (hu : un + 8 * k < cLine)
    (ret : ∀ r news' h' tk', Post r news' → Fr h₀ L h' m → News h₀ L h' news' → Q r { s with heap := h', toks := tk' }) :
    wpAny (model (RowW.prog (OpenRow.toRowW (OpenLaw.row Challenge.rw_qc0005_01))) w) (ktrTop dp un gd cn cs L a ccd cl outer) (call (.ref f) vals) Q E s :=
  C _ _ _ _ _ _ _ _ _ _ _ _ _ _ _ _ _ B F X N T hk hd hu ret
end Mine
end

section
open PySem PySem.W PyProof.Rows
namespace Mine
abbrev NoE : Value → Shared → Prop := fun _ _ => False
abbrev Led := List (Addr × Obj)
abbrev Mp := Str → Option Value
section
variable {prog : Program} {w : World} {A : Around} {s : Shared} {env : Env} {h₀ : Heap}

/-- what a turn of a loop must come to -/
def TurnEnd (h₀ : Heap) (L : Addr) (it : Addr × Obj) (J : Mp → Led → Prop) (s₁ : Shared) (Q : Flow → Shared → Prop) (f : Flow) (s₃ : Shared) : Prop :=
  match f with
  | .next | .cont => ∃ m₂ news₂ h' tk, s₃ = { s₁ with heap := h', toks := tk } ∧ Fr h₀ L h' m₂ ∧ News h₀ L h' (it :: news₂) ∧ (∀ p ∈ news₂, p.1 ≠ it.1) ∧ J m₂ news₂
  | .brk => Q .next s₃
  | .ret v => Q (.ret v) s₃

theorem turn_next {L : Addr} {it : Addr × Obj} {J : Mp → Led → Prop} {s₁ : Shared} {Q : Flow → Shared → Prop} {m₂ : Mp} {news₂ : Led} {h' : Heap} {tk : Nat}
    (F : Fr h₀ L h' m₂) (N : News h₀ L h' (it :: news₂)) (ha : ∀ p ∈ news₂, p.1 ≠ it.1) (j : J m₂ news₂) : TurnEnd h₀ L it J s₁ Q .next { s₁ with heap := h', toks := tk } := ⟨m₂, news₂, h', tk, rfl, F, N, ha, j⟩

/-- something that a for walks along: I its cell, fp its footprint; P what is said of the i-th value -/
structure Iter (prog : Program) (w : World) (A : Around) (tgt : Expr) (I : Addr) (fp : List Addr) (n : Nat) (P : Nat → Value → Heap → Prop) (St : Nat → Heap → Prop) : Prop where
  frame : ∀ i h h', St i h → (∀ b ∈ fp, ∀ o, h.get? b = some o → h'.get? b = some o) → St i h'
  cell : ∀ i h, St i h → ∃ o, h.get? I = some o
  item : ∀ i (s : Shared) (Q : Value → Shared → Prop), i < n → St i s.heap →
    (∀ v h' tk, P i v h' → St (i + 1) h' → (∀ b o, b ≠ I → s.heap.get? b = some o → h'.get? b = some o) → Q v { s with heap := h', toks := tk }) →
    wpAny (model prog w) A (pyNext (.ref I)) (fun r s₁ => match r with | none => False | some v => wpAny (model prog w) A (letOwnedTupleGo tgt (.ref I) v) (fun _ s₂ => Q v s₂) NoE s₁) NoE s
  done : ∀ (s : Shared) (Q : Shared → Prop), St n s.heap →
    (∀ h' tk, (∀ b o, b ≠ I → s.heap.get? b = some o → h'.get? b = some o) → Q { s with heap := h', toks := tk }) →
    wpAny (model prog w) A (pyNext (.ref I)) (fun r s₁ => match r with | none => Q s₁ | some _ => False) NoE s

/-- a for over whatever walks: the ledger holds unchanged what the footprint names beside the iterator's own cell -/
theorem forLoop_led {Q : Flow → Shared → Prop} {tgt : Expr} {body : List Stmt} {I : Addr} {fp : List Addr} {n : Nat} {P : Nat → Value → Heap → Prop} {St : Nat → Heap → Prop} {m : Mp} {news : Led}
    (W : Iter prog w A tgt I fp n P St)
    (hLf : env.locals ≠ I) (hwr : h₀.get? I = none) (hnw : ∀ p ∈ news, p.1 ≠ I)
    (hst : St 0 s.heap) (F : Fr h₀ env.locals s.heap m) (N : News h₀ env.locals s.heap news)
    (J : Nat → Mp → Led → Prop) (h0 : J 0 m news)
    (hold : ∀ i m' news', J i m' news' → ∀ b ∈ fp, b ≠ I → (∃ o, h₀.get? b = some o) ∨ ∃ o, (∀ j m'' news'', J j m'' news'' → (b, o) ∈ news''))
    (step : ∀ i v m₁ news₁ h tk o, i < n → P i v h → J i m₁ news₁ → (∀ p ∈ news₁, p.1 ≠ I) →
      Fr h₀ env.locals h m₁ → News h₀ env.locals h ((I, o) :: news₁) →
      wpAny (model prog w) A (assign tgt env v) (fun _ s₂ => wpAny (model prog w) A (execs body env) (TurnEnd h₀ env.locals (I, o) (J (i + 1)) { s with heap := h, toks := tk } Q) NoE s₂) NoE { s with heap := h, toks := tk })
    (done : ∀ h' tk m' news', Fr h₀ env.locals h' m' → News h₀ env.locals h' news' → J n m' news' → Q .next { s with heap := h', toks := tk }) :
    codeAny (model prog w) A (.forLoop tgt (.ref I) body [] env) (fun r s' => match r with | .ok f => Q f s' | .error e => cameBackBy (model prog w) A env NoE e s') s := by
  refine codeAny_forLoop_any
    (fun k s' => ∃ h' tk m' news' i, s' = { s with heap := h', toks := tk } ∧ St i h' ∧ Fr h₀ env.locals h' m' ∧ News h₀ env.locals h' news' ∧ (∀ p ∈ news', p.1 ≠ I) ∧ J i m' news' ∧ i ≤ n ∧ k = n + 1 - i) ?_ (n + 1)
    ⟨s.heap, s.toks, m, news, 0, rfl, hst, F, N, hnw, h0, Nat.zero_le _, rfl⟩
  rintro k s' ⟨h', tk, m', news', i, rfl, hst', F', N', hnw', hJ, hi, rfl⟩
  have old : ∀ b o, h₀.get? b = some o → b ≠ I := fun b o e hb => by rw [hb, hwr] at e; cases e
  have next : ∀ h₁ : Heap, (∀ b o, b ≠ I → h'.get? b = some o → h₁.get? b = some o) → Fr h₀ env.locals h₁ m' ∧ News h₀ env.locals h₁ news' := fun h₁ hk₁ =>
    ⟨⟨F'.ns.at' fun o e => hk₁ _ o hLf e, fun b o e => hk₁ b o (old b o e) (F'.keep b o e), F'.above⟩, fun p hp => ⟨hk₁ _ _ (hnw' p hp) (N' p hp).1, (N' p hp).2⟩⟩
  by_cases hlt : i < n
  · refine wpAny_mono (W.item i { s with heap := h', toks := tk } (fun v s₁' => wpAny (model prog w) A (assign tgt env v) (fun _ s₂ => wpAny (model prog w) A (execs body env) (fun f s₃ => match f with
            | .next | .cont => ∃ k', k' < n + 1 - i ∧ ∃ hh tk₂ m₂ news₂ j, s₃ = { s with heap := hh, toks := tk₂ } ∧ St j hh ∧ Fr h₀ env.locals hh m₂ ∧ News h₀ env.locals hh news₂ ∧ (∀ p ∈ news₂, p.1 ≠ I) ∧ J j m₂ news₂ ∧ j ≤ n ∧ k' = n + 1 - j
            | .brk => Q .next s₃
            | .ret v => Q (.ret v) s₃) NoE s₂) NoE s₁') hlt hst' fun v h₁ tk₁ hP hst₁ hk₁ => ?_) ?_ (fun _ _ e => e.elim)
    · obtain ⟨F₁, N₁⟩ := next h₁ hk₁
      obtain ⟨o, ho⟩ := W.cell _ _ hst₁
      have NI : News h₀ env.locals h₁ ((I, o) :: news') := by
        intro p hp
        rcases List.mem_cons.mp hp with rfl | hp
        · exact ⟨ho, fun e => hLf e.symm, hwr⟩
        · exact N₁ p hp
      refine wpAny_mono (step i v m' news' h₁ tk₁ o hlt hP hJ hnw' F₁ NI) (fun _ s₂ h₂ => ?_) (fun _ _ e => e.elim)
      refine wpAny_mono h₂ (fun f s₃ h₃ => ?_) (fun _ _ e => e.elim)
      have fin : (∃ m₂ news₂ hh tk₂, s₃ = { ({ s with heap := h₁, toks := tk₁ } : Shared) with heap := hh, toks := tk₂ } ∧ Fr h₀ env.locals hh m₂ ∧ News h₀ env.locals hh ((I, o) :: news₂) ∧ (∀ p ∈ news₂, p.1 ≠ I) ∧ J (i + 1) m₂ news₂) →
          ∃ k', k' < n + 1 - i ∧ ∃ hh tk₂ m₂ news₂ j, s₃ = { s with heap := hh, toks := tk₂ } ∧ St j hh ∧ Fr h₀ env.locals hh m₂ ∧ News h₀ env.locals hh news₂ ∧ (∀ p ∈ news₂, p.1 ≠ I) ∧ J j m₂ news₂ ∧ j ≤ n ∧ k' = n + 1 - j := by
        rintro ⟨m₂, news₂, hh, tk₂, rfl, F₂, N₂, ha, j₂⟩
        refine ⟨n + 1 - (i + 1), by omega, hh, tk₂, m₂, news₂, i + 1, rfl, ?_, F₂, fun p hp => N₂ p (.tail _ hp), ha, j₂, hlt, rfl⟩
        refine W.frame _ _ _ hst₁ fun b hb ob e => ?_
        by_cases hbI : b = I
        · subst hbI
          rw [ho] at e
          cases e
          exact (N₂ _ (.head _)).1
        · rcases hold i m' news' hJ b hb hbI with ⟨o₀, ho₀⟩ | ⟨o₀, ho₀⟩
          · have e1 := F₁.keep b o₀ ho₀
            rw [e] at e1
            cases e1
            exact F₂.keep b _ ho₀
          · have e1 := (N₁ _ (ho₀ i m' news' hJ)).1
            rw [e] at e1
            cases e1
            exact (N₂ _ (.tail _ (ho₀ (i + 1) m₂ news₂ j₂))).1
      cases f with
      | ret v => exact h₃
      | brk => exact h₃
      | cont => exact fin h₃
      | next => exact fin h₃
    · intro r s₁ hr
      cases r with
      | none => exact hr.elim
      | some v =>
        refine wpAny_mono hr (fun _ s₂ h₂ => ?_) (fun _ _ e => e.elim)
        refine wpAny_mono h₂ (fun _ s₃ h₃ => ?_) (fun _ _ e => e.elim)
        exact wpAny_mono h₃ (fun f s₄ h₄ => by cases f <;> exact h₄) (fun _ _ e => e.elim)
  · have hin : i = n := by omega
    subst hin
    refine wpAny_mono (W.done { s with heap := h', toks := tk } (fun s₁ => wpAny (model prog w) A (execs [] env) (fun f s₃ => Q f s₃) NoE s₁) hst' fun h₁ tk₁ hk₁ => wpAny_execs_nil ?_) ?_ (fun _ _ e => e.elim)
    · obtain ⟨F₁, N₁⟩ := next h₁ hk₁
      exact done h₁ tk₁ m' news' F₁ N₁ hJ
    · intro r s₁ hr
      cases r with
      | none => exact wpAny_mono hr (fun _ _ h => h) (fun _ _ e => e.elim)
      | some v => exact hr.elim

theorem letGo_list {tgt : Expr} {I l : Addr} {i : Nat} {v : Value} {Q : Unit → Shared → Prop} {E : Value → Shared → Prop} (hit : s.heap.IsListIter I l i) (hQ : Q () s) :
    wpAny (model prog w) A (letOwnedTupleGo tgt (.ref I) v) Q E s := by
  have key : ∀ T : Addr, wpAny (model prog w) A (letOwnedTupleGo (.Tuple [] 0 ⟨0, 0, 0, 0⟩) (.ref I) (.ref T)) Q E s := fun T => wpAny_letOwnedTupleGo_listiter hit hQ
  unfold letOwnedTupleGo at key ⊢
  split
  · cases v with
    | ref T => exact key T
    | _ => exact wpAny_pure hQ
  · cases v with
    | ref T => exact key T
    | _ => exact wpAny_pure hQ
  · exact wpAny_pure hQ

theorem Iter.list {tgt : Expr} (hh : A.handled = none) (I ax : Addr) (hne : ax ≠ I) (items : Array Value) :
    Iter prog w A tgt I [I, ax] items.size (fun i v _ => items[i]? = some v) (fun i h => h.IsListIter I ax i ∧ h.IsList ax items) where
  frame := fun _ _ _ st hk => ⟨st.1.at fun o e => hk I (by simp) o e, st.2.at fun o e => hk ax (by simp) o e⟩
  cell := fun i h st => let ⟨o, ho, _⟩ := st.1; ⟨o, ho⟩
  item := fun i s Q hi st hQ => by
    refine wpAny_pyNext_list_item st.1 st.2 (x := items[i]) (by simp [hi]) fun h' hit' hs' => ?_
    refine letGo_list (i := i + 1) hit' ?_
    exact hQ _ h' s.toks (by simp [hi]) ⟨hit', st.2.extBut hs'.extBut hne⟩ fun b o hb e => hs'.extBut b o hb e
  done := fun s Q st hQ => wpAny_pyNext_list_end hh st.1 st.2 (by simp) fun h' he' => hQ h' s.toks fun b o hb e => he' b o hb e

abbrev forEnd (prog : Program) (w : World) (A : Around) (env : Env) (tgt : Expr) (body : List Stmt) (Q : Flow → Shared → Prop) (it : Value) (s₂ : Shared) : Prop :=
  codeAny (model prog w) A (.forLoop tgt it body [] env) (fun r s' => match r with | .ok f => Q f s' | .error e => cameBackBy (model prog w) A env NoE e s') s₂

theorem iter_list {Q : Flow → Shared → Prop} {tgt : Expr} {body : List Stmt} {l : Addr} {m : Mp} {news : Led} (vs : List Value) (k : Nat)
    (J : Nat → Mp → Led → Prop) (hh : A.handled = none) (F : Fr h₀ env.locals s.heap m) (N : News h₀ env.locals s.heap news) (h0 : J 0 m news)
    (hl : ∀ i m' news', J i m' news' → (l, W.listOf vs.toArray k) ∈ news')
    (step : ∀ i v m₁ news₁ h tk it, vs[i]? = some v → J i m₁ news₁ → (∀ p ∈ news₁, p.1 ≠ it.1) →
      Fr h₀ env.locals h m₁ → News h₀ env.locals h (it :: news₁) →
      wpAny (model prog w) A (assign tgt env v) (fun _ s₂ => wpAny (model prog w) A (execs body env) (TurnEnd h₀ env.locals it (J (i + 1)) { s with heap := h, toks := tk } Q) NoE s₂) NoE { s with heap := h, toks := tk })
    (done : ∀ h' tk m' news', Fr h₀ env.locals h' m' → News h₀ env.locals h' news' → J vs.length m' news' → Q .next { s with heap := h', toks := tk })
    :
    wpAny (model prog w) A (pyIter (.ref l)) (fun it s₂ => forEnd prog w A env tgt body Q it s₂) NoE s := by
  have hml := N _ (hl _ _ _ h0)
  have hls : s.heap.IsList l vs.toArray := ⟨_, hml.1, rfl, _, rfl⟩
  have hne : l ≠ s.heap.objs.size := Nat.ne_of_lt (Heap.lt_size hml.1)
  refine wpAny_pyIter_list hls ?_
  have W := Iter.list (prog := prog) (w := w) (tgt := tgt) hh s.heap.objs.size l hne vs.toArray
  rw [show vs.toArray.size = vs.length from by simp] at W
  refine forLoop_led (h₀ := h₀) (m := m) (news := news) W ?_ (next_is_new F) ?_
    ⟨⟨_, Heap.get?_push_size _ rfl, rfl, rfl⟩, hls.at fun o e => Heap.get?_push_of_some _ e⟩ (F.push _) (fun p hp => ⟨Heap.get?_push_of_some _ (N p hp).1, (N p hp).2⟩) J h0 ?_ ?_ ?_
  · exact Nat.ne_of_lt F.ns.lt
  · exact fun p hp => Nat.ne_of_lt (Heap.lt_size (N p hp).1)
  · intro i m' news' hj b hb hbI
    rcases List.mem_cons.mp hb with e | hb
    · exact absurd e hbI
    · rw [List.mem_singleton.mp hb]
      exact .inr ⟨_, fun j m'' news'' hj' => hl _ _ _ hj'⟩
  · intro i v m₁ news₁ h tk o hi hP hJ hoff F₁ N₁
    exact step i v m₁ news₁ h tk (_, o) (by simpa using hP) hJ hoff F₁ N₁
  · intro h' tk m' news' F' N' hJ
    exact done h' tk m' news' F' N' hJ
end
end Mine
namespace Mine
open PyProof.Rows
/-- a tuple's object -/
abbrev tupO (vs : List Value) (k : Nat) : Obj := { cls := .type "tuple", data := .seq vs.toArray k }
section
variable {prog : Program} {w : World} {A : Around} {E : Value → Shared → Prop} {s : Shared} {h₀ : Heap} {name : Str} {scope : Scope} {L a : Addr} {cd : Value} {m : Mp} {news : Led}
theorem newsExtBut {h' : Heap} (N : News h₀ L s.heap news) (he : Heap.ExtBut s.heap.objs.size s.heap h') : News h₀ L h' news :=
  fun p hp => ⟨he _ _ (Nat.ne_of_lt (Heap.lt_size (N p hp).1)) (N p hp).1, (N p hp).2⟩
theorem assignTo2 {x y : Str} {px py pos : Pos} {k j : Nat} {t : Addr} {v1 v2 : Value} {Q : Unit → Shared → Prop} (hh : A.handled = none) (F : Fr h₀ L s.heap m) (N : News h₀ L s.heap news) (ht : (t, tupO [v1, v2] j) ∈ news)
    (h : ∀ h' tk, Fr h₀ L h' (fun z => if z = y then some v2 else if z = x then some v1 else m z) → News h₀ L h' news → Q () { s with heap := h', toks := tk })
    (hk : scope.kind = .function := by rfl) (hx : (envOf name scope L a cd).kindOf x = some .local := by rfl) (hy : (envOf name scope L a cd).kindOf y = some .local := by rfl) :
    wpAny (model prog w) A (assign (.Tuple [.Name x px, .Name y py] k pos) (envOf name scope L a cd) (.ref t)) Q E s := by
  have hT : IsTup s.heap t [v1, v2].toArray := ⟨_, (N _ ht).1, rfl, _, rfl⟩
  refine assign_Tuple_tuple hh hT rfl rfl fun h' he => ?_
  have F1 := F.extBut he (Nat.le_refl _)
  have N1 := newsExtBut N he
  refine assignInOrder_cons (wpAny_assign_Name (stN F1 N1 (fun h2 F2 N2 => ?_) hk hx))
  refine assignInOrder_cons (wpAny_assign_Name (stN F2 N2 (fun h3 F3 N3 => ?_) hk hy))
  exact assignInOrder_nil (h h3 _ F3 N3)
theorem assignTo3 {x y z : Str} {px py pz pos : Pos} {k j : Nat} {t : Addr} {v1 v2 v3 : Value} {Q : Unit → Shared → Prop} (hh : A.handled = none) (F : Fr h₀ L s.heap m) (N : News h₀ L s.heap news) (ht : (t, tupO [v1, v2, v3] j) ∈ news)
    (h : ∀ h' tk, Fr h₀ L h' (fun u => if u = z then some v3 else if u = y then some v2 else if u = x then some v1 else m u) → News h₀ L h' news → Q () { s with heap := h', toks := tk })
    (hk : scope.kind = .function := by rfl) (hx : (envOf name scope L a cd).kindOf x = some .local := by rfl) (hy : (envOf name scope L a cd).kindOf y = some .local := by rfl) (hz : (envOf name scope L a cd).kindOf z = some .local := by rfl) :
    wpAny (model prog w) A (assign (.Tuple [.Name x px, .Name y py, .Name z pz] k pos) (envOf name scope L a cd) (.ref t)) Q E s := by
  have hT : IsTup s.heap t [v1, v2, v3].toArray := ⟨_, (N _ ht).1, rfl, _, rfl⟩
  refine assign_Tuple_tuple hh hT rfl rfl fun h' he => ?_
  have F1 := F.extBut he (Nat.le_refl _)
  have N1 := newsExtBut N he
  refine assignInOrder_cons (wpAny_assign_Name (stN F1 N1 (fun h2 F2 N2 => ?_) hk hx))
  refine assignInOrder_cons (wpAny_assign_Name (stN F2 N2 (fun h3 F3 N3 => ?_) hk hy))
  refine assignInOrder_cons (wpAny_assign_Name (stN F3 N3 (fun h4 F4 N4 => ?_) hk hz))
  exact assignInOrder_nil (h h4 _ F4 N4)
end
end Mine
namespace Mine
def Has (m : Mp) : List (Str × Value) → Prop
  | [] => True
  | p :: r => m p.1 = some p.2 ∧ Has m r
theorem Has.all {m : Mp} : ∀ {ps : List (Str × Value)}, Has m ps → ∀ p ∈ ps, m p.1 = some p.2
  | [], _, _, hp => nomatch hp
  | q :: r, h, p, hp => by
    rcases List.mem_cons.mp hp with rfl | hp
    · exact h.1
    · exact Has.all h.2 p hp
theorem frPin {h₀ h : Heap} {L : Addr} {m : Mp} (ps : List (Str × Value)) (F : Fr h₀ L h m) (e : Has m ps) : Fr h₀ L h (kstB m ps) := by
  have : kstB m ps = m := funext fun z => kstB_eq e.all fun _ => rfl
  rw [this]; exact F
theorem Paired.at {α β : Type} {R : α → β → Prop} : ∀ {xs : List α} {ys : List β}, Paired R xs ys → ∀ {i : Nat} {x : α}, xs[i]? = some x → ∃ y, ys[i]? = some y ∧ R x y
  | _, _, .nil, i, x, h => by simp at h
  | _, _, .cons r rs, 0, x, h => ⟨_, rfl, by simp at h; exact h ▸ r⟩
  | _, _, .cons r rs, i + 1, x, h => by
    have := Paired.at rs (i := i) (x := x) (by simpa using h)
    simpa using this
end Mine
namespace Mine
section
variable {prog : Program} {w : World} {A : Around} {s : Shared} {env : Env} {h₀ : Heap}
/-- what a turn of a while must come to -/
def WhileEnd (h₀ : Heap) (L : Addr) (J : Mp → Led → Prop) (s₁ : Shared) (Q : Flow → Shared → Prop) (f : Flow) (s₃ : Shared) : Prop :=
  match f with
  | .next | .cont => ∃ m₂ news₂ h' tk, s₃ = { s₁ with heap := h', toks := tk } ∧ Fr h₀ L h' m₂ ∧ News h₀ L h' news₂ ∧ J m₂ news₂
  | .brk => Q .next s₃
  | .ret v => Q (.ret v) s₃
theorem while_next {L : Addr} {J : Mp → Led → Prop} {s₁ : Shared} {Q : Flow → Shared → Prop} {m₂ : Mp} {news₂ : Led} {h' : Heap} {tk : Nat}
    (F : Fr h₀ L h' m₂) (N : News h₀ L h' news₂) (j : J m₂ news₂) : WhileEnd h₀ L J s₁ Q .next { s₁ with heap := h', toks := tk } := ⟨m₂, news₂, h', tk, rfl, F, N, j⟩
theorem while_led {Q : Flow → Shared → Prop} {test : Expr} {body : List Stmt} {pos : Pos} {m : Mp} {news : Led} (J : Nat → Mp → Led → Prop) (k : Nat)
    (F : Fr h₀ env.locals s.heap m) (N : News h₀ env.locals s.heap news) (h0 : J k m news)
    (turn : ∀ k m₁ news₁ h tk, J k m₁ news₁ → Fr h₀ env.locals h m₁ → News h₀ env.locals h news₁ →
      wpAny (model prog w) A (isTrue test env (eval test env)) (fun b s₂ => if b = true then wpAny (model prog w) A (execs body env) (WhileEnd h₀ env.locals (fun m' news' => ∃ k', k' < k ∧ J k' m' news') { s with heap := h, toks := tk } Q) NoE s₂ else Q .next s₂) NoE { s with heap := h, toks := tk }) :
    wpAny (model prog w) A (exec (.While test body [] pos) env) Q NoE s := by
  refine wpAny_While (codeAny_whileLoop (fun k s' => ∃ h' tk m' news', s' = { s with heap := h', toks := tk } ∧ Fr h₀ env.locals h' m' ∧ News h₀ env.locals h' news' ∧ J k m' news') ?_ k ⟨s.heap, s.toks, m, news, rfl, F, N, h0⟩)
  rintro k s' ⟨h', tk, m', news', rfl, F', N', hJ⟩
  refine wpAny_mono (turn k m' news' h' tk hJ F' N') (fun b s₂ h₂ => ?_) (fun _ _ e => e.elim)
  cases b with
  | true =>
    simp only [if_true] at h₂ ⊢
    refine wpAny_mono h₂ (fun f s₃ h₃ => ?_) (fun _ _ e => e.elim)
    cases f with
    | ret v => exact h₃
    | brk => exact h₃
    | next => obtain ⟨m₂, news₂, hh, tk₂, rfl, F₂, N₂, k', hk, j⟩ := h₃; exact ⟨k', hk, hh, tk₂, m₂, news₂, rfl, F₂, N₂, j⟩
    | cont => obtain ⟨m₂, news₂, hh, tk₂, rfl, F₂, N₂, k', hk, j⟩ := h₃; exact ⟨k', hk, hh, tk₂, m₂, news₂, rfl, F₂, N₂, j⟩
  | false =>
    simp only [Bool.false_eq_true, if_false] at h₂ ⊢
    exact wpAny_execs_nil h₂
end
section
theorem wpLoad {α : Type} {M : Model} {A : Around} {E : Value → Shared → Prop} {s : Shared} {Q : α → Shared → Prop} {a : Addr} {p : Option Value} {o : Obj} {k : Obj → Sem α} (ho : s.heap.get? a = some o) (h : wpAny M A (k o) Q E s) : wpAny M A (.load a p k) Q E s :=
  wpAny_bind (m := loadPart a p) (f := k) (wpAny_loadPart ho h)
end
end Mine
namespace Mine
section
variable {prog : Program} {w : World} {A : Around} {s : Shared} {env : Env} {h₀ : Heap}
theorem Iter.ofWalks {tgt : Expr} {I : Addr} {fp : List Addr} {n : Nat} {P : Nat → Value → Prop} {St : Nat → Heap → Prop} (W : Walks prog w A I fp [I] n P St) (hcell : ∀ i h, St i h → ∃ o, h.get? I = some o)
    (ht : ∀ v, letOwnedTupleGo tgt (.ref I) v = pure ()) : Iter prog w A tgt I fp n (fun i v _ => P i v) St where
  frame := W.frame
  cell := hcell
  item := fun i s Q hi st hQ => W.item i s _ _ hi st fun v h' tk hP hst hk => by
    show wpAny _ _ (letOwnedTupleGo tgt (.ref I) v) _ _ _
    exact wpAny_of_eq (ht v) (hQ v h' tk hP hst fun b o hb e => hk b o (by simpa using hb) e)
  done := fun s Q st hQ => W.done s _ _ st fun h' tk hk => hQ h' tk fun b o hb e => hk b o (by simpa using hb) e

/-- a loop whose iterator is an object of its own, just made -/
theorem iter_own {Q : Flow → Shared → Prop} {tgt : Expr} {body : List Stmt} {m : Mp} {news : Led} {n : Nat} {P : Nat → Value → Heap → Prop} {St : Nat → Heap → Prop} {o : Obj}
    (W : Iter prog w A tgt s.heap.objs.size [s.heap.objs.size] n P St) (hst : St 0 (s.heap.push o))
    (J : Nat → Mp → Led → Prop) (F : Fr h₀ env.locals s.heap m) (N : News h₀ env.locals s.heap news) (h0 : J 0 m news)
    (step : ∀ i v m₁ news₁ h tk it, i < n → P i v h → J i m₁ news₁ → (∀ p ∈ news₁, p.1 ≠ it.1) →
      Fr h₀ env.locals h m₁ → News h₀ env.locals h (it :: news₁) →
      wpAny (model prog w) A (assign tgt env v) (fun _ s₂ => wpAny (model prog w) A (execs body env) (TurnEnd h₀ env.locals it (J (i + 1)) { s with heap := h, toks := tk } Q) NoE s₂) NoE { s with heap := h, toks := tk })
    (done : ∀ h' tk m' news', Fr h₀ env.locals h' m' → News h₀ env.locals h' news' → J n m' news' → Q .next { s with heap := h', toks := tk }) :
    forEnd prog w A env tgt body Q (.ref s.heap.objs.size) { s with heap := s.heap.push o } := by
  refine forLoop_led (h₀ := h₀) (m := m) (news := news) W ?_ (next_is_new F) ?_ hst (F.push _) (fun p hp => ⟨Heap.get?_push_of_some _ (N p hp).1, (N p hp).2⟩) J h0 ?_ ?_ ?_
  · exact Nat.ne_of_lt F.ns.lt
  · exact fun p hp => Nat.ne_of_lt (Heap.lt_size (N p hp).1)
  · intro i m' news' hj b hb hbI
    exact absurd (List.mem_singleton.mp hb) hbI
  · intro i v m₁ news₁ h tk o hi hP hJ hoff F₁ N₁
    exact step i v m₁ news₁ h tk (_, o) hi hP hJ hoff F₁ N₁
  · intro h' tk m' news' F' N' hJ
    exact done h' tk m' news' F' N' hJ

theorem iter_range {Q : Flow → Shared → Prop} {x : Str} {px : Pos} {body : List Stmt} {m : Mp} {news : Led} {r : Addr} {a b : Int} {t u v : Tok} (n : Nat)
    (J : Nat → Mp → Led → Prop) (hh : A.handled = none) (hr : IsRange s.heap r a b 1 t u v) (hsmall : Builtin.Range.small a b 1 = true) (hn : Builtin.Range.rangeSize a b 1 = (n : Int)) (F : Fr h₀ env.locals s.heap m) (N : News h₀ env.locals s.heap news) (h0 : J 0 m news)
    (step : ∀ i t₁ m₁ news₁ h tk it, i < n → J i m₁ news₁ → (∀ p ∈ news₁, p.1 ≠ it.1) →
      Fr h₀ env.locals h m₁ → News h₀ env.locals h (it :: news₁) →
      wpAny (model prog w) A (assign (.Name x px) env (.int (a + (i : Int)) t₁)) (fun _ s₂ => wpAny (model prog w) A (execs body env) (TurnEnd h₀ env.locals it (J (i + 1)) { s with heap := h, toks := tk } Q) NoE s₂) NoE { s with heap := h, toks := tk })
    (done : ∀ h' tk m' news', Fr h₀ env.locals h' m' → News h₀ env.locals h' news' → J n m' news' → Q .next { s with heap := h', toks := tk }) :
    wpAny (model prog w) A (pyIter (.ref r)) (fun it s₂ => forEnd prog w A env (.Name x px) body Q it s₂) NoE s := by
  refine wpAny_pyIter_range hr hsmall ?_
  refine iter_own (h₀ := h₀) (Iter.ofWalks (Walks.range hh _ a 1 n) (fun i h st => ⟨_, st⟩) (fun _ => rfl)) ?_ J F N h0 ?_ done
  · show IsRangeIter _ _ _ _ _
    rw [hn]
    simpa using Heap.get?_push_size _ rfl
  · rintro i v m₁ news₁ h tk it hi ⟨t₁, rfl⟩ hJ hoff F₁ N₁
    have e := step i t₁ m₁ news₁ h tk it hi hJ hoff F₁ N₁
    rw [show a + (i : Int) * 1 = a + (i : Int) from by omega]
    exact e

theorem iter_str {Q : Flow → Shared → Prop} {x : Str} {px : Pos} {body : List Stmt} {m : Mp} {news : Led} (y : Str) (ty : Tok)
    (J : Nat → Mp → Led → Prop) (hh : A.handled = none) (F : Fr h₀ env.locals s.heap m) (N : News h₀ env.locals s.heap news) (h0 : J 0 m news)
    (step : ∀ i c t₁ m₁ news₁ h tk it, y.cps[i]? = some c → J i m₁ news₁ → (∀ p ∈ news₁, p.1 ≠ it.1) →
      Fr h₀ env.locals h m₁ → News h₀ env.locals h (it :: news₁) →
      wpAny (model prog w) A (assign (.Name x px) env (.str ⟨#[c]⟩ t₁)) (fun _ s₂ => wpAny (model prog w) A (execs body env) (TurnEnd h₀ env.locals it (J (i + 1)) { s with heap := h, toks := tk } Q) NoE s₂) NoE { s with heap := h, toks := tk })
    (done : ∀ h' tk m' news', Fr h₀ env.locals h' m' → News h₀ env.locals h' news' → J y.cps.size m' news' → Q .next { s with heap := h', toks := tk }) :
    wpAny (model prog w) A (pyIter (.str y ty)) (fun it s₂ => forEnd prog w A env (.Name x px) body Q it s₂) NoE s := by
  have st : ∀ i v m₁ news₁ h tk it, i < y.cps.size → SignAt y i v → J i m₁ news₁ → (∀ p ∈ news₁, p.1 ≠ it.1) →
      Fr h₀ env.locals h m₁ → News h₀ env.locals h (it :: news₁) →
      wpAny (model prog w) A (assign (.Name x px) env v) (fun _ s₂ => wpAny (model prog w) A (execs body env) (TurnEnd h₀ env.locals it (J (i + 1)) { s with heap := h, toks := tk } Q) NoE s₂) NoE { s with heap := h, toks := tk } := by
    rintro i v m₁ news₁ h tk it hi ⟨c, t₁, hc, rfl⟩ hJ hoff F₁ N₁
    exact step i c t₁ m₁ news₁ h tk it hc hJ hoff F₁ N₁
  cases ha : y.cps.all (· < 128)
  · refine wpAny_pyIter_wide ha ?_
    exact iter_own (h₀ := h₀) (Iter.ofWalks (Walks.strWide hh _ y ty) (fun i h st => let ⟨o, ho, _⟩ := st; ⟨o, ho⟩) (fun _ => rfl)) ⟨_, Heap.get?_push_size _ rfl, rfl, rfl⟩ J F N h0 st done
  · refine wpAny_pyIter_ascii ha ?_
    exact iter_own (h₀ := h₀) (Iter.ofWalks (Walks.strAscii hh _ y ty) (fun i h st => let ⟨o, ho, _⟩ := st; ⟨o, ho⟩) (fun _ => rfl)) ⟨_, Heap.get?_push_size _ rfl, rfl, rfl⟩ J F N h0 st done
end
end Mine
namespace Mine
theorem allLt_ne {d : Nat} : ∀ {l : Led}, AllLt d l → ∀ p ∈ l, p.1 ≠ d
  | [], _, _, hp => nomatch hp
  | q :: r, h, p, hp => by
    rcases List.mem_cons.mp hp with rfl | hp
    · exact Nat.ne_of_lt h.1
    · exact allLt_ne h.2 p hp
end Mine
end

section
open PySem PySem.W PyProof.Rows
set_option maxRecDepth 100000
namespace Mine
/-- a call that changes nothing that stood: what it made lies in tl -/
def SaysP (w : World) (mean : ExcName → Option Value) (mg mb : Str → Option Value) (k : Nat) (f : Addr) (vals : List Value) (Pre : Heap → Prop) (Post : Value → List (Addr × Obj) → Prop) : Prop :=
  ∀ (dp un : Nat) (gd : Option (List Code)) (cn : Str) (cs : Scope) (a : Addr) (ccd : Value) (cl : List (Str × Addr)) (outer : List Env) (A₀ : Around) (base h₀ : Heap) (L : Addr) (m : Str → Option Value) (s : Shared)
    (Q E : Value → Shared → Prop),
    Below A₀ base outer h₀ → Fr h₀ L s.heap m → Frag.In (Mine.hd.heap_39 (World.params w)) h₀ → Top hd.view_39 (looseW hd.view_39 [Str.ofString "insort_left", Str.ofString "bisect_left"]) mean mg mb h₀ → cs.kind = .function → dp + k < recursionLimit → un + 8 * k < cLine → Pre s.heap →
    (∀ r tl h' tk', Post r tl → Fr h₀ L h' m → (∀ b o, s.heap.get? b = some o → h'.get? b = some o) → (∀ p ∈ tl, h'.get? p.1 = some p.2 ∧ s.heap.get? p.1 = none) → Q r { s with heap := h', toks := tk' }) →
    wpAny (model (RowW.prog (OpenRow.toRowW (OpenLaw.row Challenge.rw_qc0005_01))) w) (ktrTop dp un gd cn cs L a ccd cl outer) (call (.ref f) vals) Q E s

/-- a pure call, used over a ledger -/
theorem saysP_use {w : World} {mean : ExcName → Option Value} {mg mb : Str → Option Value} {k : Nat} {f : Addr} {vals : List Value} {news : List (Addr × Obj)} {Pre : Heap → Prop} {Post : Value → List (Addr × Obj) → Prop}
    {dp un : Nat} {gd : Option (List Code)} {cn : Str} {cs : Scope} {a : Addr} {ccd : Value} {cl : List (Str × Addr)} {outer : List Env} {A₀ : Around} {base h₀ : Heap} {L : Addr} {m : Str → Option Value} {s : Shared} {Q E : Value → Shared → Prop}
    (C : SaysP w mean mg mb k f vals Pre Post)
    (B : Below A₀ base outer h₀) (F : Fr h₀ L s.heap m) (X : Frag.In (Mine.hd.heap_39 (World.params w)) h₀) (N : News h₀ L s.heap news) (T : Top hd.view_39 (looseW hd.view_39 [Str.ofString "insort_left", Str.ofString "bisect_left"]) mean mg mb h₀)
    (hk : cs.kind = .function) (hd : dp + k < recursionLimit) (hu : un + 8 * k < cLine) (pre : Pre s.heap)
    (ret : ∀ r tl h' tk', Post r tl → Fr h₀ L h' m → News h₀ L h' (tl ++ news) → (∀ p ∈ news, ∀ q ∈ tl, p.1 ≠ q.1) → Q r { s with heap := h', toks := tk' }) :
    wpAny (model (RowW.prog (OpenRow.toRowW (OpenLaw.row Challenge.rw_qc0005_01))) w) (ktrTop dp un gd cn cs L a ccd cl outer) (call (.ref f) vals) Q E s := by
  refine C _ _ _ _ _ _ _ _ _ _ _ _ _ _ _ _ _ B F X T hk hd hu pre ?_
  intro r tl h' tk' hp F' keep htl
  refine ret r tl h' tk' hp F' ?_ ?_
  · intro p hp
    rcases List.mem_append.mp hp with hp | hp
    · refine ⟨(htl p hp).1, ?_, ?_⟩
      · intro e
        obtain ⟨oL, _, _, hL, _⟩ := F.ns
        have := (htl p hp).2
        rw [e, hL] at this
        cases this
      · cases q : h₀.get? p.1 with
        | none => rfl
        | some o => have := F.keep _ _ q; rw [(htl p hp).2] at this; cases this
    · exact ⟨keep _ _ (N p hp).1, (N p hp).2⟩
  · intro p hp q hq e
    have := (htl q hq).2
    rw [← e, (N p hp).1] at this
    cases this
end Mine
namespace Mine
open PySem PySem.Calls PySem.W PyProof.Rows
section
variable {prog : Program} {w : World} {A₀ A : Around} {s : Shared} {base h₀ : Heap} {outer : List Env} {L : Addr} {m : Str → Option Value} {env : Env} {K : Frag} {p : Program} {loose : List Str} {mean : ExcName → Option Value} {mg mb : Str → Option Value}
  {R : Result → Shared → Prop} {name qual : Str} {params : Arguments} {body : List Stmt} {scope : Scope} {dV kV doc pm cdv ct oc : Value} {an od : Option Addr} {osl : Array (Option Value)} {f : Addr} {args : Args} {binds : List (Str × Value)}
/-- a def with cells, entered with an empty ledger: all that stood is the ground -/
theorem code_cellsP (B : Below A₀ base outer h₀) (F : Fr h₀ L s.heap m) (X₀ : K.In h₀) (T : Top p loose mean mg mb h₀) (hA : A.frames = some (env :: outer)) (hf : env.frame = some L) (hke : env.scope.kind = .function)
    (ho : K.lookup f = some ⟨oc, od, .func (fnOf name qual params body scope dV kV doc pm an cdv ct), osl⟩) (hcd : codeIn K cdv qual = true) (hroom : A.depth < recursionLimit)
    (hbind : BindsTo s (fnOf name qual params body scope dV kV doc pm an cdv ct) args binds) (hkind : (binds.all fun y => scope.names.lookup y.1 == some .local || scope.names.lookup y.1 == some .cell) = true)
    (hnd : ((cellsFrom 0 scope.names []).map (·.1)).Nodup)
    (h : ∀ g L' h₁ tk cells, Fr h₀ L g m → Fr g L' h₁ (bindL (envOfC qual scope L' f cdv).kindOf binds fun _ => none) → News g L' h₁ cells →
      CellsAre (bindC (envOfC qual scope L' f cdv).kindOf binds fun _ => none) (cellsFrom (L' + 1) scope.names []) cells → Below A base (env :: outer) g → K.In g → Top p loose mean mg mb g → (∀ b o, s.heap.get? b = some o → g.get? b = some o) →
      wpAny (model prog w) (A.deeper (envOfC qual scope L' f cdv)) (execs body (envOfC qual scope L' f cdv))
        (fun fl s' => LeaveK h₀ L m g R (match fl with | .ret v => v | _ => .none) s')
        (fun e s' => wpAny (model prog w) (A.deeper (envOfC qual scope L' f cdv)) (leaving (envOfC qual scope L' f cdv) e) (fun _ s'' => R (.error e) s'') (fun e' s'' => R (.error e') s'') s')
        { s with heap := h₁, toks := tk })
    (hco : scope.isCoroutine = false) (hgen : scope.isGenerator = false) (hk : scope.kind = .function) : codeAny (model prog w) A (.call (.ref f) args) R s := by
  obtain ⟨FG, BG, st, lv⟩ := groundX (R := R) (news := []) B F News.nil hA hf hke
  refine codeAny_call_function hroom ((X₀.keeps F.keep) _ _ ho) rfl hco hgen rfl (codeRec_of (X₀.keeps F.keep) hcd) (hbind _ _ _ _ ?_)
  refine wpAny_newFunctionEnv_cells hk (kindsX hkind _) fun env' he s' x => ?_
  subst he
  refine ⟨(T.nolimit.keeps F.keep).keeps x.toInCall.keep, codeAny_func ?_⟩
  obtain ⟨h₁, tk, rfl, _⟩ := x.done
  have hk₁ := x.toInCall.keep
  obtain ⟨cells, NC, Y⟩ := Cl.news (h₀ := s.heap) (Nat.le_refl _) fun n c hm => ⟨x.cell n c (lookup_of_mem_nodup (cellsFrom_names scope.names 0 (s.heap.objs.size + 1) [] [] rfl ▸ hnd) hm), x.above n c hm⟩
  exact wpAny_mono (h s.heap s.heap.objs.size h₁ tk cells FG ⟨x.toInCall.ns, fun b o e => hk₁ b o e, Nat.le_refl _⟩ NC Y BG (X₀.keeps st) (T.keeps st) (fun _ _ e => e)) (fun fl s' hl => lv _ _ hl) fun _ _ y => y
theorem code_plainP (B : Below A₀ base outer h₀) (F : Fr h₀ L s.heap m) (X₀ : K.In h₀) (T : Top p loose mean mg mb h₀) (hA : A.frames = some (env :: outer)) (hf : env.frame = some L) (hke : env.scope.kind = .function)
    (ho : K.lookup f = some ⟨oc, od, .func (fnOf name qual params body scope dV kV doc pm an cdv ct), osl⟩) (hcd : codeIn K cdv qual = true) (hroom : A.depth < recursionLimit)
    (hbind : BindsTo s (fnOf name qual params body scope dV kV doc pm an cdv ct) args binds) (hloc : ∀ y ∈ binds, scope.names.lookup y.1 = some .local)
    (h : ∀ g L' h₁, Fr h₀ L g m → Fr g L' h₁ (fun y => binds.reverse.lookup y) → News g L' h₁ [] → Below A base (env :: outer) g → K.In g → Top p loose mean mg mb g → (∀ b o, s.heap.get? b = some o → g.get? b = some o) →
      wpAny (model prog w) (A.deeper (envOf qual scope L' f cdv)) (execs body (envOf qual scope L' f cdv))
        (fun fl s' => LeaveK h₀ L m g R (match fl with | .ret v => v | _ => .none) s')
        (fun e s' => wpAny (model prog w) (A.deeper (envOf qual scope L' f cdv)) (leaving (envOf qual scope L' f cdv) e) (fun _ s'' => R (.error e) s'') (fun e' s'' => R (.error e') s'') s')
        { s with heap := h₁, toks := s.toks + binds.length })
    (hco : scope.isCoroutine = false) (hgen : scope.isGenerator = false) (hk : scope.kind = .function)
    (hcell : ∀ x ∈ scope.names, x.2 ≠ .cell) : codeAny (model prog w) A (.call (.ref f) args) R s :=
  code_defG (news := []) B F X₀ News.nil T hA hf hke ho hcd hroom hbind hloc (fun g L' h₁ FG F' N' B' X' T' G => h g L' h₁ FG F' N' B' X' T' (fun b o e => G b o e (fun hm => nomatch hm))) hco hgen hk hcell
end
end Mine
end

section
open PySem PySem.W PyProof.Rows
namespace Mine
section
variable {prog : Program} {w : World} {A : Around} {s : Shared} {env : Env} {h₀ : Heap} {K : Type} [DecidableEq K] {knd : KeyKind prog w K}
theorem dictAt_of {h : Heap} {d : Addr} {o : Obj} {kvs : List (K × Value)} (ho : h.get? d = some o) (hd : o.IsDictOf knd kvs) : ∃ ep, h.DictAt knd d kvs ep :=
  let ⟨es, ep, a, b, c, e, f⟩ := hd; ⟨ep, o, es, ho, a, b, c, e, f⟩

/-- a loop over what lies beside its own iterator's cell one object d of the ledger -/
theorem iter_at {Q : Flow → Shared → Prop} {tgt : Expr} {body : List Stmt} {m : Mp} {news : Led} {n : Nat} {P : Nat → Value → Heap → Prop} {St : Nat → Heap → Prop} {oi : Obj} {d : Addr} {o : Obj}
    (W : Iter prog w A tgt s.heap.objs.size [s.heap.objs.size, d] n P St) (hst : St 0 (s.heap.push oi))
    (J : Nat → Mp → Led → Prop) (F : Fr h₀ env.locals s.heap m) (N : News h₀ env.locals s.heap news) (h0 : J 0 m news) (hd : ∀ i m' news', J i m' news' → (d, o) ∈ news')
    (step : ∀ i v m₁ news₁ h tk it, i < n → P i v h → J i m₁ news₁ → (∀ p ∈ news₁, p.1 ≠ it.1) →
      Fr h₀ env.locals h m₁ → News h₀ env.locals h (it :: news₁) →
      wpAny (model prog w) A (assign tgt env v) (fun _ s₂ => wpAny (model prog w) A (execs body env) (TurnEnd h₀ env.locals it (J (i + 1)) { s with heap := h, toks := tk } Q) NoE s₂) NoE { s with heap := h, toks := tk })
    (done : ∀ h' tk m' news', Fr h₀ env.locals h' m' → News h₀ env.locals h' news' → J n m' news' → Q .next { s with heap := h', toks := tk }) :
    forEnd prog w A env tgt body Q (.ref s.heap.objs.size) { s with heap := s.heap.push oi } := by
  refine forLoop_led (h₀ := h₀) (m := m) (news := news) W ?_ (next_is_new F) ?_ hst (F.push _) (fun p hp => ⟨Heap.get?_push_of_some _ (N p hp).1, (N p hp).2⟩) J h0 ?_ ?_ ?_
  · exact Nat.ne_of_lt F.ns.lt
  · exact fun p hp => Nat.ne_of_lt (Heap.lt_size (N p hp).1)
  · intro i m' news' hj b hb hbI
    rcases List.mem_cons.mp hb with e | hb
    · exact absurd e hbI
    · rw [List.mem_singleton.mp hb]
      exact .inr ⟨_, fun j m'' news'' hj' => hd _ _ _ hj'⟩
  · intro i v m₁ news₁ h tk o hi hP hJ hoff F₁ N₁
    exact step i v m₁ news₁ h tk (_, o) hi hP hJ hoff F₁ N₁
  · intro h' tk m' news' F' N' hJ
    exact done h' tk m' news' F' N' hJ

theorem iter_vals {Q : Flow → Shared → Prop} {x : Str} {px : Pos} {body : List Stmt} {m : Mp} {news : Led} {vw d : Addr} {o : Obj} {kvs : List (K × Value)} (hd : o.IsDictOf knd kvs)
    (J : Nat → Mp → Led → Prop) (hh : A.handled = none) (hv : s.heap.IsValuesView vw d) (F : Fr h₀ env.locals s.heap m) (N : News h₀ env.locals s.heap news) (h0 : J 0 m news) (hm : ∀ i m' news', J i m' news' → (d, o) ∈ news')
    (step : ∀ i k v m₁ news₁ h tk it, kvs[i]? = some (k, v) → J i m₁ news₁ → (∀ p ∈ news₁, p.1 ≠ it.1) →
      Fr h₀ env.locals h m₁ → News h₀ env.locals h (it :: news₁) →
      wpAny (model prog w) A (assign (.Name x px) env v) (fun _ s₂ => wpAny (model prog w) A (execs body env) (TurnEnd h₀ env.locals it (J (i + 1)) { s with heap := h, toks := tk } Q) NoE s₂) NoE { s with heap := h, toks := tk })
    (done : ∀ h' tk m' news', Fr h₀ env.locals h' m' → News h₀ env.locals h' news' → J kvs.length m' news' → Q .next { s with heap := h', toks := tk }) :
    wpAny (model prog w) A (pyIter (.ref vw)) (fun it s₂ => forEnd prog w A env (.Name x px) body Q it s₂) NoE s := by
  have hdo := (N _ (hm _ _ _ h0)).1
  obtain ⟨ep, hat⟩ := dictAt_of hdo hd
  refine wpAny_pyIter_values hv hat ?_
  refine iter_at (h₀ := h₀) (d := d) (o := o) (Iter.ofWalks (Walks.dictValues (knd := knd) hh _ d (Nat.ne_of_lt (Heap.lt_size hdo)) kvs ep) (fun i h st => let ⟨o, ho, _⟩ := st.1; ⟨o, ho⟩) (fun _ => rfl))
    ⟨⟨_, Heap.get?_push_size _ rfl, rfl, rfl⟩, hat.keep fun b o e => Heap.get?_push_of_some _ e⟩ J F N h0 hm ?_ done
  rintro i v m₁ news₁ h tk it hi ⟨k, hx⟩ hJ hoff F₁ N₁
  exact step i k v m₁ news₁ h tk it hx hJ hoff F₁ N₁

theorem Iter.items {elts : List Expr} {kk : Nat} {pos : Pos} (hh : A.handled = none) (I d : Addr) (hne : d ≠ I) (kvs : List (K × Value)) (ep : Nat) :
    Iter prog w A (.Tuple elts kk pos) I [I, d] kvs.length (fun i v h => ∃ T k key val, v = .ref T ∧ kvs[i]? = some (k, val) ∧ knd.is k key = true ∧ IsTup h T #[key, val]) (fun i h => ∃ ok ov, IsItemIter h I d i kvs.length ep ok ov ∧ h.DictAt knd d kvs ep) where
  frame := fun _ _ _ st hk => by
    obtain ⟨ok, ov, h1, h2⟩ := st
    exact ⟨ok, ov, hk I (by simp) _ h1, h2.at' fun o e => hk d (by simp) o e⟩
  cell := fun i h st => let ⟨_, _, h1, _⟩ := st; ⟨_, h1⟩
  item := fun i s Q hi st hQ => by
    obtain ⟨ok, ov, h1, h2⟩ := st
    obtain ⟨⟨k, x⟩, hx⟩ : ∃ p, kvs[i]? = some p := ⟨kvs[i], by simp [hi]⟩
    refine wpAny_pyNext_items_item h1 h2 hx fun key h' hkey hout htup hsz hkeep => ?_
    refine wpAny_letOwnedTupleGo_items hout fun h'' hit hs => ?_
    have hI : I < s.heap.objs.size := Heap.lt_size h1
    refine hQ _ h'' s.toks ⟨_, k, key, x, rfl, hx, hkey, ⟨_, hs.extBut _ _ (Nat.ne_of_gt hI) htup, rfl, _, rfl⟩⟩ ⟨_, _, hit, ?_⟩ (fun b o hb e => hs.extBut b o hb (hkeep b o hb e))
    exact h2.at' fun o e => hs.extBut d o hne (hkeep d o hne e)
  done := fun s Q st hQ => by
    obtain ⟨ok, ov, h1, h2⟩ := st
    exact wpAny_pyNext_items_end hh h1 h2 (by simp) fun h' he' => hQ h' s.toks fun b o hb e => he' b o hb e

theorem iter_items {Q : Flow → Shared → Prop} {elts : List Expr} {kk : Nat} {pos : Pos} {body : List Stmt} {m : Mp} {news : Led} {vw d : Addr} {o : Obj} {kvs : List (K × Value)} (hd : o.IsDictOf knd kvs)
    (J : Nat → Mp → Led → Prop) (hh : A.handled = none) (hv : s.heap.IsItemsView vw d) (F : Fr h₀ env.locals s.heap m) (N : News h₀ env.locals s.heap news) (h0 : J 0 m news) (hm : ∀ i m' news', J i m' news' → (d, o) ∈ news')
    (step : ∀ i k key val T m₁ news₁ h tk it, kvs[i]? = some (k, val) → knd.is k key = true → IsTup h T #[key, val] → J i m₁ news₁ → (∀ p ∈ news₁, p.1 ≠ it.1) →
      Fr h₀ env.locals h m₁ → News h₀ env.locals h (it :: news₁) →
      wpAny (model prog w) A (assign (.Tuple elts kk pos) env (.ref T)) (fun _ s₂ => wpAny (model prog w) A (execs body env) (TurnEnd h₀ env.locals it (J (i + 1)) { s with heap := h, toks := tk } Q) NoE s₂) NoE { s with heap := h, toks := tk })
    (done : ∀ h' tk m' news', Fr h₀ env.locals h' m' → News h₀ env.locals h' news' → J kvs.length m' news' → Q .next { s with heap := h', toks := tk }) :
    wpAny (model prog w) A (pyIter (.ref vw)) (fun it s₂ => forEnd prog w A env (.Tuple elts kk pos) body Q it s₂) NoE s := by
  have hdo := (N _ (hm _ _ _ h0)).1
  obtain ⟨ep, hat⟩ := dictAt_of hdo hd
  refine wpAny_pyIter_items hv hat ?_
  refine iter_at (h₀ := h₀) (d := d) (o := o) (Iter.items (knd := knd) hh _ d (Nat.ne_of_lt (Heap.lt_size hdo)) kvs ep)
    ⟨_, _, Heap.get?_push_size _ rfl, hat.keep fun b o e => Heap.get?_push_of_some _ e⟩ J F N h0 hm ?_ done
  rintro i v m₁ news₁ h tk it hi ⟨T, k, key, val, rfl, hx, hkey, htup⟩ hJ hoff F₁ N₁
  exact step i k key val T m₁ news₁ h tk it hx hkey htup hJ hoff F₁ N₁
theorem assignTo2T {E : Value → Shared → Prop} {name : Str} {scope : Scope} {L a : Addr} {cd : Value} {m : Mp} {news : Led} {x y : Str} {px py pos : Pos} {k : Nat} {t : Addr} {v1 v2 : Value} {Q : Unit → Shared → Prop} (hh : A.handled = none) (F : Fr h₀ L s.heap m) (N : News h₀ L s.heap news) (hT : IsTup s.heap t #[v1, v2])
    (h : ∀ h' tk, Fr h₀ L h' (fun z => if z = y then some v2 else if z = x then some v1 else m z) → News h₀ L h' news → Q () { s with heap := h', toks := tk })
    (hk : scope.kind = .function := by rfl) (hx : (envOf name scope L a cd).kindOf x = some .local := by rfl) (hy : (envOf name scope L a cd).kindOf y = some .local := by rfl) :
    wpAny (model prog w) A (assign (.Tuple [.Name x px, .Name y py] k pos) (envOf name scope L a cd) (.ref t)) Q E s := by
  refine assign_Tuple_tuple hh hT rfl rfl fun h' he => ?_
  have F1 := F.extBut he (Nat.le_refl _)
  have N1 := newsExtBut N he
  refine assignInOrder_cons (wpAny_assign_Name (stN F1 N1 (fun h2 F2 N2 => ?_) hk hx))
  refine assignInOrder_cons (wpAny_assign_Name (stN F2 N2 (fun h3 F3 N3 => ?_) hk hy))
  exact assignInOrder_nil (h h3 _ F3 N3)
end
end Mine
end

section
open PySem PySem.W PyProof.Rows
namespace Mine
/-- tuples of three ints in the ledger -/
def Trip (news : Led) (v : Value) (x : Int × Int × Int) : Prop := ∃ ad t1 t2 t3 j, v = .ref ad ∧ (ad, tupO [.int x.1 t1, .int x.2.1 t2, .int x.2.2 t3] j) ∈ news
abbrev iabs (z : Int) : Int := if z < 0 then -z else z
def withinP (x y wide top : Int) : List (Int × Int × Int) → Bool
  | [] => true
  | (a, b, r) :: rest => if r < iabs (a * (2 * y - top) - b * (2 * x - wide)) then false else withinP x y wide top rest
theorem drop_at {α : Type} {l : List α} {i : Nat} {x : α} (h : l[i]? = some x) : l.drop i = x :: l.drop (i + 1) := by
  obtain ⟨hi, e⟩ := List.getElem?_eq_some_iff.mp h
  rw [List.drop_eq_getElem_cons hi, e]
set_option maxRecDepth 100000 in
set_option maxHeartbeats 8000000 in
theorem within (w : World) (mean : ExcName → Option Value) (mg mb : Str → Option Value) (x y wd tp : Int) (t1 t2 t3 t4 : Tok) (l : Addr) (news : Led) (vs : List Value) (n : Nat) (hl : (l, W.listOf vs.toArray n) ∈ news) (sides : List (Int × Int × Int)) (hp : Paired (Trip news) vs sides)
    (hb : ∀ t ∈ sides, (0 ≤ t.1 ∧ t.1 ≤ 3) ∧ 0 ≤ t.2.1 ∧ t.2.1 ≤ 3) :
    Says w mean mg mb 1 103 [.int x t1, .int y t2, .int wd t3, .int tp t4, .ref l] news (fun r news' => r = .bool (withinP x y wd tp sides) ∧ news' = news) := by
  w_top off
  unfold Says
  k_fill
  intro dp un gd cn cs a ccd cl outer A₀ base h₀ L m s Q E B F X N T hk hd hu hret
  refine wpAny_call ?_
  k_dflt cell_enter
  refine wpAny_mono (E := NoE) ?_ (fun _ _ h => h) (fun _ _ h => h.elim)
  walk1
  walk1
  refine wpAny_For ?_
  walk1
  rename_i g' L' h' FG' F' N' B' X' T'
  refine iter_list vs n (fun i m' news' => news' = news ∧ Has m' [(Str.ofString "x", Value.int x t1), (Str.ofString "y", Value.int y t2), (Str.ofString "wide", Value.int wd t3), (Str.ofString "top", Value.int tp t4)] ∧ withinP x y wd tp sides = withinP x y wd tp (sides.drop i)) rfl F' N' ⟨rfl, ?_, rfl⟩ ?_ ?_ ?_
  · exact ⟨rfl, rfl, rfl, rfl, trivial⟩
  · rintro i m' news' ⟨rfl, _⟩; exact hl
  · rintro i v m₁ _ h tk it hv ⟨rfl, hm, hw⟩ hoff F₁ N₁
    have F₁ := frPin _ F₁ hm
    obtain ⟨⟨a, b, r⟩, hs, ad, u1, u2, u3, j, rfl, hmem⟩ := Paired.at hp hv
    refine assignTo3 rfl F₁ N₁ (.tail _ hmem) fun h2 tk2 F2 N2 => ?_
    clear F₁ N₁ F' N'
    obtain ⟨⟨b1, b2⟩, b3, b4⟩ := hb _ (List.mem_of_getElem? hs)
    dsimp only at F2 b1 b2 b3 b4
    rw [drop_at hs] at hw
    k_steps
    · rename_i u3 tk3 hc
      have hw : withinP x y wd tp sides = false := hw.trans (if_pos hc)
      dsimp only [TurnEnd]
      k_steps
      rename_i kF kN _ _
      exact hret _ _ _ _ ⟨by rw [hw], rfl⟩ kF (fun p hp => kN p (.tail _ hp))
    · rename_i u3 tk3 hc
      have hw := hw.trans (if_neg hc)
      exact turn_next F2 N2 hoff ⟨rfl, ⟨rfl, rfl, rfl, rfl, trivial⟩, hw⟩
  · rintro h2 tk2 m2 _ F2 N2 ⟨rfl, hm, hw⟩
    have hlen := hp.length
    rw [hlen, List.drop_length] at hw
    show wpAny _ _ _ _ _ _
    clear F' N'
    k_steps
    rename_i kF kN _ _
    exact hret _ _ _ _ ⟨by rw [hw]; rfl, rfl⟩ kF kN
end Mine
end

section
open PySem PySem.W PyProof.Rows
namespace Mine
def bisP (lt : Int → Bool) : Nat → Int → Int → Int
  | 0, lo, _ => lo
  | k + 1, lo, hi => if lo < hi then (if lt (Int.fdiv (lo + hi) 2) then bisP lt k (Int.fdiv (lo + hi) 2 + 1) hi else bisP lt k lo (Int.fdiv (lo + hi) 2)) else lo
theorem bis_up {lo hi n : Int} {k : Nat} (h1 : 0 ≤ lo) (h3 : hi ≤ n) (h4 : (hi - lo).toNat < k + 1) (hlt : lo < hi) : 0 ≤ Int.fdiv (lo + hi) 2 + 1 ∧ Int.fdiv (lo + hi) 2 + 1 ≤ hi ∧ hi ≤ n ∧ (hi - (Int.fdiv (lo + hi) 2 + 1)).toNat < k := by
  rw [Int.fdiv_eq_ediv_of_nonneg _ (by decide)]
  refine ⟨by omega, by omega, h3, by omega⟩
theorem bis_dn {lo hi n : Int} {k : Nat} (h1 : 0 ≤ lo) (h3 : hi ≤ n) (h4 : (hi - lo).toNat < k + 1) (hlt : lo < hi) : 0 ≤ lo ∧ lo ≤ Int.fdiv (lo + hi) 2 ∧ Int.fdiv (lo + hi) 2 ≤ n ∧ (Int.fdiv (lo + hi) 2 - lo).toNat < k := by
  rw [Int.fdiv_eq_ediv_of_nonneg _ (by decide)]
  refine ⟨h1, by omega, by omega, by omega⟩
set_option maxRecDepth 100000 in
set_option maxHeartbeats 8000000 in
theorem bisInts (w : World) (mean : ExcName → Option Value) (mg mb : Str → Option Value) (x : Int) (t1 : Tok) (l : Addr) (news : Led) (vs : List Value) (n : Nat) (hl : (l, W.listOf vs.toArray n) ∈ news) (ns : List Int) (hi : IntsAre vs ns) (hsz : ns.length < 1000) :
    Says w mean mg mb 1 53 [.ref l, .int x t1] news (fun r news' => (∃ t, r = .int (bisP (fun i => decide (ns.getD i.toNat 0 < x)) (ns.length + 1) 0 ns.length) t) ∧ news' = news) := by
  w_top off
  unfold Says
  k_fill
  intro dp un gd cn cs a ccd cl outer A₀ base h₀ L m s Q E B F X N T hk hd hu hret
  refine wpAny_mono (E := NoE) ?_ (fun _ _ h => h) (fun _ _ h => h.elim)
  refine wpAny_call ?_
  refine' code_def ?k1 ?k2 ?k3 ?k4 ?k5 ?kA ?kF ?kK ?k6 ?k7 ?k8 ?k9 ?kB ?_ ?c2 ?c3 ?c4 ?c5; (case kA => exact rfl); (case kF => exact rfl); (case kK => assumption); (case k1 => k_asm); (case k2 => k_asm); (case k3 => k_asm); (case k4 => k_asm); (case k5 => k_asm); (case k6 => k_is); (case k7 => k_is); (case k8 => ktr_room)
  case k9 =>
    show BindsTo _ _ _ [((Str.ofString "a"), Value.ref l), ((Str.ofString "x"), Value.int x t1), ((Str.ofString "lo"), Value.int 0 242), ((Str.ofString "hi"), Value.none), ((Str.ofString "key"), Value.none)]
    have X' : Frag.In (Mine.hd.heap_39 (World.params w)) s.heap := by k_in
    intro M A E Q hq
    refine wpLoad (X' 45 _ (by k_is)) ?_
    refine wpLoad (X' 46 _ (by k_is)) ?_
    exact wpAny_of_eq rfl hq
  (case c5 => decide); (case kB => exact locs rfl); (case c2 => exact rfl); (case c3 => exact rfl); (case c4 => exact rfl)
  k_whole; intro g' L' h' FG' F' N' B' X' T'
  refine wpAny_mono (E := NoE) ?_ (fun _ _ h => h) (fun _ _ h => h.elim)
  (try dsimp only); (try k_fold)
  (repeat' (first | (k_unfold; (try dsimp only)) | ((fail_if_success (with_reducible show wpAny _ _ (eval (PySem.Expr.ListComp _ _ _ _) _) _ _ _)); (fail_if_success (with_reducible show wpAny _ _ (PySem.call (Value.ref _) _ _) _ _ _)); (fail_if_success (with_reducible show wpAny _ _ (exec (Stmt.While _ _ _ _) _) _ _ _)); (fail_if_success (with_reducible show wpAny _ _ (exec (Stmt.For _ _ _ _ _) _) _ _ _)); (first | walk1 | (dsimp only; walk1))) | (leave1; (try dsimp only)) | fail "no step"))
  have hlen : vs.length = ns.length := hi.length
  refine len_list (News.isList N' hl) (by simp; omega) ?_
  (repeat' (first | (k_unfold; (try dsimp only)) | ((fail_if_success (with_reducible show wpAny _ _ (eval (PySem.Expr.ListComp _ _ _ _) _) _ _ _)); (fail_if_success (with_reducible show wpAny _ _ (PySem.call (Value.ref _) _ _) _ _ _)); (fail_if_success (with_reducible show wpAny _ _ (exec (Stmt.While _ _ _ _) _) _ _ _)); (fail_if_success (with_reducible show wpAny _ _ (exec (Stmt.For _ _ _ _ _) _) _ _ _)); (first | walk1 | (dsimp only; walk1))) | (leave1; (try dsimp only)) | fail "no step"))
  rename_i h2 F2 N2
  rw [show vs.toArray.size = ns.length from by simp [hlen]] at F2
  refine while_led (fun k m' news' => news' = news ∧ ∃ (lo hi : Int) (tl th : Tok), 0 ≤ lo ∧ lo ≤ hi ∧ hi ≤ ns.length ∧ (hi - lo).toNat < k ∧ bisP (fun i => decide (ns.getD i.toNat 0 < x)) k lo hi = bisP (fun i => decide (ns.getD i.toNat 0 < x)) (ns.length + 1) 0 ns.length ∧ Has m' [((Str.ofString "a"), .ref l), ((Str.ofString "x"), .int x t1), ((Str.ofString "lo"), .int lo tl), ((Str.ofString "hi"), .int hi th), ((Str.ofString "key"), .none)])
    (ns.length + 1) F2 N2 ⟨rfl, 0, ns.length, _, _, by omega, by omega, by omega, by omega, rfl, rfl, rfl, rfl, rfl, rfl, trivial⟩ ?_
  · clear F2 N2
    rintro k m₁ _ h tk ⟨rfl, lo, hi', tl, th, h1, h2, h3, h4, h5, hm⟩ F₁ N₁
    have F₁ := frPin _ F₁ hm
    obtain ⟨k, rfl⟩ : ∃ k', k = k' + 1 := ⟨k - 1, by omega⟩
    have ed : Int.fdiv (lo + hi') 2 = (lo + hi') / 2 := Int.fdiv_eq_ediv_of_nonneg _ (by decide)
    have unf := h5
    rw [bisP] at unf
    (repeat' (first | (k_unfold; (try dsimp only)) | ((fail_if_success (with_reducible show wpAny _ _ (eval (PySem.Expr.ListComp _ _ _ _) _) _ _ _)); (fail_if_success (with_reducible show wpAny _ _ (PySem.call (Value.ref _) _ _) _ _ _)); (fail_if_success (with_reducible show wpAny _ _ (exec (Stmt.While _ _ _ _) _) _ _ _)); (fail_if_success (with_reducible show wpAny _ _ (exec (Stmt.For _ _ _ _ _) _) _ _ _)); (first | walk1 | (dsimp only; walk1))) | (leave1; (try dsimp only)) | fail "no step"))
    · rename_i hc h9 F9 N9
      have hlt : lo < hi' := by assumption
      rw [if_pos hlt, if_pos (by simpa using hc)] at unf
      exact while_next F9 N9 ⟨k, Nat.lt_succ_self _, rfl, _, _, _, _, (bis_up h1 h3 h4 hlt).1, (bis_up h1 h3 h4 hlt).2.1, (bis_up h1 h3 h4 hlt).2.2.1, (bis_up h1 h3 h4 hlt).2.2.2, unf, rfl, rfl, rfl, rfl, rfl, trivial⟩
    · rename_i hc h9 F9 N9
      have hlt : lo < hi' := by assumption
      rw [if_pos hlt, if_neg (by simpa using hc)] at unf
      exact while_next F9 N9 ⟨k, Nat.lt_succ_self _, rfl, _, _, _, _, (bis_dn h1 h3 h4 hlt).1, (bis_dn h1 h3 h4 hlt).2.1, (bis_dn h1 h3 h4 hlt).2.2.1, (bis_dn h1 h3 h4 hlt).2.2.2, unf, rfl, rfl, rfl, rfl, rfl, trivial⟩
    · rename_i hlt kF kN _ _
      rw [if_neg hlt] at unf
      exact hret _ _ _ _ ⟨⟨_, by rw [← unf]⟩, rfl⟩ kF kN
theorem strsAre_get : ∀ {vs : List Value} {xs : List Str}, StrsAre vs xs → ∀ (i : Nat), i < xs.length → ∃ t, vs[i]? = some (.str (xs.getD i Str.empty) t)
  | _, _, .nil, i, h => by simp at h
  | _, _, .cons y t r, 0, h => ⟨t, rfl⟩
  | _, _, .cons y t r, i + 1, h => by
    obtain ⟨u, hu⟩ := strsAre_get r i (by simpa using h)
    exact ⟨u, by simpa using hu⟩
theorem strsAre_len : ∀ {vs : List Value} {xs : List Str}, StrsAre vs xs → vs.length = xs.length
  | _, _, .nil => rfl
  | _, _, .cons y t r => by simp [strsAre_len r]
set_option maxRecDepth 100000 in
set_option maxHeartbeats 8000000 in
theorem bisStrs (w : World) (mean : ExcName → Option Value) (mg mb : Str → Option Value) (x : Str) (t1 t2 : Tok) (l : Addr) (news : Led) (vs : List Value) (n : Nat) (hl : (l, W.listOf vs.toArray n) ∈ news) (xs : List Str) (hi : StrsAre vs xs) (hsz : xs.length < 1000) :
    Says w mean mg mb 1 53 [.ref l, .str x t1, .int 0 t2, .none] news (fun r news' => (∃ t, r = .int (bisP (fun i => decide ((xs.getD i.toNat Str.empty).cps.toList < x.cps.toList)) (xs.length + 1) 0 xs.length) t) ∧ news' = news) := by
  w_top off
  unfold Says
  k_fill
  intro dp un gd cn cs a ccd cl outer A₀ base h₀ L m s Q E B F X N T hk hd hu hret
  refine wpAny_mono (E := NoE) ?_ (fun _ _ h => h) (fun _ _ h => h.elim)
  refine wpAny_call ?_
  refine' code_def ?k1 ?k2 ?k3 ?k4 ?k5 ?kA ?kF ?kK ?k6 ?k7 ?k8 ?k9 ?kB ?_ ?c2 ?c3 ?c4 ?c5; (case kA => exact rfl); (case kF => exact rfl); (case kK => assumption); (case k1 => k_asm); (case k2 => k_asm); (case k3 => k_asm); (case k4 => k_asm); (case k5 => k_asm); (case k6 => k_is); (case k7 => k_is); (case k8 => ktr_room)
  case k9 =>
    show BindsTo _ _ _ [((Str.ofString "a"), Value.ref l), ((Str.ofString "x"), Value.str x t1), ((Str.ofString "lo"), Value.int 0 t2), ((Str.ofString "hi"), Value.none), ((Str.ofString "key"), Value.none)]
    have X' : Frag.In (Mine.hd.heap_39 (World.params w)) s.heap := by k_in
    intro M A E Q hq
    refine wpLoad (X' 45 _ (by k_is)) ?_
    refine wpLoad (X' 46 _ (by k_is)) ?_
    exact wpAny_of_eq rfl hq
  (case c5 => decide); (case kB => exact locs rfl); (case c2 => exact rfl); (case c3 => exact rfl); (case c4 => exact rfl)
  k_whole; intro g' L' h' FG' F' N' B' X' T'
  refine wpAny_mono (E := NoE) ?_ (fun _ _ h => h) (fun _ _ h => h.elim)
  (try dsimp only); (try k_fold)
  (repeat' (first | (k_unfold; (try dsimp only)) | ((fail_if_success (with_reducible show wpAny _ _ (eval (PySem.Expr.ListComp _ _ _ _) _) _ _ _)); (fail_if_success (with_reducible show wpAny _ _ (PySem.call (Value.ref _) _ _) _ _ _)); (fail_if_success (with_reducible show wpAny _ _ (exec (Stmt.While _ _ _ _) _) _ _ _)); (fail_if_success (with_reducible show wpAny _ _ (exec (Stmt.For _ _ _ _ _) _) _ _ _)); (first | walk1 | (dsimp only; walk1))) | (leave1; (try dsimp only)) | fail "no step"))
  have hlen : vs.length = xs.length := strsAre_len hi
  refine len_list (News.isList N' hl) (by simp; omega) ?_
  (repeat' (first | (k_unfold; (try dsimp only)) | ((fail_if_success (with_reducible show wpAny _ _ (eval (PySem.Expr.ListComp _ _ _ _) _) _ _ _)); (fail_if_success (with_reducible show wpAny _ _ (PySem.call (Value.ref _) _ _) _ _ _)); (fail_if_success (with_reducible show wpAny _ _ (exec (Stmt.While _ _ _ _) _) _ _ _)); (fail_if_success (with_reducible show wpAny _ _ (exec (Stmt.For _ _ _ _ _) _) _ _ _)); (first | walk1 | (dsimp only; walk1))) | (leave1; (try dsimp only)) | fail "no step"))
  rename_i h2 F2 N2
  rw [show vs.toArray.size = xs.length from by simp [hlen]] at F2
  refine while_led (fun k m' news' => news' = news ∧ ∃ (lo hi : Int) (tl th : Tok), 0 ≤ lo ∧ lo ≤ hi ∧ hi ≤ xs.length ∧ (hi - lo).toNat < k ∧ bisP (fun i => decide ((xs.getD i.toNat Str.empty).cps.toList < x.cps.toList)) k lo hi = bisP (fun i => decide ((xs.getD i.toNat Str.empty).cps.toList < x.cps.toList)) (xs.length + 1) 0 xs.length ∧ Has m' [((Str.ofString "a"), .ref l), ((Str.ofString "x"), .str x t1), ((Str.ofString "lo"), .int lo tl), ((Str.ofString "hi"), .int hi th), ((Str.ofString "key"), .none)])
    (xs.length + 1) F2 N2 ⟨rfl, 0, xs.length, _, _, by omega, by omega, by omega, by omega, rfl, rfl, rfl, rfl, rfl, rfl, trivial⟩ ?_
  · clear F2 N2
    rintro k m₁ _ h tk ⟨rfl, lo, hi', tl, th, h1, h2, h3, h4, h5, hm⟩ F₁ N₁
    have F₁ := frPin _ F₁ hm
    obtain ⟨k, rfl⟩ : ∃ k', k = k' + 1 := ⟨k - 1, by omega⟩
    have ed : Int.fdiv (lo + hi') 2 = (lo + hi') / 2 := Int.fdiv_eq_ediv_of_nonneg _ (by decide)
    have unf := h5
    rw [bisP] at unf
    (repeat' (first | (k_unfold; (try dsimp only)) | ((fail_if_success (with_reducible show wpAny _ _ (eval (PySem.Expr.ListComp _ _ _ _) _) _ _ _)); (fail_if_success (with_reducible show wpAny _ _ (PySem.call (Value.ref _) _ _) _ _ _)); (fail_if_success (with_reducible show wpAny _ _ (exec (Stmt.While _ _ _ _) _) _ _ _)); (fail_if_success (with_reducible show wpAny _ _ (exec (Stmt.For _ _ _ _ _) _) _ _ _)); (first | walk1 | (dsimp only; walk1))) | (leave1; (try dsimp only)) | fail "no step"))
    · rename_i h9 F9 N9
      have hlt : lo < hi' := by assumption
      obtain ⟨u, hu⟩ := strsAre_get hi (Int.fdiv (lo + hi') 2).toNat (by omega)
      refine item_litK (News.isList N9 hl) (by omega) (by omega) hu ?_
      (repeat' (first | (k_unfold; (try dsimp only)) | ((fail_if_success (with_reducible show wpAny _ _ (eval (PySem.Expr.ListComp _ _ _ _) _) _ _ _)); (fail_if_success (with_reducible show wpAny _ _ (PySem.call (Value.ref _) _ _) _ _ _)); (fail_if_success (with_reducible show wpAny _ _ (exec (Stmt.While _ _ _ _) _) _ _ _)); (fail_if_success (with_reducible show wpAny _ _ (exec (Stmt.For _ _ _ _ _) _) _ _ _)); (first | walk1 | (dsimp only; walk1))) | (leave1; (try dsimp only)) | fail "no step"))
      · rename_i hc h9 F9 N9
        rw [if_pos hlt, if_pos (by simpa using hc)] at unf
        exact while_next F9 N9 ⟨k, Nat.lt_succ_self _, rfl, _, _, _, _, (bis_up h1 h3 h4 hlt).1, (bis_up h1 h3 h4 hlt).2.1, (bis_up h1 h3 h4 hlt).2.2.1, (bis_up h1 h3 h4 hlt).2.2.2, unf, rfl, rfl, rfl, rfl, rfl, trivial⟩
      · rename_i hc h9 F9 N9
        rw [if_pos hlt, if_neg (by simpa using hc)] at unf
        exact while_next F9 N9 ⟨k, Nat.lt_succ_self _, rfl, _, _, _, _, (bis_dn h1 h3 h4 hlt).1, (bis_dn h1 h3 h4 hlt).2.1, (bis_dn h1 h3 h4 hlt).2.2.1, (bis_dn h1 h3 h4 hlt).2.2.2, unf, rfl, rfl, rfl, rfl, rfl, trivial⟩
    · rename_i hlt kF kN _ _
      rw [if_neg hlt] at unf
      exact hret _ _ _ _ ⟨⟨_, by rw [← unf]⟩, rfl⟩ kF kN
end Mine
end

section
open PySem PySem.W PyProof.Rows
namespace Mine
theorem bisP_bounds (lt : Int → Bool) : ∀ (k : Nat) (lo hi : Int), lo ≤ hi → lo ≤ bisP lt k lo hi ∧ bisP lt k lo hi ≤ hi
  | 0, lo, hi, h => ⟨Int.le_refl _, h⟩
  | k + 1, lo, hi, h => by
    have ed : Int.fdiv (lo + hi) 2 = (lo + hi) / 2 := Int.fdiv_eq_ediv_of_nonneg _ (by decide)
    rw [bisP]
    split
    · split
      · have := bisP_bounds lt k (Int.fdiv (lo + hi) 2 + 1) hi (by omega)
        omega
      · have := bisP_bounds lt k lo (Int.fdiv (lo + hi) 2) (by omega)
        omega
    · omega
/-- where a text is laid -/
def placeP (xs : List Str) (x : Str) : Int := bisP (fun i => decide ((xs.getD i.toNat Str.empty).cps.toList < x.cps.toList)) (xs.length + 1) 0 xs.length
def insP (xs : List Str) (x : Str) : List Str := xs.take (placeP xs x).toNat ++ x :: xs.drop (placeP xs x).toNat
theorem strsAre_append : ∀ {vs ws : List Value} {xs ys : List Str}, StrsAre vs xs → StrsAre ws ys → StrsAre (vs ++ ws) (xs ++ ys)
  | _, _, _, _, .nil, h => h
  | _, _, _, _, .cons y t r, h => .cons y t (strsAre_append r h)
theorem strsAre_take : ∀ {vs : List Value} {xs : List Str}, StrsAre vs xs → ∀ n, StrsAre (vs.take n) (xs.take n)
  | _, _, .nil, n => by simp; exact .nil
  | _, _, .cons y t r, 0 => .nil
  | _, _, .cons y t r, n + 1 => .cons y t (strsAre_take r n)
theorem strsAre_drop : ∀ {vs : List Value} {xs : List Str}, StrsAre vs xs → ∀ n, StrsAre (vs.drop n) (xs.drop n)
  | _, _, .nil, n => by simp; exact .nil
  | _, _, .cons y t r, 0 => .cons y t r
  | _, _, .cons y t r, n + 1 => strsAre_drop r n
set_option maxRecDepth 100000 in
set_option maxHeartbeats 8000000 in
theorem insort (w : World) (mean : ExcName → Option Value) (mg mb : Str → Option Value) (x : Str) (t1 : Tok) (l : Addr) (news : Led) (vs : List Value) (n : Nat) (xs : List Str) (hi : StrsAre vs xs) (hsz : xs.length < 1000) (hnd : ∀ p ∈ news, p.1 ≠ l) :
    Says w mean mg mb 2 44 [.ref l, .str x t1] ((l, W.listOf vs.toArray n) :: news) (fun r news' => r = .none ∧ ∃ vs', StrsAre vs' (insP xs x) ∧ news' = (l, W.listOf vs'.toArray (n + 1)) :: news) := by
  w_top off
  unfold Says
  k_fill
  intro dp un gd cn cs a ccd cl outer A₀ base h₀ L m s Q E B F X N T hk hd hu hret
  refine wpAny_mono (E := NoE) ?_ (fun _ _ h => h) (fun _ _ h => h.elim)
  refine wpAny_call ?_
  refine' code_def ?k1 ?k2 ?k3 ?k4 ?k5 ?kA ?kF ?kK ?k6 ?k7 ?k8 ?k9 ?kB ?_ ?c2 ?c3 ?c4 ?c5; (case kA => exact rfl); (case kF => exact rfl); (case kK => assumption); (case k1 => k_asm); (case k2 => k_asm); (case k3 => k_asm); (case k4 => k_asm); (case k5 => k_asm); (case k6 => k_is); (case k7 => k_is); (case k8 => ktr_room)
  case k9 =>
    show BindsTo _ _ _ [((Str.ofString "a"), Value.ref l), ((Str.ofString "x"), Value.str x t1), ((Str.ofString "lo"), Value.int 0 229), ((Str.ofString "hi"), Value.none), ((Str.ofString "key"), Value.none)]
    have X' : Frag.In (Mine.hd.heap_39 (World.params w)) s.heap := by k_in
    intro M A E Q hq
    refine wpLoad (X' 36 _ (by k_is)) ?_
    refine wpLoad (X' 37 _ (by k_is)) ?_
    exact wpAny_of_eq rfl hq
  (case c5 => decide); (case kB => exact locs rfl); (case c2 => exact rfl); (case c3 => exact rfl); (case c4 => exact rfl)
  k_whole; intro g' L' h' FG' F' N' B' X' T'
  refine wpAny_mono (E := NoE) ?_ (fun _ _ h => h) (fun _ _ h => h.elim)
  (try dsimp only); (try k_fold)
  (repeat' (first | (k_unfold; (try dsimp only)) | ((fail_if_success (with_reducible show wpAny _ _ (eval (PySem.Expr.ListComp _ _ _ _) _) _ _ _)); (fail_if_success (with_reducible show wpAny _ _ (PySem.call (Value.ref _) _ _) _ _ _)); (fail_if_success (with_reducible show wpAny _ _ (exec (Stmt.While _ _ _ _) _) _ _ _)); (fail_if_success (with_reducible show wpAny _ _ (exec (Stmt.For _ _ _ _ _) _) _ _ _)); (first | walk1 | (dsimp only; walk1))) | (leave1; (try dsimp only)) | fail "no step"))
  refine says_use (bisStrs w mean mg mb x t1 _ l _ vs n (.head _) xs hi hsz) B' F' X' N' T' rfl (by show dp + 1 + 1 < _; omega) (by show un + 3 + 8 * 1 < _; omega) ?_
  rintro r _ h2 tk2 ⟨⟨t, rfl⟩, rfl⟩ F2 N2
  clear F' N'
  (repeat' (first | (k_unfold; (try dsimp only)) | ((fail_if_success (with_reducible show wpAny _ _ (eval (PySem.Expr.ListComp _ _ _ _) _) _ _ _)); (fail_if_success (with_reducible show wpAny _ _ (PySem.call (Value.ref _) _ _) _ _ _)); (fail_if_success (with_reducible show wpAny _ _ (exec (Stmt.While _ _ _ _) _) _ _ _)); (fail_if_success (with_reducible show wpAny _ _ (exec (Stmt.For _ _ _ _ _) _) _ _ _)); (first | walk1 | (dsimp only; walk1))) | (leave1; (try dsimp only)) | fail "no step"))
  rename_i h3 F3 N3
  have hb := bisP_bounds (fun i => decide ((xs.getD i.toNat Str.empty).cps.toList < x.cps.toList)) (xs.length + 1) 0 xs.length (by omega)
  have hlen := strsAre_len hi
  have hsl := sizeLine_eq
  unfold insP placeP at hret
  generalize bisP (fun i => decide ((xs.getD i.toNat Str.empty).cps.toList < x.cps.toList)) (xs.length + 1) 0 xs.length = p at hb hret F3 ⊢
  refine kl_insert F3 N3 (by simp only [Builtin.List.listFitsIndex, Bool.and_eq_true, decide_eq_true_eq]; omega) rfl (Upd.head hnd) (by rw [hsl]; simp; omega) ?_
  intro h4 F4 N4
  clear F3 N3
  (repeat' (first | (k_unfold; (try dsimp only)) | ((fail_if_success (with_reducible show wpAny _ _ (eval (PySem.Expr.ListComp _ _ _ _) _) _ _ _)); (fail_if_success (with_reducible show wpAny _ _ (PySem.call (Value.ref _) _ _) _ _ _)); (fail_if_success (with_reducible show wpAny _ _ (exec (Stmt.While _ _ _ _) _) _ _ _)); (fail_if_success (with_reducible show wpAny _ _ (exec (Stmt.For _ _ _ _ _) _) _ _ _)); (first | walk1 | (dsimp only; walk1))) | (leave1; (try dsimp only)) | fail "no step"))
  rename_i kF kN _ _
  refine hret _ _ _ _ ⟨rfl, _, ?_, rfl⟩ kF kN
  unfold kl_ins
  rw [if_neg (by omega)]
  rw [show min p.toNat vs.toArray.toList.length = p.toNat from by simp; omega]
  exact strsAre_append (strsAre_take hi _) (.cons _ _ (strsAre_drop hi _))
end Mine
end

section
open PySem PySem.W PyProof.Rows
namespace Mine
def duesP (ws : Int → Bool) : List (Int × Bool) → Bool
  | [] => true
  | (x, d) :: r => if ws x != d then false else duesP ws r
def bisI (ns : List Int) (x : Int) : Int := bisP (fun i => decide (ns.getD i.toNat 0 < x)) (ns.length + 1) 0 ns.length
def linesP (ahead : List Int) (sides : List (Int × Int × Int)) (wide top : Int) : Nat → Int → Int → Int
  | 0, _, p => p
  | k + 1, line, p =>
    let first := bisI ahead line
    let last := wide - bisI ahead (top - line)
    if duesP (fun x => withinP x line wide top sides) [(first - 1, false), (first, decide (first ≤ last)), (last, decide (first ≤ last)), (last + 1, false)] then linesP ahead sides wide top k (line + 1) (p + (last + 1 - first)) else -1
def lastP (ns : List Int) : Int := ns.getD (-1 + (ns.length : Int)).toNat 0
def pointsP (ahead : List Int) (sides : List (Int × Int × Int)) : Int := linesP ahead sides (ahead.length - 1) (lastP ahead) (lastP ahead + 1).toNat 0 0
def PairB (news : Led) (v : Value) (x : Int × Bool) : Prop := ∃ ad t j, v = .ref ad ∧ (ad, tupO [.int x.1 t, .bool x.2] j) ∈ news
set_option maxRecDepth 100000 in
set_option maxHeartbeats 8000000 in
theorem points (w : World) (mean : ExcName → Option Value) (mg mb : Str → Option Value) (l la : Addr) (news : Led) (avs vs : List Value) (n na : Nat) (hla : (la, W.listOf avs.toArray na) ∈ news) (hl : (l, W.listOf vs.toArray n) ∈ news) (ahead : List Int) (ha : IntsAre avs ahead) (sides : List (Int × Int × Int)) (hp : Paired (Trip news) vs sides)
    (hb : ∀ t ∈ sides, (0 ≤ t.1 ∧ t.1 ≤ 3) ∧ 0 ≤ t.2.1 ∧ t.2.1 ≤ 3) (hlen : 0 < ahead.length ∧ ahead.length < 1000) (htop : 0 ≤ lastP ahead ∧ lastP ahead < 1000) :
    Says w mean mg mb 2 110 [.ref la, .ref l] news (fun r news' => (∃ t, r = .int (pointsP ahead sides) t) ∧ news' = news) := by
  w_top off
  unfold Says
  k_fill
  intro dp un gd cn cs a ccd cl outer A₀ base h₀ L m s Q E B F X N T hk hd hu hret
  refine wpAny_mono (E := NoE) ?_ (fun _ _ h => h) (fun _ _ h => h.elim)
  refine wpAny_call ?_
  refine' code_def ?k1 ?k2 ?k3 ?k4 ?k5 ?kA ?kF ?kK ?k6 ?k7 ?k8 ?k9 ?kB ?_ ?c2 ?c3 ?c4 ?c5; (case kA => exact rfl); (case kF => exact rfl); (case kK => assumption); (case k1 => k_asm); (case k2 => k_asm); (case k3 => k_asm); (case k4 => k_asm); (case k5 => k_asm); (case k6 => k_is); (case k7 => k_is); (case k8 => ktr_room)
  (case k9 => exact BindsTo.of_eq rfl)
  (case c5 => decide); (case kB => exact locs rfl); (case c2 => exact rfl); (case c3 => exact rfl); (case c4 => exact rfl)
  k_whole; intro g' L' h' FG' F' N' B' X' T'
  refine wpAny_mono (E := NoE) ?_ (fun _ _ h => h) (fun _ _ h => h.elim)
  (try dsimp only); (try k_fold)
  (repeat' (first | (k_unfold; (try dsimp only)) | ((fail_if_success (with_reducible show wpAny _ _ (eval (PySem.Expr.ListComp _ _ _ _) _) _ _ _)); (fail_if_success (with_reducible show wpAny _ _ (PySem.call (Value.ref _) _ _) _ _ _)); (fail_if_success (with_reducible show wpAny _ _ (exec (Stmt.While _ _ _ _) _) _ _ _)); (fail_if_success (with_reducible show wpAny _ _ (exec (Stmt.For _ _ _ _ _) _) _ _ _)); (first | walk1 | (dsimp only; walk1))) | (leave1; (try dsimp only)) | fail "no step"))
  have hlv : avs.length = ahead.length := ha.length
  refine len_list (News.isList N' hla) (by simp; omega) ?_
  (repeat' (first | (k_unfold; (try dsimp only)) | ((fail_if_success (with_reducible show wpAny _ _ (eval (PySem.Expr.ListComp _ _ _ _) _) _ _ _)); (fail_if_success (with_reducible show wpAny _ _ (PySem.call (Value.ref _) _ _) _ _ _)); (fail_if_success (with_reducible show wpAny _ _ (exec (Stmt.While _ _ _ _) _) _ _ _)); (fail_if_success (with_reducible show wpAny _ _ (exec (Stmt.For _ _ _ _ _) _) _ _ _)); (first | walk1 | (dsimp only; walk1))) | (leave1; (try dsimp only)) | fail "no step"))
  rename_i h2 F2 N2
  refine item_list_ints_neg (News.isList N2 hla) ha (by omega) (by omega) (by omega) (fun t => ?_)
  change wpAny _ _ _ _ _ _
  (repeat' (first | (k_unfold; (try dsimp only)) | ((fail_if_success (with_reducible show wpAny _ _ (eval (PySem.Expr.ListComp _ _ _ _) _) _ _ _)); (fail_if_success (with_reducible show wpAny _ _ (PySem.call (Value.ref _) _ _) _ _ _)); (fail_if_success (with_reducible show wpAny _ _ (exec (Stmt.While _ _ _ _) _) _ _ _)); (fail_if_success (with_reducible show wpAny _ _ (exec (Stmt.For _ _ _ _ _) _) _ _ _)); (first | walk1 | (dsimp only; walk1))) | (leave1; (try dsimp only)) | fail "no step"))
  refine wpAny_For ?_
  (repeat' (first | (k_unfold; (try dsimp only)) | ((fail_if_success (with_reducible show wpAny _ _ (eval (PySem.Expr.ListComp _ _ _ _) _) _ _ _)); (fail_if_success (with_reducible show wpAny _ _ (PySem.call (Value.ref _) _ _) _ _ _)); (fail_if_success (with_reducible show wpAny _ _ (exec (Stmt.While _ _ _ _) _) _ _ _)); (fail_if_success (with_reducible show wpAny _ _ (exec (Stmt.For _ _ _ _ _) _) _ _ _)); (first | walk1 | (dsimp only; walk1))) | (leave1; (try dsimp only)) | fail "no step"))
  rename_i hR FR NR _
  rw [show ahead.getD (-1 + (ahead.length : Int)).toNat 0 = lastP ahead from rfl] at hR FR
  rw [show (avs.toArray.size : Int) = (ahead.length : Int) from by simp [hlv]] at FR
  refine iter_range (lastP ahead + 1).toNat (fun i m' news' => news' = news ∧ ∃ (p : Int) (tw tt tp : Tok), linesP ahead sides (ahead.length - 1) (lastP ahead) ((lastP ahead + 1).toNat - i) i p = pointsP ahead sides ∧
      Has m' [((Str.ofString "ahead"), .ref la), ((Str.ofString "sides"), .ref l), ((Str.ofString "wide"), .int (ahead.length - 1) tw), ((Str.ofString "top"), .int (lastP ahead) tt), ((Str.ofString "points"), .int p tp)]) rfl hR ?_ ?_ FR NR ⟨rfl, 0, _, _, _, rfl, rfl, rfl, rfl, rfl, rfl, trivial⟩ ?_ ?_
  · exact small_one (by omega) (by omega) (by omega) (by omega)
  · simp only [Builtin.Range.rangeSize]
    split <;> (try split) <;> omega
  · clear hR FR NR
    rintro i t₁ m₁ news h tk it hi ⟨rfl, p, tw, tt, tp, hP, hm⟩ hoff F₁ N₁
    have F₁ := frPin _ F₁ hm
    rw [Int.zero_add]
    refine wpAny_assign_Name (stN F₁ N₁ fun h3 F3 N3 => ?_)
    clear F₁ N₁
    (repeat' (first | (k_unfold; (try dsimp only)) | ((fail_if_success (with_reducible show wpAny _ _ (eval (PySem.Expr.ListComp _ _ _ _) _) _ _ _)); (fail_if_success (with_reducible show wpAny _ _ (PySem.call (Value.ref _) _ _) _ _ _)); (fail_if_success (with_reducible show wpAny _ _ (exec (Stmt.While _ _ _ _) _) _ _ _)); (fail_if_success (with_reducible show wpAny _ _ (exec (Stmt.For _ _ _ _ _) _) _ _ _)); (first | walk1 | (dsimp only; walk1))) | (leave1; (try dsimp only)) | fail "no step"))
    refine says_use (bisInts w mean mg mb _ _ la _ avs na (.tail _ hla) ahead ha hlen.2) B' F3 X' N3 T' rfl (by show dp + 1 + 1 < _; omega) (by show un + 3 + 8 * 1 < _; omega) ?_
    rintro r _ h4 tk4 ⟨⟨t4, rfl⟩, rfl⟩ F4 N4
    clear F3 N3
    rw [show bisP (fun i => decide (ahead.getD i.toNat 0 < _)) (ahead.length + 1) 0 ahead.length = bisI ahead i from rfl]
    (repeat' (first | (k_unfold; (try dsimp only)) | ((fail_if_success (with_reducible show wpAny _ _ (eval (PySem.Expr.ListComp _ _ _ _) _) _ _ _)); (fail_if_success (with_reducible show wpAny _ _ (PySem.call (Value.ref _) _ _) _ _ _)); (fail_if_success (with_reducible show wpAny _ _ (exec (Stmt.While _ _ _ _) _) _ _ _)); (fail_if_success (with_reducible show wpAny _ _ (exec (Stmt.For _ _ _ _ _) _) _ _ _)); (first | walk1 | (dsimp only; walk1))) | (leave1; (try dsimp only)) | fail "no step"))
    rename_i h5 F5 N5
    refine says_use (bisInts w mean mg mb _ _ la _ avs na (.tail _ hla) ahead ha hlen.2) B' F5 X' N5 T' rfl (by show dp + 1 + 1 < _; omega) (by show un + 3 + 8 * 1 < _; omega) ?_
    rintro r _ h6 tk6 ⟨⟨t6, rfl⟩, rfl⟩ F6 N6
    clear F5 N5
    rw [show bisP (fun i => decide (ahead.getD i.toNat 0 < _)) (ahead.length + 1) 0 ahead.length = bisI ahead (lastP ahead - i) from rfl]
    (repeat' (first | (k_unfold; (try dsimp only)) | ((fail_if_success (with_reducible show wpAny _ _ (eval (PySem.Expr.ListComp _ _ _ _) _) _ _ _)); (fail_if_success (with_reducible show wpAny _ _ (PySem.call (Value.ref _) _ _) _ _ _)); (fail_if_success (with_reducible show wpAny _ _ (exec (Stmt.While _ _ _ _) _) _ _ _)); (fail_if_success (with_reducible show wpAny _ _ (exec (Stmt.For _ _ _ _ _) _) _ _ _)); (first | walk1 | (dsimp only; walk1))) | (leave1; (try dsimp only)) | fail "no step"))
    refine wpAny_For ?_
    (repeat' (first | (k_unfold; (try dsimp only)) | ((fail_if_success (with_reducible show wpAny _ _ (eval (PySem.Expr.ListComp _ _ _ _) _) _ _ _)); (fail_if_success (with_reducible show wpAny _ _ (PySem.call (Value.ref _) _ _) _ _ _)); (fail_if_success (with_reducible show wpAny _ _ (exec (Stmt.While _ _ _ _) _) _ _ _)); (fail_if_success (with_reducible show wpAny _ _ (exec (Stmt.For _ _ _ _ _) _) _ _ _)); (first | walk1 | (dsimp only; walk1))) | (leave1; (try dsimp only)) | fail "no step"))
    rename_i D1 _ e1 D2 _ e2 D3 _ e3 D4 _ e4 l7 h7 F7 N7 e7
    obtain ⟨k, hk'⟩ : ∃ k, (lastP ahead + 1).toNat - i = k + 1 := ⟨(lastP ahead + 1).toNat - (i + 1), by omega⟩
    rw [hk', linesP] at hP
    (try dsimp only at hP)
    generalize hfi : bisI ahead i = first at F7 N7 hP
    generalize hla' : (ahead.length : Int) - 1 - bisI ahead (lastP ahead - i) = last at F7 N7 hP
    generalize hso : decide (first ≤ last) = some' at F7 N7 hP
    generalize hLED : ((l7, W.listOf #[Value.ref D1, Value.ref D2, Value.ref D3, Value.ref D4] 0) :: _ :: _ :: _ :: _ :: it :: _) = LED at N7
    have sub : ∀ p ∈ it :: news, p ∈ LED := by
      rw [← hLED]; intro p hp; exact .tail _ (.tail _ (.tail _ (.tail _ (.tail _ hp))))
    have hp4 : Paired (PairB LED) [Value.ref D1, Value.ref D2, Value.ref D3, Value.ref D4] [(first - 1, false), (first, some'), (last, some'), (last + 1, false)] := by
      rw [← hLED]
      exact .cons ⟨_, _, _, rfl, .tail _ (.tail _ (.tail _ (.tail _ (.head _))))⟩ (.cons ⟨_, _, _, rfl, .tail _ (.tail _ (.tail _ (.head _)))⟩ (.cons ⟨_, _, _, rfl, .tail _ (.tail _ (.head _))⟩ (.cons ⟨_, _, _, rfl, .tail _ (.head _)⟩ .nil)))
    refine iter_list [Value.ref D1, Value.ref D2, Value.ref D3, Value.ref D4] 0 (fun j m' news' => news' = LED ∧ Has m' [((Str.ofString "ahead"), .ref la), ((Str.ofString "sides"), .ref l), ((Str.ofString "wide"), .int (ahead.length - 1) tw), ((Str.ofString "top"), .int (lastP ahead) tt), ((Str.ofString "points"), .int p tp), ((Str.ofString "line"), .int i t₁), ((Str.ofString "first"), .int first t4), ((Str.ofString "last"), .int last _)]
      ∧ duesP (fun x => withinP x i (ahead.length - 1) (lastP ahead) sides) [(first - 1, false), (first, some'), (last, some'), (last + 1, false)] = duesP (fun x => withinP x i (ahead.length - 1) (lastP ahead) sides) (List.drop j [(first - 1, false), (first, some'), (last, some'), (last + 1, false)])) rfl F7 N7 ⟨rfl, ⟨rfl, rfl, rfl, rfl, rfl, rfl, rfl, rfl, trivial⟩, rfl⟩ ?_ ?_ ?_
    · rintro j m' LED ⟨rfl, _⟩
      rw [← hLED]; exact .head _
    · rintro j v m₂ LED h8 tk8 it2 hv ⟨rfl, hm2, hdu⟩ hoff2 F8 N8
      have F8 := frPin _ F8 hm2
      obtain ⟨⟨x, due⟩, hs, ad, u1, j1, rfl, hmem⟩ := Paired.at hp4 hv
      refine assignTo2 rfl F8 N8 (.tail _ hmem) fun h9 tk9 F9 N9 => ?_
      clear F8 N8 F7 N7
      dsimp only at F9
      rw [drop_at hs] at hdu
      (repeat' (first | (k_unfold; (try dsimp only)) | ((fail_if_success (with_reducible show wpAny _ _ (eval (PySem.Expr.ListComp _ _ _ _) _) _ _ _)); (fail_if_success (with_reducible show wpAny _ _ (PySem.call (Value.ref _) _ _) _ _ _)); (fail_if_success (with_reducible show wpAny _ _ (exec (Stmt.While _ _ _ _) _) _ _ _)); (fail_if_success (with_reducible show wpAny _ _ (exec (Stmt.For _ _ _ _ _) _) _ _ _)); (first | walk1 | (dsimp only; walk1))) | (leave1; (try dsimp only)) | fail "no step"))
      refine says_use (within w mean mg mb _ _ _ _ _ _ _ _ l _ vs n (.tail _ (sub _ (.tail _ hl))) sides (hp.mono fun v t => ?_) hb) B' F9 X' N9 T' rfl (by show dp + 1 + 1 < _; omega) (by show un + 3 + 8 * 1 < _; omega) ?_
      · rintro ⟨ad, t1, t2, t3, j, rfl, hmem⟩
        exact ⟨ad, t1, t2, t3, j, rfl, .tail _ (sub _ (.tail _ hmem))⟩
      rintro r _ h10 tk10 ⟨rfl, rfl⟩ F10 N10
      clear F9 N9
      (repeat' (first | (k_unfold; (try dsimp only)) | ((fail_if_success (with_reducible show wpAny _ _ (eval (PySem.Expr.ListComp _ _ _ _) _) _ _ _)); (fail_if_success (with_reducible show wpAny _ _ (PySem.call (Value.ref _) _ _) _ _ _)); (fail_if_success (with_reducible show wpAny _ _ (exec (Stmt.While _ _ _ _) _) _ _ _)); (fail_if_success (with_reducible show wpAny _ _ (exec (Stmt.For _ _ _ _ _) _) _ _ _)); (first | walk1 | (dsimp only; walk1))) | (leave1; (try dsimp only)) | fail "no step"))
      · rename_i hc
        have hdu := hdu.trans (if_pos hc)
        rw [hdu] at hP
        dsimp only [TurnEnd]
        (repeat' (first | (k_unfold; (try dsimp only)) | ((fail_if_success (with_reducible show wpAny _ _ (eval (PySem.Expr.ListComp _ _ _ _) _) _ _ _)); (fail_if_success (with_reducible show wpAny _ _ (PySem.call (Value.ref _) _ _) _ _ _)); (fail_if_success (with_reducible show wpAny _ _ (exec (Stmt.While _ _ _ _) _) _ _ _)); (fail_if_success (with_reducible show wpAny _ _ (exec (Stmt.For _ _ _ _ _) _) _ _ _)); (first | walk1 | (dsimp only; walk1))) | (leave1; (try dsimp only)) | fail "no step"))
        rename_i kF kN _ _
        exact hret _ _ _ _ ⟨⟨_, by rw [← hP]; rfl⟩, rfl⟩ kF (fun p hp => kN p (.tail _ (sub _ (.tail _ hp))))
      · rename_i hc
        have hdu := hdu.trans (if_neg (by rw [hc]; decide))
        exact turn_next F10 N10 hoff2 ⟨rfl, ⟨rfl, rfl, rfl, rfl, rfl, rfl, rfl, rfl, trivial⟩, hdu⟩
    · rintro h8 tk8 m8 LED F8 N8 ⟨rfl, hm8, hdu⟩
      have F8 := frPin _ F8 hm8
      rw [show duesP (fun x => withinP x i (ahead.length - 1) (lastP ahead) sides) [(first - 1, false), (first, some'), (last, some'), (last + 1, false)] = true from hdu] at hP
      clear F7 N7
      change wpAny _ _ _ _ _ _
      (repeat' (first | (k_unfold; (try dsimp only)) | ((fail_if_success (with_reducible show wpAny _ _ (eval (PySem.Expr.ListComp _ _ _ _) _) _ _ _)); (fail_if_success (with_reducible show wpAny _ _ (PySem.call (Value.ref _) _ _) _ _ _)); (fail_if_success (with_reducible show wpAny _ _ (exec (Stmt.While _ _ _ _) _) _ _ _)); (fail_if_success (with_reducible show wpAny _ _ (exec (Stmt.For _ _ _ _ _) _) _ _ _)); (first | walk1 | (dsimp only; walk1))) | (leave1; (try dsimp only)) | fail "no step"))
      rename_i h9 F9 N9
      refine turn_next F9 (fun p hp => N9 p (sub _ hp)) hoff ⟨rfl, _, _, _, _, ?_, rfl, rfl, rfl, rfl, rfl, trivial⟩
      rw [show (lastP ahead + 1).toNat - (i + 1) = k from by omega]
      exact_mod_cast hP
  · rintro h8 tk8 m8 news F8 N8 ⟨rfl, p, tw, tt, tp, hP, hm8⟩
    have F8 := frPin _ F8 hm8
    rw [Nat.sub_self, linesP] at hP
    change wpAny _ _ _ _ _ _
    (repeat' (first | (k_unfold; (try dsimp only)) | ((fail_if_success (with_reducible show wpAny _ _ (eval (PySem.Expr.ListComp _ _ _ _) _) _ _ _)); (fail_if_success (with_reducible show wpAny _ _ (PySem.call (Value.ref _) _ _) _ _ _)); (fail_if_success (with_reducible show wpAny _ _ (exec (Stmt.While _ _ _ _) _) _ _ _)); (fail_if_success (with_reducible show wpAny _ _ (exec (Stmt.For _ _ _ _ _) _) _ _ _)); (first | walk1 | (dsimp only; walk1))) | (leave1; (try dsimp only)) | fail "no step"))
    rename_i kF kN _ _
    exact hret _ _ _ _ ⟨⟨_, by rw [← hP]⟩, rfl⟩ kF kN
end Mine
end

section
open PySem PySem.W PyProof.Rows
namespace Mine
/-- how many u stand ahead of each r, and in all -/
def aheadGo : List Nat → List Int → Int → List Int × Int
  | [], acc, up => (acc, up)
  | c :: r, acc, up => if c = 117 then aheadGo r acc (up + 1) else aheadGo r (acc ++ [up]) up
def aheadP (path : List Nat) : List Int := (aheadGo path [] 0).1 ++ [(aheadGo path [] 0).2]
theorem sign_u (c : Nat) : ((⟨#[c]⟩ : Str) == Str.ofString "u") = decide (c = 117) := by
  rw [show Str.ofString "u" = ⟨#[117]⟩ from by decide +kernel]
  by_cases h : c = 117
  · subst h; decide +kernel
  · rw [decide_eq_false h]
    simp [h]
set_option maxRecDepth 100000 in
set_option maxHeartbeats 8000000 in
theorem aheadS (w : World) (mean : ExcName → Option Value) (mg mb : Str → Option Value) (path : Str) (t1 : Tok) (news : Led) (hsz : path.cps.size < 1000) :
    Says w mean mg mb 1 91 [.str path t1] news (fun r news' => ∃ l vs k, r = .ref l ∧ IntsAre vs (aheadP path.cps.toList) ∧ (∀ p ∈ news, p.1 ≠ l) ∧ news' = (l, W.listOf vs.toArray k) :: news) := by
  w_top off
  unfold Says
  k_fill
  intro dp un gd cn cs a ccd cl outer A₀ base h₀ L m s Q E B F X N T hk hd hu hret
  refine wpAny_mono (E := NoE) ?_ (fun _ _ h => h) (fun _ _ h => h.elim)
  refine wpAny_call ?_
  refine' code_def ?k1 ?k2 ?k3 ?k4 ?k5 ?kA ?kF ?kK ?k6 ?k7 ?k8 ?k9 ?kB ?_ ?c2 ?c3 ?c4 ?c5; (case kA => exact rfl); (case kF => exact rfl); (case kK => assumption); (case k1 => k_asm); (case k2 => k_asm); (case k3 => k_asm); (case k4 => k_asm); (case k5 => k_asm); (case k6 => k_is); (case k7 => k_is); (case k8 => ktr_room)
  (case k9 => exact BindsTo.of_eq rfl)
  (case c5 => decide); (case kB => exact locs rfl); (case c2 => exact rfl); (case c3 => exact rfl); (case c4 => exact rfl)
  k_whole; intro g' L' h' FG' F' N' B' X' T'
  refine wpAny_mono (E := NoE) ?_ (fun _ _ h => h) (fun _ _ h => h.elim)
  (try dsimp only); (try k_fold)
  (repeat' (first | (k_unfold; (try dsimp only)) | ((fail_if_success (with_reducible show wpAny _ _ (eval (PySem.Expr.ListComp _ _ _ _) _) _ _ _)); (fail_if_success (with_reducible show wpAny _ _ (PySem.call (Value.ref _) _ _) _ _ _)); (fail_if_success (with_reducible show wpAny _ _ (exec (Stmt.While _ _ _ _) _) _ _ _)); (fail_if_success (with_reducible show wpAny _ _ (exec (Stmt.For _ _ _ _ _) _) _ _ _)); (first | walk1 | (dsimp only; walk1))) | (leave1; (try dsimp only)) | fail "no step"))
  refine wpAny_For ?_
  (repeat' (first | (k_unfold; (try dsimp only)) | ((fail_if_success (with_reducible show wpAny _ _ (eval (PySem.Expr.ListComp _ _ _ _) _) _ _ _)); (fail_if_success (with_reducible show wpAny _ _ (PySem.call (Value.ref _) _ _) _ _ _)); (fail_if_success (with_reducible show wpAny _ _ (exec (Stmt.While _ _ _ _) _) _ _ _)); (fail_if_success (with_reducible show wpAny _ _ (exec (Stmt.For _ _ _ _ _) _) _ _ _)); (first | walk1 | (dsimp only; walk1))) | (leave1; (try dsimp only)) | fail "no step"))
  rename_i D _ lt1 _ h2 F2 N2
  have hne : ∀ p ∈ news, p.1 ≠ D := fun p hp => Nat.ne_of_lt (lt1 p hp)
  refine iter_str path t1 (fun i m' news' => ∃ vs ns k up tu, news' = (D, W.listOf vs.toArray k) :: news ∧ IntsAre vs ns ∧ aheadGo path.cps.toList [] 0 = aheadGo (path.cps.toList.drop i) ns up ∧ ns.length ≤ i ∧ Has m' [((Str.ofString "ahead"), .ref D), ((Str.ofString "up"), .int up tu)])
    rfl F2 N2 ⟨[], [], 0, 0, _, rfl, .nil, rfl, Nat.le_refl _, rfl, rfl, trivial⟩ ?_ ?_
  · clear F2 N2
    rintro i c t₁ m₁ _ h tk it hc ⟨vs, ns, k, up, tu, rfl, hI, hg, hl, hm⟩ hoff F₁ N₁
    have F₁ := frPin _ F₁ hm
    have hc' : path.cps.toList[i]? = some c := by simpa using hc
    have hi : i < path.cps.size := by
      have := (List.getElem?_eq_some_iff.mp hc').1
      simpa using this
    rw [drop_at hc', aheadGo] at hg
    have hlv := hI.length
    refine wpAny_assign_Name (stN F₁ N₁ fun h3 F3 N3 => ?_)
    clear F₁ N₁
    (repeat' (first | (k_unfold; (try dsimp only)) | ((fail_if_success (with_reducible show wpAny _ _ (eval (PySem.Expr.ListComp _ _ _ _) _) _ _ _)); (fail_if_success (with_reducible show wpAny _ _ (PySem.call (Value.ref _) _ _) _ _ _)); (fail_if_success (with_reducible show wpAny _ _ (exec (Stmt.While _ _ _ _) _) _ _ _)); (fail_if_success (with_reducible show wpAny _ _ (exec (Stmt.For _ _ _ _ _) _) _ _ _)); (first | walk1 | (dsimp only; walk1))) | (leave1; (try dsimp only)) | fail "no step"))
    · rename_i F4 N4
      have hcu : ((⟨#[c]⟩ : Str) == Str.ofString "u") = true := by assumption
      rw [sign_u] at hcu
      rw [if_pos (of_decide_eq_true hcu)] at hg
      exact turn_next F4 N4 hoff ⟨vs, ns, k, _, _, rfl, hI, hg, by omega, rfl, rfl, trivial⟩
    · rename_i hcu
      rw [sign_u] at hcu
      rw [if_neg (of_decide_eq_false hcu)] at hg
      have hsl := sizeLine_eq
      refine append_K F3 N3 (Upd.tail (fun e => hoff _ (.head _) e.symm) (Upd.head hne)) ?_ (by rw [hsl]; simp; omega)
      intro h4 F4 N4
      clear F3 N3
      (repeat' (first | (k_unfold; (try dsimp only)) | ((fail_if_success (with_reducible show wpAny _ _ (eval (PySem.Expr.ListComp _ _ _ _) _) _ _ _)); (fail_if_success (with_reducible show wpAny _ _ (PySem.call (Value.ref _) _ _) _ _ _)); (fail_if_success (with_reducible show wpAny _ _ (exec (Stmt.While _ _ _ _) _) _ _ _)); (fail_if_success (with_reducible show wpAny _ _ (exec (Stmt.For _ _ _ _ _) _) _ _ _)); (first | walk1 | (dsimp only; walk1))) | (leave1; (try dsimp only)) | fail "no step"))
      rw [show vs.toArray.push (Value.int up tu) = (vs ++ [Value.int up tu]).toArray from by simp] at N4
      exact turn_next F4 N4 (fun p hp => by rcases List.mem_cons.mp hp with rfl | hp; exact hoff (D, W.listOf vs.toArray k) (.head _); exact hoff _ (.tail _ hp)) ⟨_, _, _, _, _, rfl, hI.append (.cons up tu .nil), hg, by simp; omega, rfl, rfl, trivial⟩
  · clear F2 N2
    rintro h2 tk2 m2 _ F2 N2 ⟨vs, ns, k, up, tu, rfl, hI, hg, hl, hm⟩
    have F2 := frPin _ F2 hm
    rw [show path.cps.toList.drop path.cps.size = [] from by simp, aheadGo] at hg
    have hlv := hI.length
    change wpAny _ _ _ _ _ _
    (repeat' (first | (k_unfold; (try dsimp only)) | ((fail_if_success (with_reducible show wpAny _ _ (eval (PySem.Expr.ListComp _ _ _ _) _) _ _ _)); (fail_if_success (with_reducible show wpAny _ _ (PySem.call (Value.ref _) _ _) _ _ _)); (fail_if_success (with_reducible show wpAny _ _ (exec (Stmt.While _ _ _ _) _) _ _ _)); (fail_if_success (with_reducible show wpAny _ _ (exec (Stmt.For _ _ _ _ _) _) _ _ _)); (first | walk1 | (dsimp only; walk1))) | (leave1; (try dsimp only)) | fail "no step"))
    rename_i hI2 lt2 kF kN _ _
    refine hret _ _ _ _ ⟨_, _, 0, rfl, (by unfold aheadP; rw [hg]; exact hI2), allLt_ne lt2.2.2, rfl⟩ kF ?_
    intro p hp
    refine kN p ?_
    rcases List.mem_cons.mp hp with rfl | hp
    · exact .head _
    · exact .tail _ (.tail _ (.tail _ hp))
end Mine
end

section
open PySem PySem.W PyProof.Rows
namespace Mine
/-- the greatest of 1, 2, 3 that divides both -/
def measP (a b : Int) : Int := if a % 3 = 0 ∧ b % 3 = 0 then 3 else if a % 2 = 0 ∧ b % 2 = 0 then 2 else 1
theorem meas_bad1 {a b M : Int} (h : a % (1 + ((0 : Nat) : Int)) ≠ 0) : M = measP a b := by omega
theorem meas_bad2 {a b M : Int} (h : b % (1 + ((0 : Nat) : Int)) ≠ 0) : M = measP a b := by omega
theorem meas_3 {a b M : Int} (h1 : a % (1 + ((0 + 1 + 1 : Nat) : Int)) = 0) (h2 : b % (1 + ((0 + 1 + 1 : Nat) : Int)) = 0) (h : M = 3) : M = measP a b := by
  have e : measP a b = 3 := if_pos ⟨h1, h2⟩
  rw [e]; exact h
theorem meas_2 {a b M : Int} (h0 : ¬ (a % (1 + ((0 + 1 + 1 : Nat) : Int)) = 0 ∧ b % (1 + ((0 + 1 + 1 : Nat) : Int)) = 0)) (h1 : a % (1 + ((0 + 1 : Nat) : Int)) = 0) (h2 : b % (1 + ((0 + 1 : Nat) : Int)) = 0) (h : M = 2) : M = measP a b := by
  have e : measP a b = 2 := Eq.trans (if_neg h0) (if_pos ⟨h1, h2⟩)
  rw [e]; exact h
theorem meas_1 {a b M : Int} (h0 : ¬ (a % (1 + ((0 + 1 + 1 : Nat) : Int)) = 0 ∧ b % (1 + ((0 + 1 + 1 : Nat) : Int)) = 0)) (h1 : ¬ (a % (1 + ((0 + 1 : Nat) : Int)) = 0 ∧ b % (1 + ((0 + 1 : Nat) : Int)) = 0)) (h : M = 1) : M = measP a b := by
  have e : measP a b = 1 := Eq.trans (if_neg h0) (if_neg h1)
  rw [e]; exact h
set_option maxRecDepth 100000 in
set_option maxHeartbeats 8000000 in
theorem measure (w : World) (mean : ExcName → Option Value) (mg mb : Str → Option Value) (a0 b0 : Int) (t1 t2 : Tok) (ha : 0 ≤ a0 ∧ a0 ≤ 3) (hb : 0 ≤ b0 ∧ b0 ≤ 3) :
    SaysP w mean mg mb 1 77 [.int a0 t1, .int b0 t2] (fun _ => True) (fun r tl => (∃ t, r = .int (measP a0 b0) t) ∧ tl = []) := by
  obtain ⟨ha1, ha2⟩ := ha
  obtain ⟨hb1, hb2⟩ := hb
  w_top off
  unfold SaysP
  k_fill
  intro dp un gd cn cs a ccd cl outer A₀ base h₀ L m s Q E B F X T hk hd hu hpre hret
  refine wpAny_mono (E := NoE) ?_ (fun _ _ h => h) (fun _ _ h => h.elim)
  refine wpAny_call ?_
  refine' code_cellsP ?k1 ?k2 ?k3 ?k5 ?kA ?kF ?kK ?k6 ?k7 ?k8 ?k9 ?kB ?kD ?_ ?c2 ?c3 ?c4; (case kA => exact rfl); (case kF => exact rfl); (case kK => assumption); (case k1 => k_asm); (case k2 => k_asm); (case k3 => k_asm); (case k5 => k_asm); (case k6 => k_is); (case k7 => k_is); (case k8 => ktr_room); (case k9 => exact BindsTo.of_eq rfl); (case kB => exact rfl); (case kD => decide +kernel); (case c2 => exact rfl); (case c3 => exact rfl); (case c4 => exact rfl)
  k_whole; intro g' L' h' tk' cells' FG' F' N' Y' B' X' T' G'
  k_cells Y'; (try simp only [List.cons_append, List.nil_append] at N')
  refine wpAny_mono (E := NoE) ?_ (fun _ _ h => h) (fun _ _ h => h.elim)
  (try dsimp only); (try k_fold)
  k_steps
  all_goals (
    rename_i kF kN _ _
    have kk := fun b o e => (‹Fr g' _ _ _› : Fr _ _ _ _).keep b o (G' b o e)
    refine hret _ [] _ _ (And.intro (Exists.intro _ (congrArg (fun z => Value.int z _) ?_)) rfl) kF kk (fun p hp => nomatch hp)
    simp only [Int.fmod_eq_emod_of_nonneg _ (show (0 : Int) ≤ 1 + ((0 : Nat) : Int) by decide), Int.fmod_eq_emod_of_nonneg _ (show (0 : Int) ≤ 1 + ((0 + 1 : Nat) : Int) by decide), Int.fmod_eq_emod_of_nonneg _ (show (0 : Int) ≤ 1 + ((0 + 1 + 1 : Nat) : Int) by decide)] at *
    clear hret kk kF kN
    first
      | exact meas_bad1 (by assumption)
      | exact meas_bad2 (by assumption)
      | exact meas_3 (by assumption) (by assumption) (by omega)
      | exact meas_2 (fun h => absurd h.1 (by assumption)) (by assumption) (by assumption) (by omega)
      | exact meas_2 (fun h => absurd h.2 (by assumption)) (by assumption) (by assumption) (by omega)
      | exact meas_1 (fun h => absurd h.1 (by assumption)) (fun h => absurd h.1 (by assumption)) (by omega)
      | exact meas_1 (fun h => absurd h.2 (by assumption)) (fun h => absurd h.1 (by assumption)) (by omega)
      | exact meas_1 (fun h => absurd h.1 (by assumption)) (fun h => absurd h.2 (by assumption)) (by omega)
      | exact meas_1 (fun h => absurd h.2 (by assumption)) (fun h => absurd h.2 (by assumption)) (by omega))
end Mine
end

section
open PySem PySem.W PyProof.Rows
namespace Mine
def Pair2 (news : Led) (v : Value) (x : Int × Int) : Prop := ∃ ad t1 t2 j, v = .ref ad ∧ (ad, tupO [.int x.1 t1, .int x.2 t2] j) ∈ news
def reachP (a b : Int) (ways : List (Int × Int)) : List Int := ways.map fun x => iabs (a * x.2 - b * x.1)
def sidesP (ways : List (Int × Int)) : List (Int × Int × Int) := ways.map fun x => (x.1, x.2, (reachP x.1 x.2 ways).sum)
section
open LCg LCp
variable {prog : Program} {w : World} {A : Around} {E : Value → Shared → Prop} {s : Shared} {h₀ : Heap} {L : Addr} {m : Str → Option Value} {env : Env}
/-- a turn of a comprehension's over pairs -/
def EltEnd (h₀ : Heap) (L : Addr) (m : Str → Option Value) (s : Shared) (led : Led) (R : Value → Prop) (y : Value) (s₂ : Shared) : Prop := ∃ h' tk', s₂ = { s with heap := h', toks := tk' } ∧ Fr h₀ L h' m ∧ News h₀ L h' led ∧ R y
theorem compRestP_ind {elt : Expr} {x x₂ : Str} {scope : Scope} {cl : List (Str × Addr)} {S : Led → Prop} {P : Nat → Value → Prop} {Fin : List Value → Led → Prop} {news : Led} (Rel : Nat → List Value → Prop) (n : Nat)
    (fin : ∀ ys, Rel n ys → Fin ys news) (hS : S news)
    (step : ∀ i ys v, i < n → Rel i ys → P i v → ∃ (t : Addr) (ot : Obj) (v₁ v₂ : Value) (nt : Nat), v = .ref t ∧ (t, ot) ∈ news ∧ ot.cls = .type "tuple" ∧ ot.data = .seq #[v₁, v₂] nt ∧
      ∀ I oI C oC D m₂ h tk (E' : Value → Shared → Prop), NsObj oC m₂ → m₂ x = some v₁ → m₂ x₂ = some v₂ → Fr h₀ L h m → News h₀ L h ((I, oI) :: (C, oC) :: (D, lst ys) :: news) →
      wpAny (model prog w) A (eval elt (compEnvC scope cl C env)) (EltEnd h₀ L m { s with heap := h, toks := tk } ((I, oI) :: (C, oC) :: (D, lst ys) :: news) (fun y => Rel (i + 1) (ys ++ [y]))) E' { s with heap := h, toks := tk }) :
    ∀ j i ys, i + j = n → Rel i ys → CompRestP prog w A h₀ L m env elt x x₂ scope cl s S P Fin j i ys news
  | 0, i, ys, e, r => CompRestP.zero (fin ys (by rw [← e]; exact r))
  | j + 1, i, ys, e, r => CompRestP.succ fun v hv => by
    obtain ⟨t, ot, v₁, v₂, nt, rfl, hm, hc, hd, st⟩ := step i ys v (by omega) r hv
    refine ⟨t, ot, v₁, v₂, nt, rfl, hm, hc, hd, fun I oI C oC D m₂ h tk E' hns hx hx2 F N off ne => ?_⟩
    refine wpAny_mono (st I oI C oC D m₂ h tk E' hns hx hx2 F N) (fun y s₂ h₂ => ?_) fun _ _ e => e
    obtain ⟨h', tk', rfl, F', N', r'⟩ := h₂
    exact CompEnd.intro F' N' news (fun p hp => hp) off hS (compRestP_ind Rel n fin hS step j (i + 1) (ys ++ [y]) (by omega) r')
end
set_option maxRecDepth 100000 in
set_option maxHeartbeats 8000000 in
theorem sidesS (w : World) (mean : ExcName → Option Value) (mg mb : Str → Option Value) (l : Addr) (news : Led) (vs : List Value) (n : Nat) (hl : (l, W.listOf vs.toArray n) ∈ news) (ways : List (Int × Int)) (hp : Paired (Pair2 news) vs ways)
    (hb : ∀ t ∈ ways, (0 ≤ t.1 ∧ t.1 ≤ 3) ∧ 0 ≤ t.2 ∧ t.2 ≤ 3) (hlen : ways.length < 1000) :
    Says w mean mg mb 1 96 [.ref l] news (fun r news' => ∃ D svs k trips, r = .ref D ∧ news' = (D, W.listOf svs.toArray k) :: (trips ++ news) ∧ Paired (Trip trips) svs (sidesP ways)) := by
  w_top off
  unfold Says
  k_fill
  intro dp un gd cn cs a ccd cl outer A₀ base h₀ L m s Q E B F X N T hk hd hu hret
  refine wpAny_mono (E := NoE) ?_ (fun _ _ h => h) (fun _ _ h => h.elim)
  refine wpAny_call ?_
  refine' code_defC ?k1 ?k2 ?k3 ?k4 ?k5 ?kA ?kF ?kK ?k6 ?k7 ?k8 ?k9 ?kB ?kD ?_ ?c2 ?c3 ?c4; (case kA => exact rfl); (case kF => exact rfl); (case kK => assumption); (case k1 => k_asm); (case k2 => k_asm); (case k3 => k_asm); (case k4 => k_asm); (case k5 => k_asm); (case k6 => k_is); (case k7 => k_is); (case k8 => ktr_room); (case k9 => exact BindsTo.of_eq rfl); (case kB => exact rfl); (case kD => decide +kernel); (case c2 => exact rfl); (case c3 => exact rfl); (case c4 => exact rfl)
  k_whole; intro g' L' h' tk' cells' FG' F' N' Y' B' X' T' l1
  (try k_lt l1); k_cells Y'; (try simp only [List.cons_append, List.nil_append] at N')
  refine wpAny_mono (E := NoE) ?_ (fun _ _ h => h) (fun _ _ h => h.elim)
  (try dsimp only); (try k_fold)
  (repeat' (first | (k_unfold; (try dsimp only)) | ((fail_if_success (with_reducible show wpAny _ _ (eval (PySem.Expr.ListComp _ _ _ _) _) _ _ _)); (fail_if_success (with_reducible show wpAny _ _ (PySem.call (Value.ref _) _ _) _ _ _)); (fail_if_success (with_reducible show wpAny _ _ (exec (Stmt.While _ _ _ _) _) _ _ _)); (fail_if_success (with_reducible show wpAny _ _ (exec (Stmt.For _ _ _ _ _) _) _ _ _)); (first | walk1 | (dsimp only; walk1))) | (leave1; (try dsimp only)) | fail "no step"))
  refine wpAny_For ?_
  (repeat' (first | (k_unfold; (try dsimp only)) | ((fail_if_success (with_reducible show wpAny _ _ (eval (PySem.Expr.ListComp _ _ _ _) _) _ _ _)); (fail_if_success (with_reducible show wpAny _ _ (PySem.call (Value.ref _) _ _) _ _ _)); (fail_if_success (with_reducible show wpAny _ _ (exec (Stmt.While _ _ _ _) _) _ _ _)); (fail_if_success (with_reducible show wpAny _ _ (exec (Stmt.For _ _ _ _ _) _) _ _ _)); (first | walk1 | (dsimp only; walk1))) | (leave1; (try dsimp only)) | fail "no step"))
  rename_i o1 o2 d1 d2 D _ lt1 _ F2 N2
  have hne : ∀ p ∈ news, p.1 ≠ D := allLt_ne lt1.2.2
  have hneA : ∀ p ∈ news, p.1 ≠ L' + 1 := fun p hp => Nat.ne_of_lt (Nat.lt_succ_of_lt (l1 p hp))
  have hneB : ∀ p ∈ news, p.1 ≠ L' + 1 + 1 := fun p hp => Nat.ne_of_lt (Nat.lt_succ_of_lt (Nat.lt_succ_of_lt (l1 p hp)))
  have lt11 := lt1.1
  have lt12 := lt1.2.1
  have hvl : vs.length = ways.length := hp.length
  refine iter_list vs n (fun i m' news' => ∃ svs k trips oA oB dA dB, news' = (D, W.listOf svs.toArray k) :: (L' + 1 + 1, oB) :: (L' + 1, oA) :: (trips ++ news) ∧ oA.data = .cell dA ∧ oB.data = .cell dB ∧ Paired (Trip trips) svs ((sidesP ways).take i) ∧ svs.length = i
      ∧ (∀ p ∈ trips, p.1 ≠ D ∧ p.1 ≠ L' + 1 ∧ p.1 ≠ L' + 1 + 1) ∧ Has m' [((Str.ofString "ways"), .ref l), ((Str.ofString "sides"), .ref D)]) rfl F2 N2 ⟨[], 0, [], o2, o1, _, _, rfl, d2, d1, by simpa using Paired.nil, rfl, (fun p hp => nomatch hp), rfl, rfl, trivial⟩ ?_ ?_ ?_
  · rintro i m' _ ⟨svs, k, trips, oA, oB, dA, dB, rfl, _⟩
    exact .tail _ (.tail _ (.tail _ (List.mem_append_right _ hl)))
  · clear F2 N2 d1 d2
    rintro i v m₁ _ h tk it hv ⟨svs, k, trips, oA, oB, dA, dB, rfl, cA, cB, hsv, hsl, htr, hm⟩ hoff F₁ N₁
    have F₁ := frPin _ F₁ hm
    obtain ⟨⟨a1, b1⟩, hs, ad, u1, u2, j, rfl, hmem⟩ := Paired.at hp hv
    have hT : IsTup h ad [Value.int a1 u1, Value.int b1 u2].toArray := ⟨_, (N₁ _ (.tail _ (.tail _ (.tail _ (.tail _ (List.mem_append_right _ hmem)))))).1, rfl, _, rfl⟩
    have offA : ∀ p ∈ trips ++ news, p.1 ≠ L' + 1 := fun p hp => by
      rcases List.mem_append.mp hp with hp | hp
      · exact (htr p hp).2.1
      · exact hneA p hp
    have offB : ∀ p ∈ trips ++ news, p.1 ≠ L' + 1 + 1 := fun p hp => by
      rcases List.mem_append.mp hp with hp | hp
      · exact (htr p hp).2.2
      · exact hneB p hp
    refine assign_Tuple_tuple rfl hT rfl rfl fun h2 he => ?_
    have F2 := F₁.extBut he (Nat.le_refl _)
    have N2 := newsExtBut N₁ he
    clear F₁ N₁
    have itA : it.1 ≠ L' + 1 := fun e => hoff (L' + 1, oA) (.tail _ (.tail _ (.head _))) e.symm
    have itB : it.1 ≠ L' + 1 + 1 := fun e => hoff (L' + 1 + 1, oB) (.tail _ (.head _)) e.symm
    refine assignInOrder_cons (wpAny_assign_Name (storeX_C (c := L' + 1) F2 N2 rfl (UpdF.tail itA (UpdF.tail (Nat.ne_of_gt lt12) (UpdF.tail (Nat.succ_ne_self _) (UpdF.head offA)))) cA (fun h3 oA' F3 N3 cA' => ?_)))
    clear F2 N2
    refine assignInOrder_cons (wpAny_assign_Name (storeX_C (c := L' + 1 + 1) F3 N3 rfl (UpdF.tail itB (UpdF.tail (Nat.ne_of_gt lt11) (UpdF.head (fun p hp => by
      rcases List.mem_cons.mp hp with rfl | hp
      · exact Ne.symm (Nat.succ_ne_self _)
      · exact offB p hp)))) cB (fun h4 oB' F4 N4 cB' => ?_)))
    clear F3 N3
    refine assignInOrder_nil ?_
    (try dsimp only at F4 N4)
    (repeat' (first | (k_unfold; (try dsimp only)) | ((fail_if_success (with_reducible show wpAny _ _ (eval (PySem.Expr.ListComp _ _ _ _) _) _ _ _)); (fail_if_success (with_reducible show wpAny _ _ (PySem.call (Value.ref _) _ _) _ _ _)); (fail_if_success (with_reducible show wpAny _ _ (exec (Stmt.While _ _ _ _) _) _ _ _)); (fail_if_success (with_reducible show wpAny _ _ (exec (Stmt.For _ _ _ _ _) _) _ _ _)); (first | walk1 | (dsimp only; walk1))) | (leave1; (try dsimp only)) | fail "no step"))
    refine LCp.ListComp_P F4 (by with_unfolding_all rfl) (by decide) (by rfl) (by decide) (by rfl) (by rfl) (by decide) ?_
    walk1
    have hsl' := sizeLine_eq
    have hiw : i < ways.length := (List.getElem?_eq_some_iff.mp hs).1
    have hall := hb _ (List.mem_of_getElem? hs)
    dsimp only at hall
    obtain ⟨⟨a1l, a1h⟩, b1l, b1h⟩ := hall
    refine LCp.SrcLP.ledger rfl F4 N4 (its := vs.toArray) (k := n) (.tail _ (.tail _ (.tail _ (.tail _ (List.mem_append_right _ hl))))) (by rw [hsl']; simp; omega) (fun gg => ?_)
    refine compRestP_ind (fun i ys => IntsAre ys ((reachP a1 b1 ways).take i)) vs.length ?_ (.inr ⟨_, (.tail _ (.tail _ (.tail _ (.tail _ (List.mem_append_right _ hl))))), rfl, _, rfl⟩) ?_ _ 0 [] (by simp) (by simpa using IntsAre.nil)
    · intro ys hys D3 h5 tk5 F5 N5 off5
      clear F4 N4
      have hfull : (reachP a1 b1 ways).take vs.length = reachP a1 b1 ways := List.take_of_length_le (by simp [reachP, hvl])
      rw [hfull] at hys
      have hyl : ys.length = ways.length := by rw [hys.length]; simp [reachP]
      change wpAny _ _ _ _ _ _
      (repeat' (first | (k_unfold; (try dsimp only)) | ((fail_if_success (with_reducible show wpAny _ _ (eval (PySem.Expr.ListComp _ _ _ _) _) _ _ _)); (fail_if_success (with_reducible show wpAny _ _ (PySem.call (Value.ref _) _ _) _ _ _)); (fail_if_success (with_reducible show wpAny _ _ (exec (Stmt.While _ _ _ _) _) _ _ _)); (fail_if_success (with_reducible show wpAny _ _ (exec (Stmt.For _ _ _ _ _) _) _ _ _)); (first | walk1 | (dsimp only; walk1))) | (leave1; (try dsimp only)) | fail "no step"))
      rename_i t9 D9 h9 F9 N9 lt9
      have itD : it.1 ≠ D := fun e => hoff (D, W.listOf svs.toArray k) (.head _) e.symm
      have offD : ∀ p ∈ trips ++ news, p.1 ≠ D := fun p hp => by
        rcases List.mem_append.mp hp with hp | hp
        · exact (htr p hp).1
        · exact hne p hp
      refine append_K F9 N9 (Upd.tail (Nat.ne_of_gt lt9.2.2.1) (Upd.tail (Ne.symm off5.2.1) (Upd.tail itD (Upd.head (fun p hp => by
        rcases List.mem_cons.mp hp with rfl | hp
        · exact Nat.ne_of_lt lt11
        · rcases List.mem_cons.mp hp with rfl | hp
          · exact Nat.ne_of_lt lt12
          · exact offD p hp))))) ?_ (by rw [hsl']; simp; omega)
      intro h10 F10 N10
      clear F9 N9
      (repeat' (first | (k_unfold; (try dsimp only)) | ((fail_if_success (with_reducible show wpAny _ _ (eval (PySem.Expr.ListComp _ _ _ _) _) _ _ _)); (fail_if_success (with_reducible show wpAny _ _ (PySem.call (Value.ref _) _ _) _ _ _)); (fail_if_success (with_reducible show wpAny _ _ (exec (Stmt.While _ _ _ _) _) _ _ _)); (fail_if_success (with_reducible show wpAny _ _ (exec (Stmt.For _ _ _ _ _) _) _ _ _)); (first | walk1 | (dsimp only; walk1))) | (leave1; (try dsimp only)) | fail "no step"))
      rw [show svs.toArray.push (Value.ref D9) = (svs ++ [Value.ref D9]).toArray from by simp] at N10
      have itN : it.1 ≠ D9 := Nat.ne_of_lt lt9.2.1
      refine turn_next (news₂ := (D, W.listOf (svs ++ [Value.ref D9]).toArray (k + 1)) :: (L' + 1 + 1, oB') :: (L' + 1, oA') :: (((D9, tupO [Value.int a1 u1, Value.int b1 u2, Value.int (List.sum (reachP a1 b1 ways)) t9] 0) :: trips) ++ news)) F10 (fun p hp => N10 p ?_) ?_ ⟨svs ++ [Value.ref D9], k + 1, (D9, tupO [Value.int a1 u1, Value.int b1 u2, Value.int (List.sum (reachP a1 b1 ways)) t9] 0) :: trips, oA', oB', _, _, rfl, cA', cB', ?_, by simp [hsl], ?_, rfl, rfl, trivial⟩
      · rcases List.mem_cons.mp hp with rfl | hp
        · exact .tail _ (.tail _ (.head _))
        · rcases List.mem_cons.mp hp with rfl | hp
          · exact .tail _ (.tail _ (.tail _ (.head _)))
          · rcases List.mem_cons.mp hp with rfl | hp
            · exact .tail _ (.tail _ (.tail _ (.tail _ (.head _))))
            · rcases List.mem_cons.mp hp with rfl | hp
              · exact .tail _ (.tail _ (.tail _ (.tail _ (.tail _ (.head _)))))
              · rcases List.mem_cons.mp hp with rfl | hp
                · exact .head _
                · exact .tail _ (.tail _ (.tail _ (.tail _ (.tail _ (.tail _ hp)))))
      · intro p hp
        rcases List.mem_cons.mp hp with rfl | hp
        · exact itD.symm
        · rcases List.mem_cons.mp hp with rfl | hp
          · exact itB.symm
          · rcases List.mem_cons.mp hp with rfl | hp
            · exact itA.symm
            · rcases List.mem_cons.mp hp with rfl | hp
              · exact itN.symm
              · exact hoff p (.tail _ (.tail _ (.tail _ hp)))
      · have e : (sidesP ways).take (i + 1) = (sidesP ways).take i ++ [(a1, b1, (reachP a1 b1 ways).sum)] := by
          rw [List.take_add_one, show (sidesP ways)[i]? = some (a1, b1, (reachP a1 b1 ways).sum) from by simp [sidesP, hs]]
          rfl
        rw [e]
        refine (hsv.mono fun v t => ?_).snoc ⟨D9, u1, u2, t9, 0, rfl, .head _⟩
        rintro ⟨ad, t1, t2, t3, j, rfl, hmem⟩
        exact ⟨ad, t1, t2, t3, j, rfl, .tail _ hmem⟩
      · intro p hp
        rcases List.mem_cons.mp hp with rfl | hp
        · exact ⟨Nat.ne_of_gt lt9.2.2.1, Nat.ne_of_gt lt9.2.2.2.2.1, Nat.ne_of_gt lt9.2.2.2.1⟩
        · exact htr p hp
    · intro i2 ys v2 hi2 hr2 hv2
      obtain ⟨⟨c1, d1⟩, hs2, ad2, w1, w2, j2, rfl, hmem2⟩ := Paired.at hp (show vs[i2]? = some v2 by simpa using hv2)
      refine ⟨ad2, _, _, _, _, rfl, .tail _ (.tail _ (.tail _ (.tail _ (List.mem_append_right _ hmem2)))), rfl, rfl, ?_⟩
      intro I oI C oC D2 m₂ h5 tk5 E' hns hx hx2 F5 N5
      clear F4 N4
      dsimp only at hx hx2
      (repeat' (first | (k_unfold; (try dsimp only)) | ((fail_if_success (with_reducible show wpAny _ _ (eval (PySem.Expr.ListComp _ _ _ _) _) _ _ _)); (fail_if_success (with_reducible show wpAny _ _ (PySem.call (Value.ref _) _ _) _ _ _)); (fail_if_success (with_reducible show wpAny _ _ (exec (Stmt.While _ _ _ _) _) _ _ _)); (fail_if_success (with_reducible show wpAny _ _ (exec (Stmt.For _ _ _ _ _) _) _ _ _)); (first | walk1 | (dsimp only; walk1))) | (leave1; (try dsimp only)) | fail "no step"))
      refine ⟨_, _, rfl, F5, N5, ?_⟩
      have e : (reachP a1 b1 ways).take (i2 + 1) = (reachP a1 b1 ways).take i2 ++ [iabs (a1 * d1 - b1 * c1)] := by
        rw [List.take_add_one, show (reachP a1 b1 ways)[i2]? = some (iabs (a1 * d1 - b1 * c1)) from by simp [reachP, hs2]]
        rfl
      rw [e]
      exact hr2.append (.cons _ _ .nil)
  · clear F2 N2 d1 d2
    rintro h2 tk2 m2 _ F2 N2 ⟨svs, k, trips, oA, oB, dA, dB, rfl, cA, cB, hsv, hsl, htr, hm⟩
    have F2 := frPin _ F2 hm
    rw [hvl, List.take_of_length_le (by simp [sidesP])] at hsv
    change wpAny _ _ _ _ _ _
    (repeat' (first | (k_unfold; (try dsimp only)) | ((fail_if_success (with_reducible show wpAny _ _ (eval (PySem.Expr.ListComp _ _ _ _) _) _ _ _)); (fail_if_success (with_reducible show wpAny _ _ (PySem.call (Value.ref _) _ _) _ _ _)); (fail_if_success (with_reducible show wpAny _ _ (exec (Stmt.While _ _ _ _) _) _ _ _)); (fail_if_success (with_reducible show wpAny _ _ (exec (Stmt.For _ _ _ _ _) _) _ _ _)); (first | walk1 | (dsimp only; walk1))) | (leave1; (try dsimp only)) | fail "no step"))
    rename_i kF kN _ _
    refine hret _ _ _ _ ⟨D, svs, k, trips, rfl, rfl, hsv⟩ kF (fun p hp => kN p ?_)
    rcases List.mem_cons.mp hp with rfl | hp
    · exact .head _
    · exact .tail _ (.tail _ (.tail _ hp))
end Mine
end

section
open PySem PySem.W PyProof.Rows PyProof.V
namespace Mine
/-- a dict of texts to ints -/
def IsTab (w : World) (o : Obj) (c : List (Str × Int)) : Prop := ∃ kvs, o.IsDictOf (strKind (RowW.prog (OpenRow.toRowW (OpenLaw.row Challenge.rw_qc0005_01))) w) kvs ∧ FlatPairs PyData.str kvs (kdpD c)
theorem tabAt {w : World} {h₀ h : Heap} {L d : Addr} {o : Obj} {news : Led} {c : List (Str × Int)} (N : News h₀ L h news) (hm : (d, o) ∈ news) (lo : (d == sysModules) = false) (ht : IsTab w o c) : StrTab (RowW.prog (OpenRow.toRowW (OpenLaw.row Challenge.rw_qc0005_01))) w h d (kdpD c) :=
  let ⟨_, h1, h2⟩ := ht; TabAt.ofObj lo (N _ hm).1 h1 h2
theorem flat_at : ∀ {kvs : List (Str × Value)} {c : List (Str × Int)}, FlatPairs PyData.str kvs (kdpD c) → ∀ {i : Nat} {k : Str} {v : Value}, kvs[i]? = some (k, v) → ∃ n t, c[i]? = some (k, n) ∧ v = .int n t := by
  intro kvs c h
  generalize hD : kdpD c = D at h
  induction h generalizing c with
  | nil => intro i k v e; simp at e
  | @cons k' v' d' kvs' D' hv hr ih =>
    cases c with
    | nil => simp [kdpD] at hD
    | cons q c' =>
      simp only [kdpD, List.map_cons, List.cons.injEq, Prod.mk.injEq, PyData.str.injEq] at hD
      obtain ⟨⟨h1, h2⟩, h3⟩ := hD
      intro i k v e
      cases i with
      | zero =>
        simp only [List.getElem?_cons_zero, Option.some.injEq, Prod.mk.injEq] at e
        obtain ⟨rfl, rfl⟩ := e
        subst h2
        obtain ⟨t, ht⟩ := Flat.int_inv hv
        exact ⟨q.2, t, by simp [← h1], ht⟩
      | succ i =>
        obtain ⟨n, t, a, b⟩ := ih h3 (by simpa using e)
        exact ⟨n, t, by simpa using a, b⟩
theorem flat_len {kvs : List (Str × Value)} {c : List (Str × Int)} (h : FlatPairs PyData.str kvs (kdpD c)) : kvs.length = c.length := by
  have := h.length; rw [kdpD_length] at this; exact this.symm
set_option maxRecDepth 100000 in
set_option maxHeartbeats 8000000 in
theorem countS (w : World) (mean : ExcName → Option Value) (mg mb : Str → Option Value) (d : Addr) (o : Obj) (news : Led) (c : List (Str × Int)) (hm : (d, o) ∈ news) (lo : (d == sysModules) = false) (ht : IsTab w o c) :
    Says w mean mg mb 1 35 [.ref d] news (fun r news' => (∃ t, r = .int (c.map (·.2)).sum t) ∧ news' = news) := by
  obtain ⟨kvs, hd0, hf0⟩ := ht
  w_top off
  unfold Says
  k_fill
  intro dp un gd cn cs a ccd cl outer A₀ base h₀ L m s Q E B F X N T hk hd hu hret
  refine wpAny_mono (E := NoE) ?_ (fun _ _ h => h) (fun _ _ h => h.elim)
  refine wpAny_call ?_
  refine' code_def ?k1 ?k2 ?k3 ?k4 ?k5 ?kA ?kF ?kK ?k6 ?k7 ?k8 ?k9 ?kB ?_ ?c2 ?c3 ?c4 ?c5; (case kA => exact rfl); (case kF => exact rfl); (case kK => assumption); (case k1 => k_asm); (case k2 => k_asm); (case k3 => k_asm); (case k4 => k_asm); (case k5 => k_asm); (case k6 => k_is); (case k7 => k_is); (case k8 => ktr_room)
  (case k9 => exact BindsTo.of_eq rfl)
  (case c5 => decide); (case kB => exact locs rfl); (case c2 => exact rfl); (case c3 => exact rfl); (case c4 => exact rfl)
  k_whole; intro g' L' h' FG' F' N' B' X' T'
  refine wpAny_mono (E := NoE) ?_ (fun _ _ h => h) (fun _ _ h => h.elim)
  (try dsimp only); (try k_fold)
  (repeat' (first | (k_unfold; (try dsimp only)) | ((fail_if_success (with_reducible show wpAny _ _ (eval (PySem.Expr.ListComp _ _ _ _) _) _ _ _)); (fail_if_success (with_reducible show wpAny _ _ (PySem.call (Value.ref _) _ _) _ _ _)); (fail_if_success (with_reducible show wpAny _ _ (exec (Stmt.While _ _ _ _) _) _ _ _)); (fail_if_success (with_reducible show wpAny _ _ (exec (Stmt.For _ _ _ _ _) _) _ _ _)); (first | walk1 | (dsimp only; walk1))) | (leave1; (try dsimp only)) | fail "no step"))
  refine wpAny_For ?_
  (repeat' (first | (k_unfold; (try dsimp only)) | ((fail_if_success (with_reducible show wpAny _ _ (eval (PySem.Expr.ListComp _ _ _ _) _) _ _ _)); (fail_if_success (with_reducible show wpAny _ _ (PySem.call (Value.ref _) _ _) _ _ _)); (fail_if_success (with_reducible show wpAny _ _ (exec (Stmt.While _ _ _ _) _) _ _ _)); (fail_if_success (with_reducible show wpAny _ _ (exec (Stmt.For _ _ _ _ _) _) _ _ _)); (first | walk1 | (dsimp only; walk1))) | (leave1; (try dsimp only)) | fail "no step"))
  rename_i D _ F2 N2 lt1
  have hlen := flat_len hf0
  refine iter_vals hd0 (fun i m' news' => news' = news ∧ ∃ tn, Has m' [((Str.ofString "nc"), .int ((c.map (·.2)).take i).sum tn)]) rfl ⟨_, (N2 _ (.head _)).1, rfl, rfl⟩ F2 (fun p hp => N2 p (.tail _ hp)) ⟨rfl, _, rfl, trivial⟩ ?_ ?_ ?_
  · rintro i m' news ⟨rfl, _⟩; exact hm
  · clear F2 N2
    rintro i k v m₁ news h tk it hx ⟨rfl, tn, hm'⟩ hoff F₁ N₁
    have F₁ := frPin _ F₁ hm'
    obtain ⟨n, t, hc, rfl⟩ := flat_at hf0 hx
    refine wpAny_assign_Name (stN F₁ N₁ fun h3 F3 N3 => ?_)
    clear F₁ N₁
    (repeat' (first | (k_unfold; (try dsimp only)) | ((fail_if_success (with_reducible show wpAny _ _ (eval (PySem.Expr.ListComp _ _ _ _) _) _ _ _)); (fail_if_success (with_reducible show wpAny _ _ (PySem.call (Value.ref _) _ _) _ _ _)); (fail_if_success (with_reducible show wpAny _ _ (exec (Stmt.While _ _ _ _) _) _ _ _)); (fail_if_success (with_reducible show wpAny _ _ (exec (Stmt.For _ _ _ _ _) _) _ _ _)); (first | walk1 | (dsimp only; walk1))) | (leave1; (try dsimp only)) | fail "no step"))
    rename_i F4 N4
    have e : ((c.map (·.2)).take (i + 1)).sum = ((c.map (·.2)).take i).sum + n := by
      rw [List.take_add_one, show (c.map (·.2))[i]? = some n from by simp [hc]]
      simp
    exact turn_next F4 N4 hoff ⟨rfl, _, congrArg (fun z => some (Value.int z _)) e.symm, trivial⟩
  · clear F2 N2
    rintro h2 tk2 m2 news F2 N2 ⟨rfl, tn, hm'⟩
    have F2 := frPin _ F2 hm'
    rw [hlen, List.take_of_length_le (by simp)] at F2
    change wpAny _ _ _ _ _ _
    (repeat' (first | (k_unfold; (try dsimp only)) | ((fail_if_success (with_reducible show wpAny _ _ (eval (PySem.Expr.ListComp _ _ _ _) _) _ _ _)); (fail_if_success (with_reducible show wpAny _ _ (PySem.call (Value.ref _) _ _) _ _ _)); (fail_if_success (with_reducible show wpAny _ _ (exec (Stmt.While _ _ _ _) _) _ _ _)); (fail_if_success (with_reducible show wpAny _ _ (exec (Stmt.For _ _ _ _ _) _) _ _ _)); (first | walk1 | (dsimp only; walk1))) | (leave1; (try dsimp only)) | fail "no step"))
    rename_i kF kN _ _
    exact hret _ _ _ _ ⟨⟨_, rfl⟩, rfl⟩ kF kN
end Mine
end

section
open PySem PySem.W PyProof.Rows PyProof.V
namespace Mine
def addOne (acc : List (Str × Int)) (p : Str × Int) : List (Str × Int) := if kdpHas acc p.1 then kdpPut acc p.1 (kdpLook acc p.1 0 + p.2) else kdpPut acc p.1 p.2
def putOne (acc : List (Str × Int)) (p : Str × Int) : List (Str × Int) := kdpPut acc p.1 p.2
def addC (c1 c2 : List (Str × Int)) : List (Str × Int) := c2.foldl addOne (c1.foldl putOne [])
set_option maxRecDepth 100000 in
set_option maxHeartbeats 8000000 in
theorem addCS (w : World) (mean : ExcName → Option Value) (mg mb : Str → Option Value) (d1 d2 : Addr) (o1 o2 : Obj) (news : Led) (c1 c2 : List (Str × Int)) (hm1 : (d1, o1) ∈ news) (hm2 : (d2, o2) ∈ news) (lo1 : (d1 == sysModules) = false) (lo2 : (d2 == sysModules) = false) (ht1 : IsTab w o1 c1) (ht2 : IsTab w o2 c2) (hz : c1.length < 1000 ∧ c2.length < 1000) :
    Says w mean mg mb 1 28 [.ref d1, .ref d2] news (fun r news' => ∃ D o, r = .ref D ∧ (D == sysModules) = false ∧ IsTab w o (addC c1 c2) ∧ (∀ p ∈ news, p.1 ≠ D) ∧ news' = (D, o) :: news) := by
  obtain ⟨kvs1, hd1, hf1⟩ := ht1
  obtain ⟨kvs2, hd2, hf2⟩ := ht2
  w_top off
  unfold Says
  k_fill
  intro dp un gd cn cs a ccd cl outer A₀ base h₀ L m s Q E B F X N T hk hd hu hret
  refine wpAny_mono (E := NoE) ?_ (fun _ _ h => h) (fun _ _ h => h.elim)
  refine wpAny_call ?_
  refine' code_def ?k1 ?k2 ?k3 ?k4 ?k5 ?kA ?kF ?kK ?k6 ?k7 ?k8 ?k9 ?kB ?_ ?c2 ?c3 ?c4 ?c5; (case kA => exact rfl); (case kF => exact rfl); (case kK => assumption); (case k1 => k_asm); (case k2 => k_asm); (case k3 => k_asm); (case k4 => k_asm); (case k5 => k_asm); (case k6 => k_is); (case k7 => k_is); (case k8 => ktr_room)
  (case k9 => exact BindsTo.of_eq rfl)
  (case c5 => decide); (case kB => exact locs rfl); (case c2 => exact rfl); (case c3 => exact rfl); (case c4 => exact rfl)
  k_whole; intro g' L' h' FG' F' N' B' X' T'
  refine wpAny_mono (E := NoE) ?_ (fun _ _ h => h) (fun _ _ h => h.elim)
  (try dsimp only); (try k_fold)
  (repeat' (first | (k_unfold; (try dsimp only)) | ((fail_if_success (with_reducible show wpAny _ _ (eval (PySem.Expr.ListComp _ _ _ _) _) _ _ _)); (fail_if_success (with_reducible show wpAny _ _ (PySem.call (Value.ref _) _ _) _ _ _)); (fail_if_success (with_reducible show wpAny _ _ (exec (Stmt.While _ _ _ _) _) _ _ _)); (fail_if_success (with_reducible show wpAny _ _ (exec (Stmt.For _ _ _ _ _) _) _ _ _)); (first | walk1 | (dsimp only; walk1))) | (leave1; (try dsimp only)) | fail "no step"))
  rename_i D _ oD lt1 loD hs' fs' hi' fi' _ F2 N2
  clear hi' fi'
  have hne : ∀ p ∈ news, p.1 ≠ D := fun p hp => Nat.ne_of_lt (lt1 p hp)
  have hm1' : (d1, o1) ∈ (D, oD) :: news := .tail _ hm1
  refine wpAny_For ?_
  (repeat' (first | (k_unfold; (try dsimp only)) | ((fail_if_success (with_reducible show wpAny _ _ (eval (PySem.Expr.ListComp _ _ _ _) _) _ _ _)); (fail_if_success (with_reducible show wpAny _ _ (PySem.call (Value.ref _) _ _) _ _ _)); (fail_if_success (with_reducible show wpAny _ _ (exec (Stmt.While _ _ _ _) _) _ _ _)); (fail_if_success (with_reducible show wpAny _ _ (exec (Stmt.For _ _ _ _ _) _) _ _ _)); (first | walk1 | (dsimp only; walk1))) | (leave1; (try dsimp only)) | fail "no step"))
  rename_i D3 h3 F3 N3 lt3
  have hlen1 := flat_len hf1
  have hlen2 := flat_len hf2
  refine iter_items hd1 (fun i m' news' => ∃ o c, news' = (D, o) :: news ∧ IsTab w o c ∧ c = (c1.take i).foldl putOne [] ∧ c.length ≤ i ∧ Has m' [((Str.ofString "source"), .ref d2), ((Str.ofString "new_callers"), .ref D)]) rfl ⟨_, (N3 _ (.head _)).1, rfl, rfl⟩ F3 (fun p hp => N3 p (.tail _ hp)) ⟨oD, [], rfl, ⟨[], hs', fs'⟩, rfl, Nat.le_refl _, rfl, rfl, trivial⟩ ?_ ?_ ?_
  · rintro i m' _ ⟨o, c, rfl, _⟩; exact .tail _ hm1
  · clear F3 N3
    rintro i k key val T m₁ _ h tk it hx hkey htup ⟨o, c, rfl, ⟨kvs, hdo, hfo⟩, hce, hcl, hm'⟩ hoff F₁ N₁
    have F₁ := frPin _ F₁ hm'
    obtain ⟨n, t, hc, rfl⟩ := flat_at hf1 hx
    obtain ⟨tk0, rfl⟩ := Value.isStrOf_shape hkey
    have hil : i < c1.length := (List.getElem?_eq_some_iff.mp hc).1
    refine assignTo2T rfl F₁ N₁ htup fun h4 tk4 F4 N4 => ?_
    clear F₁ N₁
    (repeat' (first | (k_unfold; (try dsimp only)) | ((fail_if_success (with_reducible show wpAny _ _ (eval (PySem.Expr.ListComp _ _ _ _) _) _ _ _)); (fail_if_success (with_reducible show wpAny _ _ (PySem.call (Value.ref _) _ _) _ _ _)); (fail_if_success (with_reducible show wpAny _ _ (exec (Stmt.While _ _ _ _) _) _ _ _)); (fail_if_success (with_reducible show wpAny _ _ (exec (Stmt.For _ _ _ _ _) _) _ _ _)); (first | walk1 | (dsimp only; walk1))) | (leave1; (try dsimp only)) | fail "no step"))
    have itD : it.1 ≠ D := fun e => hoff (D, o) (.head _) e.symm
    refine kdp_setItem (d := D) (k := k) F4 N4 (UpdF.tail itD (UpdF.head hne)) hdo hfo (by omega) ?_
    intro h5 o5 kvs5 F5 N5 hd5 hf5
    clear F4 N4
    (repeat' (first | (k_unfold; (try dsimp only)) | ((fail_if_success (with_reducible show wpAny _ _ (eval (PySem.Expr.ListComp _ _ _ _) _) _ _ _)); (fail_if_success (with_reducible show wpAny _ _ (PySem.call (Value.ref _) _ _) _ _ _)); (fail_if_success (with_reducible show wpAny _ _ (exec (Stmt.While _ _ _ _) _) _ _ _)); (fail_if_success (with_reducible show wpAny _ _ (exec (Stmt.For _ _ _ _ _) _) _ _ _)); (first | walk1 | (dsimp only; walk1))) | (leave1; (try dsimp only)) | fail "no step"))
    have hpl := kdpPut_len c k n
    refine turn_next F5 N5 ?_ ⟨o5, _, rfl, ⟨kvs5, hd5, hf5⟩, ?_, by omega, rfl, rfl, trivial⟩
    · intro p hp
      rcases List.mem_cons.mp hp with rfl | hp
      · exact itD.symm
      · exact hoff p (.tail _ hp)
    · rw [List.take_add_one, hc, hce]
      simp [List.foldl_append, putOne]
  · clear F3 N3
    rintro h4 tk4 m4 _ F4 N4 ⟨o, c, rfl, ⟨kvs, hdo, hfo⟩, hce, hcl, hm'⟩
    rw [hlen1, List.take_of_length_le (Nat.le_refl _)] at hce
    have F4 := frPin _ F4 hm'
    have hm2' : (d2, o2) ∈ (D, o) :: news := .tail _ hm2
    change wpAny _ _ _ _ _ _
    (repeat' (first | (k_unfold; (try dsimp only)) | ((fail_if_success (with_reducible show wpAny _ _ (eval (PySem.Expr.ListComp _ _ _ _) _) _ _ _)); (fail_if_success (with_reducible show wpAny _ _ (PySem.call (Value.ref _) _ _) _ _ _)); (fail_if_success (with_reducible show wpAny _ _ (exec (Stmt.While _ _ _ _) _) _ _ _)); (fail_if_success (with_reducible show wpAny _ _ (exec (Stmt.For _ _ _ _ _) _) _ _ _)); (first | walk1 | (dsimp only; walk1))) | (leave1; (try dsimp only)) | fail "no step"))
    refine wpAny_For ?_
    (repeat' (first | (k_unfold; (try dsimp only)) | ((fail_if_success (with_reducible show wpAny _ _ (eval (PySem.Expr.ListComp _ _ _ _) _) _ _ _)); (fail_if_success (with_reducible show wpAny _ _ (PySem.call (Value.ref _) _ _) _ _ _)); (fail_if_success (with_reducible show wpAny _ _ (exec (Stmt.While _ _ _ _) _) _ _ _)); (fail_if_success (with_reducible show wpAny _ _ (exec (Stmt.For _ _ _ _ _) _) _ _ _)); (first | walk1 | (dsimp only; walk1))) | (leave1; (try dsimp only)) | fail "no step"))
    rename_i D5 h5 F5 N5 lt5
    refine iter_items hd2 (fun i m' news' => ∃ o c, news' = (D, o) :: news ∧ IsTab w o c ∧ c = (c2.take i).foldl addOne (c1.foldl putOne []) ∧ c.length ≤ 1000 + i ∧ Has m' [((Str.ofString "new_callers"), .ref D)]) rfl ⟨_, (N5 _ (.head _)).1, rfl, rfl⟩ F5 (fun p hp => N5 p (.tail _ hp)) ⟨o, c, rfl, ⟨kvs, hdo, hfo⟩, hce, by omega, rfl, trivial⟩ ?_ ?_ ?_
    · rintro i m' _ ⟨o, c, rfl, _⟩; exact .tail _ hm2
    · clear F5 N5 F4 N4 hdo hfo hce hcl hm2' hm'
      rintro i k key val T m₁ _ h tk it hx hkey htup ⟨o, c, rfl, ⟨kvs, hdo, hfo⟩, hce, hcl, hm'⟩ hoff F₁ N₁
      have F₁ := frPin _ F₁ hm'
      obtain ⟨n, t, hc, rfl⟩ := flat_at hf2 hx
      obtain ⟨tk0, rfl⟩ := Value.isStrOf_shape hkey
      have hil : i < c2.length := (List.getElem?_eq_some_iff.mp hc).1
      have itD : it.1 ≠ D := fun e => hoff (D, o) (.head _) e.symm
      have hmD : (D, o) ∈ it :: (D, o) :: news := .tail _ (.head _)
      refine assignTo2T rfl F₁ N₁ htup fun h4 tk4 F4 N4 => ?_
      clear F₁ N₁
      have hit : IsTab w o c := ⟨kvs, hdo, hfo⟩
      have hpl := kdpPut_len c k n
      have hpl2 := kdpPut_len c k (kdpLook c k 0 + n)
      have fin : ∀ {c'}, c' = addOne c (k, n) → c' = (c2.take (i + 1)).foldl addOne (c1.foldl putOne []) := by
        intro c' e
        rw [List.take_add_one, hc, e, hce]
        simp [List.foldl_append]
      (repeat' (first | (k_unfold; (try dsimp only)) | ((fail_if_success (with_reducible show wpAny _ _ (eval (PySem.Expr.ListComp _ _ _ _) _) _ _ _)); (fail_if_success (with_reducible show wpAny _ _ (PySem.call (Value.ref _) _ _) _ _ _)); (fail_if_success (with_reducible show wpAny _ _ (exec (Stmt.While _ _ _ _) _) _ _ _)); (fail_if_success (with_reducible show wpAny _ _ (exec (Stmt.For _ _ _ _ _) _) _ _ _)); (first | walk1 | (dsimp only; walk1))) | (leave1; (try dsimp only)) | fail "no step"))
      · have hk0 : Option.isSome (Spec.lookup (PyData.str k) (kdpD c)) = true := by assumption
        rw [kdpD_isSome] at hk0
        refine kdp_getItem (d := D) (tabAt N4 hmD loD hit) hk0 (fun t9 => ?_)
        change wpAny _ _ _ _ _ _
        (repeat' (first | (k_unfold; (try dsimp only)) | ((fail_if_success (with_reducible show wpAny _ _ (eval (PySem.Expr.ListComp _ _ _ _) _) _ _ _)); (fail_if_success (with_reducible show wpAny _ _ (PySem.call (Value.ref _) _ _) _ _ _)); (fail_if_success (with_reducible show wpAny _ _ (exec (Stmt.While _ _ _ _) _) _ _ _)); (fail_if_success (with_reducible show wpAny _ _ (exec (Stmt.For _ _ _ _ _) _) _ _ _)); (first | walk1 | (dsimp only; walk1))) | (leave1; (try dsimp only)) | fail "no step"))
        rename_i o5 F5 N5 hd5 hf5
        rw [kdpD_put] at hf5
        refine turn_next F5 N5 ?_ ⟨o5, _, rfl, ⟨_, hd5, hf5⟩, fin ?_, by omega, rfl, trivial⟩
        · intro p hp
          rcases List.mem_cons.mp hp with rfl | hp
          · exact itD.symm
          · exact hoff p (.tail _ hp)
        · unfold addOne
          rw [if_pos hk0]
      · rename_i o5 F5 N5 hd5 hf5
        have hk0 : Option.isSome (Spec.lookup (PyData.str k) (kdpD c)) = false := by assumption
        rw [kdpD_isSome] at hk0
        rw [kdpD_put] at hf5
        refine turn_next F5 N5 ?_ ⟨o5, _, rfl, ⟨_, hd5, hf5⟩, fin ?_, by omega, rfl, trivial⟩
        · intro p hp
          rcases List.mem_cons.mp hp with rfl | hp
          · exact itD.symm
          · exact hoff p (.tail _ hp)
        · unfold addOne
          rw [if_neg (by rw [hk0]; decide)]
    · clear F5 N5 F4 N4 hdo hfo hce hcl hm2' hm'
      rintro h6 tk6 m6 _ F6 N6 ⟨o, c, rfl, ht6, hce, hcl, hm'⟩
      rw [hlen2, List.take_of_length_le (Nat.le_refl _)] at hce
      have F6 := frPin _ F6 hm'
      change wpAny _ _ _ _ _ _
      (repeat' (first | (k_unfold; (try dsimp only)) | ((fail_if_success (with_reducible show wpAny _ _ (eval (PySem.Expr.ListComp _ _ _ _) _) _ _ _)); (fail_if_success (with_reducible show wpAny _ _ (PySem.call (Value.ref _) _ _) _ _ _)); (fail_if_success (with_reducible show wpAny _ _ (exec (Stmt.While _ _ _ _) _) _ _ _)); (fail_if_success (with_reducible show wpAny _ _ (exec (Stmt.For _ _ _ _ _) _) _ _ _)); (first | walk1 | (dsimp only; walk1))) | (leave1; (try dsimp only)) | fail "no step"))
      rename_i kF kN _ _
      exact hret _ _ _ _ ⟨D, o, rfl, loD, (by rw [hce] at ht6; exact ht6), hne, rfl⟩ kF kN
end Mine
end

section
open PySem PySem.W PyProof.Rows PyProof.V
namespace Mine
set_option maxRecDepth 100000 in
set_option maxHeartbeats 8000000 in
theorem addFS (w : World) (mean : ExcName → Option Value) (mg mb : Str → Option Value) (e1 e2 d1 d2 : Addr) (o1 o2 : Obj) (news : Led) (c1 c2 : List (Str × Int)) (x1 x2 x3 x4 y1 y2 y3 y4 : Int) (s1 s2 s3 s4 u1 u2 u3 u4 : Tok) (j1 j2 : Nat)
    (he1 : (e1, tupO [.int x1 s1, .int x2 s2, .int x3 s3, .int x4 s4, .ref d1] j1) ∈ news) (he2 : (e2, tupO [.int y1 u1, .int y2 u2, .int y3 u3, .int y4 u4, .ref d2] j2) ∈ news)
    (hm1 : (d1, o1) ∈ news) (hm2 : (d2, o2) ∈ news) (lo1 : (d1 == sysModules) = false) (lo2 : (d2 == sysModules) = false) (ht1 : IsTab w o1 c1) (ht2 : IsTab w o2 c2) (hz : c1.length < 1000 ∧ c2.length < 1000) :
    Says w mean mg mb 2 21 [.ref e1, .ref e2] news (fun r news' => ∃ D T o z1 z2 z3 z4 j, r = .ref T ∧ (D == sysModules) = false ∧ IsTab w o (addC c1 c2) ∧ (∀ p ∈ news, p.1 ≠ D ∧ p.1 ≠ T) ∧ D ≠ T ∧ news' = (T, tupO [.int (y1 + x1) z1, .int (y2 + x2) z2, .int (y3 + x3) z3, .int (y4 + x4) z4, .ref D] j) :: (D, o) :: news) := by
  w_top off
  unfold Says
  k_fill
  intro dp un gd cn cs a ccd cl outer A₀ base h₀ L m s Q E B F X N T hk hd hu hret
  refine wpAny_mono (E := NoE) ?_ (fun _ _ h => h) (fun _ _ h => h.elim)
  refine wpAny_call ?_
  refine' code_def ?k1 ?k2 ?k3 ?k4 ?k5 ?kA ?kF ?kK ?k6 ?k7 ?k8 ?k9 ?kB ?_ ?c2 ?c3 ?c4 ?c5; (case kA => exact rfl); (case kF => exact rfl); (case kK => assumption); (case k1 => k_asm); (case k2 => k_asm); (case k3 => k_asm); (case k4 => k_asm); (case k5 => k_asm); (case k6 => k_is); (case k7 => k_is); (case k8 => ktr_room)
  (case k9 => exact BindsTo.of_eq rfl)
  (case c5 => decide); (case kB => exact locs rfl); (case c2 => exact rfl); (case c3 => exact rfl); (case c4 => exact rfl)
  k_whole; intro g' L' h' FG' F' N' B' X' T'
  refine wpAny_mono (E := NoE) ?_ (fun _ _ h => h) (fun _ _ h => h.elim)
  (try dsimp only); (try k_fold)
  (repeat' (first | (k_unfold; (try dsimp only)) | ((fail_if_success (with_reducible show wpAny _ _ (eval (PySem.Expr.ListComp _ _ _ _) _) _ _ _)); (fail_if_success (with_reducible show wpAny _ _ (PySem.call (Value.ref _) _ _) _ _ _)); (fail_if_success (with_reducible show wpAny _ _ (exec (Stmt.While _ _ _ _) _) _ _ _)); (fail_if_success (with_reducible show wpAny _ _ (exec (Stmt.For _ _ _ _ _) _) _ _ _)); (first | walk1 | (dsimp only; walk1))) | (leave1; (try dsimp only)) | fail "no step"))
  rename_i F2 N2
  refine says_use (addCS w mean mg mb d1 d2 o1 o2 news c1 c2 hm1 hm2 lo1 lo2 ht1 ht2 hz) B' F2 X' N2 T' rfl (by show dp + 1 + 1 < _; omega) (by show un + 3 + 8 * 1 < _; omega) ?_
  rintro r _ h3 tk3 ⟨D, o, rfl, loD, htD, hneD, rfl⟩ F3 N3
  clear F2 N2
  (repeat' (first | (k_unfold; (try dsimp only)) | ((fail_if_success (with_reducible show wpAny _ _ (eval (PySem.Expr.ListComp _ _ _ _) _) _ _ _)); (fail_if_success (with_reducible show wpAny _ _ (PySem.call (Value.ref _) _ _) _ _ _)); (fail_if_success (with_reducible show wpAny _ _ (exec (Stmt.While _ _ _ _) _) _ _ _)); (fail_if_success (with_reducible show wpAny _ _ (exec (Stmt.For _ _ _ _ _) _) _ _ _)); (first | walk1 | (dsimp only; walk1))) | (leave1; (try dsimp only)) | fail "no step"))
  rename_i T h4 F4 N4 lt4 kF kN _ _
  refine hret _ _ _ _ ⟨D, T, o, _, _, _, _, _, rfl, loD, htD, fun p hp => ⟨hneD p hp, allLt_ne lt4.2 p hp⟩, Nat.ne_of_lt lt4.1, rfl⟩ kF kN
end Mine
end

section
open PySem PySem.Calls PySem.W PyProof.Rows
set_option maxRecDepth 100000
namespace Mine
theorem bindArgs_rest {fd : FuncData} {v : Value} {pvs : List Value} {p q : Arg} (hp : fd.params = { posonlyargs := [], args := [p], vararg := some q, kwonlyargs := [], kw_defaults := [], kwarg := none, defaults := [] }) (hd : fd.defaults = .none) :
    bindArgs fd ⟨v :: pvs, []⟩ = (newTuple pvs >>= fun t => pure [(p.arg, v), (q.arg, t)]) := by
  unfold bindArgs
  rw [hp, hd]
  have e : seqItems? .none = pure none := rfl
  rw [e]
  simp only [List.map_nil, List.map_cons, List.nil_append, Option.isNone_some, Bool.and_false, pure_bind]
  simp
section
variable {prog : Program} {w : World} {A₀ A : Around} {s : Shared} {base h₀ : Heap} {outer : List Env} {L : Addr} {m : Str → Option Value} {env : Env} {news : Led} {K : Frag} {p : Program} {loose : List Str} {mean : ExcName → Option Value} {mg mb : Str → Option Value}
  {R : Result → Shared → Prop} {name qual : Str} {params : Arguments} {body : List Stmt} {scope : Scope} {dV kV doc pm cdv ct oc : Value} {an od : Option Addr} {osl : Array (Option Value)} {f : Addr} {args : Args} {vs : List Value} {binds : Value → List (Str × Value)}
theorem code_rest (B : Below A₀ base outer h₀) (F : Fr h₀ L s.heap m) (X₀ : K.In h₀) (N : News h₀ L s.heap news) (T : Top p loose mean mg mb h₀) (hA : A.frames = some (env :: outer)) (hf : env.frame = some L) (hke : env.scope.kind = .function)
    (ho : K.lookup f = some ⟨oc, od, .func (fnOf name qual params body scope dV kV doc pm an cdv ct), osl⟩) (hcd : codeIn K cdv qual = true) (hroom : A.depth < recursionLimit)
    (hb : bindArgs (fnOf name qual params body scope dV kV doc pm an cdv ct) args = (newTuple vs >>= fun t => pure (binds t))) (hsz : vs.length ≤ sizeLine)
    (hloc : ∀ D, ∀ y ∈ binds D, scope.names.lookup y.1 = some .local)
    (h : ∀ D g L' h₁, (∀ p ∈ news, p.1 < D) → Fr h₀ L g m → Fr g L' h₁ (fun y => (binds (.ref D)).reverse.lookup y) → News g L' h₁ ((D, tupO vs 0) :: news) → Below A base (env :: outer) g → K.In g → Top p loose mean mg mb g →
      wpAny (model prog w) (A.deeper (envOf qual scope L' f cdv)) (execs body (envOf qual scope L' f cdv))
        (fun fl s' => LeaveK h₀ L m g R (match fl with | .ret v => v | _ => .none) s')
        (fun e s' => wpAny (model prog w) (A.deeper (envOf qual scope L' f cdv)) (leaving (envOf qual scope L' f cdv) e) (fun _ s'' => R (.error e) s'') (fun e' s'' => R (.error e') s'') s')
        { s with heap := h₁, toks := s.toks + (binds (.ref D)).length })
    (hco : scope.isCoroutine = false) (hgen : scope.isGenerator = false) (hk : scope.kind = .function)
    (hcell : ∀ x ∈ scope.names, x.2 ≠ .cell) : codeAny (model prog w) A (.call (.ref f) args) R s := by
  refine codeAny_call_function (fd := fnOf name qual params body scope dV kV doc pm an cdv ct) (body := body) hroom ((X₀.keeps F.keep) _ _ ho) rfl hco hgen rfl (codeRec_of (X₀.keeps F.keep) hcd) ?_
  rw [hb]
  refine wpAny_bind (newTuple_N F N (fun h' F' N' => wpAny_pure ?_) hsz)
  exact kp_frame (cl := []) (s := { s with heap := h' }) B F' N' T.nolimit hA hf hke (hloc _) (fun g L' h₁ FG FL NG BG st => h _ g L' h₁ (fun p hp => Heap.lt_size (N p hp).1) FG FL NG BG (X₀.keeps st) (T.keeps st)) hcell hk
end
/-- what replace makes -/
def replP : Str → List Str → Str
  | x, p0 :: p1 :: r => replP (Txt.join p1 (Txt.split x p0)) r
  | x, _ => x
def okP : Str → List Str → Prop
  | x, p0 :: p1 :: r => x.length ≤ 1000 ∧ (p0.length == 0) = false ∧ ((Txt.split x p0).map (·.length)).sum + (Txt.split x p0).length * p1.length ≤ 16777216 ∧ okP (Txt.join p1 (Txt.split x p0)) r
  | _, [] => True
  | _, [_] => False
set_option maxRecDepth 100000 in
set_option maxHeartbeats 8000000 in
theorem replS (w : World) (mean : ExcName → Option Value) (mg mb : Str → Option Value) (x : Str) (ps : List Str) (pvs : List Value) (t1 : Tok) (news : Led) (hs : StrsAre pvs ps) (ok : okP x ps) (hl : ps.length < 1000) :
    Says w mean mg mb 1 60 (.str x t1 :: pvs) news (fun r news' => (∃ t, r = .str (replP x ps) t) ∧ news' = news) := by
  have hpl := strsAre_len hs
  have hsl := sizeLine_eq
  w_top off
  unfold Says
  k_fill
  intro dp un gd cn cs a ccd cl outer A₀ base h₀ L m s Q E B F X N T hk hd hu hret
  refine wpAny_mono (E := NoE) ?_ (fun _ _ h => h) (fun _ _ h => h.elim)
  refine wpAny_call ?_
  refine' code_rest (vs := pvs) ?k1 ?k2 ?k3 ?k4 ?k5 ?kA ?kF ?kK ?k6 ?k7 ?k8 ?kP ?kZ ?kB ?_ ?c2 ?c3 ?c4 ?c5; (case kA => exact rfl); (case kF => exact rfl); (case kK => assumption); (case k1 => k_asm); (case k2 => k_asm); (case k3 => k_asm); (case k4 => k_asm); (case k5 => k_asm); (case k6 => k_is); (case k7 => k_is); (case k8 => ktr_room); (case kP => exact bindArgs_rest rfl rfl); (case kZ => (rw [hsl]; omega)); (case kB => exact fun _ => locs rfl); (case c5 => decide); (case c2 => exact rfl); (case c3 => exact rfl); (case c4 => exact rfl)
  k_whole; intro D' g' L' h' l1 FG' F' N' B' X' T'
  refine wpAny_mono (E := NoE) ?_ (fun _ _ h => h) (fun _ _ h => h.elim)
  (try dsimp only);  (try k_fold)
  (repeat' (first | (k_unfold; (try dsimp only)) | ((fail_if_success (with_reducible show wpAny _ _ (eval (PySem.Expr.ListComp _ _ _ _) _) _ _ _)); (fail_if_success (with_reducible show wpAny _ _ (PySem.call (Value.ref _) _ _) _ _ _)); (fail_if_success (with_reducible show wpAny _ _ (exec (Stmt.While _ _ _ _) _) _ _ _)); (fail_if_success (with_reducible show wpAny _ _ (exec (Stmt.For _ _ _ _ _) _) _ _ _)); (first | walk1 | (dsimp only; walk1))) | (leave1; (try dsimp only)) | fail "no step"))
  refine while_led (fun k m' news' => ∃ x' ps' pvs' tx D j, k = ps'.length ∧ news' = (D, tupO pvs' j) :: news ∧ StrsAre pvs' ps' ∧ okP x' ps' ∧ replP x' ps' = replP x ps ∧ ps'.length ≤ ps.length ∧ Has m' [((Str.ofString "text"), .str x' tx), ((Str.ofString "pairs"), .ref D)])
    ps.length F' N' ⟨x, ps, pvs, t1, D', 0, rfl, rfl, hs, ok, rfl, Nat.le_refl _, rfl, rfl, trivial⟩ ?_
  clear F' N' hs ok
  rintro k m₁ _ h tk ⟨x', ps', pvs', tx, D, j, rfl, rfl, hs, ok, hr, hl', hm⟩ F₁ N₁
  have F₁ := frPin _ F₁ hm
  cases hs with
  | nil =>
    (repeat' (first | (k_unfold; (try dsimp only)) | ((fail_if_success (with_reducible show wpAny _ _ (eval (PySem.Expr.ListComp _ _ _ _) _) _ _ _)); (fail_if_success (with_reducible show wpAny _ _ (PySem.call (Value.ref _) _ _) _ _ _)); (fail_if_success (with_reducible show wpAny _ _ (exec (Stmt.While _ _ _ _) _) _ _ _)); (fail_if_success (with_reducible show wpAny _ _ (exec (Stmt.For _ _ _ _ _) _) _ _ _)); (first | walk1 | (dsimp only; walk1))) | (leave1; (try dsimp only)) | fail "no step"))
    refine truthy_tuple (News.isTup N₁ (.head _)) (by decide) ?_
    (repeat' (first | (k_unfold; (try dsimp only)) | ((fail_if_success (with_reducible show wpAny _ _ (eval (PySem.Expr.ListComp _ _ _ _) _) _ _ _)); (fail_if_success (with_reducible show wpAny _ _ (PySem.call (Value.ref _) _ _) _ _ _)); (fail_if_success (with_reducible show wpAny _ _ (exec (Stmt.While _ _ _ _) _) _ _ _)); (fail_if_success (with_reducible show wpAny _ _ (exec (Stmt.For _ _ _ _ _) _) _ _ _)); (first | walk1 | (dsimp only; walk1))) | (leave1; (try dsimp only)) | fail "no step"))
    rename_i kF kN _ _
    exact hret _ _ _ _ ⟨⟨_, by rw [← hr]; rfl⟩, rfl⟩ kF (fun p hp => kN p (.tail _ hp))
  | cons p0 a0 hs =>
    cases hs with
    | nil => exact ok.elim
    | @cons p1 a1 qvs qs hs =>
      obtain ⟨ok1, ok2, ok3, ok4⟩ := ok
      (repeat' (first | (k_unfold; (try dsimp only)) | ((fail_if_success (with_reducible show wpAny _ _ (eval (PySem.Expr.ListComp _ _ _ _) _) _ _ _)); (fail_if_success (with_reducible show wpAny _ _ (PySem.call (Value.ref _) _ _) _ _ _)); (fail_if_success (with_reducible show wpAny _ _ (exec (Stmt.While _ _ _ _) _) _ _ _)); (fail_if_success (with_reducible show wpAny _ _ (exec (Stmt.For _ _ _ _ _) _) _ _ _)); (first | walk1 | (dsimp only; walk1))) | (leave1; (try dsimp only)) | fail "no step"))
      have hql := strsAre_len hs
      refine truthy_tuple (News.isTup N₁ (.head _)) (by simp at hl' ⊢; omega) ?_
      (repeat' (first | (k_unfold; (try dsimp only)) | ((fail_if_success (with_reducible show wpAny _ _ (eval (PySem.Expr.ListComp _ _ _ _) _) _ _ _)); (fail_if_success (with_reducible show wpAny _ _ (PySem.call (Value.ref _) _ _) _ _ _)); (fail_if_success (with_reducible show wpAny _ _ (exec (Stmt.While _ _ _ _) _) _ _ _)); (fail_if_success (with_reducible show wpAny _ _ (exec (Stmt.For _ _ _ _ _) _) _ _ _)); (first | walk1 | (dsimp only; walk1))) | (leave1; (try dsimp only)) | fail "no step"))
      · exact absurd (by assumption : Array.isEmpty (List.toArray (Value.str p0 a0 :: Value.str p1 a1 :: qvs)) = true) (by simp)
      · refine item_tupleL (News.isTup N₁ (.head _)) (by decide) (by decide) (j := 1) (by simp [seqIndex?]; omega) rfl ?_
        (repeat' (first | (k_unfold; (try dsimp only)) | ((fail_if_success (with_reducible show wpAny _ _ (eval (PySem.Expr.ListComp _ _ _ _) _) _ _ _)); (fail_if_success (with_reducible show wpAny _ _ (PySem.call (Value.ref _) _ _) _ _ _)); (fail_if_success (with_reducible show wpAny _ _ (exec (Stmt.While _ _ _ _) _) _ _ _)); (fail_if_success (with_reducible show wpAny _ _ (exec (Stmt.For _ _ _ _ _) _) _ _ _)); (first | walk1 | (dsimp only; walk1))) | (leave1; (try dsimp only)) | fail "no step"))
        refine item_tupleL (News.isTup N₁ (.head _)) (by decide) (by decide) (j := 0) (by simp [seqIndex?]; omega) rfl ?_
        (repeat' (first | (k_unfold; (try dsimp only)) | ((fail_if_success (with_reducible show wpAny _ _ (eval (PySem.Expr.ListComp _ _ _ _) _) _ _ _)); (fail_if_success (with_reducible show wpAny _ _ (PySem.call (Value.ref _) _ _) _ _ _)); (fail_if_success (with_reducible show wpAny _ _ (exec (Stmt.While _ _ _ _) _) _ _ _)); (fail_if_success (with_reducible show wpAny _ _ (exec (Stmt.For _ _ _ _ _) _) _ _ _)); (first | walk1 | (dsimp only; walk1))) | (leave1; (try dsimp only)) | fail "no step"))
        rename_i l2 h2 k2 el hsa hle hil F2 N2
        rw [el] at hsa
        have N2 : News g' L' h2 ((D, tupO (Value.str p0 a0 :: Value.str p1 a1 :: qvs) j) :: news) := fun p hp => N2 p (.tail _ hp)
        refine join_list hil (by simpa using hsa) ok3 (fun t3 k3 => ?_)
        change wpAny _ _ _ _ _ _
        (repeat' (first | (k_unfold; (try dsimp only)) | ((fail_if_success (with_reducible show wpAny _ _ (eval (PySem.Expr.ListComp _ _ _ _) _) _ _ _)); (fail_if_success (with_reducible show wpAny _ _ (PySem.call (Value.ref _) _ _) _ _ _)); (fail_if_success (with_reducible show wpAny _ _ (exec (Stmt.While _ _ _ _) _) _ _ _)); (fail_if_success (with_reducible show wpAny _ _ (exec (Stmt.For _ _ _ _ _) _) _ _ _)); (first | walk1 | (dsimp only; walk1))) | (leave1; (try dsimp only)) | fail "no step"))
        rename_i h4 F4 N4
        refine slice_tuple_from F4 N4 (News.isTup N4 (.head _)) (a := 2) (by decide) (by simp) (fun h5 F5 N5 => ?_) (hsz := by rw [hsl]; simp at hl' ⊢; omega)
        change wpAny _ _ _ _ _ _
        (repeat' (first | (k_unfold; (try dsimp only)) | ((fail_if_success (with_reducible show wpAny _ _ (eval (PySem.Expr.ListComp _ _ _ _) _) _ _ _)); (fail_if_success (with_reducible show wpAny _ _ (PySem.call (Value.ref _) _ _) _ _ _)); (fail_if_success (with_reducible show wpAny _ _ (exec (Stmt.While _ _ _ _) _) _ _ _)); (fail_if_success (with_reducible show wpAny _ _ (exec (Stmt.For _ _ _ _ _) _) _ _ _)); (first | walk1 | (dsimp only; walk1))) | (leave1; (try dsimp only)) | fail "no step"))
        rename_i h6 F6 N6
        refine while_next F6 (fun p hp => N6 p ?_) ⟨qs.length, by simp; omega, _, qs, qvs, _, _, 0, rfl, rfl, hs, ok4, by rw [← hr]; rfl, by simp at hl'; omega, rfl, rfl, trivial⟩
        rcases List.mem_cons.mp hp with rfl | hp
        · exact .head _
        · exact .tail _ (.tail _ hp)
end Mine
end

section
open PySem PySem.W PyProof.Rows
namespace Mine
def wordGo : Nat → Int → Int → List Str → Int × Int × List Str
  | 0, a, b, ps => (a, b, ps)
  | k + 1, a, b, ps => if 0 < a ∧ 0 < b then (if b ≤ a then wordGo k (a - b) b ((Str.ofString "u") :: (Str.ofString "ru") :: ps) else wordGo k a (b - a) ((Str.ofString "r") :: (Str.ofString "ru") :: ps)) else (a, b, ps)
def wordText (a b : Int) : Str := Txt.mul (Str.ofString "r") (wordGo 7 a b []).1 ++ Txt.mul (Str.ofString "u") (wordGo 7 a b []).2.1
def wordP (a b : Int) : Str := replP (wordText a b) (wordGo 7 a b []).2.2
theorem news13 {h₀ h : Heap} {L : Addr} {p q r : Addr × Obj} {news : Led} (N : News h₀ L h (p :: q :: r :: news)) : News h₀ L h (p :: news) := fun x hx => by
  rcases List.mem_cons.mp hx with rfl | hx
  · exact N _ (.head _)
  · exact N _ (.tail _ (.tail _ (.tail _ hx)))
set_option maxRecDepth 100000 in
set_option maxHeartbeats 8000000 in
theorem wordS (w : World) (mean : ExcName → Option Value) (mg mb : Str → Option Value) (a0 b0 : Int) (t1 t2 : Tok) (news : Led) (ha : 0 ≤ a0 ∧ a0 ≤ 3) (hb : 0 ≤ b0 ∧ b0 ≤ 3) (hok : okP (wordText a0 b0) (wordGo 7 a0 b0 []).2.2) :
    Says w mean mg mb 2 72 [.int a0 t1, .int b0 t2] news (fun r news' => (∃ t, r = .str (wordP a0 b0) t) ∧ news' = news) := by
  obtain ⟨ha1, ha2⟩ := ha
  obtain ⟨hb1, hb2⟩ := hb
  w_top off
  unfold Says
  k_fill
  intro dp un gd cn cs a ccd cl outer A₀ base h₀ L m s Q E B F X N T hk hd hu hret
  refine wpAny_mono (E := NoE) ?_ (fun _ _ h => h) (fun _ _ h => h.elim)
  refine wpAny_call ?_
  refine' code_def ?k1 ?k2 ?k3 ?k4 ?k5 ?kA ?kF ?kK ?k6 ?k7 ?k8 ?k9 ?kB ?_ ?c2 ?c3 ?c4 ?c5; (case kA => exact rfl); (case kF => exact rfl); (case kK => assumption); (case k1 => k_asm); (case k2 => k_asm); (case k3 => k_asm); (case k4 => k_asm); (case k5 => k_asm); (case k6 => k_is); (case k7 => k_is); (case k8 => ktr_room)
  (case k9 => exact BindsTo.of_eq rfl)
  (case c5 => decide); (case kB => exact locs rfl); (case c2 => exact rfl); (case c3 => exact rfl); (case c4 => exact rfl)
  k_whole; intro g' L' h' FG' F' N' B' X' T'
  refine wpAny_mono (E := NoE) ?_ (fun _ _ h => h) (fun _ _ h => h.elim)
  (try dsimp only); (try k_fold)
  (repeat' (first | (k_unfold; (try dsimp only)) | ((fail_if_success (with_reducible show wpAny _ _ (eval (PySem.Expr.ListComp _ _ _ _) _) _ _ _)); (fail_if_success (with_reducible show wpAny _ _ (PySem.call (Value.ref _) _ _) _ _ _)); (fail_if_success (with_reducible show wpAny _ _ (exec (Stmt.While _ _ _ _) _) _ _ _)); (fail_if_success (with_reducible show wpAny _ _ (exec (Stmt.For _ _ _ _ _) _) _ _ _)); (first | walk1 | (dsimp only; walk1))) | (leave1; (try dsimp only)) | fail "no step"))
  rename_i D _ lt1 h2 F2 N2
  have hne : ∀ p ∈ news, p.1 ≠ D := fun p hp => Nat.ne_of_lt (lt1 p hp)
  refine while_led (fun k m' news' => ∃ (a b : Int) (ps : List Str) (pvs : List Value) (ta tb : Tok) (D : Addr) (j : Nat), news' = (D, W.listOf pvs.toArray j) :: news ∧ StrsAre pvs ps ∧ wordGo k a b ps = wordGo 7 a0 b0 [] ∧ 0 ≤ a ∧ 0 ≤ b ∧ a ≤ 3 ∧ b ≤ 3 ∧ (a + b).toNat < k ∧ ps.length + 2 * k ≤ 14 ∧ Has m' [((Str.ofString "across"), .int a ta), ((Str.ofString "up"), .int b tb), ((Str.ofString "pairs"), .ref D)])
    7 F2 N2 ⟨a0, b0, [], [], t1, t2, D, 0, rfl, .nil, rfl, ha1, hb1, ha2, hb2, by omega, by simp, rfl, rfl, rfl, trivial⟩ ?_
  clear F2 N2
  rintro k m₁ _ h tk ⟨a1, b1, ps, pvs, ta, tb, D1, j, rfl, hs, hg, h1, h2, h3, h4, h5, h6, hm⟩ F₁ N₁
  have F₁ := frPin _ F₁ hm
  obtain ⟨k, rfl⟩ : ∃ k', k = k' + 1 := ⟨k - 1, by omega⟩
  rw [wordGo] at hg
  have hpl := strsAre_len hs
  (repeat' (first | (k_unfold; (try dsimp only)) | ((fail_if_success (with_reducible show wpAny _ _ (eval (PySem.Expr.ListComp _ _ _ _) _) _ _ _)); (fail_if_success (with_reducible show wpAny _ _ (PySem.call (Value.ref _) _ _) _ _ _)); (fail_if_success (with_reducible show wpAny _ _ (exec (Stmt.While _ _ _ _) _) _ _ _)); (fail_if_success (with_reducible show wpAny _ _ (exec (Stmt.For _ _ _ _ _) _) _ _ _)); (first | walk1 | (dsimp only; walk1))) | (leave1; (try dsimp only)) | fail "no step"))
  · rename_i F9 N9
    dsimp only at F9 N9
    have c1 : 0 < a1 := by assumption
    have c2 : 0 < b1 := by assumption
    have c3 : b1 ≤ a1 := by assumption
    rw [if_pos ⟨c1, c2⟩, if_pos c3] at hg
    exact while_next F9 (news13 N9) ⟨k, Nat.lt_succ_self _, a1 - b1, b1, _, _, _, _, _, 0, rfl, .cons _ _ (.cons _ _ (by assumption)), hg, by omega, by omega, by omega, by omega, by omega, by simp; omega, rfl, rfl, rfl, trivial⟩
  · rename_i F9 N9
    dsimp only at F9 N9
    have c1 : 0 < a1 := by assumption
    have c2 : 0 < b1 := by assumption
    have c3 : ¬ b1 ≤ a1 := by assumption
    rw [if_pos ⟨c1, c2⟩, if_neg c3] at hg
    exact while_next F9 (news13 N9) ⟨k, Nat.lt_succ_self _, a1, b1 - a1, _, _, _, _, _, 0, rfl, .cons _ _ (.cons _ _ (by assumption)), hg, by omega, by omega, by omega, by omega, by omega, by simp; omega, rfl, rfl, rfl, trivial⟩
  all_goals (
    have hcond : ¬ (0 < a1 ∧ 0 < b1) := by omega
    rw [if_neg hcond] at hg
    refine star_seq F₁ N₁ (.head _) rfl rfl (.inl rfl) rfl (by rw [sizeLine_eq]; simp; omega) (fun h9 F9 N9 => ?_)
    clear F₁ N₁
    (repeat' (first | (k_unfold; (try dsimp only)) | ((fail_if_success (with_reducible show wpAny _ _ (eval (PySem.Expr.ListComp _ _ _ _) _) _ _ _)); (fail_if_success (with_reducible show wpAny _ _ (PySem.call (Value.ref _) _ _) _ _ _)); (fail_if_success (with_reducible show wpAny _ _ (exec (Stmt.While _ _ _ _) _) _ _ _)); (fail_if_success (with_reducible show wpAny _ _ (exec (Stmt.For _ _ _ _ _) _) _ _ _)); (first | walk1 | (dsimp only; walk1))) | (leave1; (try dsimp only)) | fail "no step"))
    rw [show (List.toArray pvs).toList ++ [] = pvs from by simp]
    refine says_use (replS w mean mg mb _ ps pvs _ _ hs (by unfold wordText at hok; rw [← hg] at hok; exact hok) (by omega)) B' F9 X' N9 T' rfl (by show dp + 1 + 1 < _; omega) (by show un + 3 + 8 * 1 < _; omega) ?_
    rintro r _ h10 tk10 ⟨⟨t10, rfl⟩, rfl⟩ F10 N10
    clear F9 N9
    (repeat' (first | (k_unfold; (try dsimp only)) | ((fail_if_success (with_reducible show wpAny _ _ (eval (PySem.Expr.ListComp _ _ _ _) _) _ _ _)); (fail_if_success (with_reducible show wpAny _ _ (PySem.call (Value.ref _) _ _) _ _ _)); (fail_if_success (with_reducible show wpAny _ _ (exec (Stmt.While _ _ _ _) _) _ _ _)); (fail_if_success (with_reducible show wpAny _ _ (exec (Stmt.For _ _ _ _ _) _) _ _ _)); (first | walk1 | (dsimp only; walk1))) | (leave1; (try dsimp only)) | fail "no step"))
    rename_i kF kN _ _
    exact hret _ _ _ _ ⟨⟨_, by unfold wordP wordText; rw [← hg]⟩, rfl⟩ kF (fun p hp => kN p (.tail _ hp)))
end Mine
end

section
open PySem PySem.W PyProof.Rows PyProof.V
namespace Mine
section
variable {prog : Program} {w : World} {A : Around} {s : Shared} {env : Env} {h₀ : Heap}
/-- a while's exit -/
def WExit (h₀ : Heap) (L : Addr) (J : Mp → Led → Prop) (s₁ : Shared) (s₃ : Shared) : Prop := ∃ m₂ news₂ h' tk, s₃ = { s₁ with heap := h', toks := tk } ∧ Fr h₀ L h' m₂ ∧ News h₀ L h' news₂ ∧ J m₂ news₂
theorem wexit {L : Addr} {J : Mp → Led → Prop} {s₁ : Shared} {m₂ : Mp} {news₂ : Led} {h' : Heap} {tk : Nat}
    (F : Fr h₀ L h' m₂) (N : News h₀ L h' news₂) (j : J m₂ news₂) : WExit h₀ L J s₁ { s₁ with heap := h', toks := tk } := ⟨m₂, news₂, h', tk, rfl, F, N, j⟩
theorem while_led2 {Q : Flow → Shared → Prop} {test : Expr} {body : List Stmt} {pos : Pos} {m : Mp} {news : Led} (J : Nat → Mp → Led → Prop) (Done : Mp → Led → Prop) (k : Nat)
    (F : Fr h₀ env.locals s.heap m) (N : News h₀ env.locals s.heap news) (h0 : J k m news)
    (turn : ∀ k m₁ news₁ h tk, J k m₁ news₁ → Fr h₀ env.locals h m₁ → News h₀ env.locals h news₁ →
      wpAny (model prog w) A (isTrue test env (eval test env)) (fun b s₂ => if b = true then wpAny (model prog w) A (execs body env) (WhileEnd h₀ env.locals (fun m' news' => ∃ k', k' < k ∧ J k' m' news') { s with heap := h, toks := tk } Q) NoE s₂ else WExit h₀ env.locals Done { s with heap := h, toks := tk } s₂) NoE { s with heap := h, toks := tk })
    (done : ∀ h tk m₁ news₁, Done m₁ news₁ → Fr h₀ env.locals h m₁ → News h₀ env.locals h news₁ → Q .next { s with heap := h, toks := tk }) :
    wpAny (model prog w) A (exec (.While test body [] pos) env) Q NoE s := by
  refine while_led J k F N h0 fun k m₁ news₁ h tk hj F₁ N₁ => wpAny_mono (turn k m₁ news₁ h tk hj F₁ N₁) (fun b s₂ h₂ => ?_) fun _ _ e => e
  cases b with
  | true => exact h₂
  | false =>
    obtain ⟨m₂, news₂, h', tk', rfl, F₂, N₂, d⟩ := h₂
    exact done h' tk' m₂ news₂ d F₂ N₂
end
def ltI (p : Str) (i j : Int) : Bool := decide ((Txt.item p i).cps.toList < (Txt.item p j).cps.toList)
def innerGo (p : Str) (i : Int) : Nat → Int → Int → Int × Int
  | 0, b, f => (b, f)
  | k + 1, b, f => if f < p.length ∧ ltI p f b = false then innerGo p i k (if ltI p b f then i else b + 1) (f + 1) else (b, f)
def cutGo (p : Str) (b sz : Int) : Nat → Int → List (Str × Int) → Int × List (Str × Int)
  | 0, i, c => (i, c)
  | k + 1, i, c => if i ≤ b then cutGo p b sz k (i + sz) (kdpPut c (Txt.slice p (some i) (some (i + sz))) (kdpLook c (Txt.slice p (some i) (some (i + sz))) 0 + 1)) else (i, c)
def leastGo (p : Str) : Nat → Int → List (Str × Int) → List (Str × Int)
  | 0, _, c => c
  | k + 1, i, c => if i < p.length then
      leastGo p k (cutGo p (innerGo p i (p.length + 1) i (i + 1)).1 ((innerGo p i (p.length + 1) i (i + 1)).2 - (innerGo p i (p.length + 1) i (i + 1)).1) (p.length + 1) i c).1
        (cutGo p (innerGo p i (p.length + 1) i (i + 1)).1 ((innerGo p i (p.length + 1) i (i + 1)).2 - (innerGo p i (p.length + 1) i (i + 1)).1) (p.length + 1) i c).2
    else c
def leastP (p : Str) : List (Str × Int) := leastGo p (p.length + 1) 0 []
set_option maxRecDepth 100000 in
set_option maxHeartbeats 8000000 in
theorem leastS (w : World) (mean : ExcName → Option Value) (mg mb : Str → Option Value) (path : Str) (t1 : Tok) (news : Led) (hsz : path.cps.size < 1000) :
    Says w mean mg mb 1 84 [.str path t1] news (fun r news' => ∃ D o, r = .ref D ∧ (D == sysModules) = false ∧ IsTab w o (leastP path) ∧ (∀ p ∈ news, p.1 ≠ D) ∧ news' = (D, o) :: news) := by
  w_top off
  unfold Says
  k_fill
  intro dp un gd cn cs a ccd cl outer A₀ base h₀ L m s Q E B F X N T hk hd hu hret
  refine wpAny_mono (E := NoE) ?_ (fun _ _ h => h) (fun _ _ h => h.elim)
  refine wpAny_call ?_
  refine' code_def ?k1 ?k2 ?k3 ?k4 ?k5 ?kA ?kF ?kK ?k6 ?k7 ?k8 ?k9 ?kB ?_ ?c2 ?c3 ?c4 ?c5; (case kA => exact rfl); (case kF => exact rfl); (case kK => assumption); (case k1 => k_asm); (case k2 => k_asm); (case k3 => k_asm); (case k4 => k_asm); (case k5 => k_asm); (case k6 => k_is); (case k7 => k_is); (case k8 => ktr_room)
  (case k9 => exact BindsTo.of_eq rfl)
  (case c5 => decide); (case kB => exact locs rfl); (case c2 => exact rfl); (case c3 => exact rfl); (case c4 => exact rfl)
  k_whole; intro g' L' h' FG' F' N' B' X' T'
  refine wpAny_mono (E := NoE) ?_ (fun _ _ h => h) (fun _ _ h => h.elim)
  (try dsimp only); (try k_fold)
  (repeat' (first | (k_unfold; (try dsimp only)) | ((fail_if_success (with_reducible show wpAny _ _ (eval (PySem.Expr.ListComp _ _ _ _) _) _ _ _)); (fail_if_success (with_reducible show wpAny _ _ (PySem.call (Value.ref _) _ _) _ _ _)); (fail_if_success (with_reducible show wpAny _ _ (exec (Stmt.While _ _ _ _) _) _ _ _)); (fail_if_success (with_reducible show wpAny _ _ (exec (Stmt.For _ _ _ _ _) _) _ _ _)); (first | walk1 | (dsimp only; walk1))) | (leave1; (try dsimp only)) | fail "no step"))
  rename_i D _ oD lt1 loD hs' fs' hi' fi' _ _ F2 N2
  clear hi' fi'
  have hne : ∀ p ∈ news, p.1 ≠ D := fun p hp => Nat.ne_of_lt (lt1 p hp)
  have hpl : path.length < 1000 := hsz
  refine while_led (fun k m' news' => ∃ (i : Int) (ti : Tok) (o : Obj) (c : List (Str × Int)), news' = (D, o) :: news ∧ IsTab w o c ∧ leastGo path k i c = leastP path ∧ 0 ≤ i ∧ (path.length - i).toNat < k ∧ (c.length : Int) ≤ i ∧ i ≤ path.length ∧ Has m' [((Str.ofString "path"), .str path t1), ((Str.ofString "found"), .ref D), ((Str.ofString "at"), .int i ti)])
    (path.length + 1) F2 N2 ⟨0, _, oD, [], rfl, ⟨[], hs', fs'⟩, rfl, by omega, by omega, by simp, by omega, rfl, rfl, rfl, trivial⟩ ?_
  clear F2 N2 hs' fs'
  rintro k m₁ _ h tk ⟨i, ti, o, c, rfl, ⟨kvs, hdo, hfo⟩, hlg, hi1, hi2, hi3, hi4, hm⟩ F₁ N₁
  have F₁ := frPin _ F₁ hm
  obtain ⟨k, rfl⟩ : ∃ k', k = k' + 1 := ⟨k - 1, by omega⟩
  rw [leastGo] at hlg
  (repeat' (first | (k_unfold; (try dsimp only)) | ((fail_if_success (with_reducible show wpAny _ _ (eval (PySem.Expr.ListComp _ _ _ _) _) _ _ _)); (fail_if_success (with_reducible show wpAny _ _ (PySem.call (Value.ref _) _ _) _ _ _)); (fail_if_success (with_reducible show wpAny _ _ (exec (Stmt.While _ _ _ _) _) _ _ _)); (fail_if_success (with_reducible show wpAny _ _ (exec (Stmt.For _ _ _ _ _) _) _ _ _)); (first | walk1 | (dsimp only; walk1))) | (leave1; (try dsimp only)) | fail "no step"))
  · have hil : i < path.length := by assumption
    rw [if_pos hil] at hlg
    rename_i h3 F3 N3
    refine while_led2 (fun k m' news' => ∃ (b f : Int) (tb tf : Tok), news' = (D, o) :: news ∧ i ≤ b ∧ b < f ∧ f ≤ path.length ∧ (path.length - f).toNat < k ∧ innerGo path i k b f = innerGo path i (path.length + 1) i (i + 1) ∧ Has m' [((Str.ofString "path"), .str path t1), ((Str.ofString "found"), .ref D), ((Str.ofString "at"), .int i ti), ((Str.ofString "back"), .int b tb), ((Str.ofString "front"), .int f tf)])
      (fun m' news' => ∃ (b f : Int) (tb tf : Tok), news' = (D, o) :: news ∧ i ≤ b ∧ b < f ∧ f ≤ path.length ∧ (b, f) = innerGo path i (path.length + 1) i (i + 1) ∧ Has m' [((Str.ofString "path"), .str path t1), ((Str.ofString "found"), .ref D), ((Str.ofString "at"), .int i ti), ((Str.ofString "back"), .int b tb), ((Str.ofString "front"), .int f tf)])
      (path.length + 1) F3 N3 ⟨i, i + 1, _, _, rfl, by omega, by omega, by omega, by omega, rfl, rfl, rfl, rfl, rfl, rfl, trivial⟩ ?_ ?_
    · clear F3 N3
      rintro k2 m₁ _ h tk ⟨b, f, tb, tf, rfl, hb1, hb2, hb3, hb4, hg, hm⟩ F₁ N₁
      have F₁ := frPin _ F₁ hm
      obtain ⟨k2, rfl⟩ : ∃ k', k2 = k' + 1 := ⟨k2 - 1, by omega⟩
      rw [innerGo] at hg
      (repeat' (first | (k_unfold; (try dsimp only)) | ((fail_if_success (with_reducible show wpAny _ _ (eval (PySem.Expr.ListComp _ _ _ _) _) _ _ _)); (fail_if_success (with_reducible show wpAny _ _ (PySem.call (Value.ref _) _ _) _ _ _)); (fail_if_success (with_reducible show wpAny _ _ (exec (Stmt.While _ _ _ _) _) _ _ _)); (fail_if_success (with_reducible show wpAny _ _ (exec (Stmt.For _ _ _ _ _) _) _ _ _)); (first | walk1 | (dsimp only; walk1))) | (leave1; (try dsimp only)) | fail "no step"))
      · have hc : (Txt.item path f).cps.toList < (Txt.item path b).cps.toList := by assumption
        rw [if_neg (by intro e; have := e.2; unfold ltI at this; exact absurd hc (of_decide_eq_false this))] at hg
        exact wexit F₁ N₁ ⟨b, f, tb, tf, rfl, hb1, hb2, hb3, hg, rfl, rfl, rfl, rfl, rfl, trivial⟩
      · rename_i F9 N9
        have hfl : f < path.length := by assumption
        have hc : ¬ (Txt.item path f).cps.toList < (Txt.item path b).cps.toList := by assumption
        have hc2 : (Txt.item path b).cps.toList < (Txt.item path f).cps.toList := by assumption
        rw [if_pos ⟨hfl, decide_eq_false hc⟩, if_pos (show ltI path b f = true from decide_eq_true hc2)] at hg
        exact while_next F9 N9 ⟨k2, Nat.lt_succ_self _, i, f + 1, _, _, rfl, by omega, by omega, by omega, by omega, hg, rfl, rfl, rfl, rfl, rfl, trivial⟩
      · rename_i F9 N9
        have hfl : f < path.length := by assumption
        have hc : ¬ (Txt.item path f).cps.toList < (Txt.item path b).cps.toList := by assumption
        have hc2 : ¬ (Txt.item path b).cps.toList < (Txt.item path f).cps.toList := by assumption
        rw [if_pos ⟨hfl, decide_eq_false hc⟩, if_neg (by unfold ltI; rw [decide_eq_false hc2]; decide)] at hg
        exact while_next F9 N9 ⟨k2, Nat.lt_succ_self _, b + 1, f + 1, _, _, rfl, by omega, by omega, by omega, by omega, hg, rfl, rfl, rfl, rfl, rfl, trivial⟩
      · have hc : ¬ f < path.length := by assumption
        rw [if_neg (by intro e; exact hc e.1)] at hg
        exact wexit F₁ N₁ ⟨b, f, tb, tf, rfl, hb1, hb2, hb3, hg, rfl, rfl, rfl, rfl, rfl, trivial⟩
    · rintro h5 tk5 m₁ _ ⟨b, f, tb, tf, rfl, hb1, hb2, hb3, hg, hm⟩ F₁ N₁
      have F₁ := frPin _ F₁ hm
      clear F3 N3
      change wpAny _ _ _ _ _ _
      (repeat' (first | (k_unfold; (try dsimp only)) | ((fail_if_success (with_reducible show wpAny _ _ (eval (PySem.Expr.ListComp _ _ _ _) _) _ _ _)); (fail_if_success (with_reducible show wpAny _ _ (PySem.call (Value.ref _) _ _) _ _ _)); (fail_if_success (with_reducible show wpAny _ _ (exec (Stmt.While _ _ _ _) _) _ _ _)); (fail_if_success (with_reducible show wpAny _ _ (exec (Stmt.For _ _ _ _ _) _) _ _ _)); (first | walk1 | (dsimp only; walk1))) | (leave1; (try dsimp only)) | fail "no step"))
      rename_i h6 F6 N6
      rw [← hg] at hlg
      dsimp only at hlg
      refine while_led2 (fun k m' news' => ∃ (i' : Int) (ti : Tok) (o : Obj) (c' : List (Str × Int)), news' = (D, o) :: news ∧ IsTab w o c' ∧ cutGo path b (f - b) k i' c' = cutGo path b (f - b) (path.length + 1) i c ∧ i ≤ i' ∧ (b + 1 - i').toNat < k ∧ (c'.length : Int) ≤ i' ∧ i' ≤ f ∧ Has m' [((Str.ofString "path"), .str path t1), ((Str.ofString "found"), .ref D), ((Str.ofString "at"), .int i' ti), ((Str.ofString "back"), .int b tb), ((Str.ofString "size"), .int (f - b) _)])
        (fun m' news' => ∃ (i' : Int) (ti : Tok) (o : Obj) (c' : List (Str × Int)), news' = (D, o) :: news ∧ IsTab w o c' ∧ (i', c') = cutGo path b (f - b) (path.length + 1) i c ∧ b < i' ∧ (c'.length : Int) ≤ i' ∧ i' ≤ f ∧ Has m' [((Str.ofString "path"), .str path t1), ((Str.ofString "found"), .ref D), ((Str.ofString "at"), .int i' ti)]) (path.length + 1) F6 N6 ⟨i, _, o, c, rfl, ⟨kvs, hdo, hfo⟩, rfl, by omega, by omega, by omega, by omega, rfl, rfl, rfl, rfl, rfl, trivial⟩ ?_ ?_
      · clear F6 N6 hdo hfo
        rintro k3 m₃ _ h tk ⟨i', ti', o, c', rfl, ⟨kvs, hdo, hfo⟩, hcg, hj1, hj2, hj3, hj4, hm3⟩ F₃ N₃
        have F₃ := frPin _ F₃ hm3
        have hmD : (D, o) ∈ (D, o) :: news := .head _
        obtain ⟨k3, rfl⟩ : ∃ k', k3 = k' + 1 := ⟨k3 - 1, by omega⟩
        rw [cutGo] at hcg
        have hpl3 := kdpPut_len c' (Txt.slice path (some i') (some (i' + (f - b)))) (kdpLook c' (Txt.slice path (some i') (some (i' + (f - b)))) 0 + 1)
        (repeat' (first | (k_unfold; (try dsimp only)) | ((fail_if_success (with_reducible show wpAny _ _ (eval (PySem.Expr.ListComp _ _ _ _) _) _ _ _)); (fail_if_success (with_reducible show wpAny _ _ (PySem.call (Value.ref _) _ _) _ _ _)); (fail_if_success (with_reducible show wpAny _ _ (exec (Stmt.While _ _ _ _) _) _ _ _)); (fail_if_success (with_reducible show wpAny _ _ (exec (Stmt.For _ _ _ _ _) _) _ _ _)); (first | walk1 | (dsimp only; walk1))) | (leave1; (try dsimp only)) | fail "no step"))
        · rename_i hd9 hf9 _ F9 N9
          have hc : i' ≤ b := by assumption
          rw [if_pos hc] at hcg
          rw [kdpD_put] at hf9
          exact while_next F9 N9 ⟨k3, Nat.lt_succ_self _, i' + (f - b), _, _, _, rfl, ⟨_, hd9, hf9⟩, hcg, by omega, by omega, by omega, by omega, rfl, rfl, rfl, rfl, rfl, trivial⟩
        · have hc : ¬ i' ≤ b := by assumption
          rw [if_neg hc] at hcg
          exact wexit F₃ N₃ ⟨i', ti', o, c', rfl, ⟨kvs, hdo, hfo⟩, hcg, by omega, hj3, hj4, rfl, rfl, rfl, trivial⟩
      · clear F6 N6 hdo hfo
        rintro h7 tk7 m₇ _ ⟨i', ti', o, c', rfl, ht', hcg, hj1, hj3, hj4, hm7⟩ F₇ N₇
        have F₇ := frPin _ F₇ hm7
        rw [← hcg] at hlg
        dsimp only at hlg
        change wpAny _ _ _ _ _ _
        (repeat' (first | (k_unfold; (try dsimp only)) | ((fail_if_success (with_reducible show wpAny _ _ (eval (PySem.Expr.ListComp _ _ _ _) _) _ _ _)); (fail_if_success (with_reducible show wpAny _ _ (PySem.call (Value.ref _) _ _) _ _ _)); (fail_if_success (with_reducible show wpAny _ _ (exec (Stmt.While _ _ _ _) _) _ _ _)); (fail_if_success (with_reducible show wpAny _ _ (exec (Stmt.For _ _ _ _ _) _) _ _ _)); (first | walk1 | (dsimp only; walk1))) | (leave1; (try dsimp only)) | fail "no step"))
        exact while_next F₇ N₇ ⟨k, Nat.lt_succ_self _, i', ti', o, c', rfl, ht', hlg, by omega, by omega, by omega, by omega, rfl, rfl, rfl, trivial⟩
  · rename_i kF kN _ _
    have hil : ¬ i < path.length := by assumption
    rw [if_neg hil] at hlg
    exact hret _ _ _ _ ⟨D, o, rfl, loD, (by rw [← hlg]; exact ⟨kvs, hdo, hfo⟩), hne, rfl⟩ kF kN
end Mine
end

section
open PySem PySem.W PyProof.Rows
namespace Mine
section
open LCg
variable {prog : Program} {w : World} {A : Around} {E : Value → Shared → Prop} {s : Shared} {h₀ : Heap} {L : Addr} {m : Str → Option Value} {env : Env}
/-- a turn of a comprehension's that makes things -/
def EltMade (h₀ : Heap) (L : Addr) (m : Str → Option Value) (s : Shared) (I : Addr) (oI : Obj) (C : Addr) (oC : Obj) (D : Addr) (oD : Obj) (R : Value → Led → Prop) (y : Value) (s₂ : Shared) : Prop :=
  ∃ h' tk' led, s₂ = { s with heap := h', toks := tk' } ∧ Fr h₀ L h' m ∧ News h₀ L h' ((I, oI) :: (C, oC) :: (D, oD) :: led) ∧ Off3 I C D led ∧ R y led
theorem compRest_ind {elt : Expr} {x : Str} {scope : Scope} {cl : List (Str × Addr)} {S : Led → Prop} {P : Nat → Value → Prop} {Fin : List Value → Led → Prop} (Rel : Nat → List Value → Led → Prop) (n : Nat)
    (fin : ∀ ys led, Rel n ys led → Fin ys led) (hS : ∀ i ys led, Rel i ys led → S led)
    (step : ∀ i ys led v, i < n → Rel i ys led → P i v →
      ∀ I oI C oC D m₂ h tk (E' : Value → Shared → Prop), NsObj oC m₂ → m₂ x = some v → Fr h₀ L h m → News h₀ L h ((I, oI) :: (C, oC) :: (D, lst ys) :: led) → Off3 I C D led → ((@Ne Nat I C) ∧ (@Ne Nat I D) ∧ (@Ne Nat C D)) →
      wpAny (model prog w) A (eval elt (compEnvC scope cl C env)) (EltMade h₀ L m { s with heap := h, toks := tk } I oI C oC D (lst ys) (fun y led' => Rel (i + 1) (ys ++ [y]) led')) E' { s with heap := h, toks := tk }) :
    ∀ j i ys led, i + j = n → Rel i ys led → CompRest prog w A h₀ L m env elt x scope cl s S P Fin j i ys led
  | 0, i, ys, led, e, r => CompRest.zero (fin ys led (by rw [← e]; exact r))
  | j + 1, i, ys, led, e, r => CompRest.succ fun v I oI C oC D m₂ h tk E' hv hns hx F N off ne => by
    refine wpAny_mono (step i ys led v (by omega) r hv I oI C oC D m₂ h tk E' hns hx F N off ne) (fun y s₂ h₂ => ?_) fun _ _ e => e
    obtain ⟨h', tk', led', rfl, F', N', off', r'⟩ := h₂
    exact CompEnd.intro F' N' led' (fun p hp => hp) off' (hS _ _ _ r') (compRest_ind Rel n fin hS step j (i + 1) (ys ++ [y]) led' (by omega) r')
end
def codesP (ns : List Int) : List Int := ([6, 8] ++ ns.take 3).map fun k => Int.fmod k 15 + 1
def waysP (ns : List Int) : List (Int × Int) := (codesP ns).map fun c => (Int.fmod c 4, Int.fdiv c 4)
set_option maxRecDepth 100000 in
set_option maxHeartbeats 8000000 in
theorem waysS (w : World) (mean : ExcName → Option Value) (mg mb : Str → Option Value) (l : Addr) (vs : List Value) (ns : List Int) (hi : IntsAre vs ns) (hlen : ns.length ≤ 63) :
    SaysP w mean mg mb 1 65 [.ref l] (fun h => h.IsList l vs.toArray) (fun r tl => ∃ D wvs k prs, r = .ref D ∧ tl = (D, W.listOf wvs.toArray k) :: prs ∧ Paired (Pair2 prs) wvs (waysP ns)) := by
  w_top off
  unfold SaysP
  k_fill
  intro dp un gd cn cs a ccd cl outer A₀ base h₀ L m s Q E B F X T hk hd hu hpre hret
  refine wpAny_mono (E := NoE) ?_ (fun _ _ h => h) (fun _ _ h => h.elim)
  refine wpAny_call ?_
  refine' code_plainP ?k1 ?k2 ?k3 ?k5 ?kA ?kF ?kK ?k6 ?k7 ?k8 ?k9 ?kB ?_ ?c2 ?c3 ?c4 ?c5; (case kA => exact rfl); (case kF => exact rfl); (case kK => assumption); (case k1 => k_asm); (case k2 => k_asm); (case k3 => k_asm); (case k5 => k_asm); (case k6 => k_is); (case k7 => k_is); (case k8 => ktr_room)
  (case k9 => exact BindsTo.of_eq rfl)
  (case c5 => decide); (case kB => exact locs rfl); (case c2 => exact rfl); (case c3 => exact rfl); (case c4 => exact rfl)
  k_whole; intro g' L' h' FG' F' N' B' X' T' G'
  refine wpAny_mono (E := NoE) ?_ (fun _ _ h => h) (fun _ _ h => h.elim)
  (try dsimp only); (try k_fold)
  have hL : Heap.IsList g' l vs.toArray := Heap.IsList.at hpre (fun o e => G' l o e)
  (repeat' (first | (k_unfold; (try dsimp only)) | ((fail_if_success (with_reducible show wpAny _ _ (eval (PySem.Expr.ListComp _ _ _ _) _) _ _ _)); (fail_if_success (with_reducible show wpAny _ _ (PySem.call (Value.ref _) _ _) _ _ _)); (fail_if_success (with_reducible show wpAny _ _ (exec (Stmt.While _ _ _ _) _) _ _ _)); (fail_if_success (with_reducible show wpAny _ _ (exec (Stmt.For _ _ _ _ _) _) _ _ _)); (first | walk1 | (dsimp only; walk1))) | (leave1; (try dsimp only)) | fail "no step"))
  rename_i hI8 hL8 D h2 tk2 F2 N2 o1
  have N2 : News g' L' h2 [(D, LCg.lst ys)] := fun p hp => N2 p (by rw [List.mem_singleton.mp hp]; exact .head _)
  have hcl : ys.length = (waysP ns).length := by rw [hL8]; simp [waysP, codesP]
  have hcs : (waysP ns).length ≤ 5 := by simp [waysP, codesP]; omega
  have hsl := sizeLine_eq
  refine LCg.ListComp_U F2 (by rfl) (by decide) (by rfl) (by decide) (by rfl) ?_
  walk1
  refine LCg.CompSrc.ledger rfl F2 N2 (.head _) (by rw [hsl]; simp; omega) (fun gg => ?_)
  refine compRest_ind (fun i ys' led => ∃ prs, led = prs ++ [(D, LCg.lst ys)] ∧ Paired (Pair2 prs) ys' ((waysP ns).take i)) ys.length ?_ ?_ ?_ _ 0 [] _ (by simp) ⟨[], rfl, by simpa using Paired.nil⟩
  · rintro ys' led ⟨prs, rfl, hpr⟩ D5 h5 tk5 F5 N5 off5
    clear F2 N2
    rw [hcl, List.take_of_length_le (Nat.le_refl _)] at hpr
    dsimp only
    (repeat' (first | (k_unfold; (try dsimp only)) | ((fail_if_success (with_reducible show wpAny _ _ (eval (PySem.Expr.ListComp _ _ _ _) _) _ _ _)); (fail_if_success (with_reducible show wpAny _ _ (PySem.call (Value.ref _) _ _) _ _ _)); (fail_if_success (with_reducible show wpAny _ _ (exec (Stmt.While _ _ _ _) _) _ _ _)); (fail_if_success (with_reducible show wpAny _ _ (exec (Stmt.For _ _ _ _ _) _) _ _ _)); (first | walk1 | (dsimp only; walk1))) | (leave1; (try dsimp only)) | fail "no step"))
    rename_i kF kN _ _
    have sub : ∀ p ∈ (D5, LCg.lst ys') :: prs, p ∈ (D5, LCg.lst ys') :: (prs ++ [(D, LCg.lst ys)]) := fun p hp => by
      rcases List.mem_cons.mp hp with rfl | hp
      · exact .head _
      · exact .tail _ (List.mem_append_left _ hp)
    refine hret _ ((D5, LCg.lst ys') :: prs) _ _ ⟨D5, ys', ys'.length, prs, rfl, rfl, hpr⟩ kF (fun b o e => F5.keep b o (G' b o e)) (fun p hp => ⟨(N5 p (sub p hp)).1, ?_⟩)
    cases q : s.heap.get? p.1 with
    | none => rfl
    | some o => have := G' _ _ q; rw [(N5 p (sub p hp)).2.2] at this; cases this
  · rintro i ys' led ⟨prs, rfl, hpr⟩
    exact .inr ⟨_, List.mem_append_right _ (.head _), rfl, _, rfl⟩
  · rintro i ys' led v hil ⟨prs, rfl, hpr⟩ hv I oI C oC D2 m₂ h3 tk3 E' hns hx F3 N3 off3 ne3
    clear F2 N2
    obtain ⟨n, t, rfl, hn⟩ := hI8.at i v (by simpa using hv)
    (repeat' (first | (k_unfold; (try dsimp only)) | ((fail_if_success (with_reducible show wpAny _ _ (eval (PySem.Expr.ListComp _ _ _ _) _) _ _ _)); (fail_if_success (with_reducible show wpAny _ _ (PySem.call (Value.ref _) _ _) _ _ _)); (fail_if_success (with_reducible show wpAny _ _ (exec (Stmt.While _ _ _ _) _) _ _ _)); (fail_if_success (with_reducible show wpAny _ _ (exec (Stmt.For _ _ _ _ _) _) _ _ _)); (first | walk1 | (dsimp only; walk1))) | (leave1; (try dsimp only)) | fail "no step"))
    rename_i D9 h9 F9 N9 lt9
    refine ⟨_, _, (D9, tupO [.int (Int.fmod n 4) (tk3 + 1), .int (Int.fdiv n 4) (tk3 + 1 + 1 + 1)] 0) :: (prs ++ [(D, LCg.lst ys)]), rfl, F9, fun p hp => N9 p ?_, ⟨⟨Nat.ne_of_gt lt9.1, Nat.ne_of_gt lt9.2.1, Nat.ne_of_gt lt9.2.2.1⟩, off3⟩, (D9, tupO [.int (Int.fmod n 4) (tk3 + 1), .int (Int.fdiv n 4) (tk3 + 1 + 1 + 1)] 0) :: prs, rfl, ?_⟩
    · rcases List.mem_cons.mp hp with rfl | hp
      · exact .tail _ (.head _)
      · rcases List.mem_cons.mp hp with rfl | hp
        · exact .tail _ (.tail _ (.head _))
        · rcases List.mem_cons.mp hp with rfl | hp
          · exact .tail _ (.tail _ (.tail _ (.head _)))
          · rcases List.mem_cons.mp hp with rfl | hp
            · exact .head _
            · exact .tail _ (.tail _ (.tail _ (.tail _ hp)))
    · have e : (waysP ns).take (i + 1) = (waysP ns).take i ++ [(Int.fmod n 4, Int.fdiv n 4)] := by
        rw [List.take_add_one, show (waysP ns)[i]? = some (Int.fmod n 4, Int.fdiv n 4) from by unfold waysP codesP; rw [List.getElem?_map, hn]; rfl]
        rfl
      rw [e]
      refine (hpr.mono fun v t => ?_).snoc ⟨D9, _, _, 0, rfl, .head _⟩
      rintro ⟨ad, t1, t2, j, rfl, hmem⟩
      exact ⟨ad, t1, t2, j, rfl, .tail _ hmem⟩
end Mine
end

section
open PySem PySem.W PyProof.Rows PyProof.V
namespace Mine
abbrev emptyD : Obj := { cls := .type "dict", data := .dict #[] }
/-- where a display's key ends -/
def KeyEnd (h₀ : Heap) (L : Addr) (m : Mp) (s : Shared) (led : Led) (k : Str) (kv : Value) (s₁ : Shared) : Prop := ∃ t h₁ tk₁, kv = .str k t ∧ s₁ = { s with heap := h₁, toks := tk₁ } ∧ Fr h₀ L h₁ m ∧ News h₀ L h₁ led
theorem dict_one {w : World} {A : Around} {E : Value → Shared → Prop} {s : Shared} {h₀ : Heap} {L a : Addr} {m : Mp} {news : Led} {name : Str} {scope : Scope} {cd : Value} {ke : Expr} {x : Str} {px pos : Pos} {k : Str} {n : Int} {tn : Tok} {Q : Value → Shared → Prop}
    (F : Fr h₀ L s.heap m) (N : News h₀ L s.heap news) (hbig : h₀.NoLimit) (hx : m x = some (.int n tn))
    (h : ∀ D h', (∀ p ∈ news, p.1 < D) → Fr h₀ L h' m → News h₀ L h' ((D, emptyD) :: news) →
      wpAny (model (RowW.prog (OpenRow.toRowW (OpenLaw.row Challenge.rw_qc0005_01))) w) A (eval ke (envOf name scope L a cd)) (KeyEnd h₀ L m { s with heap := h' } ((D, emptyD) :: news) k) E { s with heap := h' })
    (fin : ∀ D h' o tk, (∀ p ∈ news, p.1 < D) → (D == sysModules) = false → Fr h₀ L h' m → News h₀ L h' ((D, o) :: news) → IsTab w o [(k, n)] → Q (.ref D) { s with heap := h', toks := tk })
    (hk : scope.kind = .function := by rfl) (hl : (envOf name scope L a cd).kindOf x = some .local := by rfl)
    (hd : (x == ("__debug__" : Str)) = false := by decide) :
    wpAny (model (RowW.prog (OpenRow.toRowW (OpenLaw.row Challenge.rw_qc0005_01))) w) A (eval (.Dict [some ke] [.Name x px] pos) (envOf name scope L a cd)) Q E s := by
  have hlt : ∀ p ∈ news, p.1 < s.heap.objs.size := fun p hp => Heap.lt_size (N p hp).1
  have lo := F.notModules (modules_low hbig)
  refine Dict_made (knd := strKind _ w) F rfl rfl (by simp) (by simp) (fun F1 => ?_)
  have N1 : News h₀ L (s.heap.push emptyD) ((s.heap.objs.size, emptyD) :: news) := News.push F N _
  refine evalPairs_cons (wpAny_mono (h _ _ hlt F1 N1) (fun kv s₁ h₁ => ?_) fun _ _ e => e)
  obtain ⟨t, h₁, tk₁, rfl, rfl, F2, N2⟩ := h₁
  refine wpAny_bind (ld F2 hx (wpAny_bind (wpAny_standAt (wpAny_pure ?_))) hk hl hd)
  refine evalPairs_nil ?_
  have hD := N2 _ (.head _)
  refine ⟨[(k, .int n tn)], ⟨strKind_is _ _ _ _, rfl, trivial⟩, ?_, fun h' hd' hs => ?_⟩
  · exact ⟨_, #[], 0, hD.1, ⟨rfl, rfl, rfl⟩, rfl, by intro e he; simp at he, by simpa using Pairs.nil, by simp⟩
  · obtain ⟨o', ho', hio⟩ := Heap.dictOf_iff.mp hd'
    have F3 := F2.change hs hD.2.1 hD.2.2
    have N3 : News h₀ L h' ((s.heap.objs.size, o') :: news) := news_set (pre := []) N2 (fun p hp => nomatch hp) (fun p hp => Nat.ne_of_lt (hlt p hp)) hs ho'
    exact fin _ h' o' _ hlt lo F3 N3 ⟨_, hio, .cons (PyProof.V.Flat.int n tn) .nil⟩
end Mine
end

section
open PySem PySem.W PyProof.Rows PyProof.V
namespace Mine
theorem range4 {a : Int} (h : 0 ≤ a ∧ a ≤ 3) : a = 0 ∨ a = 1 ∨ a = 2 ∨ a = 3 := by omega
theorem insP_len (xs : List Str) (x : Str) : (insP xs x).length = xs.length + 1 := by
  simp only [insP, List.length_append, List.length_cons, List.length_take, List.length_drop]; omega
theorem putF_len : ∀ (c acc : List (Str × Int)), (c.foldl putOne acc).length ≤ acc.length + c.length
  | [], acc => by simp
  | p :: c, acc => by
    have h := putF_len c (putOne acc p)
    have h2 := kdpPut_len acc p.1 p.2
    simp only [List.foldl_cons, List.length_cons]
    unfold putOne at h ⊢
    omega
theorem addC_len1 (c : List (Str × Int)) (p : Str × Int) : (addC c [p]).length ≤ c.length + 1 := by
  have h := putF_len c []
  simp only [addC, List.foldl_cons, List.foldl_nil]
  generalize c.foldl putOne [] = d at *
  simp only [List.length_nil] at h
  unfold addOne
  split
  · have := kdpPut_len d p.1 (kdpLook d p.1 0 + p.2); omega
  · have := kdpPut_len d p.1 p.2; omega
theorem word_len {a b : Int} (ha : 0 ≤ a ∧ a ≤ 3) (hb : 0 ≤ b ∧ b ≤ 3) : (wordP a b).length ≤ 6 := by
  rcases range4 ha with rfl | rfl | rfl | rfl <;> rcases range4 hb with rfl | rfl | rfl | rfl <;> decide +kernel
def okD : ∀ (x : Str) (ps : List Str), Decidable (okP x ps)
  | x, p0 :: p1 :: r => by
    unfold okP
    haveI := okD (Txt.join p1 (Txt.split x p0)) r
    infer_instance
  | _, [] => .isTrue trivial
  | _, [_] => .isFalse id
theorem ok_all {a b : Int} (ha : 0 ≤ a ∧ a ≤ 3) (hb : 0 ≤ b ∧ b ≤ 3) : okP (wordText a b) (wordGo 7 a b []).2.2 := by
  refine @of_decide_eq_true _ (okD _ _) ?_
  rcases range4 ha with rfl | rfl | rfl | rfl <;> rcases range4 hb with rfl | rfl | rfl | rfl <;> decide +kernel
end Mine
end

section
open PySem PySem.W PyProof.Rows PyProof.V
namespace Mine
def rowP (ways : List (Int × Int)) : List Str := ways.foldl (fun xs x => insP xs (wordP x.1 x.2)) []
theorem meas_pos {a b : Int} : 1 ≤ measP a b ∧ measP a b ≤ 3 := by unfold measP; split <;> (try split) <;> omega
theorem ways_range {ns : List Int} : ∀ x ∈ waysP ns, (0 ≤ x.1 ∧ x.1 ≤ 3) ∧ 0 ≤ x.2 ∧ x.2 ≤ 3 := by
  intro x hx
  simp only [waysP, codesP, List.mem_map] at hx
  obtain ⟨c, ⟨k, hk, rfl⟩, rfl⟩ := hx
  have e1 : Int.fmod k 15 = k % 15 := Int.fmod_eq_emod_of_nonneg _ (by decide)
  have e2 : ∀ z : Int, Int.fmod z 4 = z % 4 := fun z => Int.fmod_eq_emod_of_nonneg _ (by decide)
  have e3 : ∀ z : Int, Int.fdiv z 4 = z / 4 := fun z => Int.fdiv_eq_ediv_of_nonneg _ (by decide)
  dsimp only
  rw [e1, e2, e3]
  omega
def partP (x : Int × Int) : Str := Txt.slice (wordP x.1 x.2) none (some (Int.fdiv (wordP x.1 x.2).length (measP x.1 x.2)))
def entStep (e : Int × Int × Int × Int × List (Str × Int)) (x : Int × Int) : Int × Int × Int × Int × List (Str × Int) :=
  (1 + e.1, measP x.1 x.2 + e.2.1, x.1 + e.2.2.1, x.2 + e.2.2.2.1, addC e.2.2.2.2 [(partP x, measP x.1 x.2)])
def entP (ways : List (Int × Int)) : Int × Int × Int × Int × List (Str × Int) := ways.foldl entStep (0, 0, 0, 0, [])
def pathP (ways : List (Int × Int)) : Str := Txt.join (Str.ofString "") (rowP ways).reverse
def aheadW (ways : List (Int × Int)) : List Int := aheadP (pathP ways).cps.toList
def tabSub (c1 c2 : List (Str × Int)) : Bool := c1.all fun p => decide (((c2.find? fun q => decide (q.1 = p.1)).map fun q => q.2) = some p.2)
structure Good (ways : List (Int × Int)) : Prop where
  weight : ((rowP ways).reverse.map (·.length)).sum ≤ 1000
  size : (pathP ways).cps.size < 1000
  len : 0 < (aheadW ways).length ∧ (aheadW ways).length < 1000
  top : 0 ≤ lastP (aheadW ways) ∧ lastP (aheadW ways) < 1000
  e1 : (entP ways).1 = ways.length
  e2 : (entP ways).2.1 = ((entP ways).2.2.2.2.map (·.2)).sum
  e3 : (entP ways).2.2.1 = (aheadW ways).length - 1
  e4 : (entP ways).2.2.2.1 = lastP (aheadW ways)
  tl : (entP ways).2.2.2.2.length = (leastP (pathP ways)).length
  ts : tabSub (entP ways).2.2.2.2 (leastP (pathP ways)) = true
  pts : pointsP (aheadW ways) (sidesP ways) = 1 + ((entP ways).2.2.2.2.map (·.2)).sum + Int.fdiv ((sidesP ways).map (·.2.2)).sum 2
end Mine
end

section
open PySem PySem.W PyProof.Rows PyProof.V
namespace Mine
/-- the table's step, once no key stands twice -/
def bump (c : List (Str × Int)) (k : Str) (v : Int) : List (Str × Int) :=
  if (c.any fun p => decide (p.1 = k)) = true then c.map (fun p => if p.1 = k then (p.1, p.2 + v) else p) else c ++ [(k, v)]
def KN (c : List (Str × Int)) : Prop := (c.map fun p => p.1).Nodup
theorem any_key {c : List (Str × Int)} {k : Str} : (c.any fun p => decide (p.1 = k)) = true ↔ k ∈ c.map fun p => p.1 := by
  simp only [List.any_eq_true, decide_eq_true_eq, List.mem_map]
theorem copy_go : ∀ (c acc : List (Str × Int)), KN (acc ++ c) → c.foldl putOne acc = acc ++ c
  | [], acc, _ => by simp
  | p :: c, acc, h => by
    have hn : ¬ (acc.any fun q => decide (q.1 = p.1)) = true := by
      rw [any_key]
      intro hm
      unfold KN at h
      rw [List.map_append, List.nodup_append] at h
      exact h.2.2 _ hm _ (by simp) rfl
    have e : putOne acc p = acc ++ [p] := by unfold putOne kdpPut; rw [if_neg hn]
    rw [List.foldl_cons, e, copy_go c (acc ++ [p]) (by simpa using h)]
    simp
theorem copy_same {c : List (Str × Int)} (h : KN c) : c.foldl putOne [] = c := by simpa using copy_go c [] (by simpa using h)
theorem look_at : ∀ {c : List (Str × Int)}, KN c → ∀ {p : Str × Int}, p ∈ c → (c.find? fun q => decide (q.1 = p.1)) = some p
  | [], _, p, h => by simp at h
  | q :: c, hn, p, h => by
    unfold KN at hn
    rw [List.map_cons, List.nodup_cons] at hn
    rcases List.mem_cons.mp h with rfl | h
    · simp
    · have ne : q.1 ≠ p.1 := fun e => hn.1 (e ▸ List.mem_map.mpr ⟨p, h, rfl⟩)
      rw [List.find?_cons_of_neg (by simpa using ne)]
      exact look_at hn.2 h
theorem addC_bump {c : List (Str × Int)} (h : KN c) (k : Str) (v : Int) : addC c [(k, v)] = bump c k v := by
  simp only [addC, copy_same h, List.foldl_cons, List.foldl_nil, addOne, kdpHas, bump, kdpPut]
  split
  · refine List.map_congr_left fun p hp => ?_
    by_cases e : p.1 = k
    · subst e
      simp [kdpLook, look_at h hp]
    · simp [e]
  · rfl
theorem bump_keys (c : List (Str × Int)) (k : Str) (v : Int) : (bump c k v).map (fun p => p.1) = if k ∈ c.map (fun p => p.1) then c.map (fun p => p.1) else c.map (fun p => p.1) ++ [k] := by
  unfold bump
  by_cases h : k ∈ c.map (fun p => p.1)
  · rw [if_pos (any_key.mpr h), if_pos h, List.map_map]
    refine List.map_congr_left fun p _ => ?_
    simp only [Function.comp]
    split <;> rfl
  · rw [if_neg (fun e => h (any_key.mp e)), if_neg h]
    simp
theorem bump_kn {c : List (Str × Int)} (h : KN c) (k : Str) (v : Int) : KN (bump c k v) := by
  unfold KN
  rw [bump_keys]
  split
  · exact h
  · rename_i hk
    rw [List.nodup_append]
    refine ⟨h, by simp, ?_⟩
    intro a ha b hb e
    simp only [List.mem_singleton] at hb
    exact hk (by rw [← hb, ← e]; exact ha)
theorem bump_sum : ∀ {c : List (Str × Int)}, KN c → ∀ (k : Str) (v : Int), ((bump c k v).map (·.2)).sum = (c.map (·.2)).sum + v := by
  intro c h k v
  unfold bump
  split
  · rename_i hk
    rw [any_key] at hk
    induction c with
    | nil => simp at hk
    | cons q c ih =>
      unfold KN at h
      rw [List.map_cons, List.nodup_cons] at h
      by_cases e : q.1 = k
      · have rest : c.map (fun p => if p.1 = k then (p.1, p.2 + v) else p) = c := by
          conv => rhs; rw [← List.map_id c]
          refine List.map_congr_left fun p hp => ?_
          rw [if_neg (fun e2 => h.1 (by rw [e, ← e2]; exact List.mem_map.mpr ⟨p, hp, rfl⟩))]; rfl
        simp only [List.map_cons, e, if_true, rest, List.sum_cons]
        omega
      · have hk' : k ∈ c.map (fun p => p.1) := by
          rcases List.mem_cons.mp hk with h1 | h1
          · exact absurd h1.symm e
          · exact h1
        simp only [List.map_cons, e, if_false, List.sum_cons]
        rw [ih h.2 hk']
        omega
  · simp
/-- the table alone -/
def tabP (ways : List (Int × Int)) : List (Str × Int) := ways.foldl (fun c x => bump c (partP x) (measP x.1 x.2)) []
theorem ent_go : ∀ (ways : List (Int × Int)) (e : Int × Int × Int × Int × List (Str × Int)), KN e.2.2.2.2 →
    (ways.foldl entStep e).1 = e.1 + ways.length ∧
    (ways.foldl entStep e).2.1 - ((ways.foldl entStep e).2.2.2.2.map (·.2)).sum = e.2.1 - (e.2.2.2.2.map (·.2)).sum ∧
    (ways.foldl entStep e).2.2.1 = e.2.2.1 + (ways.map (·.1)).sum ∧
    (ways.foldl entStep e).2.2.2.1 = e.2.2.2.1 + (ways.map (·.2)).sum ∧
    (ways.foldl entStep e).2.2.2.2 = ways.foldl (fun c x => bump c (partP x) (measP x.1 x.2)) e.2.2.2.2
  | [], e, _ => by simp
  | x :: ways, e, h => by
    have hb := addC_bump h (partP x) (measP x.1 x.2)
    obtain ⟨h1, h2, h3, h4, h5⟩ := ent_go ways (entStep e x) (by simp only [entStep, hb]; exact bump_kn h _ _)
    simp only [List.foldl_cons, List.map_cons, List.sum_cons, List.length_cons]
    refine ⟨?_, ?_, ?_, ?_, ?_⟩
    · rw [h1]; simp only [entStep]; omega
    · rw [h2]; simp only [entStep, hb, bump_sum h]; omega
    · rw [h3]; simp only [entStep]; omega
    · rw [h4]; simp only [entStep]; omega
    · rw [h5]; simp only [entStep, hb]
theorem ent_is (ways : List (Int × Int)) : (entP ways).1 = ways.length ∧ (entP ways).2.1 = ((entP ways).2.2.2.2.map (·.2)).sum ∧ (entP ways).2.2.1 = (ways.map (·.1)).sum ∧ (entP ways).2.2.2.1 = (ways.map (·.2)).sum ∧ (entP ways).2.2.2.2 = tabP ways := by
  obtain ⟨h1, h2, h3, h4, h5⟩ := ent_go ways (0, 0, 0, 0, []) (by simp [KN])
  refine ⟨?_, ?_, ?_, ?_, h5⟩
  · unfold entP; rw [h1]; simp
  · unfold entP; simp only [List.map_nil, List.sum_nil] at h2; omega
  · unfold entP; rw [h3]; simp
  · unfold entP; rw [h4]; simp
/-- the ways' order turns the table's rows alone -/
theorem bump_perm {c d : List (Str × Int)} (h : c.Perm d) (k : Str) (v : Int) : (bump c k v).Perm (bump d k v) := by
  unfold bump
  rw [h.any_eq]
  split
  · exact h.map _
  · exact h.append_right _
theorem bump_any {c : List (Str × Int)} {k l : Str} {v : Int} : ((bump c k v).any fun p => decide (p.1 = l)) = ((c.any fun p => decide (p.1 = l)) || decide (k = l)) := by
  rw [Bool.eq_iff_iff, any_key, Bool.or_eq_true, any_key, bump_keys, decide_eq_true_eq]
  split
  · rename_i h
    exact ⟨.inl, fun x => x.elim id fun e => e ▸ h⟩
  · simp [eq_comm]
theorem bump_swap (c : List (Str × Int)) (k l : Str) (v z : Int) : (bump (bump c k v) l z).Perm (bump (bump c l z) k v) := by
  have e1 : bump (bump c k v) l z = if ((c.any fun p => decide (p.1 = l)) || decide (k = l)) = true then (bump c k v).map (fun p => if p.1 = l then (p.1, p.2 + z) else p) else bump c k v ++ [(l, z)] := by
    rw [bump, bump_any]
  have e2 : bump (bump c l z) k v = if ((c.any fun p => decide (p.1 = k)) || decide (l = k)) = true then (bump c l z).map (fun p => if p.1 = k then (p.1, p.2 + v) else p) else bump c l z ++ [(k, v)] := by
    rw [bump, bump_any]
  rw [e1, e2]
  by_cases hk : (c.any fun p => decide (p.1 = k)) = true <;> by_cases hl : (c.any fun p => decide (p.1 = l)) = true <;> by_cases kl : k = l
  · subst kl
    simp only [hk, Bool.true_or, if_true, bump, List.map_map]
    rw [show ((fun p : Str × Int => if p.1 = k then (p.1, p.2 + z) else p) ∘ fun p => if p.1 = k then (p.1, p.2 + v) else p) = ((fun p : Str × Int => if p.1 = k then (p.1, p.2 + v) else p) ∘ fun p => if p.1 = k then (p.1, p.2 + z) else p) from by
      funext p; simp only [Function.comp]; by_cases e : p.1 = k <;> simp [e]; omega]
  · simp only [hk, hl, Bool.true_or, if_true, bump, List.map_map]
    rw [show ((fun p : Str × Int => if p.1 = l then (p.1, p.2 + z) else p) ∘ fun p => if p.1 = k then (p.1, p.2 + v) else p) = ((fun p : Str × Int => if p.1 = k then (p.1, p.2 + v) else p) ∘ fun p => if p.1 = l then (p.1, p.2 + z) else p) from by
      funext p; simp only [Function.comp]; by_cases e : p.1 = k
      · have : ¬ p.1 = l := fun e2 => kl (e.symm.trans e2)
        simp [e, kl]
      · by_cases e2 : p.1 = l
        · have lk : ¬ l = k := fun e => kl e.symm
          simp [e2, lk]
        · simp [e, e2]]
  · exact absurd (kl ▸ hk) hl
  · have lk : ¬ l = k := fun e => kl e.symm
    simp [hk, hl, kl, lk, bump]
  · exact absurd (kl ▸ hl) hk
  · have lk : ¬ l = k := fun e => kl e.symm
    simp [hk, hl, kl, lk, bump]
  · subst kl
    have nk : ∀ p ∈ c, ¬ p.1 = k := fun p hp e => hk (any_key.mpr (List.mem_map.mpr ⟨p, hp, e⟩))
    have rest : ∀ y : Int, c.map (fun p => if p.1 = k then (p.1, p.2 + y) else p) = c := fun y => by
      conv => rhs; rw [← List.map_id c]
      exact List.map_congr_left fun p hp => by rw [if_neg (nk p hp)]; rfl
    simp only [hk, bump, List.map_append, rest, Bool.or_true, decide_true, if_true, Bool.false_eq_true, if_false, List.map_cons, List.map_nil]
    rw [Int.add_comm]
  · have lk : ¬ l = k := fun e => kl e.symm
    simp only [hk, hl, kl, lk, bump, decide_false, Bool.or_false, Bool.false_eq_true, if_false, List.append_assoc]
    exact List.Perm.append_left _ (.swap _ _ _)
theorem tab_go {ways ways' : List (Int × Int)} (h : ways.Perm ways') : ∀ {c d : List (Str × Int)}, c.Perm d → (ways.foldl (fun c x => bump c (partP x) (measP x.1 x.2)) c).Perm (ways'.foldl (fun c x => bump c (partP x) (measP x.1 x.2)) d) := by
  induction h with
  | nil => exact fun h => h
  | cons x _ ih => exact fun h => ih (bump_perm h _ _)
  | swap x y l =>
    intro c d h
    simp only [List.foldl_cons]
    have base : ∀ (l : List (Int × Int)) {c d : List (Str × Int)}, c.Perm d → (l.foldl (fun c x => bump c (partP x) (measP x.1 x.2)) c).Perm (l.foldl (fun c x => bump c (partP x) (measP x.1 x.2)) d) := by
      intro l
      induction l with
      | nil => exact fun h => h
      | cons x l ih => exact fun h => ih (bump_perm h _ _)
    exact base l ((bump_swap c _ _ _ _).trans (bump_perm (bump_perm h _ _) _ _))
  | trans _ _ ih1 ih2 => exact fun h => (ih1 (.refl _)).trans (ih2 h)
theorem tab_perm {ways ways' : List (Int × Int)} (h : ways.Perm ways') : (tabP ways).Perm (tabP ways') := tab_go h (.refl _)
end Mine
end

section
open PySem PySem.W PyProof.Rows PyProof.V
namespace Mine
/-- how many at the front satisfy q -/
def cntW {α : Type} (q : α → Bool) : List α → Nat
  | [] => 0
  | a :: t => if q a then cntW q t + 1 else 0
theorem cntW_le {α : Type} (q : α → Bool) : ∀ xs : List α, cntW q xs ≤ xs.length
  | [] => Nat.le_refl _
  | a :: t => by unfold cntW; split <;> simp; exact cntW_le q t
theorem cntW_in {α : Type} (q : α → Bool) (d : α) : ∀ (xs : List α) (i : Nat), i < cntW q xs → q (xs.getD i d) = true
  | [], i, h => by simp [cntW] at h
  | a :: t, i, h => by
    unfold cntW at h
    split at h
    · cases i with
      | zero => simpa
      | succ i => simpa using cntW_in q d t i (by omega)
    · omega
theorem cntW_out {α : Type} (q : α → Bool) (d : α) : ∀ (xs : List α), xs.Pairwise (fun a b => q b = true → q a = true) → ∀ (i : Nat), cntW q xs ≤ i → i < xs.length → q (xs.getD i d) = false
  | [], _, i, _, h => by simp at h
  | a :: t, hp, i, h, hl => by
    rw [List.pairwise_cons] at hp
    unfold cntW at h
    split at h
    · cases i with
      | zero => omega
      | succ i => simpa using cntW_out q d t hp.2 i (by omega) (by simpa using hl)
    · rename_i hq
      cases i with
      | zero => simpa using hq
      | succ i =>
        have hm : (a :: t).getD (i + 1) d ∈ t := by
          rw [List.getD_eq_getElem?_getD]
          have : i < t.length := by simpa using hl
          simp [this]
        cases hc : q ((a :: t).getD (i + 1) d) with
        | false => rfl
        | true => exact absurd (hp.1 _ hm hc) hq
theorem bisP_go (lt : Int → Bool) (n p : Int) (hlow : ∀ i : Int, 0 ≤ i → i < p → lt i = true) (hup : ∀ i : Int, p ≤ i → i < n → lt i = false) :
    ∀ (k : Nat) (lo hi : Int), 0 ≤ lo → lo ≤ p → p ≤ hi → hi ≤ n → hi - lo < k → bisP lt k lo hi = p
  | 0, lo, hi, _, h1, h2, _, hk => by simp at hk; omega
  | k + 1, lo, hi, h0, h1, h2, h3, hk => by
    unfold bisP
    have hmid : Int.fdiv (lo + hi) 2 = (lo + hi) / 2 := Int.fdiv_eq_ediv_of_nonneg _ (by decide)
    rw [hmid]
    split
    · rename_i hlt
      split
      · rename_i hq
        have : ¬ p ≤ (lo + hi) / 2 := fun e => by rw [hup _ e (by omega)] at hq; cases hq
        exact bisP_go lt n p hlow hup k _ _ (by omega) (by omega) h2 h3 (by omega)
      · rename_i hq
        have : ¬ (lo + hi) / 2 < p := fun e => hq (hlow _ (by omega) e)
        exact bisP_go lt n p hlow hup k _ _ h0 h1 (by omega) (by omega) (by omega)
    · omega
theorem bis_cnt {α : Type} (q : α → Bool) (d : α) (xs : List α) (hp : xs.Pairwise (fun a b => q b = true → q a = true)) :
    bisP (fun i => q (xs.getD i.toNat d)) (xs.length + 1) 0 xs.length = cntW q xs := by
  have hl := cntW_le q xs
  refine bisP_go _ xs.length _ (fun i h0 hi => cntW_in q d xs _ (by omega)) (fun i h0 hi => cntW_out q d xs hp _ (by omega) (by omega)) _ _ _ (by omega) (by omega) (by omega) (by omega) (by omega)
def insW {α : Type} (q : α → Bool) (x : α) : List α → List α
  | [] => [x]
  | a :: t => if q a then a :: insW q x t else x :: a :: t
theorem insW_is {α : Type} (q : α → Bool) (x : α) : ∀ xs : List α, xs.take (cntW q xs) ++ x :: xs.drop (cntW q xs) = insW q x xs
  | [] => rfl
  | a :: t => by
    unfold cntW insW
    split
    · simpa using insW_is q x t
    · rfl
theorem insW_map {α β : Type} (f : β → α) (q : α → Bool) (x : β) : ∀ xs : List β, insW q (f x) (xs.map f) = (insW (fun y => q (f y)) x xs).map f
  | [] => rfl
  | a :: t => by
    simp only [List.map_cons, insW]
    split
    · rw [insW_map f q x t]; rfl
    · rfl
theorem insW_perm {α : Type} (q : α → Bool) (x : α) : ∀ xs : List α, (insW q x xs).Perm (x :: xs)
  | [] => .refl _
  | a :: t => by
    unfold insW
    split
    · exact ((insW_perm q x t).cons a).trans (.swap _ _ _)
    · exact .refl _
/-- the same for numbers in their own order -/
def insN (x : Nat) : List Nat → List Nat := insW (fun y => Nat.blt y x) x
def isort (l : List Nat) : List Nat := l.foldl (fun s x => insN x s) []
theorem blt_iff {a b : Nat} : Nat.blt a b = true ↔ a < b := by simp [Nat.blt]; omega
theorem insN_sorted (x : Nat) : ∀ {l : List Nat}, l.Pairwise (· ≤ ·) → (insN x l).Pairwise (· ≤ ·)
  | [], _ => by simp [insN, insW]
  | a :: t, h => by
    have ih := insN_sorted x (l := t) (List.pairwise_cons.mp h).2
    unfold insN at ih ⊢
    unfold insW
    split
    · rename_i hq
      rw [blt_iff] at hq
      rw [List.pairwise_cons]
      refine ⟨fun b hb => ?_, ih⟩
      rcases List.mem_cons.mp ((insW_perm _ x t).mem_iff.mp hb) with rfl | hb
      · omega
      · exact (List.pairwise_cons.mp h).1 b hb
    · rename_i hq
      rw [blt_iff] at hq
      rw [List.pairwise_cons]
      refine ⟨fun b hb => ?_, h⟩
      rcases List.mem_cons.mp hb with rfl | hb
      · omega
      · have := (List.pairwise_cons.mp h).1 b hb; omega
theorem isort_go : ∀ (l s : List Nat), s.Pairwise (· ≤ ·) → (l.foldl (fun s x => insN x s) s).Pairwise (· ≤ ·) ∧ (l.foldl (fun s x => insN x s) s).Perm (s ++ l)
  | [], s, h => by simpa
  | x :: l, s, h => by
    obtain ⟨h1, h2⟩ := isort_go l (insN x s) (insN_sorted x h)
    refine ⟨h1, h2.trans ?_⟩
    exact ((insW_perm _ x s).append_right l).trans (by simpa using (List.perm_middle (a := x) (l₁ := s) (l₂ := l)).symm)
theorem isort_sorted (l : List Nat) : (isort l).Pairwise (· ≤ ·) := (isort_go l [] .nil).1
theorem isort_perm (l : List Nat) : (isort l).Perm l := (isort_go l [] .nil).2
theorem isort_eq {l m : List Nat} (h : l.Perm m) : isort l = isort m :=
  List.Perm.eq_of_pairwise (le := (· ≤ ·)) (fun _ _ _ _ h1 h2 => Nat.le_antisymm h1 h2) (isort_sorted l) (isort_sorted m) ((isort_perm l).trans (h.trans (isort_perm m).symm))
theorem isort_same {l : List Nat} (h : l.Pairwise (· ≤ ·)) : isort l = l :=
  List.Perm.eq_of_pairwise (le := (· ≤ ·)) (fun _ _ _ _ h1 h2 => Nat.le_antisymm h1 h2) (isort_sorted l) h (isort_perm l)
/-- the ways in their words' order -/
def wayAt (i : Nat) : Int × Int := [((1 : Int), (0 : Int)), (2, 0), (3, 0), (3, 1), (2, 1), (3, 2), (1, 1), (2, 2), (3, 3), (2, 3), (1, 2), (1, 3), (0, 1), (0, 2), (0, 3)].getD i (0, 0)
def wordL (i : Nat) : List Nat := [[114], [114, 114], [114, 114, 114], [114, 114, 114, 117], [114, 114, 117], [114, 114, 117, 114, 117], [114, 117], [114, 117, 114, 117], [114, 117, 114, 117, 114, 117], [114, 117, 114, 117, 117], [114, 117, 117], [114, 117, 117, 117], [117], [117, 117], [117, 117, 117]].getD i []
def toS (l : List Nat) : Str := ⟨l.toArray⟩
theorem word_at : ∀ i < 15, wordP (wayAt i).1 (wayAt i).2 = toS (wordL i) := by decide +kernel
theorem word_lt : ∀ i < 15, ∀ j < 15, decide (wordL i < wordL j) = Nat.blt i j := by decide +kernel
def wordS' (i : Nat) : Str := toS (wordL i)
theorem insP_word {l : List Nat} (hs : l.Pairwise (· ≤ ·)) (hl : ∀ i ∈ l, i < 15) {j : Nat} (hj : j < 15) : insP (l.map wordS') (wordS' j) = (insN j l).map wordS' := by
  have hq : ∀ i < 15, (fun y : Str => decide (y.cps.toList < (wordS' j).cps.toList)) (wordS' i) = Nat.blt i j := fun i hi => word_lt i hi j hj
  have hp : (l.map wordS').Pairwise (fun a b => (fun y : Str => decide (y.cps.toList < (wordS' j).cps.toList)) b = true → (fun y : Str => decide (y.cps.toList < (wordS' j).cps.toList)) a = true) := by
    rw [List.pairwise_map]
    refine List.Pairwise.imp_of_mem (fun {a b} ha hb hab => ?_) hs
    rw [hq a (hl a ha), hq b (hl b hb), blt_iff, blt_iff]
    omega
  unfold insP placeP
  rw [bis_cnt (fun y : Str => decide (y.cps.toList < (wordS' j).cps.toList)) Str.empty (l.map wordS') hp, Int.toNat_natCast, insW_is, insW_map]
  congr 1
  clear hp
  unfold insN
  induction l with
  | nil => rfl
  | cons a t ih =>
    have e := hq a (hl a (by simp))
    dsimp only at e
    simp only [insW, e]
    rw [ih (List.pairwise_cons.mp hs).2 fun i hi => hl i (List.mem_cons_of_mem _ hi)]
theorem row_go : ∀ (l s : List Nat), s.Pairwise (· ≤ ·) → (∀ i ∈ s, i < 15) → (∀ i ∈ l, i < 15) → (l.map wayAt).foldl (fun xs x => insP xs (wordP x.1 x.2)) (s.map wordS') = (l.foldl (fun s x => insN x s) s).map wordS'
  | [], s, _, _, _ => rfl
  | j :: l, s, hs, h1, h2 => by
    simp only [List.map_cons, List.foldl_cons]
    rw [word_at j (h2 j (by simp))]
    have := insP_word hs h1 (h2 j (by simp))
    unfold wordS' at this ⊢
    rw [this]
    refine row_go l (insN j s) (insN_sorted j hs) (fun i hi => ?_) (fun i hi => h2 i (List.mem_cons_of_mem _ hi))
    rcases List.mem_cons.mp ((insW_perm _ j s).mem_iff.mp hi) with rfl | hi
    · exact h2 _ (by simp)
    · exact h1 _ hi
theorem row_is {l : List Nat} (h : ∀ i ∈ l, i < 15) : rowP (l.map wayAt) = (isort l).map wordS' := row_go l [] .nil (by simp) h
end Mine
end

section
open PySem PySem.W PyProof.Rows PyProof.V
namespace Mine
theorem toS_len (l : List Nat) : (toS l).length = l.length := by simp [toS, Str.length]
theorem toS_inj {a b : List Nat} (h : toS a = toS b) : a = b := by
  simpa [toS] using h
theorem join_toS (ls : List (List Nat)) : Txt.join (Str.ofString "") (ls.map toS) = toS ls.flatten := by
  have he : (Str.ofString "").cps = #[] := by decide
  have go : ∀ (ls : List (List Nat)) (acc : Array Nat), (ls.map toS).foldl (fun acc p => acc ++ (Str.ofString "").cps ++ p.cps) acc = acc ++ ls.flatten.toArray := by
    intro ls
    induction ls with
    | nil => intro acc; simp
    | cons l ls ih =>
      intro acc
      rw [List.map_cons, List.foldl_cons, ih, he]
      simp [toS]
  unfold Txt.join Builtin.Str.glued
  cases ls with
  | nil => simp [toS, Str.empty]
  | cons l ls =>
    simp only [List.map_cons, List.drop_succ_cons, List.drop_zero, List.headD_cons]
    rw [go]
    simp [toS]
def pathL (l : List Nat) : List Nat := (l.reverse.map wordL).flatten
theorem path_is {l : List Nat} (h : ∀ i ∈ l, i < 15) : pathP (l.map wayAt) = toS (pathL (isort l)) := by
  unfold pathP pathL
  rw [row_is h, ← join_toS, ← List.map_reverse]
  simp only [List.map_map]
  rfl
theorem filterMap_range (cs : List Nat) (i : Nat) : ∀ n, i + n ≤ cs.length → (List.range n).filterMap (fun k => cs[i + k]?) = (cs.drop i).take n
  | 0, _ => by simp
  | n + 1, h => by
    rw [List.range_succ, List.filterMap_append, filterMap_range cs i n (by omega), List.take_add_one]
    congr 1
    have : i + n < cs.length := by omega
    simp [this]
theorem slice_toS (cs : List Nat) (i n : Nat) (h : i + n ≤ cs.length) : Txt.slice (toS cs) (some i) (some (i + n)) = toS ((cs.drop i).take n) := by
  have e : Builtin.Str.strSliceIndices (some (i : Int)) (some ((i : Int) + n)) 1 (toS cs).length = (List.range n).map (fun k => i + k) := by
    rw [toS_len]
    unfold Builtin.Str.strSliceIndices sliceRange
    have h1 : ¬ (i : Int) < 0 := by omega
    have h2 : ¬ (i : Int) + n < 0 := by omega
    have h3 : max (0 : Int) (min (i : Int) cs.length) = i := by omega
    have h4 : max (0 : Int) (min ((i : Int) + n) cs.length) = i + n := by omega
    simp only [h1, h2, if_false, show (1 : Int) > 0 by decide, if_true, h3, h4, Int.ediv_one]
    have h5 : (if (i : Int) < i + n then (i : Int) + n - i + 1 - 1 else 0).toNat = n := by split <;> omega
    rw [h5]
    refine List.map_congr_left fun k _ => ?_
    omega
  unfold Txt.slice
  rw [e]
  split
  · rename_i hc
    simp only [toS_len, List.length_map, List.length_range, Bool.and_eq_true, beq_iff_eq] at hc
    have hn := hc.2
    have : i = 0 := by omega
    subst this
    rw [hn, List.drop_zero, List.take_length]
  · show (⟨_⟩ : Str) = ⟨_⟩
    congr 1
    rw [List.filterMap_map]
    congr 1
    rw [← filterMap_range cs i n h]
    congr 1
    funext k
    simp [toS]
theorem item_toS (cs : List Nat) (i : Nat) (h : i < cs.length) : Txt.item (toS cs) (i : Int) = toS [cs[i]] := by
  have h1 : ¬ (i : Int) < 0 := by omega
  unfold Txt.item Txt.charAt seqIndex?
  simp only [toS_len, h1, if_false]
  have h2 : (decide (0 ≤ (i : Int)) && decide ((i : Int) < cs.length)) = true := by simp; omega
  rw [if_pos h2]
  simp [toS, h]
theorem ltI_toS (cs : List Nat) (i j : Nat) (hi : i < cs.length) (hj : j < cs.length) : ltI (toS cs) i j = Nat.blt cs[i] cs[j] := by
  unfold ltI
  rw [item_toS cs i hi, item_toS cs j hj, Bool.eq_iff_iff, blt_iff, decide_eq_true_eq]
  show [cs[i]] < [cs[j]] ↔ _
  rw [List.cons_lt_cons_iff]
  simp
/-- Duval's inner walk over the rests of the path -/
def innF (s : List Nat) : List Nat → List Nat → Nat → Nat → Nat × Nat
  | [], _, n, D => (n, D)
  | _ :: _, [], n, D => (n, D)
  | y :: fs, x :: bs, n, D => bif Nat.blt y x then (n, D) else bif Nat.blt x y then innF s fs s (n + D + 1) 0 else innF s fs bs n (D + 1)
theorem inn_go (cs : List Nat) (i : Nat) : ∀ (k D n : Nat), 0 < n → i + D + n ≤ cs.length → cs.length < i + D + n + k →
    innerGo (toS cs) i k ((i + D : Nat) : Int) ((i + D + n : Nat) : Int) = (((i + (innF (cs.drop i) (cs.drop (i + D + n)) (cs.drop (i + D)) n D).2 : Nat) : Int), ((i + (innF (cs.drop i) (cs.drop (i + D + n)) (cs.drop (i + D)) n D).2 + (innF (cs.drop i) (cs.drop (i + D + n)) (cs.drop (i + D)) n D).1 : Nat) : Int)) ∧
    (i + (innF (cs.drop i) (cs.drop (i + D + n)) (cs.drop (i + D)) n D).2 + (innF (cs.drop i) (cs.drop (i + D + n)) (cs.drop (i + D)) n D).1 ≤ cs.length ∧ 0 < (innF (cs.drop i) (cs.drop (i + D + n)) (cs.drop (i + D)) n D).1)
  | 0, D, n, _, h2, hk => absurd hk (Nat.not_lt.mpr h2)
  | k + 1, D, n, h1, h2, hk => by
    unfold innerGo
    rw [toS_len]
    by_cases hf : i + D + n = cs.length
    · rw [if_neg (fun h => absurd (Int.ofNat_lt.mp h.1) (Nat.not_lt.mpr (Nat.le_of_eq hf.symm))), List.drop_of_length_le (Nat.le_of_eq hf.symm)]
      cases cs.drop (i + D) <;> exact ⟨rfl, h2, h1⟩
    · have hf' : i + D + n < cs.length := Nat.lt_of_le_of_ne h2 hf
      have hb' : i + D < cs.length := Nat.lt_of_le_of_lt (Nat.le_add_right _ n) hf'
      rw [List.drop_eq_getElem_cons hf', List.drop_eq_getElem_cons hb', ltI_toS cs _ _ hf' hb', ltI_toS cs _ _ hb' hf']
      simp only [innF]
      cases hq : Nat.blt cs[i + D + n] cs[i + D] with
      | true =>
        rw [if_neg (by simp)]
        exact ⟨rfl, h2, h1⟩
      | false =>
        rw [if_pos ⟨Int.ofNat_lt.mpr hf', rfl⟩]
        simp only [cond_false]
        cases hr : Nat.blt cs[i + D] cs[i + D + n] with
        | true =>
          have ih := inn_go cs i k 0 (n + D + 1) (Nat.succ_pos _) (by omega) (by omega)
          rw [Nat.add_zero, show i + (n + D + 1) = i + D + n + 1 by omega] at ih
          simp only [cond_true, if_true]
          exact ih
        | false =>
          have ih := inn_go cs i k (D + 1) n h1 (by omega) (by omega)
          rw [show i + (D + 1) + n = i + D + n + 1 by omega, show i + (D + 1) = i + D + 1 from rfl] at ih
          simp only [cond_false, Bool.false_eq_true, if_false]
          exact ih
/-- a small dictionary by lists of signs -/
def beqL : List Nat → List Nat → Bool
  | [], [] => true
  | a :: s, b :: t => bif Nat.beq a b then beqL s t else false
  | [], _ :: _ => false
  | _ :: _, [] => false
theorem beqL_iff : ∀ {a b : List Nat}, beqL a b = true ↔ a = b
  | [], [] => by simp [beqL]
  | a :: s, b :: t => by
    unfold beqL
    cases h : Nat.beq a b with
    | true => rw [Nat.eq_of_beq_eq_true h]; simp [beqL_iff (a := s) (b := t)]
    | false => have := Nat.ne_of_beq_eq_false h; simp [this]
  | [], _ :: _ => by simp [beqL]
  | _ :: _, [] => by simp [beqL]
def addF (u : List Nat) (v : Nat) : List (List Nat × Nat) → List (List Nat × Nat)
  | [] => [(u, v)]
  | (k, z) :: r => bif beqL k u then (k, z + v) :: r else (k, z) :: addF u v r
def enc (p : List Nat × Nat) : Str × Int := (toS p.1, (p.2 : Int))
theorem addF_bump : ∀ (c : List (List Nat × Nat)), KN (c.map enc) → ∀ (u : List Nat) (v : Nat), bump (c.map enc) (toS u) v = (addF u v c).map enc
  | [], _, u, v => by simp [bump, addF, enc]
  | (k, z) :: r, h, u, v => by
    have hr : KN (r.map enc) := by unfold KN at h ⊢; simp only [List.map_cons, List.nodup_cons] at h; exact h.2
    have ih := addF_bump r hr u v
    unfold addF
    cases hq : beqL k u with
    | true =>
      rw [beqL_iff] at hq
      subst hq
      have hn : ∀ p ∈ r.map enc, ¬ p.1 = toS k := fun p hp e => by
        unfold KN at h
        simp only [List.map_cons, List.nodup_cons, enc] at h
        exact h.1 (by rw [← e]; exact List.mem_map.mpr ⟨p, hp, rfl⟩)
      have rest : (r.map enc).map (fun p => if p.1 = toS k then (p.1, p.2 + (v : Int)) else p) = r.map enc := by
        conv => rhs; rw [← List.map_id (r.map enc)]
        exact List.map_congr_left fun p hp => by rw [if_neg (hn p hp)]; rfl
      simp only [cond_true, List.map_cons]
      unfold bump
      rw [if_pos (by simp [enc]), List.map_cons, rest]
      simp [enc]
    | false =>
      have hne : ¬ toS k = toS u := fun e => by rw [toS_inj e, beqL_iff.mpr rfl] at hq; cases hq
      simp only [cond_false, List.map_cons]
      rw [← ih]
      unfold bump
      have ha : (((enc (k, z)) :: r.map enc).any fun p => decide (p.1 = toS u)) = ((r.map enc).any fun p => decide (p.1 = toS u)) := by
        simp [enc, hne]
      rw [ha]
      split
      · rw [List.map_cons, if_neg (by exact hne)]
      · rfl
/-- the cut at one word's ends -/
def cutF (n : Nat) : Nat → List Nat → Nat → List (List Nat × Nat) → List Nat × List (List Nat × Nat)
  | 0, s, _, c => (s, c)
  | k + 1, s, D, c => match D with
    | 0 => (s, c)
    | D + 1 => cutF n k (s.drop n) (D + 1 - n) (addF (s.take n) 1 c)
theorem put_bump {c : List (Str × Int)} (h : KN c) (k : Str) : kdpPut c k (kdpLook c k 0 + 1) = bump c k 1 := by
  have h1 := addC_bump h k 1
  have h2 : addC c [(k, 1)] = addOne c (k, 1) := by simp only [addC, copy_same h]; rfl
  rw [h2] at h1
  unfold addOne at h1
  by_cases hn : kdpHas c k = true
  · rw [if_pos hn] at h1
    exact h1
  · rw [if_neg hn] at h1
    have : kdpLook c k 0 = 0 := by
      unfold kdpLook
      rw [List.find?_eq_none.mpr fun p hp => by
        intro e
        exact hn (List.any_eq_true.mpr ⟨p, hp, e⟩)]
      rfl
    rw [this]; exact h1
theorem cut_go (cs : List Nat) (b n : Nat) (hn : 0 < n) (hb : b + n ≤ cs.length) : ∀ (k i : Nat) (c : List (List Nat × Nat)), i ≤ cs.length → KN (c.map enc) →
    ∃ i' : Nat, i' ≤ cs.length ∧ i ≤ i' ∧ (cutGo (toS cs) b n k i (c.map enc)).1 = i' ∧ (cutF n k (cs.drop i) (b + 1 - i) c).1 = cs.drop i' ∧ (cutGo (toS cs) b n k i (c.map enc)).2 = ((cutF n k (cs.drop i) (b + 1 - i) c).2).map enc ∧ KN (((cutF n k (cs.drop i) (b + 1 - i) c).2).map enc)
  | 0, i, c, hi, hc => ⟨i, hi, Nat.le_refl _, rfl, rfl, rfl, hc⟩
  | k + 1, i, c, hi, hc => by
    unfold cutGo cutF
    by_cases hib : i ≤ b
    · obtain ⟨D, hD⟩ : ∃ D, b + 1 - i = D + 1 := ⟨b - i, by omega⟩
      rw [if_pos (by omega), hD]
      dsimp only
      rw [← hD, slice_toS cs i n (by omega), put_bump hc]
      have e := addF_bump c hc ((cs.drop i).take n) 1
      rw [show ((1 : Nat) : Int) = 1 from rfl] at e
      have hc' := bump_kn hc (toS ((cs.drop i).take n)) 1
      rw [e] at hc' ⊢
      obtain ⟨i', g1, g2, g3, g4, g5, g6⟩ := cut_go cs b n hn hb k (i + n) _ (by omega) hc'
      rw [List.drop_drop, show b + 1 - i - n = b + 1 - (i + n) by omega]
      exact ⟨i', g1, by omega, by exact_mod_cast g3, g4, by exact_mod_cast g5, g6⟩
    · rw [if_neg (by omega), show b + 1 - i = 0 by omega]
      exact ⟨i, hi, Nat.le_refl _, rfl, rfl, rfl, hc⟩
def leastF (m : Nat) : Nat → List Nat → List (List Nat × Nat) → List (List Nat × Nat)
  | 0, _, c => c
  | k + 1, s, c => match s with
    | [] => c
    | x :: t => match innF (x :: t) t (x :: t) 1 0 with
      | (n, D) => match cutF n m (x :: t) (D + 1) c with
        | (s', c') => leastF m k s' c'
theorem least_go (cs : List Nat) : ∀ (k i : Nat) (c : List (List Nat × Nat)), i ≤ cs.length → KN (c.map enc) →
    leastGo (toS cs) k i (c.map enc) = (leastF (cs.length + 1) k (cs.drop i) c).map enc
  | 0, i, c, _, _ => rfl
  | k + 1, i, c, hi, hc => by
    unfold leastGo leastF
    rw [toS_len]
    by_cases h : i < cs.length
    · rw [if_pos (by omega)]
      have hd : cs.drop i = cs[i] :: cs.drop (i + 1) := List.drop_eq_getElem_cons h
      obtain ⟨g1, g2, g3⟩ := inn_go cs i (cs.length + 1) 0 1 Nat.one_pos h (by omega)
      simp only [Nat.add_zero] at g1 g2 g3
      rw [show ((i : Int) + 1) = ((i + 1 : Nat) : Int) by omega, g1]
      dsimp only
      rw [hd]
      dsimp only
      rw [← hd]
      generalize innF (cs.drop i) (cs.drop (i + 1)) (cs.drop i) 1 0 = q at g2 g3 ⊢
      obtain ⟨n, D⟩ := q
      dsimp only at g2 g3 ⊢
      obtain ⟨i', e1, e2, e3, e4, e5, e6⟩ := cut_go cs (i + D) n g3 (by omega) (cs.length + 1) i c hi hc
      rw [show i + D + 1 - i = D + 1 by omega] at e4 e5 e6
      rw [show (((i + D + n : Nat) : Int) - ((i + D : Nat) : Int)) = (n : Int) by omega, e3, e5]
      generalize cutF n (cs.length + 1) (cs.drop i) (D + 1) c = q at e4 e6 ⊢
      obtain ⟨s', c'⟩ := q
      dsimp only at e4 e6 ⊢
      rw [e4]
      exact least_go cs k i' c' e1 e6
    · rw [if_neg (by omega), List.drop_of_length_le (by omega)]
theorem least_is (cs : List Nat) : leastP (toS cs) = (leastF (cs.length + 1) (cs.length + 1) cs []).map enc := by
  have := least_go cs (cs.length + 1) 0 [] (Nat.zero_le _) (by simp [KN])
  simpa [leastP, toS_len] using this
end Mine
end

section
open PySem PySem.W PyProof.Rows PyProof.V
namespace Mine
/-- the path's heights -/
def aheadF : List Nat → Nat → List Nat
  | [], up => [up]
  | c :: r, up => bif Nat.beq c 117 then aheadF r (up + 1) else up :: aheadF r up
theorem ahead_go : ∀ (cs : List Nat) (acc : List Int) (up : Nat), (aheadGo cs acc up).1 ++ [(aheadGo cs acc up).2] = acc ++ (aheadF cs up).map fun x : Nat => (x : Int)
  | [], acc, up => rfl
  | c :: r, acc, up => by
    unfold aheadGo aheadF
    by_cases h : c = 117
    · subst h
      simp only [if_true]
      rw [show ((up : Int) + 1) = ((up + 1 : Nat) : Int) by omega, ahead_go r acc (up + 1)]
      rfl
    · have : Nat.beq c 117 = false := by cases e : Nat.beq c 117 with
        | false => rfl
        | true => exact absurd (Nat.eq_of_beq_eq_true e) h
      simp only [h, if_false, this, cond_false]
      rw [ahead_go r (acc ++ [(up : Int)]) up]
      simp
theorem ahead_is (cs : List Nat) : aheadP cs = (aheadF cs 0).map fun x : Nat => (x : Int) := by
  have := ahead_go cs [] 0
  simpa [aheadP] using this
theorem aheadF_sorted : ∀ (cs : List Nat) (up : Nat), (aheadF cs up).Pairwise (· ≤ ·) ∧ ∀ x ∈ aheadF cs up, up ≤ x
  | [], up => by simp [aheadF]
  | c :: r, up => by
    unfold aheadF
    cases Nat.beq c 117 with
    | true =>
      simp only [cond_true]
      have ih := aheadF_sorted r (up + 1)
      exact ⟨ih.1, fun x hx => by have := ih.2 x hx; omega⟩
    | false =>
      simp only [cond_false]
      have ih := aheadF_sorted r up
      refine ⟨List.pairwise_cons.mpr ⟨ih.2, ih.1⟩, fun x hx => ?_⟩
      rcases List.mem_cons.mp hx with rfl | hx
      · exact Nat.le_refl _
      · exact ih.2 x hx
theorem aheadF_ne : ∀ (cs : List Nat) (up : Nat), 0 < (aheadF cs up).length
  | [], up => by simp [aheadF]
  | c :: r, up => by
    unfold aheadF
    cases Nat.beq c 117 with
    | true => exact aheadF_ne r (up + 1)
    | false => simp
theorem aheadF_len : ∀ (cs : List Nat) (up : Nat), (aheadF cs up).length ≤ cs.length + 1
  | [], up => by simp [aheadF]
  | c :: r, up => by
    unfold aheadF
    cases Nat.beq c 117 with
    | true => have := aheadF_len r (up + 1); simp only [cond_true, List.length_cons]; omega
    | false => have := aheadF_len r up; simp only [cond_false, List.length_cons]; omega
def cntF : List Nat → Nat → Nat
  | [], _ => 0
  | a :: t, y => bif Nat.blt a y then cntF t y + 1 else 0
theorem cntF_is (y : Nat) : ∀ l : List Nat, cntW (fun a : Int => decide (a < (y : Int))) (l.map fun x : Nat => (x : Int)) = cntF l y
  | [] => rfl
  | a :: t => by
    simp only [List.map_cons, cntW, cntF]
    cases h : Nat.blt a y with
    | true =>
      rw [blt_iff] at h
      rw [if_pos (by simpa using h), cntF_is y t]; rfl
    | false =>
      have : ¬ a < y := fun e => by rw [blt_iff.mpr e] at h; cases h
      rw [if_neg (by simpa using this)]; rfl
theorem bisI_is {l : List Nat} (h : l.Pairwise (· ≤ ·)) (y : Nat) : bisI (l.map fun x : Nat => (x : Int)) y = cntF l y := by
  unfold bisI
  rw [← cntF_is y l]
  have := bis_cnt (fun a : Int => decide (a < (y : Int))) 0 (l.map fun x : Nat => (x : Int)) (by
    rw [List.pairwise_map]
    exact h.imp fun {a b} hab => by simp only [decide_eq_true_eq]; omega)
  exact this
/-- within, for places told from one to the left on -/
def withinF (X y wide top : Nat) : List (Nat × Nat × Nat) → Bool
  | [] => true
  | (a, b, r) :: t => bif Nat.ble (2 * (a * y + b) + b * wide) (a * top + 2 * b * X + r) then (bif Nat.ble (a * top + 2 * b * X) (2 * (a * y + b) + b * wide + r) then withinF X y wide top t else false) else false
def encT (t : Nat × Nat × Nat) : Int × Int × Int := (t.1, t.2.1, t.2.2)
theorem within_is (X y wide top : Nat) : ∀ sd : List (Nat × Nat × Nat), withinP ((X : Int) - 1) y wide top (sd.map encT) = withinF X y wide top sd
  | [] => rfl
  | (a, b, r) :: t => by
    simp only [List.map_cons, encT, withinP, withinF]
    have ih := within_is X y wide top t
    have e : (a : Int) * (2 * y - top) - b * (2 * ((X : Int) - 1) - wide) = ((2 * (a * y + b) + b * wide : Nat) : Int) - ((a * top + 2 * b * X : Nat) : Int) := by
      push_cast
      simp only [Int.mul_sub, Int.mul_add]
      rw [Int.mul_left_comm (a : Int) 2 y, Int.mul_left_comm (b : Int) 2 X, Int.mul_assoc 2 (b : Int) X]
      omega
    rw [e]
    generalize 2 * (a * y + b) + b * wide = U
    generalize a * top + 2 * b * X = V
    unfold iabs
    cases h1 : Nat.ble U (V + r) with
    | false =>
      have : ¬ U ≤ V + r := fun e => by rw [Nat.ble_eq.mpr e] at h1; cases h1
      rw [if_pos (by split <;> omega)]; rfl
    | true =>
      rw [Nat.ble_eq] at h1
      cases h2 : Nat.ble V (U + r) with
      | false =>
        have : ¬ V ≤ U + r := fun e => by rw [Nat.ble_eq.mpr e] at h2; cases h2
        rw [if_pos (by split <;> omega)]; rfl
      | true =>
        rw [Nat.ble_eq] at h2
        rw [if_neg (by split <;> omega), ih]; rfl
theorem within_all (x y wide top : Int) : ∀ sd : List (Int × Int × Int), withinP x y wide top sd = sd.all fun t => decide (¬ t.2.2 < iabs (t.1 * (2 * y - top) - t.2.1 * (2 * x - wide)))
  | [] => rfl
  | (a, b, r) :: t => by
    simp only [withinP, List.all_cons]
    rw [within_all x y wide top t]
    split
    · rename_i h; simp [h]
    · rename_i h; simp [h]
theorem within_perm {s t : List (Int × Int × Int)} (h : s.Perm t) (x y wide top : Int) : withinP x y wide top s = withinP x y wide top t := by
  rw [within_all, within_all, h.all_eq]
def lineF (sd : List (Nat × Nat × Nat)) (wide top line f L : Nat) : Bool :=
  bif Nat.ble f L then
    (bif withinF f line wide top sd then false else
     bif withinF (L + 1) line wide top sd then false else
     bif Nat.blt f L then (bif withinF (f + 1) line wide top sd then withinF L line wide top sd else false)
     else (bif withinF (f + 1) line wide top sd then false else (bif withinF L line wide top sd then false else true)))
  else false
def linesF (ah : List Nat) (sd : List (Nat × Nat × Nat)) (wide top : Nat) : Nat → Nat → Nat → Nat → Bool
  | 0, _, acc, due => Nat.beq acc due
  | k + 1, line, acc, due => bif lineF sd wide top line (cntF ah line) (wide + 1 - cntF ah (top - line)) then linesF ah sd wide top k (line + 1) (acc + (wide + 1 - cntF ah (top - line) - cntF ah line)) due else false
theorem dues4 {ws : Int → Bool} {x1 x2 x3 x4 : Int} {d : Bool} (h1 : ws x1 = false) (h2 : ws x2 = d) (h3 : ws x3 = d) (h4 : ws x4 = false) : duesP ws [(x1, false), (x2, d), (x3, d), (x4, false)] = true := by
  simp [duesP, h1, h2, h3, h4]
theorem dues_is {sd : List (Nat × Nat × Nat)} {s : List (Int × Int × Int)} (hs : s.Perm (sd.map encT)) {wide top line f L : Nat} (h : lineF sd wide top line f L = true) :
    f ≤ L ∧ duesP (fun x => withinP x line wide top s) [((f : Int) - 1, false), ((f : Int), decide ((f : Int) ≤ (L : Int) - 1)), ((L : Int) - 1, decide ((f : Int) ≤ (L : Int) - 1)), ((L : Int) - 1 + 1, false)] = true := by
  have w : ∀ X : Nat, withinP ((X : Int) - 1) line wide top s = withinF X line wide top sd := fun X => by rw [within_perm hs, within_is]
  unfold lineF at h
  cases h0 : Nat.ble f L with
  | false => rw [h0] at h; cases h
  | true =>
    rw [h0] at h
    simp only [cond_true] at h
    rw [Nat.ble_eq] at h0
    refine ⟨h0, ?_⟩
    cases h1 : withinF f line wide top sd with
    | true => rw [h1] at h; cases h
    | false =>
      cases h2 : withinF (L + 1) line wide top sd with
      | true => rw [h1, h2] at h; cases h
      | false =>
        rw [h1, h2] at h
        simp only [cond_false] at h
        have e1 := w f
        have e2 := w (f + 1)
        have e3 := w L
        have e4 := w (L + 1)
        rw [show (((f + 1 : Nat) : Int) - 1) = f by omega] at e2
        rw [show (((L + 1 : Nat) : Int) - 1) = (L : Int) - 1 + 1 by omega] at e4
        rw [h1] at e1
        rw [h2] at e4
        cases h3 : Nat.blt f L with
        | true =>
          rw [h3] at h
          rw [blt_iff] at h3
          have d : decide ((f : Int) ≤ (L : Int) - 1) = true := by simp; omega
          cases h4 : withinF (f + 1) line wide top sd with
          | false => rw [h4] at h; cases h
          | true =>
            rw [h4] at h
            simp only [cond_true] at h
            exact dues4 e1 (e2.trans (h4.trans d.symm)) (e3.trans (h.trans d.symm)) e4
        | false =>
          rw [h3] at h
          have h3' : ¬ f < L := fun e => by rw [blt_iff.mpr e] at h3; cases h3
          have d : decide ((f : Int) ≤ (L : Int) - 1) = false := by simp; omega
          cases h4 : withinF (f + 1) line wide top sd with
          | true => rw [h4] at h; cases h
          | false =>
            cases h5 : withinF L line wide top sd with
            | true => rw [h4, h5] at h; cases h
            | false => exact dues4 e1 (e2.trans (h4.trans d.symm)) (e3.trans (h5.trans d.symm)) e4
theorem lines_is {ah : List Nat} (hp : ah.Pairwise (· ≤ ·)) {sd : List (Nat × Nat × Nat)} {s : List (Int × Int × Int)} (hs : s.Perm (sd.map encT)) {wide top : Nat} (hw : ah.length = wide + 1) : ∀ (k line acc due : Nat), k + line = top + 1 → linesF ah sd wide top k line acc due = true →
    linesP (ah.map fun x : Nat => (x : Int)) s wide top k line acc = due
  | 0, line, acc, due, _, h => by
    simp only [linesF] at h
    rw [Nat.eq_of_beq_eq_true h]; rfl
  | k + 1, line, acc, due, hk, h => by
    unfold linesF at h
    unfold linesP
    have hc : cntF ah (top - line) ≤ wide + 1 := by
      rw [← cntF_is, ← hw]
      have := cntW_le (fun a : Int => decide (a < ((top - line : Nat) : Int))) (ah.map fun x : Nat => (x : Int))
      simpa using this
    have e1 := bisI_is hp line
    have e2 := bisI_is hp (top - line)
    rw [show (((top - line : Nat) : Int)) = (top : Int) - line by omega] at e2
    rw [e1, e2]
    dsimp only
    generalize hf : cntF ah line = f at h ⊢
    generalize hg : cntF ah (top - line) = g at h hc ⊢
    generalize hL : wide + 1 - g = L at h ⊢
    rw [show (wide : Int) - (g : Int) = (L : Int) - 1 by omega]
    cases h0 : lineF sd wide top line f L with
    | false => rw [h0] at h; cases h
    | true =>
      rw [h0] at h
      obtain ⟨hfL, hd⟩ := dues_is hs h0
      rw [if_pos hd]
      have ih := lines_is hp hs hw k (line + 1) (acc + (L - f)) due (by omega) h
      rw [show ((line : Int) + 1) = ((line + 1 : Nat) : Int) by omega, show ((acc : Int) + ((L : Int) - 1 + 1 - f)) = ((acc + (L - f) : Nat) : Int) by omega]
      exact ih
end Mine
end

section
open PySem PySem.W PyProof.Rows PyProof.V
namespace Mine
def abAt (i : Nat) : Nat × Nat := [(1, 0), (2, 0), (3, 0), (3, 1), (2, 1), (3, 2), (1, 1), (2, 2), (3, 3), (2, 3), (1, 2), (1, 3), (0, 1), (0, 2), (0, 3)].getD i (0, 0)
def partL (i : Nat) : List Nat := [[114], [114], [114], [114, 114, 114, 117], [114, 114, 117], [114, 114, 117, 114, 117], [114, 117], [114, 117], [114, 117], [114, 117, 114, 117, 117], [114, 117, 117], [114, 117, 117, 117], [117], [117], [117]].getD i []
def measN (i : Nat) : Nat := [1, 2, 3, 1, 1, 1, 1, 2, 3, 1, 1, 1, 1, 2, 3].getD i 0
theorem way_ab : ∀ i < 15, wayAt i = (((abAt i).1 : Int), ((abAt i).2 : Int)) := by decide +kernel
theorem part_at : ∀ i < 15, partP (wayAt i) = toS (partL i) ∧ measP (wayAt i).1 (wayAt i).2 = (measN i : Int) := by decide +kernel
def tabF (l : List Nat) : List (List Nat × Nat) := l.foldl (fun c i => addF (partL i) (measN i) c) []
theorem tabF_go : ∀ (l : List Nat) (c : List (List Nat × Nat)), (∀ i ∈ l, i < 15) → KN (c.map enc) → (l.map wayAt).foldl (fun c x => bump c (partP x) (measP x.1 x.2)) (c.map enc) = (l.foldl (fun c i => addF (partL i) (measN i) c) c).map enc
  | [], c, _, _ => rfl
  | i :: l, c, h, hc => by
    obtain ⟨h1, h2⟩ := part_at i (h i (by simp))
    have e := addF_bump c hc (partL i) (measN i)
    have hb := bump_kn hc (toS (partL i)) (measN i : Int)
    simp only [List.map_cons, List.foldl_cons]
    rw [h1, h2, e]
    rw [e] at hb
    exact tabF_go l _ (fun j hj => h j (List.mem_cons_of_mem _ hj)) hb
theorem tabF_is {l : List Nat} (h : ∀ i ∈ l, i < 15) : tabP (l.map wayAt) = (tabF l).map enc := tabF_go l [] h (by simp [KN])
def reachF (a b : Nat) : List (Nat × Nat) → Nat
  | [] => 0
  | (c, d) :: t => (a * d - b * c) + (b * c - a * d) + reachF a b t
def sidesF (ab : List (Nat × Nat)) : List (Nat × Nat × Nat) := ab.map fun x => (x.1, x.2, reachF x.1 x.2 ab)
def toI (x : Nat × Nat) : Int × Int := (x.1, x.2)
theorem reach_is (a b : Nat) : ∀ ab : List (Nat × Nat), (reachP (a : Int) b (ab.map toI)).sum = (reachF a b ab : Int)
  | [] => rfl
  | (c, d) :: t => by
    have ih := reach_is a b t
    unfold reachP at ih ⊢
    simp only [List.map_cons, List.sum_cons, toI, reachF]
    rw [ih]
    unfold iabs
    have e1 : (a : Int) * d = ((a * d : Nat) : Int) := by simp
    have e2 : (b : Int) * c = ((b * c : Nat) : Int) := by simp
    rw [e1, e2]
    split <;> omega
theorem sides_is (ab : List (Nat × Nat)) : sidesP (ab.map toI) = (sidesF ab).map encT := by
  unfold sidesP sidesF
  rw [List.map_map, List.map_map]
  refine List.map_congr_left fun x _ => ?_
  simp only [Function.comp, toI, encT]
  have := reach_is x.1 x.2 ab
  rw [this]
theorem sum_perm {s t : List Int} (h : s.Perm t) : s.sum = t.sum := by
  induction h with
  | nil => rfl
  | cons x _ ih => simp [ih]
  | swap x y l => simp only [List.sum_cons]; omega
  | trans _ _ h1 h2 => exact h1.trans h2
theorem sides_perm {s t : List (Int × Int)} (h : s.Perm t) : (sidesP s).Perm (sidesP t) := by
  unfold sidesP
  rw [show (s.map fun x => (x.1, x.2, (reachP x.1 x.2 s).sum)) = s.map fun x => (x.1, x.2, (reachP x.1 x.2 t).sum) from List.map_congr_left fun x _ => by
    rw [show (reachP x.1 x.2 s).sum = (reachP x.1 x.2 t).sum from sum_perm (h.map _)]]
  exact h.map _
def sumA : List (Nat × Nat) → Nat
  | [] => 0
  | x :: t => x.1 + sumA t
def sumB : List (Nat × Nat) → Nat
  | [] => 0
  | x :: t => x.2 + sumB t
def sumT {α : Type} : List (α × Nat) → Nat
  | [] => 0
  | x :: t => x.2 + sumT t
def sumR : List (Nat × Nat × Nat) → Nat
  | [] => 0
  | x :: t => x.2.2 + sumR t
def hasF (u : List Nat) (v : Nat) : List (List Nat × Nat) → Bool
  | [] => false
  | (k, z) :: r => bif beqL k u then Nat.beq z v else hasF u v r
def subF : List (List Nat × Nat) → List (List Nat × Nat) → Bool
  | [], _ => true
  | (u, v) :: r, c => bif hasF u v c then subF r c else false
def lastF : List Nat → Nat
  | [] => 0
  | a :: t => match t with
    | [] => a
    | _ :: _ => lastF t
def chkPts (ah : List Nat) (sd : List (Nat × Nat × Nat)) (top due : Nat) : Bool := linesF ah sd (ah.length - 1) top (top + 1) 0 0 due
def chkTab (c d : List (List Nat × Nat)) : Bool := bif Nat.beq c.length d.length then subF c d else false
def chkGo (cs ah : List Nat) (ab : List (Nat × Nat)) (tab : List (List Nat × Nat)) (sd : List (Nat × Nat × Nat)) : Bool :=
  bif Nat.ble cs.length 900 then
    bif Nat.ble (lastF ah) 900 then
      bif Nat.beq (sumA ab + 1) ah.length then
        bif Nat.beq (sumB ab) (lastF ah) then
          bif chkTab tab (leastF (cs.length + 1) (cs.length + 1) cs []) then chkPts ah sd (lastF ah) (1 + sumT tab + sumR sd / 2) else false
        else false
      else false
    else false
  else false
def chk (l : List Nat) : Bool := chkGo (pathL l) (aheadF (pathL l) 0) (l.map abAt) (tabF l) (sidesF (l.map abAt))
end Mine
end

section
open PySem PySem.W PyProof.Rows PyProof.V
namespace Mine
theorem lastF_is : ∀ l : List Nat, lastP (l.map fun x : Nat => (x : Int)) = (lastF l : Int)
  | [] => rfl
  | [a] => by simp [lastP, lastF]
  | a :: b :: t => by
    have ih := lastF_is (b :: t)
    rw [show lastF (a :: b :: t) = lastF (b :: t) from rfl, ← ih]
    unfold lastP
    have e1 : (-1 + (((a :: b :: t).map fun x : Nat => (x : Int)).length : Int)).toNat = (-1 + (((b :: t).map fun x : Nat => (x : Int)).length : Int)).toNat + 1 := by simp; omega
    rw [e1]; rfl
theorem sumA_is : ∀ ab : List (Nat × Nat), ((ab.map toI).map (·.1)).sum = (sumA ab : Int)
  | [] => rfl
  | x :: t => by have := sumA_is t; simp only [List.map_cons, List.sum_cons, sumA, toI] at this ⊢; rw [this]; omega
theorem sumB_is : ∀ ab : List (Nat × Nat), ((ab.map toI).map (·.2)).sum = (sumB ab : Int)
  | [] => rfl
  | x :: t => by have := sumB_is t; simp only [List.map_cons, List.sum_cons, sumB, toI] at this ⊢; rw [this]; omega
theorem sumT_is : ∀ c : List (List Nat × Nat), ((c.map enc).map (·.2)).sum = (sumT c : Int)
  | [] => rfl
  | x :: t => by have := sumT_is t; simp only [List.map_cons, List.sum_cons, sumT, enc] at this ⊢; rw [this]; omega
theorem sumR_is : ∀ c : List (Nat × Nat × Nat), ((c.map encT).map (·.2.2)).sum = (sumR c : Int)
  | [] => rfl
  | x :: t => by have := sumR_is t; simp only [List.map_cons, List.sum_cons, sumR, encT] at this ⊢; rw [this]; omega
theorem hasF_is {u : List Nat} {v : Nat} : ∀ {c : List (List Nat × Nat)}, hasF u v c = true → (((c.map enc).find? fun q => decide (q.1 = toS u)).map fun q => q.2) = some (v : Int)
  | [], h => by cases h
  | (k, z) :: r, h => by
    unfold hasF at h
    cases hq : beqL k u with
    | true =>
      rw [hq] at h
      rw [beqL_iff] at hq
      subst hq
      have := Nat.eq_of_beq_eq_true h
      simp [enc, this]
    | false =>
      rw [hq] at h
      have hne : ¬ toS k = toS u := fun e => by rw [toS_inj e, beqL_iff.mpr rfl] at hq; cases hq
      rw [List.map_cons, List.find?_cons_of_neg (by show ¬ decide (toS k = toS u) = true; simpa using hne)]
      exact hasF_is h
theorem subF_is : ∀ {c d : List (List Nat × Nat)}, subF c d = true → tabSub (c.map enc) (d.map enc) = true
  | [], _, _ => rfl
  | (u, v) :: r, d, h => by
    unfold subF at h
    cases hq : hasF u v d with
    | false => rw [hq] at h; cases h
    | true =>
      rw [hq] at h
      have ih := subF_is (c := r) (d := d) h
      unfold tabSub at ih ⊢
      rw [List.map_cons, List.all_cons, ih, Bool.and_true, decide_eq_true_eq]
      exact hasF_is hq
theorem tabSub_perm {c c' d : List (Str × Int)} (h : c.Perm c') : tabSub c d = tabSub c' d := h.all_eq
theorem bif_split {c a : Bool} (h : (bif c then a else false) = true) : c = true ∧ a = true := by
  cases c with
  | true => exact ⟨rfl, h⟩
  | false => cases h
theorem row_len (l : List Nat) : (((l.map wordS').reverse).map (·.length)).sum = (pathL l).length := by
  unfold pathL
  rw [List.length_flatten, ← List.map_reverse, List.map_map, List.map_map]
  congr 1
theorem chk_good {l : List Nat} (h : ∀ i ∈ l, i < 15) (hc : chk (isort l) = true) : Good (l.map wayAt) := by
  have hs : ∀ i ∈ isort l, i < 15 := fun i hi => h i ((isort_perm l).mem_iff.mp hi)
  have hp : (l.map wayAt).Perm ((isort l).map wayAt) := (isort_perm l).symm.map _
  have hab : (isort l).map wayAt = ((isort l).map abAt).map toI := by
    rw [List.map_map]
    exact List.map_congr_left fun i hi => way_ab i (hs i hi)
  unfold chk chkGo at hc
  obtain ⟨c1, hc⟩ := bif_split hc
  obtain ⟨c2, hc⟩ := bif_split hc
  obtain ⟨c3, hc⟩ := bif_split hc
  obtain ⟨c4, hc⟩ := bif_split hc
  obtain ⟨c5, c6⟩ := bif_split hc
  obtain ⟨c7, c8⟩ := bif_split c5
  rw [Nat.ble_eq] at c1 c2
  have c3 := Nat.eq_of_beq_eq_true c3
  have c4 := Nat.eq_of_beq_eq_true c4
  have c7 := Nat.eq_of_beq_eq_true c7
  have hrow := row_is h
  have hpath := path_is h
  have hah : aheadW (l.map wayAt) = (aheadF (pathL (isort l)) 0).map fun x : Nat => (x : Int) := by
    unfold aheadW
    rw [hpath]
    exact ahead_is _
  obtain ⟨e1, e2, e3, e4, e5⟩ := ent_is (l.map wayAt)
  have htp := tab_perm hp
  rw [tabF_is hs] at htp
  have hle := least_is (pathL (isort l))
  have hsd := sides_perm hp
  rw [hab, sides_is] at hsd
  have hA : ((l.map wayAt).map (·.1)).sum = (sumA ((isort l).map abAt) : Int) := by
    rw [← sumA_is, ← hab]; exact sum_perm (hp.map _)
  have hB : ((l.map wayAt).map (·.2)).sum = (sumB ((isort l).map abAt) : Int) := by
    rw [← sumB_is, ← hab]; exact sum_perm (hp.map _)
  have hT : ((tabP (l.map wayAt)).map (·.2)).sum = (sumT (tabF (isort l)) : Int) := by
    rw [← sumT_is]; exact sum_perm (htp.map _)
  have hR : ((sidesP (l.map wayAt)).map (·.2.2)).sum = (sumR (sidesF ((isort l).map abAt)) : Int) := by
    rw [← sumR_is]; exact sum_perm (hsd.map _)
  have hlen : (aheadW (l.map wayAt)).length = (aheadF (pathL (isort l)) 0).length := by rw [hah, List.length_map]
  have hlast : lastP (aheadW (l.map wayAt)) = (lastF (aheadF (pathL (isort l)) 0) : Int) := by rw [hah, lastF_is]
  have ha0 := aheadF_ne (pathL (isort l)) 0
  have ha1 := aheadF_len (pathL (isort l)) 0
  constructor
  · rw [hrow, row_len]; omega
  · have : (pathP (l.map wayAt)).cps.size = (pathL (isort l)).length := by rw [hpath]; exact toS_len _
    omega
  · rw [hlen]; omega
  · rw [hlast]; omega
  · exact e1
  · exact e2
  · rw [e3, hA, hlen]; omega
  · rw [e4, hB, hlast, c4]
  · rw [e5, hpath, hle, htp.length_eq, List.length_map, List.length_map, c7]
  · rw [e5, hpath, hle, tabSub_perm htp]; exact subF_is c8
  · rw [e5, hT, hR]
    unfold pointsP
    rw [hlast, hah, List.length_map]
    have key := lines_is (aheadF_sorted (pathL (isort l)) 0).1 hsd (wide := (aheadF (pathL (isort l)) 0).length - 1) (top := lastF (aheadF (pathL (isort l)) 0)) (by omega) _ 0 0 _ (by omega) c6
    rw [show (((aheadF (pathL (isort l)) 0).length - 1 : Nat) : Int) = ((aheadF (pathL (isort l)) 0).length : Int) - 1 by omega] at key
    rw [show ((lastF (aheadF (pathL (isort l)) 0) : Int) + 1).toNat = lastF (aheadF (pathL (isort l)) 0) + 1 by omega]
    refine Eq.trans key ?_
    have : Int.fdiv (sumR (sidesF ((isort l).map abAt)) : Int) 2 = ((sumR (sidesF ((isort l).map abAt)) / 2 : Nat) : Int) := by
      rw [Int.fdiv_eq_ediv_of_nonneg _ (by decide)]; omega
    rw [this]
    omega
end Mine
end

section
open PySem PySem.W PyProof.Rows PyProof.V
namespace Mine
def allB : Nat → (Nat → Bool) → Bool
  | 0, _ => true
  | n + 1, f => bif f n then allB n f else false
theorem allB_at : ∀ {n : Nat} {f : Nat → Bool}, allB n f = true → ∀ i < n, f i = true
  | 0, _, _, i, h => by omega
  | n + 1, f, ha, i, h => by
    obtain ⟨h1, h2⟩ := bif_split ha
    by_cases e : i = n
    · rw [e]; exact h1
    · exact allB_at h2 i (by omega)
theorem fin0 : chk (isort [3, 10]) = true := by decide +kernel
theorem fin1 : allB 15 (fun i => chk (isort [3, 10, i])) = true := by decide +kernel
theorem fin2 : allB 15 (fun i => allB 15 fun j => bif Nat.blt j i then true else chk (isort [3, 10, i, j])) = true := by decide +kernel
theorem fin3_0 : allB 15 (fun j => allB 15 fun k => bif Nat.blt j 0 then true else bif Nat.blt k j then true else chk (isort [3, 10, 0, j, k])) = true := by decide +kernel
theorem fin3_1 : allB 15 (fun j => allB 15 fun k => bif Nat.blt j 1 then true else bif Nat.blt k j then true else chk (isort [3, 10, 1, j, k])) = true := by decide +kernel
theorem fin3_2 : allB 15 (fun j => allB 15 fun k => bif Nat.blt j 2 then true else bif Nat.blt k j then true else chk (isort [3, 10, 2, j, k])) = true := by decide +kernel
theorem fin3_3 : allB 15 (fun j => allB 15 fun k => bif Nat.blt j 3 then true else bif Nat.blt k j then true else chk (isort [3, 10, 3, j, k])) = true := by decide +kernel
theorem fin3_4 : allB 15 (fun j => allB 15 fun k => bif Nat.blt j 4 then true else bif Nat.blt k j then true else chk (isort [3, 10, 4, j, k])) = true := by decide +kernel
theorem fin3_5 : allB 15 (fun j => allB 15 fun k => bif Nat.blt j 5 then true else bif Nat.blt k j then true else chk (isort [3, 10, 5, j, k])) = true := by decide +kernel
theorem fin3_6 : allB 15 (fun j => allB 15 fun k => bif Nat.blt j 6 then true else bif Nat.blt k j then true else chk (isort [3, 10, 6, j, k])) = true := by decide +kernel
theorem fin3_7 : allB 15 (fun j => allB 15 fun k => bif Nat.blt j 7 then true else bif Nat.blt k j then true else chk (isort [3, 10, 7, j, k])) = true := by decide +kernel
theorem fin3_8 : allB 15 (fun j => allB 15 fun k => bif Nat.blt j 8 then true else bif Nat.blt k j then true else chk (isort [3, 10, 8, j, k])) = true := by decide +kernel
theorem fin3_9 : allB 15 (fun j => allB 15 fun k => bif Nat.blt j 9 then true else bif Nat.blt k j then true else chk (isort [3, 10, 9, j, k])) = true := by decide +kernel
theorem fin3_10 : allB 15 (fun j => allB 15 fun k => bif Nat.blt j 10 then true else bif Nat.blt k j then true else chk (isort [3, 10, 10, j, k])) = true := by decide +kernel
theorem fin3_11 : allB 15 (fun j => allB 15 fun k => bif Nat.blt j 11 then true else bif Nat.blt k j then true else chk (isort [3, 10, 11, j, k])) = true := by decide +kernel
theorem fin3_12 : allB 15 (fun j => allB 15 fun k => bif Nat.blt j 12 then true else bif Nat.blt k j then true else chk (isort [3, 10, 12, j, k])) = true := by decide +kernel
theorem fin3_13 : allB 15 (fun j => allB 15 fun k => bif Nat.blt j 13 then true else bif Nat.blt k j then true else chk (isort [3, 10, 13, j, k])) = true := by decide +kernel
theorem fin3_14 : allB 15 (fun j => allB 15 fun k => bif Nat.blt j 14 then true else bif Nat.blt k j then true else chk (isort [3, 10, 14, j, k])) = true := by decide +kernel
theorem bif_true {c a : Bool} (h : (bif c then true else a) = true) (hc : c = false) : a = true := by rw [hc] at h; exact h
theorem blt_no {a b : Nat} (h : b ≤ a) : Nat.blt a b = false := by
  cases e : Nat.blt a b with
  | false => rfl
  | true => have := blt_iff.mp e; omega
theorem fin3 (i : Nat) (hi : i < 15) : allB 15 (fun j => allB 15 fun k => bif Nat.blt j i then true else bif Nat.blt k j then true else chk (isort [3, 10, i, j, k])) = true := by
  match i, hi with
  | 0, _ => exact fin3_0
  | 1, _ => exact fin3_1
  | 2, _ => exact fin3_2
  | 3, _ => exact fin3_3
  | 4, _ => exact fin3_4
  | 5, _ => exact fin3_5
  | 6, _ => exact fin3_6
  | 7, _ => exact fin3_7
  | 8, _ => exact fin3_8
  | 9, _ => exact fin3_9
  | 10, _ => exact fin3_10
  | 11, _ => exact fin3_11
  | 12, _ => exact fin3_12
  | 13, _ => exact fin3_13
  | 14, _ => exact fin3_14
  | n + 15, h => exact absurd h (Nat.not_lt.mpr (Nat.le_add_left 15 n))
theorem fin_all {e : List Nat} (hs : e.Pairwise (· ≤ ·)) (h15 : ∀ i ∈ e, i < 15) (hl : e.length ≤ 3) : chk (isort (3 :: 10 :: e)) = true := by
  match e, hl with
  | [], _ => exact fin0
  | [i], _ => exact allB_at fin1 i (h15 i (by simp))
  | [i, j], _ =>
    simp only [List.pairwise_cons, List.mem_singleton, forall_eq] at hs
    exact bif_true (allB_at (allB_at fin2 i (h15 i (by simp))) j (h15 j (by simp))) (blt_no hs.1)
  | [i, j, k], _ =>
    simp only [List.pairwise_cons, List.mem_cons, List.not_mem_nil, or_false, forall_eq, forall_eq_or_imp] at hs
    exact bif_true (bif_true (allB_at (allB_at (fin3 i (h15 i (by simp))) j (h15 j (by simp))) k (h15 k (by simp))) (blt_no hs.1.1)) (blt_no hs.2.1)
  | _ :: _ :: _ :: _ :: _, hl => exact absurd hl (by simp)
def posL (r : Nat) : Nat := [0, 1, 2, 12, 6, 4, 3, 13, 10, 7, 5, 14, 11, 9, 8].getD r 0
theorem pos_way : ∀ r < 15, posL r < 15 ∧ wayAt (posL r) = (Int.fmod ((r : Int) + 1) 4, Int.fdiv ((r : Int) + 1) 4) := by decide +kernel
theorem ways_is (ns : List Int) : waysP ns = (3 :: 10 :: (ns.take 3).map fun k => posL (k % 15).toNat).map wayAt := by
  unfold waysP codesP
  have key : ∀ k : Int, (fun c : Int => (Int.fmod c 4, Int.fdiv c 4)) (Int.fmod k 15 + 1) = wayAt (posL (k % 15).toNat) := fun k => by
    have hr := pos_way (k % 15).toNat (by omega)
    rw [hr.2, Int.fmod_eq_emod_of_nonneg k (by decide), show (((k % 15).toNat : Nat) : Int) = k % 15 by omega]
  rw [List.map_map, List.map_append]
  simp only [List.map_cons, List.map_nil, List.map_map, List.cons_append, List.nil_append]
  refine List.cons_eq_cons.mpr ⟨by decide +kernel, List.cons_eq_cons.mpr ⟨by decide +kernel, ?_⟩⟩
  exact List.map_congr_left fun k _ => key k
theorem good (ns : List Int) : Good (waysP ns) := by
  rw [ways_is]
  have h15 : ∀ i ∈ (ns.take 3).map (fun k => posL (k % 15).toNat), i < 15 := fun i hi => by
    obtain ⟨k, _, rfl⟩ := List.mem_map.mp hi
    exact (pos_way (k % 15).toNat (by omega)).1
  generalize he : (ns.take 3).map (fun k => posL (k % 15).toNat) = e at *
  have hl : e.length ≤ 3 := by rw [← he, List.length_map, List.length_take]; omega
  refine chk_good ?_ ?_
  · intro i hi
    rcases List.mem_cons.mp hi with rfl | hi
    · decide
    · rcases List.mem_cons.mp hi with rfl | hi
      · decide
      · exact h15 i hi
  · rw [isort_eq (m := 3 :: 10 :: isort e) (((isort_perm e).symm.cons 10).cons 3)]
    exact fin_all (isort_sorted e) (fun i hi => h15 i ((isort_perm e).mem_iff.mp hi)) (by rw [(isort_perm e).length_eq]; exact hl)
end Mine
end

section
open PySem PySem.W PyProof.Rows PyProof.V
namespace Mine
section
variable {prog : Program} {w : World} {A : Around} {E : Value → Shared → Prop} {s : Shared} {h₀ : Heap} {L : Addr} {m : Str → Option Value} {news : List (Addr × Obj)}
theorem sliceApplied_to4 {sl : Addr} {u : Tok} {Q : Int × Int × Nat → Shared → Prop} (hs : s.heap.IsSliceOf sl .none (.int 4 u) .none) (h : Q (0, 1, 4) s) :
    wpAny (model prog w) A (Builtin.Slice.sliceApplied (.ref sl) (pure ((5 : Nat) : Int))) Q E s := by
  obtain ⟨os, hos, hcs, hds⟩ := id hs
  unfold Builtin.Slice.sliceApplied Builtin.Slice.sliceFields
  refine wpAny_bind (wpAny_bind (wpAny_field hos hds (x := .none) rfl (wpAny_bind (wpAny_field hos hds (x := .int 4 u) rfl (wpAny_bind (wpAny_field hos hds (x := .none) rfl (wpAny_pure ?_)))))))
  refine wpAny_bind (slicePart_none ?_)
  show wpAny _ _ (if ((1 : Int) == 0) = true then _ else _) _ _ s
  rw [if_neg (by decide)]
  refine wpAny_bind (slicePart_none (wpAny_bind (slicePart_int (wpAny_bind (wpAny_pure ?_)))))
  exact wpAny_pure h
theorem getItem_tuple_to4 {t sl : Addr} {v0 v1 v2 v3 v4 : Value} {u : Tok} {Q : Value → Shared → Prop} (ht : IsTup s.heap t #[v0, v1, v2, v3, v4]) (hs : s.heap.IsSliceOf sl .none (.int 4 u) .none)
    (h : Q (.ref s.heap.objs.size) { s with heap := s.heap.push { cls := .type "tuple", data := .seq #[v0, v1, v2, v3] } }) : wpAny (model prog w) A (getItem (.ref t) (.ref sl)) Q E s := by
  have hdrop : sizeOk (.seq #[v0, v1, v2, v3]) := by
    show (4 : Nat) ≤ sizeLine
    decide
  obtain ⟨os, hos, hcs, hds⟩ := id hs
  have hTs : s.TypeIs (.ref sl) "slice" := ⟨os, hos, hcs⟩
  unfold getItem
  try with_reducible refine wpAny_holding ?_
  first | refine wpAny_bind (wpAny_pure ?_) | skip
  refine wpAny_bind (wpAny_sequenceKey ht.typeIs (by decide) ?_)
  refine wpAny_bind (wpAny_callSpecial?_slot (name := Str.ofString "__getitem__") ht.typeIs PySem.F.slot_tuple_getitem
    (wpAny_call_entry PySem.F.slot_tuple_getitem ht.typeIs PySem.F.entry_tuple_getitem ?_ (args_tuple_getitem _ _)))
  show wpAny _ _ (Builtin.Tuple.tupleItemsOf (.ref t) >>= _) _ _ s
  refine wpAny_bind (tupleItemsOf_ ht ?_)
  refine wpAny_bind (wpAny_typeOf hTs ?_)
  rw [if_pos (by decide)]
  refine wpAny_bind (sliceApplied_to4 hs ?_)
  show wpAny _ _ (if ((0 : Int) == 0 && (1 : Int) == 1 && (4 : Nat) == 5) = true then _ else _) _ _ s
  rw [if_neg (by decide)]
  rw [show (List.filterMap (fun (k : Nat) => (#[v0, v1, v2, v3, v4] : Array Value)[((0 : Int) + (k : Int) * 1).toNat]?) (List.range 4)).toArray = #[v0, v1, v2, v3] from rfl]
  first
    | exact wpAny_bind (m := Builtin.Tuple.tupleExact _) (wpAny_newObj_type (wpAny_pure ⟨_, rfl, wpAny_pure h⟩) hdrop)
    | exact wpAny_bind (m := Builtin.Tuple.tupleExact _) (wpAny_newObj_type (wpAny_bind (wpAny_pure (wpAny_pure ⟨_, rfl, wpAny_pure h⟩))) hdrop)
    | exact wpAny_bind (wpAny_bind (m := Builtin.Tuple.tupleExact _) (wpAny_newObj_type (wpAny_pure (wpAny_pure ⟨_, rfl, wpAny_pure h⟩)) hdrop))
    | exact wpAny_bind (wpAny_bind (m := Builtin.Tuple.tupleExact _) (wpAny_newObj_type (wpAny_pure ⟨_, rfl, wpAny_pure h⟩) hdrop))
theorem slice_tuple_to4 {value slice : Expr} {t : Addr} {v0 v1 v2 v3 v4 : Value} {u : Tok} {Q : Value → Shared → Prop}
    (F : Fr h₀ L s.heap m) (N : News h₀ L s.heap news) (ht : IsTup s.heap t #[v0, v1, v2, v3, v4])
    (h : ∀ h', Fr h₀ L h' m → News h₀ L h' ((s.heap.objs.size + 1, { cls := .type "tuple", data := .seq #[v0, v1, v2, v3] }) :: news) → Q (.ref (s.heap.objs.size + 1)) { s with heap := h' })
    (hs : subscripted slice false (.ref t) (.ref s.heap.objs.size) = operate [.ref s.heap.objs.size, .ref t] (getItem (.ref t) (.ref s.heap.objs.size)) := by with_unfolding_all rfl)
    (hg : ∀ r, letTemporaryGo value (.ref t) r = pure () := by intro _; with_unfolding_all rfl) :
    wpAny (model prog w) A (subscriptTail value slice (.ref t) (.ref s.heap.objs.size)) Q E { s with heap := s.heap.push { cls := .type "slice", data := .fields #[.none, .int 4 u, .none] } } := by
  have ht' : IsTup (s.heap.push { cls := .type "slice", data := .fields #[.none, .int 4 u, .none] }) t #[v0, v1, v2, v3, v4] := ht.keeps fun _ _ e => Heap.get?_push_of_some _ e
  refine subscriptTail_ops (s := { s with heap := s.heap.push { cls := .type "slice", data := .fields #[.none, .int 4 u, .none] } }) ht'.typeIs PySem.F.slot_tuple_getitem.lookup
    (getItem_tuple_to4 ht' (Heap.IsSliceOf.new ..) ?_) hs hg
  have N1 := News.push (F.push { cls := .type "slice", data := .fields #[.none, .int 4 u, .none] }) (N.grown fun _ _ e => Heap.get?_push_of_some _ e) { cls := .type "tuple", data := .seq #[v0, v1, v2, v3] }
  rw [Heap.size_push] at N1
  show Q (.ref (s.heap.push _).objs.size) _
  rw [Heap.size_push]
  exact h _ ((F.push _).push _) N1
end
end Mine
end

section
open PySem PySem.Spec PySem.Calls PySem.W PyProof.Rows
set_option maxHeartbeats 2000000
namespace Mine
section
open LCg LCp
variable {prog : Program} {w : World} {A : Around} {E : Value → Shared → Prop} {s : Shared} {h₀ : Heap} {L : Addr} {m : Str → Option Value} {env : Env}
theorem nI0 {b I : Nat} (h : b < I) : b ≠ I := by omega
theorem nI1 {b I : Nat} (h : b < I) : b ≠ I + 1 := by omega
theorem nI2 {b I : Nat} (h : b < I) : b ≠ I + 1 + 1 := by omega
theorem i01 (I : Nat) : I ≠ I + 1 := by omega
theorem i02 (I : Nat) : I ≠ I + 1 + 1 := by omega
theorem i10 (I : Nat) : I + 1 ≠ I := by omega
theorem i20 (I : Nat) : I + 1 + 1 ≠ I := by omega
theorem i12 (I : Nat) : I + 1 ≠ I + 1 + 1 := by omega
theorem i21 (I : Nat) : I + 1 + 1 ≠ I + 1 := by omega
/-- [z for x, y, z in l], l a list of the ledger whose items are tuples of the ledger -/
theorem comp3 {x1 x2 x3 : Str} {p1 p2 p3 tp pe : Pos} {k : Nat} {iter : Expr} {scope : Scope} {cl : List (Str × Addr)} {pos : Pos} {Q : Value → Shared → Prop} {l : Addr} {vs zs : List Value} {kk : Nat} {news : List (Addr × Obj)}
    (F₀ : Fr h₀ L s.heap m) (N₀ : News h₀ L s.heap news) (hh : A.handled = none) (hclos : closureFor scope env = pure cl) (hcell : ∀ y ∈ scope.names, y.2 ≠ .cell) (hkind : scope.kind = .function)
    (hnames : ∀ y ∈ scope.names, y.2 = .local → scope.names.lookup y.1 = some .local) (hx1 : scope.names.lookup x1 = some .local) (hx2 : scope.names.lookup x2 = some .local) (hx3 : scope.names.lookup x3 = some .local) (hd : (x3 == ("__debug__" : Str)) = false)
    (hl : (l, W.listOf vs.toArray kk) ∈ news) (hz : Paired (fun v z => ∃ t v1 v2 j, v = .ref t ∧ (t, tupO [v1, v2, z] j) ∈ news) vs zs) (hsz : vs.length ≤ sizeLine)
    (hi : wpAny (model prog w) A (eval iter env) (fun xv s₁ => xv = .ref l ∧ s₁ = s) E s)
    (ret : ∀ D h tk, Fr h₀ L h m → News h₀ L h ((D, lst zs) :: news) → (∀ p ∈ news, p.1 ≠ D) → Q (.ref D) { s with heap := h, toks := tk })
    (hs : ∀ x, foldedSetIterable iter env x = pure x := by intro _; rfl) :
    wpAny (model prog w) A (eval (.ListComp (.Name x3 pe) [⟨.Tuple [.Name x1 p1, .Name x2 p2, .Name x3 p3] k tp, iter, [], 0⟩] scope pos) env) Q E s := by
  rw [eval_ListComp]
  refine wpAny_comprehension_free (use := none) rfl hs hclos hkind hnames (wpAny_mono hi (fun xv s₁ h₁ => ?_) fun _ _ e => e)
  obtain ⟨rfl, rfl⟩ := h₁
  have hlist : s₁.heap.IsList l vs.toArray := News.isList N₀ hl
  have hlt : l < s₁.heap.objs.size := by obtain ⟨_, e, _⟩ := hlist; exact Heap.lt_size e
  refine wpAny_pyIter_list hlist ?_
  generalize hH1 : s₁.heap.push { cls := .type "list_iterator", data := .fields #[.ref l, .int 0 0] } = H1
  generalize hI : s₁.heap.objs.size = I at *
  have upI : ∀ b o, s₁.heap.get? b = some o → H1.get? b = some o := fun b o e => hH1 ▸ Heap.get?_push_of_some _ e
  have hIat : H1.get? I = some { cls := .type "list_iterator", data := .fields #[.ref l, .int 0 0] } := by rw [← hH1, ← hI]; exact Heap.get?_push_size _ rfl
  have sz1 : H1.objs.size = I + 1 := by rw [← hH1, Heap.size_push, hI]
  refine wpAny_newObj_type (wpAny_newFunctionEnv hcell (by intro y hy; simp at hy) (fun h₁ hns₁ hsb₁ => ?_) hkind)
  dsimp only at hns₁ hsb₁ ⊢
  generalize hH2 : H1.push { cls := .type "list", dict := none, data := .seq ([] : List Value).toArray } = H2 at hns₁ hsb₁ ⊢
  have sz2 : H2.objs.size = I + 1 + 1 := by rw [← hH2, Heap.size_push, sz1]
  rw [sz1]
  rw [sz2] at hns₁ hsb₁ ⊢
  have upD : ∀ b o, H1.get? b = some o → H2.get? b = some o := fun b o e => hH2 ▸ Heap.get?_push_of_some _ e
  have hDat : H2.get? (I + 1) = some (lst []) := by rw [← hH2, ← sz1]; exact Heap.get?_push_size _ rfl
  have upC : ∀ b o, b ≠ I + 1 + 1 → H2.get? b = some o → h₁.get? b = some o := fun b o hb e => hsb₁.extBut b o hb (Heap.get?_push_of_some _ e)
  have old : ∀ b o, s₁.heap.get? b = some o → b < I := fun b o e => hI ▸ Heap.lt_size e
  have W := Walks.list (prog := prog) (w := w) hh I l (Nat.ne_of_lt hlt) vs.toArray
  have hcc : ∀ s₃ : Shared, s₃ = { s₁ with heap := h₁, toks := s₁.toks + ([] : List (Str × Value)).length } →
      codeAny (model prog w) A (.compLoop (.ListComp (.Name x3 pe) [⟨.Tuple [.Name x1 p1, .Name x2 p2, .Name x3 p3] k tp, iter, [], 0⟩] scope pos) 0 (.ref I) (.ref (I + 1)) (compEnvC scope cl (I + 1 + 1) env))
        (compPost (model prog w) A E none Q (.ref (I + 1)) (I + 1 + 1)) s₃ := by
    rintro s₃ rfl
    refine codeAny_compLoop_pair
      (fun n s' => ∃ h' tk i m', s' = { s₁ with heap := h', toks := tk } ∧ i ≤ vs.length ∧ n = vs.length + 1 - i ∧ (h'.IsListIter I l i ∧ h'.IsList l vs.toArray) ∧ h'.Ns (I + 1 + 1) m' ∧ h'.get? (I + 1) = some (lst (zs.take i)) ∧
        (∀ b o, s₁.heap.get? b = some o → h'.get? b = some o)) ?_ (vs.length + 1)
      ⟨h₁, _, 0, _, rfl, Nat.zero_le _, rfl, ⟨⟨_, upC _ _ (i02 _) (upD _ _ hIat), rfl, rfl⟩, ?_⟩, hns₁, upC _ _ (i12 _) (by simpa using hDat), fun b o e => upC b o (nI2 (old b o e)) (upD _ _ (upI _ _ e))⟩
    · rintro n s' ⟨h', tk, i, m', rfl, hiv, rfl, hst, hn', hD', hk'⟩
      by_cases hlt' : i < vs.length
      · refine W.item i _ _ _ (by simpa using hlt') hst fun v h₂ tk₂ hv hst₂ hk₂ => ?_
        obtain ⟨z, hzi, t, v1, v2, j, rfl, hmem⟩ := Paired.at hz (by simpa using hv)
        have h2at : ∀ b o, b ≠ I → h'.get? b = some o → h₂.get? b = some o := fun b o hb e => hk₂ b o (by simpa using hb) e
        have tb := old _ _ (N₀ _ hmem).1
        have ht : IsTup h₂ t #[v1, v2, z] := ⟨_, h2at _ _ (Nat.ne_of_lt tb) (hk' _ _ (N₀ _ hmem).1), rfl, _, rfl⟩
        refine wpAny_letOwnedTupleGo_listiter hst₂.1 ?_
        refine assign_Tuple_tuple hh ht rfl rfl fun h₅ he => ?_
        have up5 : ∀ b o, h₂.get? b = some o → h₅.get? b = some o := fun b o e => he b o (Nat.ne_of_lt (Heap.lt_size e)) e
        refine assignInOrder_cons (wpAny_assign_Name (wpAny_storeName_local (lookup_relabel_local hx1) ((hn'.at' fun o e => h2at _ o (i20 _) e).at' fun o e => up5 _ o e) (fun h₆ hn₆ hs₆ => ?_) (by simp [compEnvC, relabel, hkind])))
        refine assignInOrder_cons (wpAny_assign_Name (wpAny_storeName_local (lookup_relabel_local hx2) hn₆ (fun h₇ hn₇ hs₇ => ?_) (by simp [compEnvC, relabel, hkind])))
        refine assignInOrder_cons (wpAny_assign_Name (wpAny_storeName_local (lookup_relabel_local hx3) hn₇ (fun h₈ hn₈ hs₈ => ?_) (by simp [compEnvC, relabel, hkind])))
        refine assignInOrder_nil ?_
        have up8 : ∀ b o, b ≠ I + 1 + 1 → h₂.get? b = some o → h₈.get? b = some o := fun b o hb e => hs₈.extBut b o hb (hs₇.extBut b o hb (hs₆.extBut b o hb (up5 b o e)))
        refine wpAny_Name (wpAny_loadName_local (by simp [compEnvC, relabel, hkind]) (lookup_relabel_local hx3) hn₈ (v := z) (by simp) ?_) hd
        refine append_at (hsz := by show (zs.take i).toArray.size ≤ sizeLine; simp; omega) (up8 _ _ (i12 _) (h2at _ _ (i10 _) hD')) fun h₉ hs₉ hD₉ => ?_
        have up9 : ∀ b o, b ≠ I + 1 → b ≠ I + 1 + 1 → h₂.get? b = some o → h₉.get? b = some o := fun b o hb hc e => hs₉.extBut b o hb (up8 b o hc e)
        refine ⟨vs.length + 1 - (i + 1), by omega, h₉, _, i + 1, _, rfl, hlt', rfl, ⟨?_, ?_⟩, hn₈.sameBut hs₉ (i21 _), ?_, fun b o e => ?_⟩
        · obtain ⟨o, e1, e2⟩ := hst₂.1
          exact ⟨o, up9 _ _ (i01 _) (i02 _) e1, e2⟩
        · exact hst₂.2.at fun o e => up9 _ _ (nI1 hlt) (nI2 hlt) e
        · rw [hD₉, List.take_add_one, hzi]
          exact congrArg some (lst_snoc _ _)
        · have q := old b o e
          exact up9 _ _ (nI1 q) (nI2 q) (h2at _ _ (nI0 q) (hk' _ _ e))
      · have hin : i = vs.length := by omega
        subst hin
        refine W.done _ _ _ (by simpa using hst) fun h₂ tk₂ hk₂ => ?_
        have h2at : ∀ b o, b ≠ I → h'.get? b = some o → h₂.get? b = some o := fun b o hb e => hk₂ b o (by simpa using hb) e
        refine ⟨m', hn'.at' fun o e => h2at _ o (i20 _) e, fun h'' hs'' => ?_⟩
        have up : ∀ b o, s₁.heap.get? b = some o → h''.get? b = some o := fun b o e => hs''.extBut b o (nI2 (old b o e)) (h2at _ _ (nI0 (old b o e)) (hk' _ _ e))
        refine ret (I + 1) h'' tk₂ (F₀.keeps up) (fun p hp => ?_) fun p hp => nI1 (old _ _ (N₀ p hp).1)
        rcases List.mem_cons.mp hp with rfl | hp
        · refine ⟨hs''.extBut _ _ (i12 _) (h2at _ _ (i10 _) ?_), ?_, ?_⟩
          · rw [hD', List.take_of_length_le (Nat.le_of_eq hz.length.symm)]
          · exact Ne.symm (nI1 (hI ▸ F₀.ns.lt))
          · cases e : h₀.get? (I + 1) with
            | none => rfl
            | some o => exact absurd (old _ _ (F₀.keep _ _ e)) (Nat.not_lt.mpr (Nat.le_succ I))
        · exact ⟨up _ _ (N₀ p hp).1, (N₀ p hp).2⟩
    · exact hlist.at fun o e => upC _ _ (nI2 hlt) (upD _ _ (upI _ _ e))
  exact codeAny_compStart_list (hcc _ rfl) (W.self 0 _ _ _ ⟨⟨_, upC _ _ (i02 _) (upD _ _ hIat), rfl, rfl⟩, hlist.at fun o e => upC _ _ (nI2 hlt) (upD _ _ (upI _ _ e))⟩ (hcc _ rfl))
end
end Mine
end

section
open PySem PySem.W PyProof.Rows PyProof.V
namespace Mine
theorem strsAre_rev : ∀ {vs : List Value} {xs : List Str}, StrsAre vs xs → StrsAre vs.reverse xs.reverse
  | _, _, .nil => .nil
  | _, _, .cons y t r => by
    rw [List.reverse_cons, List.reverse_cons]
    exact strsAre_append (strsAre_rev r) (.cons y t .nil)
theorem tab_rows : ∀ {c1 c2 : List (Str × Int)}, tabSub c1 c2 = true → KeqRows (kdpD c2) (kdpD c1) true
  | [], _, _ => .nil
  | (k, v) :: c, c2, h => by
    simp only [tabSub, List.all_cons, Bool.and_eq_true, decide_eq_true_eq] at h
    have r := tab_rows (c1 := c) (c2 := c2) h.2
    have l : PySem.Spec.lookup (PyData.str k) (kdpD c2) = some (PyData.int v) := by
      rw [kdpD_lookup]
      obtain ⟨q, hq, e⟩ := Option.map_eq_some_iff.mp h.1
      rw [hq, ← e]; rfl
    have x := KeqRows.hit (v := PyData.int v) l r
    have e : (PyData.eqv (PyData.int v) (PyData.int v) && true) = true := by simp [PyData.eqv]
    rw [e] at x
    exact x
theorem head_ok {ways : List (Int × Int)} (hG : Good ways) {e : Int × Int × Int × Int × List (Str × Int)} (he : e = entP ways) :
    (e.1 == (ways.length : Int) && (e.2.1 == (e.2.2.2.2.map (fun x => x.2)).sum && (e.2.2.1 == ((aheadW ways).length : Int) - 1 && e.2.2.2.1 == (aheadP (pathP ways).cps.toList).getD (-1 + ((aheadP (pathP ways).cps.toList).length : Int)).toNat 0))) = true := by
  subst he
  have h4 : (entP ways).2.2.2.1 = (aheadP (pathP ways).cps.toList).getD (-1 + ((aheadP (pathP ways).cps.toList).length : Int)).toNat 0 := hG.e4
  simp only [Bool.and_eq_true, beq_iff_eq]
  exact ⟨hG.e1, hG.e2, hG.e3, h4⟩
theorem trip_zs {tr : List (Addr × Obj)} : ∀ {svs : List Value} {xs : List (Int × Int × Int)}, Paired (Trip tr) svs xs → ∃ zs, Paired (fun v z => ∃ t v1 v2 j, v = .ref t ∧ (t, tupO [v1, v2, z] j) ∈ tr) svs zs ∧ IntsAre zs (xs.map (·.2.2))
  | _, _, .nil => ⟨[], .nil, .nil⟩
  | _, _, .cons h r => by
    obtain ⟨zs, h1, h2⟩ := trip_zs r
    obtain ⟨ad, t1, t2, t3, j, rfl, hm⟩ := h
    exact ⟨_, .cons ⟨ad, _, _, j, rfl, hm⟩ h1, .cons _ t3 h2⟩
set_option maxRecDepth 100000 in
set_option maxHeartbeats 8000000 in
theorem lawS : PySem.Challenge.rw_qc0005_01.Holds := hd (by
  w_top off
  k_go0
  all_goals try k_fold
  rename_i w s₀ s₁ mg mb G Y fa o pm doc kV ho hgens KX X V GL TT B TE TW aa1 oo1 MM aa2 aa3 hcd ns hs hlay0 hL0 hr0 hl2 w5 w6 l vs asd hL ra w1 r0 hI hr hc1 hc2 K0 hD h1 F N0
  refine wpAny_mono (E := NoE) ?_ (fun _ _ h => h) (fun _ _ h => h.elim)
  (repeat' (first | (k_unfold; (try dsimp only)) | ((fail_if_success (with_reducible show wpAny _ _ (eval (PySem.Expr.ListComp _ _ _ _) _) _ _ _)); (fail_if_success (with_reducible show wpAny _ _ (PySem.call (Value.ref _) _ _) _ _ _)); (fail_if_success (with_reducible show wpAny _ _ (exec (Stmt.While _ _ _ _) _) _ _ _)); (fail_if_success (with_reducible show wpAny _ _ (exec (Stmt.For _ _ _ _ _) _) _ _ _)); (first | walk1 | (dsimp only; walk1))) | (leave1; (try dsimp only)) | fail "no step"))
  refine saysP_use (waysS _ _ _ _ l vs _ hI (by omega)) K0 F (by assumption) N0 (by assumption) rfl (by decide) (by decide) (Heap.IsList.at hL (fun o e => F.keep _ o e)) ?_
  rintro r tl h2 tk2 ⟨lw, wvs, kw, prs, rfl, rfl, hpw⟩ F2 N2 hsep
  clear F N0 hsep
  simp only [List.append_nil] at N2
  have hwr := ways_range (ns := ns)
  have hwl : wvs.length = (waysP ns).length := hpw.length
  have hw5 : (waysP ns).length ≤ 5 := by simp [waysP, codesP]; omega
  have hG := good ns
  generalize hWAYS : waysP ns = ways at *
  (repeat' (first | (k_unfold; (try dsimp only)) | ((fail_if_success (with_reducible show wpAny _ _ (eval (PySem.Expr.ListComp _ _ _ _) _) _ _ _)); (fail_if_success (with_reducible show wpAny _ _ (PySem.call (Value.ref _) _ _) _ _ _)); (fail_if_success (with_reducible show wpAny _ _ (exec (Stmt.While _ _ _ _) _) _ _ _)); (fail_if_success (with_reducible show wpAny _ _ (exec (Stmt.For _ _ _ _ _) _) _ _ _)); (first | walk1 | (dsimp only; walk1))) | (leave1; (try dsimp only)) | fail "no step"))
  refine wpAny_For ?_
  (repeat' (first | (k_unfold; (try dsimp only)) | ((fail_if_success (with_reducible show wpAny _ _ (eval (PySem.Expr.ListComp _ _ _ _) _) _ _ _)); (fail_if_success (with_reducible show wpAny _ _ (PySem.call (Value.ref _) _ _) _ _ _)); (fail_if_success (with_reducible show wpAny _ _ (exec (Stmt.While _ _ _ _) _) _ _ _)); (fail_if_success (with_reducible show wpAny _ _ (exec (Stmt.For _ _ _ _ _) _) _ _ _)); (first | walk1 | (dsimp only; walk1))) | (leave1; (try dsimp only)) | fail "no step"))
  rename_i R _ ltR _ _ _ _ DD _ oD loD hs' fs' hi' fi' ltD ET _ ltE _ F3 N3
  clear hi' fi'
  have offR : ∀ p ∈ (lw, W.listOf wvs.toArray kw) :: prs, p.1 ≠ R := fun p hp => by
    rcases List.mem_cons.mp hp with rfl | hp
    · exact Nat.ne_of_lt ltR.1
    · exact allLt_ne ltR.2 p hp
  generalize hBASE : ((lw, W.listOf wvs.toArray kw) :: prs) = base at N3 offR
  have hbl : (lw, W.listOf wvs.toArray kw) ∈ base := by rw [← hBASE]; exact .head _
  have hbp : Paired (Pair2 base) wvs ways := hpw.mono fun v t => by
    rintro ⟨ad, t1, t2, j, rfl, hmem⟩
    exact ⟨ad, t1, t2, j, rfl, by rw [← hBASE]; exact .tail _ hmem⟩
  have N3 : News s₁.heap s₁.heap.objs.size _ ((R, W.listOf ([] : List Value).toArray 0) :: (ET, _) :: (DD, oD) :: base) := fun p hp => N3 p (by
    rcases List.mem_cons.mp hp with rfl | hp
    · exact .tail _ (.tail _ (.head _))
    · rcases List.mem_cons.mp hp with rfl | hp
      · exact .head _
      · rcases List.mem_cons.mp hp with rfl | hp
        · exact .tail _ (.head _)
        · exact .tail _ (.tail _ (.tail _ hp)))
  refine iter_list wvs kw (fun i m' news' => ∃ (rvs : List Value) (rk : Nat) (ET DD : Addr) (oD : Obj) (e : Int × Int × Int × Int × List (Str × Int)) (z1 z2 z3 z4 : Tok) (j : Nat),
      news' = (R, W.listOf rvs.toArray rk) :: (ET, tupO [.int e.1 z1, .int e.2.1 z2, .int e.2.2.1 z3, .int e.2.2.2.1 z4, .ref DD] j) :: (DD, oD) :: base ∧ StrsAre rvs (rowP (ways.take i)) ∧ IsTab w oD e.2.2.2.2 ∧ (DD == sysModules) = false ∧ e = entP (ways.take i) ∧ ET ≠ R ∧ DD ≠ R
      ∧ (rowP (ways.take i)).length ≤ i ∧ e.2.2.2.2.length ≤ i ∧ Has m' [((Str.ofString "ways"), .ref lw), ((Str.ofString "row"), .ref R), ((Str.ofString "entry"), .ref ET)]) rfl F3 N3 ⟨[], 0, ET, DD, oD, (0, 0, 0, 0, []), _, _, _, _, _, rfl, by simpa [rowP] using StrsAre.nil, ⟨[], hs', fs'⟩, loD, rfl, Nat.ne_of_gt ltE.2.1, Nat.ne_of_gt ltD.1, by simp [rowP], by simp, rfl, rfl, rfl, trivial⟩ ?_ ?_ ?_
  · rintro i m' _ ⟨rvs, rk, ET, DD, oD, e, z1, z2, z3, z4, j, rfl, _⟩
    exact .tail _ (.tail _ (.tail _ hbl))
  · clear F3 N3 hs' fs' loD ltE ltD
    rintro i v m₁ _ h tk it hv ⟨rvs, rk, ET, DD, oD, e, z1, z2, z3, z4, j, rfl, hrs, htD, loD, hent, hER, hDR, hrl, hel, hm⟩ hoff F₁ N₁
    have F₁ := frPin _ F₁ hm
    obtain ⟨⟨a1, b1⟩, hsx, ad, u1, u2, jj, rfl, hmem⟩ := Paired.at hbp hv
    have hiw : i < ways.length := (List.getElem?_eq_some_iff.mp hsx).1
    have hab := hwr _ (List.mem_of_getElem? hsx)
    dsimp only at hab
    refine assignTo2 rfl F₁ N₁ (.tail _ (.tail _ (.tail _ (.tail _ hmem)))) fun h4 tk4 F4 N4 => ?_
    clear F₁ N₁
    dsimp only at F4
    (repeat' (first | (k_unfold; (try dsimp only)) | ((fail_if_success (with_reducible show wpAny _ _ (eval (PySem.Expr.ListComp _ _ _ _) _) _ _ _)); (fail_if_success (with_reducible show wpAny _ _ (PySem.call (Value.ref _) _ _) _ _ _)); (fail_if_success (with_reducible show wpAny _ _ (exec (Stmt.While _ _ _ _) _) _ _ _)); (fail_if_success (with_reducible show wpAny _ _ (exec (Stmt.For _ _ _ _ _) _) _ _ _)); (first | walk1 | (dsimp only; walk1))) | (leave1; (try dsimp only)) | fail "no step"))
    refine says_use (wordS w _ _ _ a1 b1 _ _ _ hab.1 hab.2 (ok_all hab.1 hab.2)) K0 F4 (by assumption) N4 (by assumption) rfl (by decide) (by decide) ?_
    rintro r _ h5 tk5 ⟨⟨t5, rfl⟩, rfl⟩ F5 N5
    clear F4 N4
    (repeat' (first | (k_unfold; (try dsimp only)) | ((fail_if_success (with_reducible show wpAny _ _ (eval (PySem.Expr.ListComp _ _ _ _) _) _ _ _)); (fail_if_success (with_reducible show wpAny _ _ (PySem.call (Value.ref _) _ _) _ _ _)); (fail_if_success (with_reducible show wpAny _ _ (exec (Stmt.While _ _ _ _) _) _ _ _)); (fail_if_success (with_reducible show wpAny _ _ (exec (Stmt.For _ _ _ _ _) _) _ _ _)); (first | walk1 | (dsimp only; walk1))) | (leave1; (try dsimp only)) | fail "no step"))
    rename_i h6 F6 N6
    refine saysP_use (measure w _ _ _ a1 b1 _ _ hab.1 hab.2) K0 F6 (by assumption) N6 (by assumption) rfl (by decide) (by decide) trivial ?_
    rintro r _ h7 tk7 ⟨⟨t7, rfl⟩, rfl⟩ F7 N7 _
    simp only [List.nil_append] at N7
    clear F6 N6
    (repeat' (first | (k_unfold; (try dsimp only)) | ((fail_if_success (with_reducible show wpAny _ _ (eval (PySem.Expr.ListComp _ _ _ _) _) _ _ _)); (fail_if_success (with_reducible show wpAny _ _ (PySem.call (Value.ref _) _ _) _ _ _)); (fail_if_success (with_reducible show wpAny _ _ (exec (Stmt.While _ _ _ _) _) _ _ _)); (fail_if_success (with_reducible show wpAny _ _ (exec (Stmt.For _ _ _ _ _) _) _ _ _)); (first | walk1 | (dsimp only; walk1))) | (leave1; (try dsimp only)) | fail "no step"))
    rename_i h8 F8 N8
    have itR : it.1 ≠ R := fun e => hoff (R, W.listOf rvs.toArray rk) (.head _) e.symm
    have N8 : News s₁.heap s₁.heap.objs.size h8 ((R, W.listOf rvs.toArray rk) :: it :: (ET, tupO [.int e.1 z1, .int e.2.1 z2, .int e.2.2.1 z3, .int e.2.2.2.1 z4, .ref DD] j) :: (DD, oD) :: base) := fun p hp => N8 p (by
      rcases List.mem_cons.mp hp with rfl | hp
      · exact .tail _ (.head _)
      · rcases List.mem_cons.mp hp with rfl | hp
        · exact .head _
        · exact .tail _ (.tail _ hp))
    refine says_use (insort w _ _ _ (wordP a1 b1) t5 R (it :: (ET, tupO [.int e.1 z1, .int e.2.1 z2, .int e.2.2.1 z3, .int e.2.2.2.1 z4, .ref DD] j) :: (DD, oD) :: base) rvs rk _ hrs (by omega) (fun p hp => by
      rcases List.mem_cons.mp hp with rfl | hp
      · exact itR
      · rcases List.mem_cons.mp hp with rfl | hp
        · exact hER
        · rcases List.mem_cons.mp hp with rfl | hp
          · exact hDR
          · exact offR p hp)) K0 F8 (by assumption) N8 (by assumption) rfl (by decide) (by decide) ?_
    rintro r _ h9 tk9 ⟨rfl, rvs', hrs', rfl⟩ F9 N9
    clear F8 N8
    have hwlen := word_len hab.1 hab.2
    have hmp := meas_pos (a := a1) (b := b1)
    obtain ⟨hmp1, hmp2⟩ := hmp
    (repeat' (first | (k_unfold; (try dsimp only)) | ((fail_if_success (with_reducible show wpAny _ _ (eval (PySem.Expr.ListComp _ _ _ _) _) _ _ _)); (fail_if_success (with_reducible show wpAny _ _ (PySem.call (Value.ref _) _ _) _ _ _)); (fail_if_success (with_reducible show wpAny _ _ (exec (Stmt.While _ _ _ _) _) _ _ _)); (fail_if_success (with_reducible show wpAny _ _ (exec (Stmt.For _ _ _ _ _) _) _ _ _)); (first | walk1 | (dsimp only; walk1))) | (leave1; (try dsimp only)) | fail "no step"))
    refine dict_one (k := partP (a1, b1)) F9 N9 TT.nolimit rfl (fun D10 h10 lt10 F10 N10 => ?_) (fun D10 h10 o10 tk10 lt10 lo10 F10 N10 ht10 => ?_)
    · clear F9 N9
      (repeat' (first | (k_unfold; (try dsimp only)) | ((fail_if_success (with_reducible show wpAny _ _ (eval (PySem.Expr.ListComp _ _ _ _) _) _ _ _)); (fail_if_success (with_reducible show wpAny _ _ (PySem.call (Value.ref _) _ _) _ _ _)); (fail_if_success (with_reducible show wpAny _ _ (exec (Stmt.While _ _ _ _) _) _ _ _)); (fail_if_success (with_reducible show wpAny _ _ (exec (Stmt.For _ _ _ _ _) _) _ _ _)); (first | walk1 | (dsimp only; walk1))) | (leave1; (try dsimp only)) | fail "no step"))
      rename_i F11 N11 _
      exact ⟨_, _, _, rfl, rfl, F11, N11⟩
    · clear F9 N9
      change wpAny _ _ _ _ _ _
      (repeat' (first | (k_unfold; (try dsimp only)) | ((fail_if_success (with_reducible show wpAny _ _ (eval (PySem.Expr.ListComp _ _ _ _) _) _ _ _)); (fail_if_success (with_reducible show wpAny _ _ (PySem.call (Value.ref _) _ _) _ _ _)); (fail_if_success (with_reducible show wpAny _ _ (exec (Stmt.While _ _ _ _) _) _ _ _)); (fail_if_success (with_reducible show wpAny _ _ (exec (Stmt.For _ _ _ _ _) _) _ _ _)); (first | walk1 | (dsimp only; walk1))) | (leave1; (try dsimp only)) | fail "no step"))
      rename_i F11 N11 l11
      refine says_use (addFS w _ _ _ _ _ DD D10 oD o10 _ e.2.2.2.2 [(partP (a1, b1), measP a1 b1)] _ _ _ _ _ _ _ _ _ _ _ _ _ _ _ _ _ _ (.tail _ (.tail _ (.tail _ (.tail _ (.head _))))) (.head _) (.tail _ (.tail _ (.tail _ (.tail _ (.tail _ (.head _)))))) (.tail _ (.head _)) loD lo10 htD ht10 ⟨by omega, by simp⟩) K0 F11 (by assumption) N11 (by assumption) rfl (by decide) (by decide) ?_
      rintro r _ h12 tk12 ⟨D12, T12, o12, zz1, zz2, zz3, zz4, j12, rfl, lo12, ht12, hn12, hDT, rfl⟩ F12 N12
      clear F11 N11
      (repeat' (first | (k_unfold; (try dsimp only)) | ((fail_if_success (with_reducible show wpAny _ _ (eval (PySem.Expr.ListComp _ _ _ _) _) _ _ _)); (fail_if_success (with_reducible show wpAny _ _ (PySem.call (Value.ref _) _ _) _ _ _)); (fail_if_success (with_reducible show wpAny _ _ (exec (Stmt.While _ _ _ _) _) _ _ _)); (fail_if_success (with_reducible show wpAny _ _ (exec (Stmt.For _ _ _ _ _) _) _ _ _)); (first | walk1 | (dsimp only; walk1))) | (leave1; (try dsimp only)) | fail "no step"))
      rename_i h13 F13 N13
      have hR12 := hn12 (R, W.listOf rvs'.toArray (rk + 1)) (.tail _ (.tail _ (.head _)))
      have hI12 := hn12 it (.tail _ (.tail _ (.tail _ (.head _))))
      have htk : ways.take (i + 1) = ways.take i ++ [(a1, b1)] := by rw [List.take_add_one, hsx]; rfl
      have hrow : rowP (ways.take (i + 1)) = insP (rowP (ways.take i)) (wordP a1 b1) := by rw [htk]; simp [rowP]
      have hen : entP (ways.take (i + 1)) = entStep (entP (ways.take i)) (a1, b1) := by rw [htk]; simp [entP]
      have hil := insP_len (rowP (ways.take i)) (wordP a1 b1)
      have hal := addC_len1 e.2.2.2.2 (partP (a1, b1), measP a1 b1)
      refine turn_next (news₂ := (R, W.listOf rvs'.toArray (rk + 1)) :: (T12, _) :: (D12, o12) :: base) F13 (fun p hp => N13 p (by
        rcases List.mem_cons.mp hp with rfl | hp
        · exact .tail _ (.tail _ (.tail _ (.tail _ (.tail _ (.head _)))))
        · rcases List.mem_cons.mp hp with rfl | hp
          · exact .tail _ (.tail _ (.tail _ (.tail _ (.head _))))
          · rcases List.mem_cons.mp hp with rfl | hp
            · exact .head _
            · rcases List.mem_cons.mp hp with rfl | hp
              · exact .tail _ (.head _)
              · exact .tail _ (.tail _ (.tail _ (.tail _ (.tail _ (.tail _ (.tail _ (.tail _ hp)))))))))
        (fun p hp => by
          rcases List.mem_cons.mp hp with rfl | hp
          · exact itR.symm
          · rcases List.mem_cons.mp hp with rfl | hp
            · exact hI12.2.symm
            · rcases List.mem_cons.mp hp with rfl | hp
              · exact hI12.1.symm
              · exact hoff p (.tail _ (.tail _ (.tail _ hp))))
        ⟨rvs', rk + 1, T12, D12, o12, entStep e (a1, b1), zz1, zz2, zz3, zz4, j12, rfl, by rw [hrow]; exact hrs', ht12, lo12, by rw [hen, hent], hR12.2.symm, hR12.1.symm, by rw [hrow]; omega, Nat.le_trans hal (by omega), ?_⟩
      exact ⟨rfl, rfl, rfl, trivial⟩
  · rintro h4 tk4 m₄ _ F4 N4 ⟨rvs, rk, ET, DD, oD, e, z1, z2, z3, z4, j, rfl, hrs, htD, loD, hent, hER, hDR, hrl, hel, hm⟩
    clear F3 N3 hs' fs' ltE ltD
    have F4 := frPin _ F4 hm
    (repeat' (first | (k_unfold; (try dsimp only)) | ((fail_if_success (with_reducible show wpAny _ _ (eval (PySem.Expr.ListComp _ _ _ _) _) _ _ _)); (fail_if_success (with_reducible show wpAny _ _ (PySem.call (Value.ref _) _ _) _ _ _)); (fail_if_success (with_reducible show wpAny _ _ (exec (Stmt.While _ _ _ _) _) _ _ _)); (fail_if_success (with_reducible show wpAny _ _ (exec (Stmt.For _ _ _ _ _) _) _ _ _)); (first | walk1 | (dsimp only; walk1))) | (leave1; (try dsimp only)) | fail "no step"))
    rename_i h5 F5 N5
    clear F4 N4
    rw [krv_pick] at N5
    have hvl : rvs.length = (rowP (ways.take wvs.length)).length := strsAre_len hrs
    have htw : ways.take wvs.length = ways := by rw [hwl]; exact List.take_length
    rw [htw] at hrs hent hrl
    refine join_list (News.isList N5 (.head _)) (by simpa using strsAre_rev hrs) (by have := hG.weight; rw [show ((Str.ofString "")).length = 0 from by decide]; omega) (fun t5 k5 => ?_)
    change wpAny _ _ _ _ _ _
    (repeat' (first | (k_unfold; (try dsimp only)) | ((fail_if_success (with_reducible show wpAny _ _ (eval (PySem.Expr.ListComp _ _ _ _) _) _ _ _)); (fail_if_success (with_reducible show wpAny _ _ (PySem.call (Value.ref _) _ _) _ _ _)); (fail_if_success (with_reducible show wpAny _ _ (exec (Stmt.While _ _ _ _) _) _ _ _)); (fail_if_success (with_reducible show wpAny _ _ (exec (Stmt.For _ _ _ _ _) _) _ _ _)); (first | walk1 | (dsimp only; walk1))) | (leave1; (try dsimp only)) | fail "no step"))
    rename_i h6 F6 N6
    clear F5 N5
    refine says_use (aheadS w _ _ _ (pathP ways) t5 ((R, W.listOf rvs.toArray rk) :: (ET, tupO [.int e.1 z1, .int e.2.1 z2, .int e.2.2.1 z3, .int e.2.2.2.1 z4, .ref DD] j) :: (DD, oD) :: base) hG.size) K0 F6 (by assumption) (fun p hp => N6 p (.tail _ hp)) (by assumption) rfl (by decide) (by decide) ?_
    rintro r _ h7 tk7 ⟨la, avs, ka, rfl, hav, hna, rfl⟩ F7 N7
    clear F6 N6
    have hal : avs.length = (aheadW ways).length := hav.length
    (iterate 19 (first | (k_unfold; (try dsimp only)) | (first | walk1 | (dsimp only; walk1)) | (leave1; (try dsimp only))))
    rename_i h8 F8 N8
    refine slice_tuple_to4 F8 N8 (News.isTup N8 (.tail _ (.tail _ (.head _)))) (fun h9 F9 N9 => ?_)
    clear F8 N8
    change wpAny _ _ _ _ _ _
    dsimp only at N9 F9 ⊢
    generalize h8.objs.size + 1 = SL at *
    (iterate 8 (first | (k_unfold; (try dsimp only)) | (first | walk1 | (dsimp only; walk1)) | (leave1; (try dsimp only))))
    refine len_list (News.isList N9 (.tail _ (.tail _ (.tail _ (.tail _ (.tail _ hbl)))))) (by simp; omega) ?_
    rw [show (wvs.toArray.size : Int) = (ways.length : Int) from by simp [hwl]]
    change wpAny _ _ _ _ _ _
    (iterate 8 (first | (k_unfold; (try dsimp only)) | (first | walk1 | (dsimp only; walk1)) | (leave1; (try dsimp only))))
    refine says_use (countS w _ _ _ DD oD _ e.2.2.2.2 (.tail _ (.tail _ (.tail _ (.tail _ (.head _))))) loD htD) K0 F9 (by assumption) N9 (by assumption) rfl (by decide) (by decide) ?_
    rintro r _ h10 tk10 ⟨⟨t10, rfl⟩, rfl⟩ F10 N10
    clear F9 N9
    (iterate 8 (first | (k_unfold; (try dsimp only)) | (first | walk1 | (dsimp only; walk1)) | (leave1; (try dsimp only))))
    refine len_list (News.isList N10 (.tail _ (.head _))) (by have := hG.len; simp; omega) ?_
    rw [show (avs.toArray.size : Int) = ((aheadW ways).length : Int) from by simp [hal]]
    (iterate 8 (first | (k_unfold; (try dsimp only)) | (first | walk1 | (dsimp only; walk1)) | (leave1; (try dsimp only))))
    refine item_list_ints_neg (News.isList N10 (.tail _ (.head _))) hav (by omega) (by have := hG.len; unfold aheadW at this; omega) (by have := hG.len; unfold aheadW at this; omega) (fun t => ?_)
    change wpAny _ _ _ _ _ _
    (repeat' (first | (k_unfold; (try dsimp only)) | ((fail_if_success (with_reducible show wpAny _ _ (eval (PySem.Expr.ListComp _ _ _ _) _) _ _ _)); (fail_if_success (with_reducible show wpAny _ _ (PySem.call (Value.ref _) _ _) _ _ _)); (fail_if_success (with_reducible show wpAny _ _ (exec (Stmt.While _ _ _ _) _) _ _ _)); (fail_if_success (with_reducible show wpAny _ _ (exec (Stmt.For _ _ _ _ _) _) _ _ _)); (first | walk1 | (dsimp only; walk1))) | (leave1; (try dsimp only)) | fail "no step"))
    rotate_left
    · exact absurd (by assumption) (by rw [head_ok hG hent]; decide)
    refine says_use (leastS w _ _ _ (pathP ways) t5 _ hG.size) K0 (by assumption) (by assumption) (by assumption) (by assumption) rfl (by decide) (by decide) ?_
    rintro r _ h12 tk12 ⟨D2, o2, rfl, lo2, ht2, hne2, rfl⟩ F12 N12
    refine kne_tabs PyProof.V.same_str (tabAt N12 (by k_mem) loD htD) (tabAt N12 (.head _) lo2 ht2) ?_ (by first | k_units | exact Nat.le_of_ble_eq_true rfl) (tab_rows (by rw [hent]; exact hG.ts)) ?_
    · rw [kdpD_length, kdpD_length, hent]; exact hG.tl
    (repeat' (first | (k_unfold; (try dsimp only)) | ((fail_if_success (with_reducible show wpAny _ _ (eval (PySem.Expr.ListComp _ _ _ _) _) _ _ _)); (fail_if_success (with_reducible show wpAny _ _ (PySem.call (Value.ref _) _ _) _ _ _)); (fail_if_success (with_reducible show wpAny _ _ (exec (Stmt.While _ _ _ _) _) _ _ _)); (fail_if_success (with_reducible show wpAny _ _ (exec (Stmt.For _ _ _ _ _) _) _ _ _)); (first | walk1 | (dsimp only; walk1))) | (leave1; (try dsimp only)) | fail "no step"))
    refine says_use (sidesS w _ _ _ lw _ wvs kw ?_ ways ?_ hwr (by omega)) K0 (by assumption) (by assumption) (by assumption) (by assumption) rfl (by decide) (by decide) ?_
    · repeat (first | exact hbl | apply List.mem_cons_of_mem)
    · refine hbp.mono fun v t => ?_
      rintro ⟨ad, t1, t2, j, rfl, hmem⟩
      refine ⟨ad, t1, t2, j, rfl, ?_⟩
      repeat (first | exact hmem | apply List.mem_cons_of_mem)
    rintro r _ h14 tk14 ⟨SD, svs, sk, trips, rfl, rfl, hsv⟩ F14 N14
    clear F12 N12
    obtain ⟨zs, hzp, hzi⟩ := trip_zs hsv
    have hsl : svs.length = ways.length := by rw [hsv.length]; simp [sidesP]
    have hzl : zs.length = ways.length := by rw [hzi.length]; simp [sidesP]
    (repeat' (first | (k_unfold; (try dsimp only)) | ((fail_if_success (with_reducible show wpAny _ _ (eval (PySem.Expr.ListComp _ _ _ _) _) _ _ _)); (fail_if_success (with_reducible show wpAny _ _ (PySem.call (Value.ref _) _ _) _ _ _)); (fail_if_success (with_reducible show wpAny _ _ (exec (Stmt.While _ _ _ _) _) _ _ _)); (fail_if_success (with_reducible show wpAny _ _ (exec (Stmt.For _ _ _ _ _) _) _ _ _)); (first | walk1 | (dsimp only; walk1))) | (leave1; (try dsimp only)) | fail "no step"))
    refine comp3 (by assumption) (by assumption) rfl (by with_unfolding_all rfl) (by decide) (by rfl) (by decide) (by rfl) (by rfl) (by rfl) (by decide) (.head _) (hzp.mono fun v t => ?_) (by have := sizeLine_eq; omega) ?_ ?_
    · rintro ⟨ad, t1, t2, j, rfl, hmem⟩
      exact ⟨ad, t1, t2, j, rfl, .tail _ (List.mem_append_left _ hmem)⟩
    · walk1
      exact ⟨rfl, rfl⟩
    intro D15 h15 tk15 F15 N15 ne15
    change wpAny _ _ _ _ _ _
    (repeat' (first | (k_unfold; (try dsimp only)) | ((fail_if_success (with_reducible show wpAny _ _ (eval (PySem.Expr.ListComp _ _ _ _) _) _ _ _)); (fail_if_success (with_reducible show wpAny _ _ (PySem.call (Value.ref _) _ _) _ _ _)); (fail_if_success (with_reducible show wpAny _ _ (exec (Stmt.While _ _ _ _) _) _ _ _)); (fail_if_success (with_reducible show wpAny _ _ (exec (Stmt.For _ _ _ _ _) _) _ _ _)); (first | walk1 | (dsimp only; walk1))) | (leave1; (try dsimp only)) | fail "no step"))
    refine says_use (points w _ _ _ SD la _ avs svs sk ka ?_ (.tail _ (.head _)) (aheadW ways) hav (sidesP ways) (hsv.mono fun v t => ?_) ?_ hG.len hG.top) K0 (by assumption) (by assumption) (by assumption) (by assumption) rfl (by decide) (by decide) ?_
    · exact .tail _ (.tail _ (List.mem_append_right _ (.tail _ (.tail _ (.tail _ (.head _))))))
    · rintro ⟨ad, t1, t2, t3, j, rfl, hmem⟩
      exact ⟨ad, t1, t2, t3, j, rfl, .tail _ (.tail _ (List.mem_append_left _ hmem))⟩
    · intro t ht
      obtain ⟨x, hx, rfl⟩ := List.mem_map.mp ht
      exact hwr x hx
    rintro r _ h16 tk16 ⟨⟨t16, rfl⟩, rfl⟩ F16 N16
    (repeat' (first | (k_unfold; (try dsimp only)) | ((fail_if_success (with_reducible show wpAny _ _ (eval (PySem.Expr.ListComp _ _ _ _) _) _ _ _)); (fail_if_success (with_reducible show wpAny _ _ (PySem.call (Value.ref _) _ _) _ _ _)); (fail_if_success (with_reducible show wpAny _ _ (exec (Stmt.While _ _ _ _) _) _ _ _)); (fail_if_success (with_reducible show wpAny _ _ (exec (Stmt.For _ _ _ _ _) _) _ _ _)); (first | walk1 | (dsimp only; walk1))) | (leave1; (try dsimp only)) | fail "no step"))
    refine says_use (countS w _ _ _ DD oD _ e.2.2.2.2 ?_ loD htD) K0 (by assumption) (by assumption) (by assumption) (by assumption) rfl (by decide) (by decide) ?_
    · exact .tail _ (.tail _ (List.mem_append_right _ (.tail _ (.tail _ (.tail _ (.tail _ (.tail _ (.tail _ (.head _)))))))))
    rintro r _ h18 tk18 ⟨⟨t18, rfl⟩, rfl⟩ F18 N18
    (repeat' (first | (k_unfold; (try dsimp only)) | ((fail_if_success (with_reducible show wpAny _ _ (eval (PySem.Expr.ListComp _ _ _ _) _) _ _ _)); (fail_if_success (with_reducible show wpAny _ _ (PySem.call (Value.ref _) _ _) _ _ _)); (fail_if_success (with_reducible show wpAny _ _ (exec (Stmt.While _ _ _ _) _) _ _ _)); (fail_if_success (with_reducible show wpAny _ _ (exec (Stmt.For _ _ _ _ _) _) _ _ _)); (first | walk1 | (dsimp only; walk1))) | (leave1; (try dsimp only)) | fail "no step"))
    have hfin : (pointsP (aheadW ways) (sidesP ways) == 1 + (e.2.2.2.2.map (fun x => x.2)).sum + Int.fdiv ((sidesP ways).map (fun x => x.2.2)).sum 2) = true := by
      rw [hent, beq_iff_eq]; exact hG.pts
    rw [hfin]
    k_end
    wrow_close)
end Mine
end

theorem PySem.Challenge.cw_qc0005_01_holds : PySem.Challenge.rw_qc0005_01.Holds :=
  Mine.lawS
