import PyProof.Rows.All
import Wide.All
import OpenK.AllK
import Wide.FinOn
import Lean
import PySem.Challenge.RW_pg0243_01
open PySem PySem.W PyProof.Rows PySem.Spec PySem.Calls
set_option Elab.async false
set_option compiler.extract_closed false
set_option maxRecDepth 100000
namespace Mine
noncomputable def MineOn : Prop := True
noncomputable def Halt (P : Prop) : Prop := P
theorem Halt.mk {P : Prop} (h : Halt P) : P := h
abbrev Led := List (Addr × Obj)
abbrev Env1 := Str → Option Value

/-- the names' values that are wanted -/
noncomputable def Has (m : Env1) : List (Str × Value) → Prop
  | [] => True
  | p :: r => m p.1 = some p.2 ∧ Has m r
theorem Has.all {m : Env1} : ∀ {ps : List (Str × Value)}, Has m ps → ∀ p ∈ ps, m p.1 = some p.2
  | _ :: _, h, _, .head _ => h.1
  | _ :: _, h, _, .tail _ q => h.2.all _ q
theorem Has.eq {m : Env1} {ps : List (Str × Value)} (h : Has m ps) : kstB m ps = m := by
  funext z
  exact kstB_eq (fun p hp => h.all p hp) fun _ => rfl
theorem Has.fr {h₀ h : Heap} {L : Addr} {m : Env1} {ps : List (Str × Value)} (H : Has m ps) (F : Fr h₀ L h m) : Fr h₀ L h (kstB m ps) := by
  rw [H.eq]; exact F

/-- a state of the frame at hand -/
noncomputable def At (h₀ : Heap) (L : Addr) (s₀ : Shared) (ps : List (Str × Value)) (led : Led) (s : Shared) : Prop :=
  ∃ h tk m, s = { s₀ with heap := h, toks := tk } ∧ Fr h₀ L h m ∧ Has m ps ∧ News h₀ L h led
theorem At.intro {h₀ : Heap} {L : Addr} {s₀ : Shared} {ps : List (Str × Value)} {led led' : Led} {h : Heap} {tk : Nat} {m : Env1} (F : Fr h₀ L h m) (N : News h₀ L h led') (H : Has m ps) (hs : ∀ p ∈ led, p ∈ led') :
    At h₀ L s₀ ps led { s₀ with heap := h, toks := tk } := ⟨h, tk, m, rfl, F, H, fun p hp => N p (hs p hp)⟩

/-- a loop that is reached: it stops the walk -/
noncomputable def Loop (prog : Program) (w : World) (A : Around) (env : Env) (target : Expr) (body orelse : List Stmt) (Q : Flow → Shared → Prop) (E : Value → Shared → Prop) (it : Value) (s : Shared) : Prop :=
  codeAny (model prog w) A (.forLoop target it body orelse env) (fun r s' => match r with | .ok f => Q f s' | .error e => cameBackBy (model prog w) A env E e s') s

section
variable {prog : Program} {w : World} {A : Around} {env : Env} {target iter : Expr} {body orelse : List Stmt} {Q : Flow → Shared → Prop} {E : Value → Shared → Prop} {it : Value} {s : Shared} {pos : Pos}
theorem for_loop
    (h : wpAny (model prog w) A (eval iter env) (fun x s₁ => wpAny (model prog w) A (pyIter x) (fun it s₂ => Loop prog w A env target body orelse Q E it s₂) E s₁) E s)
    (hs : ∀ x, foldedSetIterable iter env x = pure x := by intro _; rfl) :
    wpAny (model prog w) A (exec (.For target iter body orelse pos) env) Q E s := wpAny_For h hs

/-- the turn's end -/
noncomputable def TurnE {σ : Type} (h₀ : Heap) (L : Addr) (s₀ : Shared) (P : σ → Prop) (ps : σ → List (Str × Value)) (led : σ → Led) (μ : σ → Nat) (n : Nat) (Q : Flow → Shared → Prop) (f : Flow) (s : Shared) : Prop :=
  match f with
  | .ret v => Q (.ret v) s
  | .brk => Q .next s
  | _ => ∃ c, P c ∧ μ c < n ∧ At h₀ L s₀ (ps c) (led c) s

theorem Loop.rule {σ : Type} {h₀ : Heap} {L : Addr} (P : σ → Prop) (ps : σ → List (Str × Value)) (led : σ → Led) (μ : σ → Nat) (c₀ : σ) (hc : P c₀) (h0 : At h₀ L s (ps c₀) (led c₀) s)
    (turn : ∀ c, P c → ∀ h tk m, Fr h₀ L h (kstB m (ps c)) → News h₀ L h (led c) →
      wpAny (model prog w) A (pyNext it) (fun r s₁ => match r with
        | none => wpAny (model prog w) A (execs orelse env) Q E s₁
        | some v => wpAny (model prog w) A (assign target env v) (fun _ s₂ => wpAny (model prog w) A (execs body env) (TurnE h₀ L s P ps led μ (μ c) Q) E s₂) E s₁) E { s with heap := h, toks := tk })
    (hE : PassesOwn (model prog w) A env E := by passes_own) (ht : ∀ v, letOwnedTupleGo target it v = pure () := by intro _; rfl) :
    Loop prog w A env target body orelse Q E it s := by
  refine codeAny_forLoop (fun n s' => ∃ c, P c ∧ μ c = n ∧ At h₀ L s (ps c) (led c) s') ?_ (μ c₀) ⟨c₀, hc, rfl, h0⟩ ht
  rintro n s' ⟨c, hP, rfl, h, tk, m, rfl, F, H, N⟩
  refine wpAny_mono (turn c hP h tk m (H.fr F) N) (fun r s₁ h₁ => ?_) fun e s₁ h₁ => hE e s₁ h₁
  cases r with
  | none => exact wpAny_passesOwn hE h₁
  | some v =>
    refine wpAny_mono h₁ (fun _ s₂ h₂ => wpAny_mono h₂ (fun f s₃ h₃ => ?_) fun e s₁ h₁ => hE e s₁ h₁) fun e s₁ h₁ => hE e s₁ h₁
    cases f with
    | ret v => exact h₃
    | brk => exact h₃
    | next => obtain ⟨c', a, b, d⟩ := h₃; exact ⟨μ c', b, c', a, rfl, d⟩
    | cont => obtain ⟨c', a, b, d⟩ := h₃; exact ⟨μ c', b, c', a, rfl, d⟩
end
@[reducible] noncomputable def strIt (x : Str) (t : Tok) (i : Nat) : Obj := { cls := .type "str_ascii_iterator", data := .fields #[.str x t, .int i 0] }
abbrev Apart (it : Addr) (led : Led) : Prop := ∀ p ∈ led, p.1 ≠ it
section
variable {prog : Program} {w : World} {A : Around} {E : Value → Shared → Prop} {s : Shared} {h₀ : Heap} {L : Addr} {m : Str → Option Value} {news : Led}
theorem led_upd {h h' : Heap} {it : Addr} {o o' : Obj} (F : Fr h₀ L h m) (N : News h₀ L h ((it, o) :: news)) (ha : Apart it news) (hs : Heap.SameBut it h h') (ho : h'.get? it = some o') :
    Fr h₀ L h' m ∧ News h₀ L h' ((it, o') :: news) := by
  have hi := N (it, o) (.head _)
  refine ⟨F.change hs hi.2.1 hi.2.2, fun p hp => ?_⟩
  rcases List.mem_cons.mp hp with rfl | hp
  · exact ⟨ho, hi.2⟩
  · have := N p (.tail _ hp)
    exact ⟨(hs.2 p.1 (ha p hp)).trans this.1, this.2⟩
theorem led_ext {h h' : Heap} {it : Addr} {o : Obj} (F : Fr h₀ L h m) (N : News h₀ L h ((it, o) :: news)) (ha : Apart it news) (hs : Heap.ExtBut it h h') :
    Fr h₀ L h' m ∧ News h₀ L h' news := by
  have hi := N (it, o) (.head _)
  obtain ⟨oL, es, ep, hL, r⟩ := F.ns
  refine ⟨⟨⟨oL, es, ep, hs _ _ (Ne.symm hi.2.1) hL, r⟩, fun b x q => hs _ _ (fun z => ?_) (F.keep b x q), F.above⟩, fun p hp => ?_⟩
  · have := hi.2.2; rw [← z, q] at this; cases this
  · have := N p (.tail _ hp)
    exact ⟨hs _ _ (ha p hp) this.1, this.2⟩
/-- a text's iterator, at sign i -/
abbrev StrIt (o : Obj) (x : Str) (t : Tok) (i : Nat) : Prop := o.cls = .type "str_ascii_iterator" ∧ o.data = .fields #[.str x t, .int i 0]
theorem iter_ascii {x : Str} {t : Tok} {Q : Value → Shared → Prop} (F : Fr h₀ L s.heap m) (N : News h₀ L s.heap news) (ha : x.cps.all (· < 128) = true)
    (h : ∀ it o h', Fr h₀ L h' m → News h₀ L h' ((it, o) :: news) → StrIt o x t 0 → (∀ p ∈ news, p.1 < it) → Q (.ref it) { s with heap := h' }) : wpAny (model prog w) A (pyIter (.str x t)) Q E s :=
  wpAny_pyIter_ascii ha (h _ _ _ (F.push _) (N.push F _) ⟨rfl, rfl⟩ fun p hp => Heap.lt_size (N p hp).1)
theorem next_ascii {it : Addr} {x : Str} {t : Tok} {i c : Nat} {o : Obj} {Q : Option Value → Shared → Prop} (F : Fr h₀ L s.heap m) (N : News h₀ L s.heap ((it, o) :: news)) (ho : StrIt o x t i) (ha : Apart it news) (hx : x.cps[i]? = some c)
    (h : ∀ o' h', Fr h₀ L h' m → News h₀ L h' ((it, o') :: news) → StrIt o' x t (i + 1) → Q (some (.str ⟨#[c]⟩ s.toks)) { s with heap := h', toks := s.toks + 1 }) : wpAny (model prog w) A (pyNext (.ref it)) Q E s := by
  have hi := N (it, o) (.head _)
  refine wpAny_pyNext_ascii_item ⟨_, hi.1, ho⟩ hx fun h' hit' hs => ?_
  obtain ⟨o', e1, e2⟩ := hit'
  exact h o' h' (led_upd F N ha hs e1).1 (led_upd F N ha hs e1).2 e2
theorem next_ascii_end {it : Addr} {x : Str} {t : Tok} {i : Nat} {o : Obj} {Q : Option Value → Shared → Prop} (hh : A.handled = none) (F : Fr h₀ L s.heap m) (N : News h₀ L s.heap ((it, o) :: news)) (ho : StrIt o x t i) (ha : Apart it news) (hx : x.cps[i]? = none)
    (h : ∀ h', Fr h₀ L h' m → News h₀ L h' news → Q none { s with heap := h' }) : wpAny (model prog w) A (pyNext (.ref it)) Q E s := by
  have hi := N (it, o) (.head _)
  exact wpAny_pyNext_ascii_end hh ⟨_, hi.1, ho⟩ hx fun h' hs => h h' (led_ext F N ha hs).1 (led_ext F N ha hs).2
end
theorem allLt_mem {d : Addr} {l : Led} (h : AllLt d l) : ∀ p ∈ l, p.1 < d := by
  induction l with
  | nil => intro p hp; cases hp
  | cons q r ih =>
    intro p hp
    rcases List.mem_cons.mp hp with rfl | hp
    · exact h.1
    · exact ih h.2 p hp
theorem abs_rest {P : Prop} {h₀ h : Heap} {L : Addr} {a b : Addr × Obj} {rest : Led} (N : News h₀ L h (a :: b :: rest)) (l1 : AllLt a.1 (b :: rest)) (l2 : AllLt b.1 rest) (k : ∀ r, r = rest → News h₀ L h (a :: b :: r) → b.1 < a.1 → AllLt a.1 r → AllLt b.1 r → P) : P := k _ rfl N l1.1 l1.2 l2
@[reducible] noncomputable def tupOf (vs : List Value) (n : Nat) : Obj := { cls := .type "tuple", data := .seq vs.toArray n }
theorem sub_tail {a : Addr × Obj} {l l' : Led} (h : ∀ p ∈ l, p ∈ l') : ∀ p ∈ l, p ∈ a :: l' := fun p hp => .tail _ (h p hp)
/-- an iterator of the call's own, by its turns -/
structure Iter (prog : Program) (w : World) (it : Addr) (n : Nat) (need : Led) (St : Nat → Obj → Prop) (V : Nat → Value → Prop) : Prop where
  item : ∀ (A : Around) (s : Shared) (h₀ : Heap) (L : Addr) (m : Env1) (led : Led) (o : Obj) (i : Nat) (Q : Option Value → Shared → Prop) (E : Value → Shared → Prop), i < n → Fr h₀ L s.heap m → News h₀ L s.heap ((it, o) :: led) → St i o → Apart it led → (∀ p ∈ need, p ∈ led) →
    (∀ v o' h' tk, V i v → Fr h₀ L h' m → News h₀ L h' ((it, o') :: led) → St (i + 1) o' → Q (some v) { s with heap := h', toks := tk }) → wpAny (model prog w) A (pyNext (.ref it)) Q E s
  done : ∀ (A : Around) (s : Shared) (h₀ : Heap) (L : Addr) (m : Env1) (led : Led) (o : Obj) (Q : Option Value → Shared → Prop) (E : Value → Shared → Prop), A.handled = none → Fr h₀ L s.heap m → News h₀ L s.heap ((it, o) :: led) → St n o → Apart it led → (∀ p ∈ need, p ∈ led) →
    (∀ h', Fr h₀ L h' m → News h₀ L h' led → Q none { s with heap := h' }) → wpAny (model prog w) A (pyNext (.ref it)) Q E s
theorem iter_of_str {prog : Program} {w : World} (it : Addr) (x : Str) (t : Tok) : Iter prog w it x.cps.size [] (fun i o => StrIt o x t i) (fun i v => ∃ c t', x.cps[i]? = some c ∧ v = .str ⟨#[c]⟩ t') where
  item := fun A s h₀ L m led o i Q E hi F N ho ha _ h => by
    have hx : x.cps[i]? = some x.cps[i] := by simp [hi]
    exact next_ascii F N ho ha hx fun o' h' F' N' ho' => h _ o' h' _ ⟨_, _, hx, rfl⟩ F' N' ho'
  done := fun A s h₀ L m led o Q E hh F N ho ha _ h => next_ascii_end hh F N ho ha (Array.getElem?_eq_none (Nat.le_refl _)) h
@[reducible] noncomputable def rngIt (x left : Int) : Obj := { cls := .type "range_iterator", dict := none, data := .fields #[rawInt x, rawInt left, rawInt 1], slots := #[] }
theorem iter_of_range {prog : Program} {w : World} (it : Addr) (a : Int) (n : Nat) : Iter prog w it n [] (fun i o => o = rngIt (a + i) ((n : Int) - i)) (fun i v => ∃ t', v = .int (a + i) t') where
  item := fun A s h₀ L m led o i Q E hi F N ho ha _ h => by
    subst ho
    have hi' := N _ (.head _)
    refine wpAny_pyNext_range_item (step := 1) hi'.1 (by omega) fun h' hit' hs => ?_
    have e : IsRangeIter h' it (a + i + 1) (n - i - 1) 1 := hit'
    exact h _ _ h' _ ⟨_, rfl⟩ (led_upd F N ha hs e).1 (led_upd F N ha hs e).2 (by
      have e1 : a + (i : Int) + 1 = a + ((i + 1 : Nat) : Int) := by omega
      have e2 : (n : Int) - i - 1 = (n : Int) - ((i + 1 : Nat) : Int) := by omega
      rw [e1, e2])
  done := fun A s h₀ L m led o Q E hh F N ho ha _ h => by
    subst ho
    have hi' := N _ (.head _)
    exact wpAny_pyNext_range_end (step := 1) hh hi'.1 (by omega) fun h' hs => h h' (led_ext F N ha hs).1 (led_ext F N ha hs).2
section
variable {prog : Program} {w : World} {A : Around} {env : Env} {target : Expr} {body orelse : List Stmt} {Q : Flow → Shared → Prop} {E : Value → Shared → Prop} {s : Shared}
noncomputable def TurnI {σ : Type} (h₀ : Heap) (L : Addr) (s₀ : Shared) (it : Addr) (P : Nat → σ → Prop) (ps : σ → List (Str × Value)) (led : σ → Led) (St : Nat → Obj → Prop) (i : Nat) (Q : Flow → Shared → Prop) (f : Flow) (s : Shared) : Prop :=
  match f with
  | .ret v => Q (.ret v) s
  | .brk => Q .next s
  | _ => ∃ c o, P i c ∧ St i o ∧ At h₀ L s₀ (ps c) ((it, o) :: led c) s
theorem TurnI.next {σ : Type} {h₀ : Heap} {L : Addr} {s₀ : Shared} {it : Addr} {P : Nat → σ → Prop} {ps : σ → List (Str × Value)} {led : σ → Led} {St : Nat → Obj → Prop} {i : Nat} {Q : Flow → Shared → Prop} {h : Heap} {tk : Nat} {m : Env1} {led' : Led} {o : Obj} (c : σ)
    (F : Fr h₀ L h m) (N : News h₀ L h led') (hp : P i c) (hm : Has m (ps c)) (ho : St i o) (hs : ∀ p ∈ (it, o) :: led c, p ∈ led') : TurnI h₀ L s₀ it P ps led St i Q .next { s₀ with heap := h, toks := tk } := ⟨c, o, hp, ho, At.intro F N hm hs⟩
theorem TurnI.cont {σ : Type} {h₀ : Heap} {L : Addr} {s₀ : Shared} {it : Addr} {P : Nat → σ → Prop} {ps : σ → List (Str × Value)} {led : σ → Led} {St : Nat → Obj → Prop} {i : Nat} {Q : Flow → Shared → Prop} {h : Heap} {tk : Nat} {m : Env1} {led' : Led} {o : Obj} (c : σ)
    (F : Fr h₀ L h m) (N : News h₀ L h led') (hp : P i c) (hm : Has m (ps c)) (ho : St i o) (hs : ∀ p ∈ (it, o) :: led c, p ∈ led') : TurnI h₀ L s₀ it P ps led St i Q .cont { s₀ with heap := h, toks := tk } := ⟨c, o, hp, ho, At.intro F N hm hs⟩
theorem Loop.iter {σ : Type} {h₀ : Heap} {L : Addr} {it : Addr} {n : Nat} {need : Led} {St : Nat → Obj → Prop} {V : Nat → Value → Prop} {o₀ : Obj} (I : Iter prog w it n need St V) (hh : A.handled = none)
    (P : Nat → σ → Prop) (ps : σ → List (Str × Value)) (led : σ → Led) (c₀ : σ) (hc : P 0 c₀) (ho : St 0 o₀) (h0 : At h₀ L s (ps c₀) ((it, o₀) :: led c₀) s) (hap : ∀ i c, P i c → Apart it (led c)) (hneed : ∀ i c, P i c → ∀ p ∈ need, p ∈ led c)
    (turn : ∀ i c, i < n → P i c → ∀ v o h tk m, V i v → St (i + 1) o → Fr h₀ L h (kstB m (ps c)) → News h₀ L h ((it, o) :: led c) →
      wpAny (model prog w) A (assign target env v) (fun _ s₂ => wpAny (model prog w) A (execs body env) (TurnI h₀ L s it P ps led St (i + 1) Q) E s₂) E { s with heap := h, toks := tk })
    (done : ∀ c, P n c → ∀ h tk m, Fr h₀ L h (kstB m (ps c)) → News h₀ L h (led c) → wpAny (model prog w) A (execs orelse env) Q E { s with heap := h, toks := tk })
    (hE : PassesOwn (model prog w) A env E := by passes_own) (ht : ∀ v, letOwnedTupleGo target (.ref it) v = pure () := by intro _; rfl) :
    Loop prog w A env target body orelse Q E (.ref it) s := by
  refine Loop.rule (σ := Nat × σ × Obj) (fun c => c.1 ≤ n ∧ P c.1 c.2.1 ∧ St c.1 c.2.2) (fun c => ps c.2.1) (fun c => (it, c.2.2) :: led c.2.1) (fun c => n - c.1) (0, c₀, o₀) ⟨Nat.zero_le _, hc, ho⟩ h0 ?_ hE ht
  rintro ⟨i, c, o⟩ ⟨hi, hp, ho⟩ h tk m F N
  dsimp only at *
  by_cases hlt : i < n
  · refine I.item _ _ _ _ _ _ _ _ _ _ hlt F N ho (hap i c hp) (hneed i c hp) fun v o' h' tk' hv F' N' ho' => ?_
    refine wpAny_mono (turn i c hlt hp v o' h' tk' m hv ho' F' N') (fun _ s₂ q => wpAny_mono q (fun f s₃ t => ?_) fun _ _ e => e) fun _ _ e => e
    cases f with
    | ret v => exact t
    | brk => exact t
    | next => obtain ⟨c', o'', h1, h2, h3⟩ := t; exact ⟨(i + 1, c', o''), ⟨hlt, h1, h2⟩, (by show n - (i + 1) < n - i; omega), h3⟩
    | cont => obtain ⟨c', o'', h1, h2, h3⟩ := t; exact ⟨(i + 1, c', o''), ⟨hlt, h1, h2⟩, (by show n - (i + 1) < n - i; omega), h3⟩
  · have e : i = n := by omega
    subst e
    exact I.done _ _ _ _ _ _ _ _ _ hh F N ho (hap i c hp) (hneed i c hp) fun h' F' N' => done c hp h' tk m F' N'
end
abbrev ListIt (l : Addr) (i : Nat) (o : Obj) : Prop := o.cls = .type "list_iterator" ∧ o.data = .fields #[.ref l, .int i 0]
theorem iter_of_list {prog : Program} {w : World} (it l : Addr) (vs : List Value) (ep : Nat) : Iter prog w it vs.length [(l, W.listOf vs.toArray ep)] (ListIt l) (fun i v => vs[i]? = some v) where
  item := fun A s h₀ L m led o i Q E hi F N ho ha hn h => by
    have hi' := N _ (.head _)
    have hl := N _ (.tail _ (hn _ (.head _)))
    have hx : vs.toArray[i]? = some vs[i] := by simp [hi]
    refine wpAny_pyNext_list_item ⟨_, hi'.1, ho⟩ ⟨_, hl.1, rfl, _, rfl⟩ hx fun h' hit' hs => ?_
    obtain ⟨o', e1, e2⟩ := hit'
    exact h _ o' h' s.toks (by simp [hi]) (led_upd F N ha hs e1).1 (led_upd F N ha hs e1).2 e2
  done := fun A s h₀ L m led o Q E hh F N ho ha hn h => by
    have hi' := N _ (.head _)
    have hl := N _ (.tail _ (hn _ (.head _)))
    exact wpAny_pyNext_list_end hh ⟨_, hi'.1, ho⟩ ⟨_, hl.1, rfl, _, rfl⟩ (by simp) fun h' hs => h h' (led_ext F N ha hs).1 (led_ext F N ha hs).2
section
variable {prog : Program} {w : World} {A : Around} {E : Value → Shared → Prop} {s : Shared} {h₀ : Heap} {L : Addr} {m : Str → Option Value} {news : Led}
theorem iter_list {l : Addr} {vs : List Value} {ep : Nat} {Q : Value → Shared → Prop} (F : Fr h₀ L s.heap m) (N : News h₀ L s.heap news) (hm : (l, W.listOf vs.toArray ep) ∈ news)
    (h : ∀ it o h', Fr h₀ L h' m → News h₀ L h' ((it, o) :: news) → ListIt l 0 o → (∀ p ∈ news, p.1 < it) → Q (.ref it) { s with heap := h' }) : wpAny (model prog w) A (pyIter (.ref l)) Q E s :=
  wpAny_pyIter_list ⟨_, (N _ hm).1, rfl, _, rfl⟩ (h _ _ _ (F.push _) (N.push F _) ⟨rfl, rfl⟩ fun p hp => Heap.lt_size (N p hp).1)
theorem small_of {a b : Int} (ha : -1000000000 < a ∧ a < 1000000000) (hb : -1000000000 < b ∧ b < 1000000000) : Builtin.Range.small a b 1 = true := by
  have e : Builtin.Range.rangeSize a b 1 = ((b - a).toNat : Int) := by
    unfold Builtin.Range.rangeSize
    rw [if_pos (by decide)]
    split
    · rw [Int.ediv_one]; omega
    · omega
  unfold Builtin.Range.small
  rw [e]
  have hf : ∀ x : Int, -10000000000 < x → x < 10000000000 → Builtin.Range.rangeFitsLong x = true := by
    intro x h1 h2
    unfold Builtin.Range.rangeFitsLong
    simp only [Bool.and_eq_true, decide_eq_true_eq]
    omega
  rw [hf a (by omega) (by omega), hf b (by omega) (by omega), hf 1 (by omega) (by omega), hf ((b - a).toNat : Int) (by omega) (by omega), if_pos (by decide), hf (b + (1 - 1)) (by omega) (by omega)]
  simp
theorem iter_range {r : Addr} {a b : Int} {t u v : Tok} {Q : Value → Shared → Prop} (F : Fr h₀ L s.heap m) (N : News h₀ L s.heap news) (hr : IsRange s.heap r a b 1 t u v) (ha : -1000000000 < a ∧ a < 1000000000) (hb : -1000000000 < b ∧ b < 1000000000)
    (h : ∀ it h', Fr h₀ L h' m → News h₀ L h' ((it, rngIt a ((b - a).toNat : Int)) :: news) → (∀ p ∈ news, p.1 < it) → Q (.ref it) { s with heap := h' }) : wpAny (model prog w) A (pyIter (.ref r)) Q E s := by
  have e : Builtin.Range.rangeSize a b 1 = ((b - a).toNat : Int) := by
    unfold Builtin.Range.rangeSize
    rw [if_pos (by decide)]
    split
    · rw [Int.ediv_one]; omega
    · omega
  refine wpAny_pyIter_range hr (small_of ha hb) ?_
  rw [e]
  exact h _ _ (F.push _) (N.push F _) fun p hp => Heap.lt_size (N p hp).1
end
theorem rng0 {a : Int} {n : Nat} : rngIt a (n : Int) = rngIt (a + ((0 : Nat) : Int)) ((n : Int) - ((0 : Nat) : Int)) := by simp
section
variable {prog : Program} {w : World} {A : Around} {E : Value → Shared → Prop} {s : Shared}
/-- guards: what a macro looks at before it works (a term in a macro costs some 100 KB of compiled file, a lemma's name little) -/
theorem gdr (n : Nat) {vs : List Value} {Q : Value → Shared → Prop} (h : wpAny (model prog w) A (call (Value.ref n) vs) Q E s) : wpAny (model prog w) A (call (Value.ref n) vs) Q E s := h
theorem gdJoin {x : Str} {t : Tok} {a : Addr} {Q : Value → Shared → Prop} (h : wpAny (model prog w) A (call (Value.builtin "str.join") [Value.str x t, Value.ref a]) Q E s) : wpAny (model prog w) A (call (Value.builtin "str.join") [Value.str x t, Value.ref a]) Q E s := h
theorem gdLen {a : Addr} {Q : Value → Shared → Prop} (h : wpAny (model prog w) A (call (Value.builtin "len") [Value.ref a]) Q E s) : wpAny (model prog w) A (call (Value.builtin "len") [Value.ref a]) Q E s := h
theorem gdTruthy {a : Addr} {Q : Bool → Shared → Prop} (h : wpAny (model prog w) A (truthy (Value.ref a)) Q E s) : wpAny (model prog w) A (truthy (Value.ref a)) Q E s := h
theorem gdSplit {x y : Str} {t u : Tok} {Q : Value → Shared → Prop} (h : wpAny (model prog w) A (call (Value.builtin "str.split") [Value.str x t, Value.str y u]) Q E s) : wpAny (model prog w) A (call (Value.builtin "str.split") [Value.str x t, Value.str y u]) Q E s := h
theorem gdPop {a : Addr} {t : Tok} {Q : Value → Shared → Prop} (h : wpAny (model prog w) A (call (Value.builtin "list.pop") [Value.ref a, Value.int 0 t]) Q E s) : wpAny (model prog w) A (call (Value.builtin "list.pop") [Value.ref a, Value.int 0 t]) Q E s := h
theorem gdIter {a : Addr} {x : Str} {t : Tok} {Q : Value → Shared → Prop} (h : wpAny (model prog w) A (call (Value.builtin "iter") [Value.ref a, Value.str x t]) Q E s) : wpAny (model prog w) A (call (Value.builtin "iter") [Value.ref a, Value.str x t]) Q E s := h
theorem gdType {n : String} {a : Addr} {Q : Value → Shared → Prop} (h : wpAny (model prog w) A (call (Value.type n) [Value.ref a]) Q E s) : wpAny (model prog w) A (call (Value.type n) [Value.ref a]) Q E s := h
theorem gdListStr {x : Str} {t : Tok} {Q : Value → Shared → Prop} (h : wpAny (model prog w) A (call (Value.type "list") [Value.str x t]) Q E s) : wpAny (model prog w) A (call (Value.type "list") [Value.str x t]) Q E s := h
theorem gdItR {a : Addr} {prog' : Program} {w' : World} {A' : Around} {env : Env} {t : PySem.Expr} {b o : List Stmt} {Q : Flow → Shared → Prop} {E' : Value → Shared → Prop} (h : wpAny (model prog w) A (pyIter (Value.ref a)) (fun it s₂ => Loop prog' w' A' env t b o Q E' it s₂) E s) : wpAny (model prog w) A (pyIter (Value.ref a)) (fun it s₂ => Loop prog' w' A' env t b o Q E' it s₂) E s := h
theorem gdItS {x : Str} {k : Tok} {prog' : Program} {w' : World} {A' : Around} {env : Env} {t : PySem.Expr} {b o : List Stmt} {Q : Flow → Shared → Prop} {E' : Value → Shared → Prop} (h : wpAny (model prog w) A (pyIter (Value.str x k)) (fun it s₂ => Loop prog' w' A' env t b o Q E' it s₂) E s) : wpAny (model prog w) A (pyIter (Value.str x k)) (fun it s₂ => Loop prog' w' A' env t b o Q E' it s₂) E s := h
theorem gdIadd {a b : Addr} {Q : Value → Shared → Prop} (h : wpAny (model prog w) A (inplaceOp Operator.Add (Value.ref a) (Value.ref b)) Q E s) : wpAny (model prog w) A (inplaceOp Operator.Add (Value.ref a) (Value.ref b)) Q E s := h
theorem gdEq1 {c : Nat} {x : String} {t u : Tok} {Q : Value → Shared → Prop} (h : wpAny (model prog w) A (compareOp CmpOp.Eq (Value.str (Str.mk #[c]) t) (Value.str (Str.ofString x) u)) Q E s) : wpAny (model prog w) A (compareOp CmpOp.Eq (Value.str (Str.mk #[c]) t) (Value.str (Str.ofString x) u)) Q E s := h
end
noncomputable def EpsOn : Prop := True
/-- a constant that stands for all: what holds of it holds of every one (so a proof's data are closed terms, stored once and not anew at each binder) -/
noncomputable def eps {α : Type} (i : Nonempty α) (P : α → Prop) : α := Classical.epsilon fun a => ¬ P a
theorem all_eps {α : Type} [i : Nonempty α] {P : α → Prop} (h : P (eps i P)) : ∀ a, P a :=
  fun a => Classical.byContradiction fun n => (Classical.epsilon_spec (p := fun a => ¬ P a) ⟨a, n⟩) h
theorem neP {α β : Type} (i : Nonempty α) (j : Nonempty β) : Nonempty (α × β) := i.elim fun a => j.elim fun b => ⟨(a, b)⟩
noncomputable def s1 {α β γ δ : Type} (e : α × β × γ × δ) : α := e.1
noncomputable def s2 {α β γ δ : Type} (e : α × β × γ × δ) : β := e.2.1
noncomputable def s3 {α β γ δ : Type} (e : α × β × γ × δ) : γ := e.2.2.1
noncomputable def s4 {α β γ δ : Type} (e : α × β × γ × δ) : δ := e.2.2.2
noncomputable def r1 {α β γ δ ε ζ η θ : Type} (e : α × β × γ × δ × ε × ζ × η × θ) : α := e.1
noncomputable def r2 {α β γ δ ε ζ η θ : Type} (e : α × β × γ × δ × ε × ζ × η × θ) : β := e.2.1
noncomputable def r3 {α β γ δ ε ζ η θ : Type} (e : α × β × γ × δ × ε × ζ × η × θ) : γ := e.2.2.1
noncomputable def r4 {α β γ δ ε ζ η θ : Type} (e : α × β × γ × δ × ε × ζ × η × θ) : δ := e.2.2.2.1
noncomputable def r5 {α β γ δ ε ζ η θ : Type} (e : α × β × γ × δ × ε × ζ × η × θ) : ε := e.2.2.2.2.1
noncomputable def r6 {α β γ δ ε ζ η θ : Type} (e : α × β × γ × δ × ε × ζ × η × θ) : ζ := e.2.2.2.2.2.1
noncomputable def r7 {α β γ δ ε ζ η θ : Type} (e : α × β × γ × δ × ε × ζ × η × θ) : η := e.2.2.2.2.2.2.1
noncomputable def r8 {α β γ δ ε ζ η θ : Type} (e : α × β × γ × δ × ε × ζ × η × θ) : θ := e.2.2.2.2.2.2.2
noncomputable def un2 {α β : Type} (P : α → β → Prop) (e : α × β × Unit × Unit) : Prop := P (s1 e) (s2 e)
theorem all_eps2 {α β : Type} [i1 : Nonempty α] [i2 : Nonempty β] {P : α → β → Prop} (k : P (s1 (eps (neP i1 (neP i2 (neP ⟨()⟩ ⟨()⟩))) (un2 P))) (s2 (eps (neP i1 (neP i2 (neP ⟨()⟩ ⟨()⟩))) (un2 P)))) : ∀ a b, P a b :=
  fun a b => all_eps (i := (neP i1 (neP i2 (neP ⟨()⟩ ⟨()⟩)))) (P := un2 P) k (a, b, (), ())
noncomputable def un3 {α β γ : Type} (P : α → β → γ → Prop) (e : α × β × γ × Unit) : Prop := P (s1 e) (s2 e) (s3 e)
theorem all_eps3 {α β γ : Type} [i1 : Nonempty α] [i2 : Nonempty β] [i3 : Nonempty γ] {P : α → β → γ → Prop} (k : P (s1 (eps (neP i1 (neP i2 (neP i3 ⟨()⟩))) (un3 P))) (s2 (eps (neP i1 (neP i2 (neP i3 ⟨()⟩))) (un3 P))) (s3 (eps (neP i1 (neP i2 (neP i3 ⟨()⟩))) (un3 P)))) : ∀ a b c, P a b c :=
  fun a b c => all_eps (i := (neP i1 (neP i2 (neP i3 ⟨()⟩)))) (P := un3 P) k (a, b, c, ())
noncomputable def un4 {α β γ δ : Type} (P : α → β → γ → δ → Prop) (e : α × β × γ × δ) : Prop := P (s1 e) (s2 e) (s3 e) (s4 e)
theorem all_eps4 {α β γ δ : Type} [i1 : Nonempty α] [i2 : Nonempty β] [i3 : Nonempty γ] [i4 : Nonempty δ] {P : α → β → γ → δ → Prop} (k : P (s1 (eps (neP i1 (neP i2 (neP i3 i4))) (un4 P))) (s2 (eps (neP i1 (neP i2 (neP i3 i4))) (un4 P))) (s3 (eps (neP i1 (neP i2 (neP i3 i4))) (un4 P))) (s4 (eps (neP i1 (neP i2 (neP i3 i4))) (un4 P)))) : ∀ a b c d, P a b c d :=
  fun a b c d => all_eps (i := (neP i1 (neP i2 (neP i3 i4)))) (P := un4 P) k (a, b, c, d)
noncomputable def un8 {α β γ δ ε ζ η θ : Type} (P : α → β → γ → δ → ε → ζ → η → θ → Prop) (e : α × β × γ × δ × ε × ζ × η × θ) : Prop := P (r1 e) (r2 e) (r3 e) (r4 e) (r5 e) (r6 e) (r7 e) (r8 e)
theorem all_eps8 {α β γ δ ε ζ η θ : Type} [i1 : Nonempty α] [i2 : Nonempty β] [i3 : Nonempty γ] [i4 : Nonempty δ] [i5 : Nonempty ε] [i6 : Nonempty ζ] [i7 : Nonempty η] [i8 : Nonempty θ] {P : α → β → γ → δ → ε → ζ → η → θ → Prop} (k : P (r1 (eps (neP i1 (neP i2 (neP i3 (neP i4 (neP i5 (neP i6 (neP i7 i8))))))) (un8 P))) (r2 (eps (neP i1 (neP i2 (neP i3 (neP i4 (neP i5 (neP i6 (neP i7 i8))))))) (un8 P))) (r3 (eps (neP i1 (neP i2 (neP i3 (neP i4 (neP i5 (neP i6 (neP i7 i8))))))) (un8 P))) (r4 (eps (neP i1 (neP i2 (neP i3 (neP i4 (neP i5 (neP i6 (neP i7 i8))))))) (un8 P))) (r5 (eps (neP i1 (neP i2 (neP i3 (neP i4 (neP i5 (neP i6 (neP i7 i8))))))) (un8 P))) (r6 (eps (neP i1 (neP i2 (neP i3 (neP i4 (neP i5 (neP i6 (neP i7 i8))))))) (un8 P))) (r7 (eps (neP i1 (neP i2 (neP i3 (neP i4 (neP i5 (neP i6 (neP i7 i8))))))) (un8 P))) (r8 (eps (neP i1 (neP i2 (neP i3 (neP i4 (neP i5 (neP i6 (neP i7 i8))))))) (un8 P)))) : ∀ a b c d e f g h, P a b c d e f g h :=
  fun a b c d e f g h => all_eps (i := (neP i1 (neP i2 (neP i3 (neP i4 (neP i5 (neP i6 (neP i7 i8)))))))) (P := un8 P) k (a, b, c, d, e, f, g, h)
theorem neSh : Nonempty Shared := ⟨{}⟩
theorem neAr : Nonempty Around := ⟨{}⟩
theorem neWo : Nonempty World := ⟨Classical.choice ⟨aWorld 1⟩⟩
theorem nePa : Nonempty Params := ⟨(aWorld 1).params⟩
/-- what a goal ends in, hidden behind constants -/
noncomputable def Hid {α : Type} (q Q : α → Shared → Prop) : Prop := ∀ v s, q v s → Q v s
theorem Hid.use {α : Type} {q Q : α → Shared → Prop} {v : α} {s : Shared} (h : Hid q Q) (k : q v s) : Q v s := h v s k
theorem hide {prog : Program} {w : World} {A : Around} {α : Type} {x : Sem α} {q : α → Shared → Prop} {e : Value → Shared → Prop} {s : Shared}
    (k : ∀ Q : α → Shared → Prop, Hid q Q → wpAny (model prog w) A x Q e s) : wpAny (model prog w) A x q e s := k q fun _ _ h => h
/-- the data of an existential, one by one -/
theorem ex_imp {α : Sort u} {p : α → Prop} {G : Prop} (k : ∀ x, p x → G) : (∃ x, p x) → G := fun ⟨x, h⟩ => k x h
theorem and_imp' {a b G : Prop} (k : a → b → G) : a ∧ b → G := fun ⟨x, h⟩ => k x h
theorem pr_all {α β : Type} {P : α × β → Prop} (h : ∀ a b, P (a, b)) : ∀ c, P c := fun ⟨_, _⟩ => h _ _
theorem pr_all3 {α β γ : Type} {P : α × β × γ → Prop} (h : ∀ a b c, P (a, b, c)) : ∀ c, P c := fun ⟨_, _, _⟩ => h _ _ _
theorem pr_all4 {α β γ δ : Type} {P : α × β × γ × δ → Prop} (h : ∀ a b c d, P (a, b, c, d)) : ∀ c, P c := fun ⟨_, _, _, _⟩ => h _ _ _ _
theorem rm0 {a b c : Nat} (h : a + b < c) : a < c := Nat.lt_of_le_of_lt (Nat.le_add_right _ _) h
theorem rm1 {a b c i : Nat} (h : a + b < c) (e : Nat.ble i b = true) : a + i < c := Nat.lt_of_le_of_lt (Nat.add_le_add_left (Nat.le_of_ble_eq_true e) _) h
theorem rm2 {a b c i j : Nat} (h : a + b < c) (e : Nat.ble (i + j) b = true) : a + i + j < c := Nat.add_assoc a i j ▸ rm1 h e
theorem kind_fn {k : ScopeKind} (h : k = .function) : k = .function := h

end Mine
namespace Mine
/-- the state behind the opening -/
noncomputable abbrev booted (w : World) (os : OsState) : Shared := ⟨boot_heap w.params, Array.mk [], boot_drawn, boot_toks, os⟩
/-- the top, run at once behind the opening, for either answer of the world's row -/
theorem left_of {p q : Program} {loose : List Str} {Xt : Shared → Bool} {α : Type} {Yf : Shared → α} {Ya : World → α} {N : Nat} {g0 : Bool} (row : String)
    (e : opening p = plainProg p.main.scope.names) (hN : Nat.ble 600 N = true) (f : ∀ s, fenceModules? p s = some s)
    (h0 : ∀ (w : World) (os : OsState), (topFrom treeTable p (w.withFollow row false) N (booted w os)).map (fun s => (openSeen q loose (importedModules p.main.body) Xt g0 s, Yf s)) = some (openGood q loose, Ya (w.withFollow row false)))
    (h1 : ∀ (w : World) (os : OsState), (topFrom treeTable p (w.withFollow row true) N (booted w os)).map (fun s => (openSeen q loose (importedModules p.main.body) Xt g0 s, Yf s)) = some (openGood q loose, Ya (w.withFollow row true))) :
    LeftO p q loose Xt Yf Ya N g0 := fun w => by
  obtain ⟨⟨h, gs, d, k, os⟩, e1, e2⟩ := Option.map_eq_some_iff.mp (boot_open e hN f w)
  obtain ⟨rfl, rfl, rfl, rfl⟩ : h = boot_heap w.params ∧ gs = Array.mk [] ∧ d = boot_drawn ∧ k = boot_toks := by simpa using e2
  have e3 := World.withFollow_self w row
  unfold openEnds
  rw [e1]
  show (topFrom treeTable p w N (booted w os)).map _ = _
  have a0 := h0 w os
  have a1 := h1 w os
  cases hb : w.params.followText row <;> rw [hb] at e3
  · rw [e3] at a0; exact a0
  · rw [e3] at a1; exact a1
end Mine
section
local macro_rules | `(tactic| refine $h:ident (q := $q:term) $as*) => `(tactic| (refine' $h:ident (q := $q) $as*; case hl => (refine Mine.left_of "special-get-raises" ?e ?n ?f ?a ?b; (case n => rfl); (case e => kernel_rfl); (case f => (intro s; kernel_rfl)); (all_goals (intro w os; unfold topFrom; rw [PySem.W.Fast.te14082659384304107361, PySem.W.Fast.te14364793385576792824, PySem.W.Fast.te4187177175401517315]; kernel_rfl)))))
namespace Mine
set_option maxHeartbeats 8000000 in
open_top hd for PySem.Challenge.rw_pg0243_01
end Mine
end
namespace Mine
local macro_rules | `(tactic| walk_at "my_on") => `(tactic| (have z0 : MineOn := (by with_reducible assumption); clear z0))
local macro_rules | `(tactic| walk_at "my_step") => `(tactic| first | (k_unfold; (try dsimp only)) | (k_end; wrow_close) | walk1 | (dsimp only; walk1) | (leave1; walk_say "STEP leave1"; try dsimp only) | skip)
local macro_rules | `(tactic| k_mem) => `(tactic| ((walk_at "my_on"); ((refine List.mem_append_right _ ?_; k_mem))))
local macro_rules | `(tactic| k_room) => `(tactic| ((walk_at "my_on"); (ktr_room)))
local macro_rules | `(tactic| k_units) => `(tactic| ((walk_at "my_on"); (ktr_units)))
local macro_rules | `(tactic| k_enter) => `(tactic| ((walk_at "my_on"); (cell_enter)))
local macro_rules | `(tactic| walk_at "exec For Name Attribute cons nil") => `(tactic| (k_here; (with_reducible refine for_loop ?_ ?_); rotate_left; (with_unfolding_all (intro _; rfl))))
local macro_rules | `(tactic| walk_at "exec For Name Call cons nil") => `(tactic| (k_here; (with_reducible refine for_loop ?_ ?_); rotate_left; (with_unfolding_all (intro _; rfl))))
local macro_rules | `(tactic| walk_at "exec For Name Name cons nil") => `(tactic| (k_here; (with_reducible refine for_loop ?_ ?_); rotate_left; (with_unfolding_all (intro _; rfl))))
local macro_rules | `(tactic| walk_at "pyIter str") => `(tactic| (k_here; (with_reducible refine gdItS ?_); k_dflt (refine' iter_ascii ?k1 ?k2 ?k3 ?_; (case k1 | k2 => k_asm); (case k3 => assumption); k_whole; intro it' o' h' F' N' ho' l1; (try k_lt l1); (try k_sweep))))
local macro_rules | `(tactic| walk_at "pyIter ref") => `(tactic| (k_here; (with_reducible refine gdItR ?_); k_dflt (first
  | (refine' iter_range ?k1 ?k2 ?k3 ?k4 ?k5 ?_; (case k1 => k_asm); (case k2 => k_asm); (case k3 => assumption); (case k4 => omega); (case k5 => omega); k_whole; intro it' h' F' N' l1; (try k_lt l1); (try k_sweep))
  | (refine' iter_list ?k1 ?k2 ?k3 ?_; (case k1 => k_asm); (case k2 => k_asm); (case k3 => k_mem); k_whole; intro it' o' h' F' N' ho' l1; (try k_lt l1); (try k_sweep)))))
local macro_rules | `(tactic| walk_at "call type:tuple") => `(tactic| (k_here; (with_reducible refine gdType ?_); k_dflt (refine' kde_tupleOf ?k1 ?k2 ?k3 ?k4 ?k5 ?_; (case k1 | k2 => k_asm); (case k3 => exact News.isList (by k_asm) (by k_mem)); (case k4 => (rw [List.size_toArray, IntsAre.length (by assumption)]; omega)); (case k5 => exact rfl); k_whole); intro D' h' F' N' l1; (try k_lt l1); (try k_sweep)))
local macro_rules | `(tactic| walk_at "my_all") => `(tactic| (walk_at "eps_on"; first | refine all_eps ?_ | refine all_eps (i := by walk_at "my_ne") ?_))
local macro_rules | `(tactic| walk_at "my_ne") => `(tactic| first | exact neSh | exact neAr | exact neWo)
local macro_rules | `(tactic| walk_at "eps_on") => `(tactic| (have z0 : EpsOn := (by with_reducible assumption); clear z0))
local macro_rules | `(tactic| intro $x:ident) => `(tactic| first | (walk_at "my_all"; generalize eps _ _ = $x:ident) | (intros $x:ident))
local macro_rules | `(tactic| intro _) => `(tactic| first | (walk_at "my_all"; generalize eps _ _ = v) | (intros _))
local macro_rules | `(tactic| walk_at "my_g8") => `(tactic| (refine all_eps8 ?_; generalize r1 _ = v1, r2 _ = v2, r3 _ = v3, r4 _ = v4, r5 _ = v5, r6 _ = v6, r7 _ = v7, r8 _ = v8))
local macro_rules | `(tactic| walk_at "my_g4") => `(tactic| (refine all_eps4 ?_; generalize s1 _ = v1, s2 _ = v2, s3 _ = v3, s4 _ = v4))
local macro_rules | `(tactic| walk_at "my_g3") => `(tactic| (refine all_eps3 ?_; generalize s1 _ = v1, s2 _ = v2, s3 _ = v3))
local macro_rules | `(tactic| walk_at "my_g2") => `(tactic| (refine all_eps2 ?_; generalize s1 _ = v1, s2 _ = v2))
local macro_rules | `(tactic| intro $x:term $y:term $zs:term*) => do
  let ts : Array (Lean.TSyntax `term) := #[x, y] ++ zs
  let bs ← ts.mapM fun t => if t.raw.isIdent then let i : Lean.TSyntax `ident := ⟨t.raw⟩; `(Lean.binderIdent| $i:ident) else `(Lean.binderIdent| _)
  let go (k : Nat) (s : String) : Lean.MacroM (Lean.TSyntax `tactic) := do
    let r : Lean.TSyntaxArray `term := ts.extract k ts.size
    let c : Lean.TSyntaxArray ``Lean.binderIdent := bs.extract 0 k
    if ts.size < k then `(tactic| fail)
    else if k < ts.size then `(tactic| (walk_at $(Lean.quote s); rename_i $c*; intro $r:term*))
    else `(tactic| (walk_at $(Lean.quote s); rename_i $c*))
  let r : Lean.TSyntaxArray `term := ts.extract 1 ts.size
  let a8 ← go 8 "my_g8"
  let a4 ← go 4 "my_g4"
  let a3 ← go 3 "my_g3"
  let a2 ← go 2 "my_g2"
  `(tactic| first | (walk_at "eps_on"; first | $a8:tactic | $a4:tactic | $a3:tactic | $a2:tactic) | (intro $x:term; intro $r:term*))
local macro_rules | `(tactic| k_fold) => do
  let (a, b) := (Lean.mkIdent `qk, Lean.mkIdent `hqk)
  `(tactic| (walk_at "eps_on"; refine hide ?_; intro $a:ident $b:ident))
local macro_rules | `(tactic| k_unfold) => `(tactic| (with_reducible refine Hid.use (by with_reducible assumption) ?_))
local macro_rules | `(tactic| k_cells $Y:ident) => `(tactic| (walk_at "eps_on"; have hY := CellsAre.one $Y; revert hY; refine ex_imp ?_; intro o'; rintro ⟨hE', d1'⟩; subst hE'; clear $Y))
local macro_rules | `(tactic| k_ne) => `(tactic| (walk_at "my_on"; refine neN ?_; (try dsimp only); first | walk_at "my_ne1" | omega))
local macro_rules | `(tactic| walk_at "my_an") => `(tactic| (iterate 14 (first | done | assumption | apply And.right)))
local macro_rules | `(tactic| walk_at "my_lt") => `(tactic| first | assumption | (focus (apply And.left; walk_at "my_an"; done)))
local macro_rules | `(tactic| walk_at "my_ne1") => `(tactic| focus first | (apply Nat.ne_of_lt; walk_at "my_lt"; done) | (apply Nat.ne_of_gt; first | (walk_at "my_lt"; done) | (apply Nat.lt_trans; rotate_left; assumption; walk_at "my_lt"; done)))
local macro_rules | `(tactic| omega) => `(tactic| first | (walk_at "my_on"; decide) | fail)

local macro_rules | `(tactic| exact $t:ident) => if t.getId.eraseMacroScopes == `rfl then `(tactic| first | (walk_at "my_on"; with_reducible refine kind_fn ?_; with_reducible assumption) | fail) else Lean.Macro.throwUnsupported

noncomputable abbrev looseT : List Str := (looseW hd.view_39 [Str.ofString "Whitespace"] ++ List.map (fun x => x.name) (recsOf hd.view_39) ++
      List.map (fun x => x.fst) (litsOf hd.view_39) ++
    List.map (fun x => x.name) (clssOf hd.view_39 (looseW hd.view_39 [Str.ofString "Whitespace"])))
/-- A call's contract -/
abbrev Claim (w : World) (mean : ExcName → Option Value) (mg mb : Str → Option Value) (f : Addr) (news : Led) (vs : List Value) (d : Nat) (Post : Value → Led → Prop) : Prop :=
  ∀ (dp un : Nat) (gd : Option (List Code)) (cn : Str) (cs : Scope) (a : Addr) (ccd : Value) (cl : List (Str × Addr)) (outer : List Env) (A₀ : Around) (base h₀ : Heap) (L : Addr) (m : Str → Option Value) (s : Shared) (Q E : Value → Shared → Prop),
    Below A₀ base outer h₀ → Fr h₀ L s.heap m → (hd.heap_39 w.params).In h₀ → News h₀ L s.heap news → Top topProg looseT mean mg mb h₀ → cs.kind = .function →
    dp + d < recursionLimit → un + 8 * d < cLine →
    (∀ (v : Value) (news' : Led) (h' : Heap) (tk' : Nat), Fr h₀ L h' m → News h₀ L h' news' → Post v news' → Q v { s with heap := h', toks := tk' }) →
      wpAny (model PySem.Challenge.rw_pg0243_01.row.prog w) (ktrTop dp un gd cn cs L a ccd cl outer) (call (.ref f) vs) Q E s

structure WS where
  ns : List Int
  b : Int
  n : Int
  nt : Int
noncomputable def wsStep (s : WS) (c : Nat) : WS :=
  if c = 32 then ⟨s.ns, s.b + 1, s.n + 1, s.nt⟩ else
  let ns1 := if s.b ≥ (s.ns.length : Int) then s.ns ++ List.replicate (s.b - s.ns.length + 1).toNat 0 else s.ns
  ⟨ns1.set s.b.toNat (ns1.getD s.b.toNat 0 + 1), 0, s.n + 1, s.nt + 1⟩
noncomputable def wsRun (cs : List Nat) : WS := cs.foldl wsStep ⟨[], 0, 0, 0⟩
theorem wsStep_bd {s : WS} {c k : Nat} (h : s.ns.length ≤ k ∧ 0 ≤ s.b ∧ s.b ≤ k ∧ 0 ≤ s.n ∧ s.n ≤ k ∧ 0 ≤ s.nt ∧ s.nt ≤ k ∧ s.ns.length + s.b ≤ k ∧ ∀ z ∈ s.ns, 0 ≤ z ∧ z ≤ k) :
    (wsStep s c).ns.length ≤ k + 1 ∧ 0 ≤ (wsStep s c).b ∧ (wsStep s c).b ≤ (k + 1 : Nat) ∧ 0 ≤ (wsStep s c).n ∧ (wsStep s c).n ≤ (k + 1 : Nat) ∧ 0 ≤ (wsStep s c).nt ∧ (wsStep s c).nt ≤ (k + 1 : Nat) ∧ (wsStep s c).ns.length + (wsStep s c).b ≤ (k + 1 : Nat) ∧ ∀ z ∈ (wsStep s c).ns, 0 ≤ z ∧ z ≤ (k + 1 : Nat) := by
  obtain ⟨h1, h2, h3, h4, h5, h6, h7, h8, h9⟩ := h
  unfold wsStep
  split
  · dsimp only
    refine ⟨by omega, by omega, by omega, by omega, by omega, by omega, by omega, by omega, fun z hz => ?_⟩
    have := h9 z hz
    omega
  · dsimp only
    have hlen : (if s.b ≥ (s.ns.length : Int) then s.ns ++ List.replicate (s.b - s.ns.length + 1).toNat 0 else s.ns).length ≤ k + 1 := by
      split
      · simp only [List.length_append, List.length_replicate]; omega
      · omega
    have hmem : ∀ z ∈ (if s.b ≥ (s.ns.length : Int) then s.ns ++ List.replicate (s.b - s.ns.length + 1).toNat 0 else s.ns), 0 ≤ z ∧ z ≤ (k : Int) := by
      intro z hz
      split at hz
      · rcases List.mem_append.mp hz with hz | hz
        · exact h9 z hz
        · rw [(List.mem_replicate.mp hz).2]; omega
      · exact h9 z hz
    generalize (if s.b ≥ (s.ns.length : Int) then s.ns ++ List.replicate (s.b - s.ns.length + 1).toNat 0 else s.ns) = xs at hlen hmem
    refine ⟨by simpa using hlen, by omega, by omega, by omega, by omega, by omega, by omega, ?_, fun z hz => ?_⟩
    · rw [List.length_set]; omega
    · rcases List.mem_or_eq_of_mem_set hz with hz | rfl
      · have := hmem z hz; omega
      · have : 0 ≤ xs.getD s.b.toNat 0 ∧ xs.getD s.b.toNat 0 ≤ (k : Int) := by
          rw [List.getD_eq_getElem?_getD]
          cases hq : xs[s.b.toNat]? with
          | none => simp only [Option.getD_none]; omega
          | some y => exact hmem y (List.mem_of_getElem? hq)
        omega
theorem wsRun_bd (cs : List Nat) : (wsRun cs).ns.length ≤ cs.length ∧ 0 ≤ (wsRun cs).b ∧ (wsRun cs).b ≤ cs.length ∧ 0 ≤ (wsRun cs).n ∧ (wsRun cs).n ≤ cs.length ∧ 0 ≤ (wsRun cs).nt ∧ (wsRun cs).nt ≤ cs.length ∧ (wsRun cs).ns.length + (wsRun cs).b ≤ cs.length ∧ ∀ z ∈ (wsRun cs).ns, 0 ≤ z ∧ z ≤ (cs.length : Int) := by
  have key : ∀ (cs : List Nat) (s : WS) (k : Nat), (s.ns.length ≤ k ∧ 0 ≤ s.b ∧ s.b ≤ k ∧ 0 ≤ s.n ∧ s.n ≤ k ∧ 0 ≤ s.nt ∧ s.nt ≤ k ∧ s.ns.length + s.b ≤ k ∧ ∀ z ∈ s.ns, 0 ≤ z ∧ z ≤ (k : Int)) →
      ((cs.foldl wsStep s).ns.length ≤ k + cs.length ∧ 0 ≤ (cs.foldl wsStep s).b ∧ (cs.foldl wsStep s).b ≤ ((k + cs.length : Nat) : Int) ∧ 0 ≤ (cs.foldl wsStep s).n ∧ (cs.foldl wsStep s).n ≤ ((k + cs.length : Nat) : Int) ∧ 0 ≤ (cs.foldl wsStep s).nt ∧ (cs.foldl wsStep s).nt ≤ ((k + cs.length : Nat) : Int) ∧ (cs.foldl wsStep s).ns.length + (cs.foldl wsStep s).b ≤ ((k + cs.length : Nat) : Int) ∧ ∀ z ∈ (cs.foldl wsStep s).ns, 0 ≤ z ∧ z ≤ ((k + cs.length : Nat) : Int)) := by
    intro cs
    induction cs with
    | nil => intro s k h; simpa using h
    | cons c r ih =>
      intro s k h
      have := ih (wsStep s c) (k + 1) (wsStep_bd h)
      rw [show k + 1 + r.length = k + (c :: r).length by simp only [List.length_cons]; omega] at this
      exact this
  have := key cs ⟨[], 0, 0, 0⟩ 0 (by simp)
  simpa [wsRun] using this
theorem flat0 (k : Nat) : (List.replicate k [(0:Int)]).flatten = List.replicate k 0 := by
  induction k with
  | zero => rfl
  | succ k ih => rw [List.replicate_succ, List.flatten_cons, ih]; rfl
theorem wsRun_snoc (cs : List Nat) (c : Nat) : wsRun (cs ++ [c]) = wsStep (wsRun cs) c := by
  unfold wsRun; rw [List.foldl_append]; rfl
structure WC where
  i : Nat
  o : Obj
  l : Addr
  vs : List Value
  ep : Nat
  st : WS
  tb : Tok
  tn : Tok
  tt : Tok
theorem neWS : Nonempty WS := ⟨⟨[], 0, 0, 0⟩⟩
--<M
local macro_rules | `(tactic| walk_at "my_ne") => `(tactic| exact neWS)
--M>
theorem WC.all {P : WC → Prop} (h : ∀ i o l vs ep st tb tn tt, P ⟨i, o, l, vs, ep, st, tb, tn, tt⟩) : ∀ c, P c := fun ⟨_, _, _, _, _, _, _, _, _⟩ => h _ _ _ _ _ _ _ _ _
/-- an object's dict -/
@[reducible] noncomputable def wsDict (w : World) (raw n nt norm simple : Value) (k1 k2 k3 k4 k5 : Tok) : Obj := dictOf [
  { hash := PyData.keyHash w.params (Str.ofString "raw"), key := .str (Str.ofString "raw") k1, val := raw },
  { hash := PyData.keyHash w.params (Str.ofString "n"), key := .str (Str.ofString "n") k2, val := n },
  { hash := PyData.keyHash w.params (Str.ofString "nt"), key := .str (Str.ofString "nt") k3, val := nt },
  { hash := PyData.keyHash w.params (Str.ofString "norm"), key := .str (Str.ofString "norm") k4, val := norm },
  { hash := PyData.keyHash w.params (Str.ofString "is_simple"), key := .str (Str.ofString "is_simple") k5, val := simple }] 5
/-- the four objects of a Whitespace -/
@[reducible] noncomputable def wsLed (w : World) (x dx p c : Addr) (raw : Value) (vs : List Value) (st : WS) (tb tn tt : Tok) (k1 k2 k3 k4 k5 : Tok) : Led :=
  [(p, tupOf [.ref c, .int st.b tb] 0), (c, tupOf vs 0), (x, instObj 83 dx), (dx, wsDict w raw (.int st.n tn) (.int st.nt tt) (.ref p) (.bool (decide ((st.ns.length : Int) ≤ 1))) k1 k2 k3 k4 k5)]
set_option maxHeartbeats 8000000 in
theorem ws_claim (w : World) (mean : ExcName → Option Value) (mg mb : Str → Option Value) (news : Led) (ws : Str) (t : Tok) (hb : ws.length < 1000) (hall : ws.cps.all (· < 128) = true) (hws : ∀ c ∈ ws.cps.toList, c = 32 ∨ c = 9) :
   Claim w mean mg mb 83 news [.str ws t] 3 (fun v news' => ∃ x dx p c vs tb tn tt k1 k2 k3 k4 k5, v = .ref x ∧ news' = wsLed w x dx p c (.str ws t) vs (wsRun ws.cps.toList) tb tn tt k1 k2 k3 k4 k5 ++ news ∧
      IntsAre vs (wsRun ws.cps.toList).ns ∧ (∀ q ∈ news, q.1 < dx) ∧ dx < x ∧ x < c ∧ c < p) := by
  unfold Claim
  w_top off
  k_fill
  have mine_on : MineOn := True.intro
  have eps_on : EpsOn := True.intro
  haveI := neSh; haveI := neAr; haveI := neWo; haveI := neWS
  revert w mean mg mb news ws t
  intro w mean mg mb news ws t hb hall hws
  intro dp un gd cn cs a ccd cl outer A₀ base h₀ L m s Q E B F X N T hk hd hu hret
  k_steps

  rename_i x d _ _ _ la lb g L1 _ FG B1 X1 T1 tk0 _ D _ lc _ _ _ _ l _ ld _ _ _ _ it o h1 F1 N1 ho le
  refine abs_rest N1 le ld ?_
  clear N1 le ld
  intro rest hrest N1 hlt le ld
  refine Loop.rule (σ := WC) (fun c => c.i ≤ ws.cps.size ∧ StrIt c.o ws t c.i ∧ IntsAre c.vs c.st.ns ∧ c.st = wsRun (ws.cps.toList.take c.i) ∧ AllLt c.l rest ∧ c.l ≠ it)
    (fun c => [(Str.ofString "self", .ref x), (Str.ofString "S", .str (Str.ofString " ") 209), (Str.ofString "T", .str (Str.ofString "\t") 210), (Str.ofString "count", .ref c.l), (Str.ofString "b", .int c.st.b c.tb), (Str.ofString "n", .int c.st.n c.tn), (Str.ofString "nt", .int c.st.nt c.tt)])
    (fun c => (it, c.o) :: (c.l, W.listOf c.vs.toArray c.ep) :: rest) (fun c => ws.cps.size - c.i)
    ⟨0, o, l, [], 0, ⟨[], 0, 0, 0⟩, _, _, _⟩ ⟨Nat.zero_le _, ho, .nil, rfl, ld, Nat.ne_of_lt hlt⟩ (At.intro F1 N1 ⟨rfl, rfl, rfl, rfl, rfl, rfl, rfl, True.intro⟩ fun p hp => hp) ?_

  refine WC.all ?_
  intro i o l vs ep st tb tn tt
  rintro ⟨hi, ho, hI, hst, hl1, hl2⟩
  intro h tk mm F N
  dsimp only [kstB] at *
  have hlen : ws.cps.size < 1000 := hb
  have hl3 : @Ne Nat l it := hl2
  by_cases hlt' : i < ws.cps.size
  · have hx0 : ∃ ch : Nat, ws.cps[i]? = some ch ∧ (ch = 32 ∨ ch = 9) := ⟨ws.cps[i], by simp [hlt'], hws ws.cps[i] (by simp)⟩
    revert hx0
    refine ex_imp ?_
    intro ch
    rintro ⟨hx, hc⟩
    have hap : Apart it ((l, W.listOf vs.toArray ep) :: rest) := by
      intro p hp
      rcases List.mem_cons.mp hp with rfl | hp
      · exact hl2
      · exact Nat.ne_of_lt (allLt_mem le p hp)
    have htk : (ws.cps.toList.take i).length = i := by simp; omega
    have hbd := wsRun_bd (ws.cps.toList.take i)
    rw [htk, ← hst] at hbd
    have hsn : ws.cps.toList.take (i + 1) = ws.cps.toList.take i ++ [ch] := by
      rw [List.take_add_one]; simp [hx]
    have hst2 : wsRun (ws.cps.toList.take (i + 1)) = wsStep st ch := by
      rw [hsn, wsRun_snoc, hst]
    clear hst
    obtain ⟨b1, b2, b3, b4, b5, b6, b7, b8, b9⟩ := hbd
    refine next_ascii F N ho hap hx ?_
    intro o2 h2 F2 N2 ho2
    dsimp only
    rcases hc with hc | hc
    · rw [hc]
      rw [hc] at hst2
      k_steps
      refine ⟨WC.mk (i + 1) o2 l vs ep ⟨st.ns, st.b + 1, st.n + 1, st.nt⟩ _ _ _, ⟨hlt', ho2, hI, by rw [hst2]; rfl, hl1, hl2⟩, by show ws.cps.size - (i + 1) < ws.cps.size - i; omega,
        At.intro (by k_asm) (by k_asm) ⟨rfl, rfl, rfl, rfl, rfl, rfl, rfl, True.intro⟩ fun p hp => hp⟩
    · rw [hc]
      rw [hc] at hst2
      k_steps
      · refine ⟨WC.mk (i + 1) o2 _ _ _ ⟨(st.ns ++ (List.replicate (st.b - ↑st.ns.length + 1).toNat [(0:Int)]).flatten).set st.b.toNat ((st.ns ++ (List.replicate (st.b - ↑st.ns.length + 1).toNat [(0:Int)]).flatten).getD st.b.toNat 0 + 1), 0, st.n + 1, st.nt + 1⟩ _ _ _, ⟨hlt', ho2, by assumption, ?_, ?_, ?_⟩, by show ws.cps.size - (i + 1) < ws.cps.size - i; omega,
          At.intro (by k_asm) (by k_asm) ⟨rfl, rfl, rfl, rfl, rfl, rfl, rfl, True.intro⟩ (List.forall_mem_cons.mpr ⟨by k_mem, List.forall_mem_cons.mpr ⟨by k_mem, fun p hp => by first | (repeat' (first | exact hp | apply List.Mem.tail))⟩⟩)⟩
        · rw [hst2]; unfold wsStep; dsimp only; rw [if_neg (by decide)]
          have hge : st.b ≥ (st.ns.length : Int) := by first | assumption | omega
          rw [if_pos hge, flat0]
        · (rename _ ∧ _ ∧ _ ∧ _ ∧ AllLt _ rest => q); exact q.2.2.2.2
        · (rename _ ∧ _ ∧ _ ∧ _ ∧ AllLt _ rest => q); exact Nat.ne_of_gt q.2.2.1
      · refine ⟨WC.mk (i + 1) o2 _ _ _ ⟨st.ns.set st.b.toNat (st.ns.getD st.b.toNat 0 + 1), 0, st.n + 1, st.nt + 1⟩ _ _ _, ⟨hlt', ho2, by assumption, ?_, hl1, hl2⟩, by show ws.cps.size - (i + 1) < ws.cps.size - i; omega,
          At.intro (by k_asm) (by k_asm) ⟨rfl, rfl, rfl, rfl, rfl, rfl, rfl, True.intro⟩ fun p hp => hp⟩
        rw [hst2]; unfold wsStep; dsimp only; rw [if_neg (by decide)]
        have hge : ¬ st.b ≥ (st.ns.length : Int) := by first | assumption | omega
        rw [if_neg hge]
  · have hap : Apart it ((l, W.listOf vs.toArray ep) :: rest) := by
      intro p hp
      rcases List.mem_cons.mp hp with rfl | hp
      · exact hl2
      · exact Nat.ne_of_lt (allLt_mem le p hp)
    have hi2 : i = ws.cps.size := by omega
    have htk : ws.cps.toList.take i = ws.cps.toList := List.take_of_length_le (by rw [Array.length_toList]; omega)
    rw [htk] at hst
    have hbd := wsRun_bd ws.cps.toList
    rw [← hst] at hbd
    obtain ⟨b1, b2, b3, b4, b5, b6, b7, b8, b9⟩ := hbd
    refine next_ascii_end rfl F N ho hap (Array.getElem?_eq_none (by omega)) ?_
    intro h2 F2 N2
    dsimp only
    subst hrest
    simp only [AllLt] at hl1
    rw [Array.length_toList] at b1 b3 b5 b7 b8 b9
    have hret' : ∀ (p c : Addr) (k1 k2 k3 k4 k5 : Tok) (h' : Heap) (tk' : Nat), Fr h₀ L h' m → News h₀ L h' (wsLed w x d p c (.str ws t) vs st tb tn tt k1 k2 k3 k4 k5 ++ news) → x < c → c < p → Q (.ref x) { s with heap := h', toks := tk' } := by
      intro p c k1 k2 k3 k4 k5 h' tk' F' N' q1 q2
      rw [hst] at N'
      exact hret _ _ h' tk' F' N' ⟨x, d, p, c, vs, tb, tn, tt, k1, k2, k3, k4, k5, rfl, rfl, hst ▸ hI, la, lb, q1, q2⟩
    clear hst hret
    clear hap le ld
    k_steps
    refine hret' _ _ _ _ _ _ _ _ _ (by k_asm) (cb_drop (by assumption) (List.forall_mem_cons.mpr ⟨by k_mem, List.forall_mem_cons.mpr ⟨by k_mem, List.forall_mem_cons.mpr ⟨by k_mem, List.forall_mem_cons.mpr ⟨by k_mem, fun p hp => by repeat' (first | exact hp | apply List.Mem.tail)⟩⟩⟩⟩)) ?_ ?_
    · (rename _ < _ ∧ _ ∧ _ ∧ _ ∧ AllLt _ news => q); exact q.2.2.1
    · (rename _ < _ ∧ _ ∧ _ ∧ _ ∧ _ ∧ AllLt _ news => q); exact q.1

section
variable {prog : Program} {w : World} {A : Around} {E : Value → Shared → Prop} {s : Shared} {h₀ : Heap} {L : Addr} {news : Led}
theorem len_tup_ints {l : Addr} {vs : List Value} {ns : List Int} {n : Nat} {Q : Value → Shared → Prop} (N : News h₀ L s.heap news) (hm : (l, ({ cls := .type "tuple", data := .seq vs.toArray n } : Obj)) ∈ news) (hi : IntsAre vs ns) (hf : ns.length < 2 ^ 62)
    (h : ∀ t tk, Q (.int ns.length t) { s with toks := tk }) : wpAny (model prog w) A (call (.builtin "len") [.ref l]) Q E s := by
  refine PyProof.Rows.len_tuple (News.isTup N hm) ?_ ?_
  · rw [List.size_toArray, hi.length]; omega
  · rw [List.size_toArray, hi.length]; exact h _ _
end
--<M
local macro_rules | `(tactic| walk_at "call builtin:len") => `(tactic| (k_here; (with_reducible refine gdLen ?_); k_dflt (refine' len_tup_ints ?k1 ?k2 ?k3 ?k4 ?_; (case k1 => k_asm); (case k2 => k_mem); (case k3 => assumption); (case k4 => omega); k_whole; intro t' tk')))
--M>
/-- what indent_level reckons -/
noncomputable def ilOf (ns : List Int) (size : Int) (is : List Int) : Int := (is.map fun i => i.fdiv size * ns.getD i.toNat 0).sum
noncomputable def indOf (st : WS) (size : Int) : Int := st.b + size * (ilOf st.ns size (rangeKs size (st.ns.length - size.toNat)) + st.nt)
theorem il_bound {ns : List Int} {size : Int} (is : List Int) (h0 : 0 < size) (hi : ∀ i ∈ is, 0 ≤ i ∧ i < 1000) (hn : ∀ z ∈ ns, 0 ≤ z ∧ z ≤ 1000) : 0 ≤ ilOf ns size is ∧ ilOf ns size is ≤ 1000000 * is.length := by
  induction is with
  | nil => simp [ilOf]
  | cons i r ih =>
    have h1 := ih fun j hj => hi j (.tail _ hj)
    have h2 := hi i (.head _)
    have h3 : 0 ≤ ns.getD i.toNat 0 ∧ ns.getD i.toNat 0 ≤ 1000 := by
      rw [List.getD_eq_getElem?_getD]
      cases hq : ns[i.toNat]? with
      | none => simp
      | some y => exact hn y (List.mem_of_getElem? hq)
    have h4 : 0 ≤ i.fdiv size ∧ i.fdiv size ≤ 1000 := by
      rw [Int.fdiv_eq_ediv_of_nonneg _ (by omega)]
      exact ⟨Int.ediv_nonneg (by omega) (by omega), Int.le_trans (Int.ediv_le_self _ (by omega)) (by omega)⟩
    have h5 : 0 ≤ i.fdiv size * ns.getD i.toNat 0 := Int.mul_nonneg h4.1 h3.1
    have h6 : i.fdiv size * ns.getD i.toNat 0 ≤ 1000 * 1000 := Int.mul_le_mul h4.2 h3.2 h3.1 (by decide)
    simp only [ilOf, List.map_cons, List.sum_cons, List.length_cons] at h1 ⊢
    omega
theorem rangeKs_snoc (a : Int) (i : Nat) : rangeKs a (i + 1) = rangeKs a i ++ [a + (i : Int)] := by
  unfold rangeKs; rw [List.range_succ, List.map_append]; rfl
theorem il_snoc (ns : List Int) (size i : Int) (pre : List Int) : ilOf ns size (pre ++ [i]) = ilOf ns size pre + i.fdiv size * ns.getD i.toNat 0 := by
  unfold ilOf; rw [List.map_append, List.sum_append]; simp
set_option maxHeartbeats 8000000 in
theorem ind_claim (w : World) (mean : ExcName → Option Value) (mg mb : Str → Option Value) (news : Led) (x dx p cc : Addr) (raw : Value) (vs : List Value) (st : WS) (tb tn tt k1 k2 k3 k4 k5 : Tok) (hi : IntsAre vs st.ns) (size : Int) (tsz : Tok)
    (h0 : 0 < size) (h1 : size < 1000) (hl : st.ns.length < 1000) (hnt : 0 ≤ st.nt ∧ st.nt < 1000) (htr : 0 ≤ st.b ∧ st.b < 1000) (hns : ∀ z ∈ st.ns, 0 ≤ z ∧ z ≤ 1000) :
   Claim w mean mg mb 52 (wsLed w x dx p cc raw vs st tb tn tt k1 k2 k3 k4 k5 ++ news) [.ref x, .int size tsz] 3 (fun v news' => ∃ t, v = .int (indOf st size) t ∧ news' = wsLed w x dx p cc raw vs st tb tn tt k1 k2 k3 k4 k5 ++ news) := by
  unfold Claim
  w_top off
  k_fill
  have mine_on : MineOn := True.intro
  have eps_on : EpsOn := True.intro
  haveI := neSh; haveI := neAr; haveI := neWo; haveI := neWS
  revert w mean mg mb news x dx p cc raw vs st tb tn tt k1 k2 k3 k4 k5 size tsz
  intro w mean mg mb news x dx p cc raw vs st tb tn tt k1 k2 k3 k4 k5 hi size tsz h0 h1 hl hnt htr hns
  intro dp un gd cn cs a ccd cl outer A₀ base h₀ L m s Q E B F X N T hk hd hu hret
  simp only [List.cons_append, List.nil_append] at N
  k_steps
  rename_i g L1 _ FG B1 X1 T1 _ _ _ _ _ _ _ _ _ _ _ _ _ it h1 F1 N1 l1
  have hne : Apart it (wsLed w x dx p cc raw vs st tb tn tt k1 k2 k3 k4 k5 ++ news) := fun q hq => Nat.ne_of_lt (allLt_mem (l := wsLed w x dx p cc raw vs st tb tn tt k1 k2 k3 k4 k5 ++ news) l1 q hq)
  have e0 : ((st.ns.length : Int) - size).toNat = st.ns.length - size.toNat := by omega
  rw [e0] at N1
  refine Loop.iter (σ := Int × Tok) (iter_of_range it size (st.ns.length - size.toNat)) rfl (fun i c => c.1 = ilOf st.ns size (rangeKs size i))
    (fun c => [(Str.ofString "self", .ref x), (Str.ofString "tabsize", .int size tsz), (Str.ofString "count", .ref cc), (Str.ofString "trailing", .int st.b tb), (Str.ofString "il", .int c.1 c.2)])
    (fun _ => wsLed w x dx p cc raw vs st tb tn tt k1 k2 k3 k4 k5 ++ news) (0, _) rfl (by simp) (At.intro F1 N1 ⟨rfl, rfl, rfl, rfl, rfl, True.intro⟩ fun q hq => hq) (fun _ _ _ => hne) (fun _ _ _ _ hq => nomatch hq) ?_ ?_
  · intro i
    refine pr_all ?_
    intro il tl hi' hP v o h tk mm
    refine ex_imp ?_
    intro tv
    rintro rfl
    intro ho F N
    dsimp only [kstB] at hP F
    simp only [List.cons_append, List.nil_append] at N
    have hb := il_bound (ns := st.ns) (size := size) (rangeKs size i) h0 (fun j hj => by have := mem_rangeKs hj; omega) hns
    rw [← hP, rangeKs_length] at hb
    have hd : 0 ≤ (size + (i : Int)).fdiv size ∧ (size + (i : Int)).fdiv size ≤ 1000 := by
      rw [Int.fdiv_eq_ediv_of_nonneg _ (by omega)]
      exact ⟨Int.ediv_nonneg (by omega) (by omega), Int.le_trans (Int.ediv_le_self _ (by omega)) (by omega)⟩
    k_steps
    exact TurnI.next (il + (size + (i : Int)).fdiv size * st.ns.getD (size + (i : Int)).toNat 0, _) (by k_asm) (by k_asm) (by dsimp only; rw [rangeKs_snoc, il_snoc, hP]) ⟨rfl, rfl, rfl, rfl, rfl, True.intro⟩ ho fun q hq => hq
  · refine pr_all ?_
    intro il tl hP h tk mm F N
    dsimp only [kstB] at hP F
    simp only [List.cons_append, List.nil_append] at N
    have hb := il_bound (ns := st.ns) (size := size) (rangeKs size (st.ns.length - size.toNat)) h0 (fun j hj => by have := mem_rangeKs hj; omega) hns
    rw [← hP, rangeKs_length] at hb
    k_steps
    refine hret _ _ _ _ (by k_asm) (by k_asm) ⟨_, by unfold indOf; rw [hP], rfl⟩

/-- a Whitespace's numbers are small -/
structure WsOk (st : WS) : Prop where
  len : st.ns.length < 500
  nt : 0 ≤ st.nt ∧ st.nt < 500
  b : 0 ≤ st.b ∧ st.b < 500
  ns : ∀ z ∈ st.ns, 0 ≤ z ∧ z ≤ 1000
section
variable {w : World} {mean : ExcName → Option Value} {mg mb : Str → Option Value} {dp un : Nat} {gd : Option (List Code)} {cn : Str} {cs : Scope} {a : Addr} {ccd : Value} {cl : List (Str × Addr)} {outer : List Env} {A₀ : Around} {base h₀ : Heap} {L : Addr} {m : Str → Option Value} {s : Shared} {Q E : Value → Shared → Prop} {news : Led}
theorem ind_use {x dx p cc : Addr} {raw : Value} {vs : List Value} {st : WS} {tb tn tt k1 k2 k3 k4 k5 : Tok} {size : Int} {tsz : Tok}
    (B : Below A₀ base outer h₀) (F : Fr h₀ L s.heap m) (X : (Mine.hd.heap_39 w.params).In h₀) (N : News h₀ L s.heap news) (T : Top topProg looseT mean mg mb h₀) (hk : cs.kind = .function)
    (m3 : (x, instObj 83 dx) ∈ news) (m4 : (dx, wsDict w raw (.int st.n tn) (.int st.nt tt) (.ref p) (.bool (decide ((st.ns.length : Int) ≤ 1))) k1 k2 k3 k4 k5) ∈ news) (m1 : (p, tupOf [.ref cc, .int st.b tb] 0) ∈ news) (m2 : (cc, tupOf vs 0) ∈ news)
    (hi : IntsAre vs st.ns) (ok : WsOk st) (h0 : 0 < size) (h1 : size < 1000) (hd : dp + 3 < recursionLimit) (hu : un + 8 * 3 < cLine)
    (hret : ∀ (t : Tok) (h' : Heap) (tk' : Nat), Fr h₀ L h' m → News h₀ L h' news → Q (.int (indOf st size) t) { s with heap := h', toks := tk' }) :
    wpAny (model PySem.Challenge.rw_pg0243_01.row.prog w) (ktrTop dp un gd cn cs L a ccd cl outer) (call (.ref 52) [.ref x, .int size tsz]) Q E s :=
  ind_claim w mean mg mb news x dx p cc raw vs st tb tn tt k1 k2 k3 k4 k5 hi size tsz h0 h1 (by have := ok.len; omega) (by have := ok.nt; omega) (by have := ok.b; omega) ok.ns dp un gd cn cs a ccd cl outer A₀ base h₀ L m s Q E B F X
    (fun q hq => by
      rcases List.mem_append.mp hq with hq | hq
      · simp only [List.mem_cons, List.not_mem_nil, or_false] at hq
        rcases hq with rfl | rfl | rfl | rfl <;> exact N _ (by assumption)
      · exact N q hq) T hk hd hu (by
    rintro v news' h' tk' F' N' ⟨t, rfl, rfl⟩
    exact hret t h' tk' F' (cb_drop N' fun q hq => List.mem_append.mpr (.inr hq)))
end
--<M
local macro_rules | `(tactic| walk_at "call ref") => `(tactic| (k_here; (with_reducible refine gdr 52 ?_); k_dflt (refine' ind_use ?k1 ?k2 ?k3 ?k4 ?k5 ?kK ?m3 ?m4 ?m1 ?m2 ?hi ?ok ?h0 ?h1 ?kd ?ku ?_; (case k1 | k2 | k3 | k4 | k5 => k_asm); (case kK => first | exact rfl | assumption); (case m3 | m4 | m1 | m2 => k_mem); (case hi | ok => assumption); (case h0 | h1 => omega); (case kd => ktr_room); (case ku => ktr_units); k_whole; intro t' h' tk' F' N'; (try dsimp only); (try k_fold))))
--M>

noncomputable def lrsOf (st : WS) : Int := max ((st.ns.length : Int) - 1) st.b
noncomputable def lessOf (a b : WS) : Bool :=
  if a.n ≥ b.n then false else if decide ((a.ns.length : Int) ≤ 1) && decide ((b.ns.length : Int) ≤ 1) then decide (a.nt ≤ b.nt) else
  (rangeKs 2 (max (lrsOf a) (lrsOf b)).toNat).all fun ts => decide (indOf a ts < indOf b ts)
noncomputable def HaltBool : Prop := True
/-- two roads that end alike are walked on as one -/
theorem merge_at {α : Type} {prog : Program} {w : World} {A : Around} {x : Sem α} {Q : α → Shared → Prop} {E : Value → Shared → Prop} {s : Shared} (v : α)
    (h : wpAny (model prog w) A x (fun u s' => u = v ∧ ∃ tk', s' = { s with toks := tk' }) E s) (k : ∀ tk', Q v { s with toks := tk' }) : wpAny (model prog w) A x Q E s :=
  wpAny_mono h (fun _ _ e => by obtain ⟨rfl, tk', rfl⟩ := e; exact k tk') fun _ _ e => e
theorem gtmax (x y : Int) : (if y > x then y else x) = max x y := by rw [Int.max_def]; split <;> split <;> omega
theorem lrs_bd {a b : WS} (ok : WsOk a) (ok' : WsOk b) : (max (lrsOf a) (lrsOf b)).toNat ≤ 500 := by
  have l1 := ok.len
  have l2 := ok'.len
  have l3 := ok.b
  have l4 := ok'.b
  unfold lrsOf
  omega
--<M
local macro_rules | `(tactic| walk_at "isTrue BoolOp") => `(tactic| ((have z0 : HaltBool := (by with_reducible assumption); clear z0); (with_reducible refine Halt.mk ?_)))
--M>
set_option maxHeartbeats 8000000 in
theorem less_claim (w : World) (mean : ExcName → Option Value) (mg mb : Str → Option Value) (news : Led)
    (x dx p cc : Addr) (raw : Value) (vs : List Value) (st : WS) (tb tn tt k1 k2 k3 k4 k5 : Tok) (hi : IntsAre vs st.ns) (ok : WsOk st)
    (x' dx' p' cc' : Addr) (raw' : Value) (vs' : List Value) (st' : WS) (tb' tn' tt' k1' k2' k3' k4' k5' : Tok) (hi' : IntsAre vs' st'.ns) (ok' : WsOk st') :
   Claim w mean mg mb 73 (wsLed w x dx p cc raw vs st tb tn tt k1 k2 k3 k4 k5 ++ (wsLed w x' dx' p' cc' raw' vs' st' tb' tn' tt' k1' k2' k3' k4' k5' ++ news)) [.ref x, .ref x'] 6
     (fun v news' => v = .bool (lessOf st st') ∧ news' = wsLed w x dx p cc raw vs st tb tn tt k1 k2 k3 k4 k5 ++ (wsLed w x' dx' p' cc' raw' vs' st' tb' tn' tt' k1' k2' k3' k4' k5' ++ news)) := by
  unfold Claim
  w_top off
  k_fill
  have mine_on : MineOn := True.intro
  have eps_on : EpsOn := True.intro
  haveI := neSh; haveI := neAr; haveI := neWo; haveI := neWS
  revert w mean mg mb news x dx p cc raw vs st tb tn tt k1 k2 k3 k4 k5 x' dx' p' cc' raw' vs' st' tb' tn' tt' k1' k2' k3' k4' k5'
  intro w mean mg mb news x dx p cc raw vs st tb tn tt k1 k2 k3 k4 k5 hi ok x' dx' p' cc' raw' vs' st' tb' tn' tt' k1' k2' k3' k4' k5' hi' ok'
  intro dp un gd cn cs a ccd cl outer A₀ base h₀ L m s Q E B F X N T hk hd hu hret
  simp only [List.cons_append, List.nil_append] at N
  have l1 := ok.len
  have l2 := ok'.len
  have l3 := ok.b
  have l4 := ok'.b
  have hb : HaltBool := True.intro
  k_steps
  · exact hret _ _ _ _ (by k_asm) (by k_asm) ⟨by unfold lessOf; rw [if_pos (by assumption)], rfl⟩
  clear hb
  unfold Halt
  refine merge_at (decide ((st.ns.length : Int) ≤ 1) && decide ((st'.ns.length : Int) ≤ 1)) ?_ ?_
  · k_steps
    · simp only [Bool.true_eq, Bool.and_eq_true, decide_eq_true_eq]; exact ⟨by assumption, by assumption⟩
    · exact (Bool.and_eq_false_iff.mpr (.inr (decide_eq_false (by assumption)))).symm
    · exact (Bool.and_eq_false_iff.mpr (.inl (decide_eq_false (by assumption)))).symm
  intro tk9
  k_steps
  · refine hret _ _ _ _ (by k_asm) (by k_asm) ⟨?_, rfl⟩
    unfold lessOf
    rw [if_neg (by assumption), if_pos (by assumption)]
  all_goals
    rename_i it h1 F1 N1 l9
    have hnn : ¬ st.n ≥ st'.n := by assumption
    have hns : ¬ (decide ((st.ns.length : Int) ≤ 1) && decide ((st'.ns.length : Int) ≤ 1)) = true := by rw [Bool.not_eq_true]; assumption
    have hne : Apart it (wsLed w x dx p cc raw vs st tb tn tt k1 k2 k3 k4 k5 ++ (wsLed w x' dx' p' cc' raw' vs' st' tb' tn' tt' k1' k2' k3' k4' k5' ++ news)) := fun q hq => Nat.ne_of_lt (allLt_mem (l := wsLed w x dx p cc raw vs st tb tn tt k1 k2 k3 k4 k5 ++ (wsLed w x' dx' p' cc' raw' vs' st' tb' tn' tt' k1' k2' k3' k4' k5' ++ news)) l9 q hq)
    refine Loop.iter (σ := Unit) (iter_of_range it 2 _) rfl (fun i _ => ∀ ts ∈ rangeKs 2 i, indOf st ts < indOf st' ts) (fun _ => [(Str.ofString "self", .ref x), (Str.ofString "other", .ref x')])
      (fun _ => wsLed w x dx p cc raw vs st tb tn tt k1 k2 k3 k4 k5 ++ (wsLed w x' dx' p' cc' raw' vs' st' tb' tn' tt' k1' k2' k3' k4' k5' ++ news)) () (fun ts hts => by simp [rangeKs] at hts) rng0
      (At.intro F1 N1 ⟨rfl, rfl, True.intro⟩ fun q hq => hq) (fun _ _ _ => hne) (fun _ _ _ _ hq => nomatch hq) ?_ ?_
    · intro i _ hi' hP v o h tk mm
      refine ex_imp ?_
      intro tv
      rintro rfl
      intro ho F N
      dsimp only [kstB] at F
      simp only [List.cons_append, List.nil_append] at N
      have hi3 : i < (max (lrsOf st) (lrsOf st')).toNat := by unfold lrsOf; simp only [gtmax] at hi'; generalize max (max ((st.ns.length : Int) - 1) st.b) (max ((st'.ns.length : Int) - 1) st'.b) = V at hi' ⊢; omega
      have hi2 : i < 500 := Nat.lt_of_lt_of_le hi3 (lrs_bd ok ok')
      k_steps
      · try dsimp only [TurnI]
        k_steps
        refine hret _ _ _ _ (by k_asm) (cb_drop (by assumption) fun q hq => List.Mem.tail _ hq) ⟨?_, rfl⟩
        unfold lessOf
        rw [if_neg hnn, if_neg hns]
        refine congrArg Value.bool (Eq.symm (List.all_eq_false.mpr ⟨2 + (i : Int), ?_, ?_⟩))
        · exact List.mem_map.mpr ⟨i, List.mem_range.mpr hi3, rfl⟩
        · simp only [decide_eq_true_eq]; omega
      · refine TurnI.next () (by k_asm) (by k_asm) ?_ ⟨rfl, rfl, True.intro⟩ ho fun q hq => hq
        intro ts hts
        rw [rangeKs_snoc] at hts
        rcases List.mem_append.mp hts with hts | hts
        · exact hP ts hts
        · rw [List.mem_singleton.mp hts]; omega
    · intro _ hP h tk mm F N
      dsimp only [kstB] at F
      simp only [List.cons_append, List.nil_append] at N
      k_steps
      refine hret _ _ _ _ (by k_asm) (by k_asm) ⟨?_, rfl⟩
      unfold lessOf
      rw [if_neg hnn, if_neg hns]
      refine congrArg Value.bool (Eq.symm (List.all_eq_true.mpr fun ts hts => ?_))
      obtain ⟨j, hj, rfl⟩ := List.mem_map.mp hts
      refine decide_eq_true (hP _ (List.mem_map.mpr ⟨j, List.mem_range.mpr ?_, rfl⟩))
      have hj' := List.mem_range.mp hj
      unfold lrsOf at hj'
      simp only [gtmax]
      generalize max (max ((st.ns.length : Int) - 1) st.b) (max ((st'.ns.length : Int) - 1) st'.b) = V at hj' ⊢
      omega

@[reducible] noncomputable def dots : Str := Str.ofString "..."
/-- what _ellipsis_match's loop answers -/
noncomputable def ellRun (got : Str) : List Str → Nat → Bool
  | [], _ => true
  | w :: r, p => match Builtin.Str.occurrences got w p got.length 1 with
    | [] => false
    | i :: _ => ellRun got r (i + w.length)
/-- got.find(w, p, len(got)) -/
noncomputable def fnd (x y : Str) (lo : Nat) : Int := match Builtin.Str.occurrences x y lo x.length 1 with | k :: _ => (k : Int) | [] => -1
theorem fnd_cases (got w : Str) (r : List Str) (p : Nat) : (fnd got w p = -1 ∧ ellRun got (w :: r) p = false) ∨ (0 ≤ fnd got w p ∧ fnd got w p + w.length ≤ got.length ∧ ellRun got (w :: r) p = ellRun got r (fnd got w p + w.length).toNat) := by
  rcases StrLaws.occ_head_from got w p 1 (Nat.le_refl _) with ⟨h, _⟩ | ⟨i, q, h, _, h2, _⟩
  · refine .inl ⟨by unfold fnd; rw [h], ?_⟩
    show (match Builtin.Str.occurrences got w p got.length 1 with | [] => false | i :: _ => ellRun got r (i + w.length)) = false
    rw [h]
  · refine .inr ⟨by unfold fnd; rw [h]; exact Int.natCast_nonneg _, by unfold fnd; rw [h]; have := h2.1; show (i : Int) + w.length ≤ got.length; omega, ?_⟩
    show (match Builtin.Str.occurrences got w p got.length 1 with | [] => false | i :: _ => ellRun got r (i + w.length)) = ellRun got r (fnd got w p + w.length).toNat
    unfold fnd
    rw [h]
    show ellRun got r (i + w.length) = ellRun got r ((i : Int) + w.length).toNat
    rw [show ((i : Int) + w.length).toNat = i + w.length by omega]
theorem strs_get {vs : List Value} {ys : List Str} (h : StrsAre vs ys) : ∀ {i : Nat} {v : Value}, vs[i]? = some v → ∃ y t, ys[i]? = some y ∧ v = .str y t := by
  induction h with
  | nil => intro i v e; simp at e
  | cons y t _ ih =>
    intro i v e
    cases i with
    | zero => exact ⟨y, t, rfl, by simpa using e.symm⟩
    | succ i => exact ih (by simpa using e)
theorem strs_snoc {vs : List Value} {ys : List Str} (h : StrsAre vs ys) (y : Str) (t : Tok) : StrsAre (vs ++ [.str y t]) (ys ++ [y]) := by
  induction h with
  | nil => exact .cons y t .nil
  | cons z u _ ih => exact .cons z u ih
section
variable {prog : Program} {w : World} {A : Around} {E : Value → Shared → Prop} {s : Shared} {Q : Value → Shared → Prop}
theorem find4 {x y : Str} {lo : Int} {t u v z : Tok} (h0 : 0 ≤ lo) (h : Q (.int (fnd x y lo.toNat) s.toks) { s with toks := s.toks + 1 }) :
    wpAny (model prog w) A (call (.builtin "str.find") [.str x t, .str y u, .int lo v, .int (x.length : Int) z]) Q E s := by
  have e1 : fromIndex x.length lo = lo.toNat := by unfold fromIndex; rw [if_neg (by omega)]; omega
  have e2 : fromIndex x.length (x.length : Int) = x.length := by unfold fromIndex; rw [if_neg (by omega)]; omega
  have g : Gives (Builtin.«str.find» ⟨[.str x t, .str y u, .int lo v, .int (x.length : Int) z], []⟩) (.int (fnd x y lo.toNat)) := by
    unfold fnd
    show Gives (match Builtin.Str.occurrences x y (fromIndex x.length lo) (min (fromIndex x.length (x.length : Int)) x.length) 1 with | k :: _ => retInt k | [] => (do rule "str.find.not-found"; retInt (-1))) _
    rw [e1, e2, Nat.min_self]
    cases Builtin.Str.occurrences x y lo.toNat x.length 1 with
    | nil => exact .rule (.of_eq rfl)
    | cons k _ => exact .of_eq rfl
  exact call_gives F.slot_str_find (typeIs_str _ _ _) F.entry_str_find (F.args_str_find_4 _ _ _ _) g h
theorem split_known {h₀ : Heap} {L : Addr} {m : Env1} {news : Led} {x y : Str} {t u : Tok} {ss : List Str} (F : Fr h₀ L s.heap m) (N : News h₀ L s.heap news) (hsp : Txt.split x y = Str.empty :: (ss ++ [Str.empty])) (hy : (y.length == 0) = false) (hx : x.length < 1000)
    (h : ∀ D t0 t1 vs h' k, StrsAre vs ss → Fr h₀ L h' m → News h₀ L h' ((D, W.listOf (.str Str.empty t0 :: (vs ++ [.str Str.empty t1])).toArray 0) :: news) → (∀ p ∈ news, p.1 < D) → Q (.ref D) { s with heap := h', toks := k }) :
    wpAny (model prog w) A (call (.builtin "str.split") [.str x t, .str y u]) Q E s := by
  refine KSpl.split1 F N hy (fun D l h' k e ha F' N' hl => ?_) (by rw [sizeLine_eq]; omega)
  rw [hsp] at e
  obtain ⟨t0, l', rfl, e'⟩ := KSpl.cons_of e
  obtain ⟨l1, l2, rfl, e1, e2⟩ := List.map_eq_append_iff.mp e'
  obtain ⟨t1, l3, rfl, e3⟩ := KSpl.cons_of e2
  have := KSpl.nil_of e3
  subst this
  refine h D t0 t1 (strValues l1) h' k (e1 ▸ strsAre_of_values l1) F' ?_ hl
  simpa [strValues] using N'
theorem len_list_any {h₀ : Heap} {L : Addr} {news : Led} {l : Addr} {vs : List Value} {ep : Nat} (N : News h₀ L s.heap news) (hm : (l, W.listOf vs.toArray ep) ∈ news) (hf : vs.length < 2 ^ 62) (h : ∀ t tk, Q (.int vs.length t) { s with toks := tk }) :
    wpAny (model prog w) A (call (.builtin "len") [.ref l]) Q E s :=
  PyProof.Rows.len_list (News.isList N hm) (by rw [List.size_toArray]; omega) (by rw [List.size_toArray]; exact h _ _)
theorem item_last {h₀ : Heap} {L : Addr} {news : Led} {value slice : PySem.Expr} {l : Addr} {a b : Value} {vs : List Value} {ep : Nat} {u : Tok} (N : News h₀ L s.heap news) (hm : (l, W.listOf (a :: (vs ++ [b])).toArray ep) ∈ news) (hf : vs.length < 2 ^ 60) (h : Q b s)
    (hs : subscripted slice false (.ref l) (.int (-1) u) = operate [.ref l, .int (-1) u] (getItem (.ref l) (.int (-1) u)) := by with_unfolding_all rfl) :
    wpAny (model prog w) A (subscriptTail value slice (.ref l) (.int (-1) u)) Q E s := by
  have hl := News.isList N hm
  have hz : (a :: (vs ++ [b])).toArray.size = vs.length + 2 := by simp
  refine tail_any hl.typeIs slot_list_getitem.lookup (wpAny_getItem_list_neg hl (by decide) (by rw [hz]; omega) (by decide) (x := b) ?_ h) hs
  rw [hz, show ((-1 : Int) + ((vs.length + 2 : Nat) : Int)).toNat = vs.length + 1 by omega]
  simp
end
--<M
local macro_rules | `(tactic| walk_at "call builtin:str.split") => `(tactic| (k_here; (with_reducible refine gdSplit ?_); k_dflt (refine' split_known ?k1 ?k2 ?k3 ?k4 ?k5 ?_; (case k1 | k2 => k_asm); (case k3 => assumption); (case k4 => decide); (case k5 => assumption); k_whole); intro D' t0' t1' vs' h' k' ha' F' N' l1; (have hlv' := PyProof.Rows.StrsAre.length ha'); (try k_lt l1)))
local macro_rules | `(tactic| walk_at "call builtin:str.find") => `(tactic| (k_here; (with_reducible show wpAny _ _ (call (Value.builtin "str.find") [Value.str _ _, Value.str _ _, Value.int _ _, Value.int _ _]) _ _ _); k_dflt (refine' find4 ?h0 ?_; (case h0 => omega); k_whole)))
local macro_rules | `(tactic| walk_at "call builtin:len") => `(tactic| (k_here; (with_reducible refine gdLen ?_); k_dflt (refine' len_list_any ?k1 ?k2 ?k3 ?_; (case k1 => k_asm); (case k2 => k_mem); (case k3 => (simp only [List.length_cons, List.length_append, List.length_nil]; omega)); k_whole); intro t' tk'; (simp only [List.length_cons, List.length_append, List.length_nil])))
local macro_rules | `(tactic| walk_at "subscriptTail") => `(tactic| (k_here; (with_reducible show wpAny _ _ (subscriptTail _ _ (Value.ref _) (Value.int (-1) _)) _ _ _); (with_unfolding_all refine' item_last ?k1 ?k2 ?k3 ?_ ?k5; (case k1 => k_asm); (case k2 => k_mem); (case k3 => omega); (case k5 => with_unfolding_all rfl); k_whole)))
--M>
set_option maxHeartbeats 8000000 in
theorem ell_claim (w : World) (mean : ExcName → Option Value) (mg mb : Str → Option Value) (news : Led) (want got : Str) (t u : Tok) (ss : List Str) (hin : (!(Builtin.Str.occurrences want dots 0 want.length 1).isEmpty) = true)
    (hsp : Txt.split want dots = Str.empty :: (ss ++ [Str.empty])) (hss : ss.length < 1000) (hsl : ∀ w ∈ ss, w.length < 1000) (hw : want.length < 1000) (hg : got.length < 1000) :
   Claim w mean mg mb 94 news [.str want t, .str got u] 3 (fun v news' => v = .bool (ellRun got (Str.empty :: (ss ++ [Str.empty])) 0) ∧ news' = news) := by
  unfold Claim
  w_top off
  k_fill
  have mine_on : MineOn := True.intro
  have eps_on : EpsOn := True.intro
  haveI := neSh; haveI := neAr; haveI := neWo
  revert w mean mg mb news want got t u ss
  intro w mean mg mb news want got t u ss hin hsp hss hsl hw hg
  intro dp un gd cn cs a ccd cl outer A₀ base h₀ L m s Q E B F X N T hk hd hu hret
  have hin' : (!!(Builtin.Str.occurrences want dots 0 want.length 1).isEmpty) = false := by rw [hin]; rfl
  k_steps
  rename_i g L1 _ FG B1 X1 T1 _ D t0 t1 vs _ _ hvs la hlv _ _ _ _ _ D2 _ lb _ _ _ _ _ _ _ it o h1 F1 N1 ho l9
  have hall : StrsAre (.str Str.empty t0 :: (vs ++ [.str Str.empty t1])) (Str.empty :: (ss ++ [Str.empty])) := .cons _ _ (strs_snoc hvs _ _)
  have hsl' : ∀ w ∈ Str.empty :: (ss ++ [Str.empty]), w.length < 1000 := by
    intro w hw
    rcases List.mem_cons.mp hw with rfl | hw
    · decide
    · rcases List.mem_append.mp hw with hw | hw
      · exact hsl w hw
      · rw [List.mem_singleton.mp hw]; decide
  have hn : (.str Str.empty t0 :: (vs ++ [.str Str.empty t1]) : List Value).length = (Str.empty :: (ss ++ [Str.empty])).length := hall.length
  refine Loop.iter (σ := Int × Tok) (iter_of_list it D _ 0) rfl (fun i c => 0 ≤ c.1 ∧ c.1 ≤ got.length ∧ ellRun got (Str.empty :: (ss ++ [Str.empty])) 0 = ellRun got ((Str.empty :: (ss ++ [Str.empty])).drop i) c.1.toNat)
    (fun c => [(Str.ofString "got", .str got u), (Str.ofString "startpos", .int c.1 c.2), (Str.ofString "endpos", .int (got.length : Int) _)])
    (fun _ => (D, W.listOf (.str Str.empty t0 :: (vs ++ [.str Str.empty t1])).toArray 0) :: news) (0, _) ⟨Int.le_refl _, Int.natCast_nonneg _, rfl⟩ ho
    (At.intro F1 N1 ⟨rfl, rfl, rfl, True.intro⟩ (List.forall_mem_cons.mpr ⟨.head _, List.forall_mem_cons.mpr ⟨.tail _ (.tail _ (.head _)), fun q hq => .tail _ (.tail _ (.tail _ hq))⟩⟩))
    (fun _ _ _ => fun q hq => by
      rcases List.mem_cons.mp hq with rfl | hq
      · exact Nat.ne_of_lt l9.2.1
      · exact Nat.ne_of_lt (allLt_mem l9.2.2 q hq)) (fun _ _ _ q hq => by rw [List.mem_singleton.mp hq]; exact .head _) ?_ ?_
  · intro i
    refine pr_all ?_
    intro p tp hi'
    rintro ⟨h0, h1, h2⟩
    intro v o h tk mm hv ho F N
    (have hx9 := strs_get hall hv; revert hx9; refine ex_imp ?_; intro y; refine ex_imp ?_; intro ty; rintro ⟨hy, rfl⟩)
    have hyl := hsl' y (List.mem_of_getElem? hy)
    have hdr : (Str.empty :: (ss ++ [Str.empty])).drop i = y :: (Str.empty :: (ss ++ [Str.empty])).drop (i + 1) := by
      obtain ⟨hl, he⟩ := List.getElem?_eq_some_iff.mp hy
      rw [List.drop_eq_getElem_cons hl, he]
    dsimp only [kstB] at h0 h1 h2 F
    rw [hdr] at h2
    rcases fnd_cases got y ((Str.empty :: (ss ++ [Str.empty])).drop (i + 1)) p.toNat with ⟨hf, he⟩ | ⟨hf, hf2, he⟩
    · k_steps
      try dsimp only [TurnI]
      k_steps
      exact hret _ _ _ _ (by k_asm) (cb_drop (by assumption) fun q hq => List.Mem.tail _ (List.Mem.tail _ hq)) ⟨by rw [h2, he], rfl⟩
    · k_steps
      exact TurnI.next (fnd got y p.toNat + y.length, _) (by k_asm) (by k_asm) ⟨by dsimp only; omega, hf2, by rw [h2, he]⟩ ⟨rfl, rfl, rfl, True.intro⟩ ho fun q hq => hq
  · refine pr_all ?_
    intro p tp
    rintro ⟨h0, h1, h2⟩
    intro h tk mm F N
    dsimp only [kstB] at h0 h1 h2 F
    k_steps
    refine hret _ _ _ _ (by k_asm) (cb_drop (by assumption) fun q hq => List.Mem.tail _ hq) ⟨?_, rfl⟩
    rw [h2, hn, List.drop_length]
    rfl

section
open PySem.Builtin
theorem owner_callit : Manifest.owners.lookup (String.ofList ['r', 'o', 't', 'a', 'r', 'e', 't', 'i', '_', 'e', 'l', 'b', 'a', 'l', 'l', 'a', 'c'].reverse) = some Manifest.sig_callable_iterator := by kernel_rfl
theorem slot_callit_next : Slot "callable_iterator" "__next__" "callable_iterator.__next__" :=
  .of (owner := "callable_iterator") (n := "__next__") (by rw [typeLookup_type, builtinLookup_eq_fast]; kernel_rfl) (by decide +kernel) (by decide +kernel) (by decide +kernel)
    (by first | exact .inl (by decide +kernel) | exact .inr (by decide +kernel)) (by rw [isSubtype_type]; kernel_rfl)
theorem entry_callit_next : entryFor table "callable_iterator.__next__" = some Builtin.«callable_iterator.__next__» := entryFor_of_tree (by kernel_rfl)
theorem args_callit_next (a : Value) : argsOk "callable_iterator.__next__" ⟨[a], []⟩ := by
  unfold argsOk; rw [signature?_of (id := "callable_iterator.__next__") (n := ['_', '_', 't', 'x', 'e', 'n', '_', '_']) (o := ['r', 'o', 't', 'a', 'r', 'e', 't', 'i', '_', 'e', 'l', 'b', 'a', 'l', 'l', 'a', 'c']) (by kernel_rfl) owner_callit]; kernel_rfl
theorem slot_callit_iter : Slot "callable_iterator" "__iter__" "callable_iterator.__iter__" :=
  .of (owner := "callable_iterator") (n := "__iter__") (by rw [typeLookup_type, builtinLookup_eq_fast]; kernel_rfl) (by decide +kernel) (by decide +kernel) (by decide +kernel)
    (by first | exact .inl (by decide +kernel) | exact .inr (by decide +kernel)) (by rw [isSubtype_type]; kernel_rfl)
theorem entry_callit_iter : entryFor table "callable_iterator.__iter__" = some Builtin.«dict_keyiterator.__iter__» :=
  entryFor_alias (id' := "dict_keyiterator.__iter__") (by rw [fastTable_eq_tree]; kernel_rfl) rfl (by decide +kernel) (by rw [fastTable_eq_tree]; kernel_rfl)
theorem args_callit_iter (a : Value) : argsOk "callable_iterator.__iter__" ⟨[a], []⟩ := by unfold argsOk; kernel_rfl
/-- iter(f, '') -/
@[reducible] noncomputable def callIt (q : Addr) (ts : Tok) : Obj := { cls := .type "callable_iterator", data := .fields #[.ref q, .str Str.empty ts, .bool false] }
@[reducible] noncomputable def callEnd : Obj := { cls := .type "callable_iterator", data := .fields #[.none, .none, .bool true] }
section
variable {prog : Program} {w : World} {A : Around} {E : Value → Shared → Prop} {s : Shared}
theorem wpAny_callBorrowed {f : Value} {pos : List Value} {Q : Value → Shared → Prop} (h : wpAny (model prog w) A (call f pos) Q E s) : wpAny (model prog w) A (callBorrowed f pos) Q E s := by
  intro Γ p hΓ
  have h' := h Γ p hΓ
  unfold callBorrowed
  unfold call runValue run at h'
  rw [Sem.wp_bind', Sem.wp_call] at h'
  rw [Sem.wp_call]
  refine wpCode_mono (fun r s' hr => ?_) h'
  cases r with
  | error e => exact hr
  | ok f => cases f <;> exact hr
theorem borrows_meth {q fi : Addr} {x : Value} {od : Option Addr} {oc : Value} {fd : FuncData} {sl : Array (Option Value)} {Q : Bool → Shared → Prop} (hq : s.heap.get? q = some (methodObj (.ref fi) x)) (hf : s.heap.get? fi = some ⟨oc, od, .func fd, sl⟩) (h : Q true s) :
    wpAny (model prog w) A (borrowsExactly (.ref q)) Q E s := by
  unfold borrowsExactly
  refine wpAny_bind (wpAny_load hq ?_)
  show wpAny _ _ (do match (← load fi).data with | .func _ => pure true | _ => pure false) _ _ s
  exact wpAny_bind (wpAny_load hf (wpAny_pure h))
/-- StopIteration, as pyNext takes it -/
theorem stop_raised {α : Type} {Q : Option Value → Shared → Prop} {Q1 : α → Shared → Prop} (hh : A.handled = none) (h : ∀ h', (∀ b o, s.heap.get? b = some o → h'.get? b = some o) → Q none { s with heap := h' }) :
    wpAny (model prog w) A.in1 (SmallTypes.stopIteration : Sem α) Q1 (fun e s' => wpAny (model prog w) A (do if ← isInstance e (.type "StopIteration") then pure none else throw e) Q E s') s := by
  show wpAny _ _ (newExc (.type "StopIteration") [] >>= _) _ _ _
  refine wpAny_bind ?_
  simp only [newExc, newTuple]
  refine wpAny_bind (wpAny_newObj_type ?_ (by size_fits))
  refine wpAny_bind (m := firstArgMember _ _) (wpAny_of_eq (a := Value.none) (by first | rfl | (simp only [firstArgMember]; rfl)) ?_)
  refine wpAny_newObj_type ?_ (by size_fits)
  simp only [raiseNew]
  refine wpAny_bind (wpAny_handled ?_)
  rw [show A.in1.handled = none from hh]
  refine wpAny_bind (wpAny_pure (wpAny_throw ?_))
  refine wpAny_bind (wpAny_isInstance (T := "StopIteration") (b := true) ⟨_, Heap.get?_push_size _ rfl, rfl⟩ isSubtype_stop ?_)
  exact wpAny_pure (h _ fun b o e => Heap.get?_push_of_some _ (Heap.get?_push_of_some _ e))
theorem next_ended {it : Addr} {Q : Option Value → Shared → Prop} (hh : A.handled = none) (hit : s.heap.get? it = some callEnd) (h : ∀ h', (∀ b o, s.heap.get? b = some o → h'.get? b = some o) → Q none { s with heap := h' }) :
    wpAny (model prog w) A (pyNext (.ref it)) Q E s := by
  have hT : s.TypeIs (.ref it) "callable_iterator" := ⟨_, hit, rfl⟩
  unfold pyNext
  refine wpAny_bind (wpAny_attempt (wpAny_callSpecial?_slot (name := Str.ofString "__next__") hT slot_callit_next
    (wpAny_call_entry slot_callit_next hT entry_callit_next ?_ (args_callit_next _))))
  show wpAny _ _ (field (.ref it) 2 >>= _) _ _ s
  refine wpAny_bind (wpAny_field hit rfl (x := .bool true) rfl ?_)
  refine wpAny_bind (wpAny_rule ?_)
  first | exact stop_raised hh h | exact wpAny_bind (stop_raised hh h)
theorem next_call {it q fi : Addr} {x : Value} {ts : Tok} {od : Option Addr} {oc : Value} {fd : FuncData} {sl : Array (Option Value)} {Q : Option Value → Shared → Prop} (hh : A.handled = none) (hit : s.heap.get? it = some (callIt q ts)) (hq : s.heap.get? q = some (methodObj (.ref fi) x)) (hf : s.heap.get? fi = some ⟨oc, od, .func fd, sl⟩)
    (hc : wpAny (model prog w) A.in1 (call (.ref q) []) (fun v s' => ∃ y t, v = .str y t ∧ s'.heap.get? it = some (callIt q ts) ∧ s'.heap.get? q = some (methodObj (.ref fi) x) ∧ s'.heap.get? fi = some ⟨oc, od, .func fd, sl⟩ ∧
      (if y = Str.empty then ∀ h', Heap.ExtBut it s'.heap h' → h'.get? it = some callEnd → Q none { s' with heap := h' } else Q (some v) s')) (fun _ _ => False) s) :
    wpAny (model prog w) A (pyNext (.ref it)) Q E s := by
  have hT : s.TypeIs (.ref it) "callable_iterator" := ⟨_, hit, rfl⟩
  unfold pyNext
  refine wpAny_bind (wpAny_attempt (wpAny_callSpecial?_slot (name := Str.ofString "__next__") hT slot_callit_next
    (wpAny_call_entry slot_callit_next hT entry_callit_next ?_ (args_callit_next _))))
  show wpAny _ _ (field (.ref it) 2 >>= _) _ _ s
  refine wpAny_bind (wpAny_field hit rfl (x := .bool false) rfl ?_)
  show wpAny _ _ (field (.ref it) 0 >>= fun f => (callOutOfASlot f).attempt >>= _) _ _ s
  refine wpAny_bind (wpAny_field hit rfl (x := .ref q) rfl ?_)
  refine wpAny_bind (wpAny_attempt ?_)
  unfold callOutOfASlot
  refine wpAny_bind (borrows_meth hq hf ?_)
  rw [if_pos rfl]
  refine wpAny_mono (wpAny_callBorrowed hc) (fun v s' hv => ?_) fun e s' he => ?_
  · obtain ⟨y, t, rfl, hit', hq', hf', hQ⟩ := hv
    show wpAny _ _ (field (.ref it) 2 >>= _) _ _ s'
    refine wpAny_bind (wpAny_field hit' rfl (x := .bool false) rfl ?_)
    show wpAny _ _ (field (.ref it) 1 >>= fun x => holding [.str y t] (eqBool x (.str y t)) >>= _) _ _ s'
    refine wpAny_bind (wpAny_field hit' rfl (x := .str Str.empty ts) rfl ?_)
    refine wpAny_bind (wpAny_holding (wpAny_eqBool_str ?_))
    by_cases hy : y = Str.empty
    · rw [if_pos hy] at hQ
      subst hy
      rw [decide_eq_true rfl]
      refine wpAny_bind (wpAny_rule ?_)
      show wpAny _ _ ((field (.ref it) 0 >>= fun o => slotLetsGo _ o _ >>= fun _ => setField (.ref it) 0 .none >>= fun _ => setField (.ref it) 1 .none >>= fun _ => setField (.ref it) 2 (.bool true)) >>= _) _ _ s'
      refine wpAny_bind (wpAny_bind (wpAny_field hit' rfl (x := .ref q) rfl ?_))
      refine wpAny_bind ?_
      unfold slotLetsGo
      refine wpAny_bind (borrows_meth hq' hf' ?_)
      rw [if_pos rfl]
      refine wpAny_pure ?_
      have g1 : (s'.heap.update it (Obj.mapFields (·.setIfInBounds 0 .none))).get? it = some { cls := .type "callable_iterator", data := .fields #[.none, .str Str.empty ts, .bool false] } := Heap.get?_update_self _ hit' rfl
      refine wpAny_bind (wpAny_setField hit' rfl (by simp) ?_)
      have g2 : ((s'.heap.update it (Obj.mapFields (·.setIfInBounds 0 .none))).update it (Obj.mapFields (·.setIfInBounds 1 .none))).get? it = some { cls := .type "callable_iterator", data := .fields #[.none, .none, .bool false] } := Heap.get?_update_self _ g1 rfl
      refine wpAny_bind (wpAny_setField g1 rfl (by simp) ?_)
      have g3 : (((s'.heap.update it (Obj.mapFields (·.setIfInBounds 0 .none))).update it (Obj.mapFields (·.setIfInBounds 1 .none))).update it (Obj.mapFields (·.setIfInBounds 2 (.bool true)))).get? it = some callEnd := Heap.get?_update_self _ g2 rfl
      refine wpAny_setField g2 rfl (by simp) ?_
      have hs : Heap.ExtBut it s'.heap (((s'.heap.update it (Obj.mapFields (·.setIfInBounds 0 .none))).update it (Obj.mapFields (·.setIfInBounds 1 .none))).update it (Obj.mapFields (·.setIfInBounds 2 (.bool true)))) :=
        (((Heap.SameBut.update ..).trans (Heap.SameBut.update ..)).trans (Heap.SameBut.update ..)).extBut
      generalize (((s'.heap.update it (Obj.mapFields (·.setIfInBounds 0 .none))).update it (Obj.mapFields (·.setIfInBounds 1 .none))).update it (Obj.mapFields (·.setIfInBounds 2 (.bool true)))) = h3 at g3 hs
      exact stop_raised hh fun h' hk => hQ h' (fun b o hb e => hk b o (hs b o hb e)) (hk _ _ g3)
    · rw [if_neg hy] at hQ
      rw [decide_eq_false (fun e => hy e.symm)]
      exact wpAny_pure ⟨_, rfl, wpAny_pure hQ⟩
  · exact he.elim
theorem pyIter_callit {it : Addr} {vs : Array Value} {Q : Value → Shared → Prop} (hit : s.heap.get? it = some { cls := .type "callable_iterator", data := .fields vs }) (h : Q (.ref it) s) : wpAny (model prog w) A (pyIter (.ref it)) Q E s := by
  have hT : s.TypeIs (.ref it) "callable_iterator" := ⟨_, hit, rfl⟩
  refine wpAny_pyIter_slot hT slot_callit_iter (wpAny_call_entry slot_callit_iter hT entry_callit_iter ?_ (args_callit_iter _))
  show wpAny _ _ (ret (.ref it)) _ _ s
  exact wpAny_pure ⟨_, rfl, "callable_iterator", _, hT, slot_callit_next.lookup, h⟩
theorem entry_iter2 : entryFor table "iter" = some Builtin.«iter» := entryFor_of_tree (by kernel_rfl)
theorem args_iter2 (a b : Value) : argsOk "iter" ⟨[a, b], []⟩ := by unfold argsOk; kernel_rfl
theorem call_of_method : typeLookup (.type "method") "__call__" = pure (some (.builtin "method.__call__")) := by rw [typeLookup_type, builtinLookup_eq_fast]; kernel_rfl
theorem iter2 {h₀ : Heap} {L : Addr} {m : Env1} {news : Led} {q fi : Addr} {x : Value} {ts : Tok} {Q : Value → Shared → Prop} (F : Fr h₀ L s.heap m) (N : News h₀ L s.heap news) (hq : (q, methodObj (.ref fi) x) ∈ news)
    (h : ∀ it h', Fr h₀ L h' m → News h₀ L h' ((it, callIt q ts) :: news) → (∀ p ∈ news, p.1 < it) → Q (.ref it) { s with heap := h' }) :
    wpAny (model prog w) A (call (.builtin "iter") [.ref q, .str Str.empty ts]) Q E s := by
  refine call_function_entry (by decide +kernel) (by decide +kernel) entry_iter2 (args_iter2 _ _) ?_
  show wpAny _ _ (specialOf (.ref q) "__call__" >>= _) _ _ s
  refine wpAny_bind (wpAny_specialOf (T := "method") ⟨_, (N _ hq).1, rfl⟩ call_of_method ?_)
  refine wpAny_bind (wpAny_rule ?_)
  refine wpAny_bind (wpAny_newObj_type (wpAny_pure ⟨_, rfl, h _ _ (F.push _) (N.push F _) fun p hp => Heap.lt_size (N p hp).1⟩) (by size_fits))
end
end

--<M
local macro_rules | `(tactic| walk_at "call builtin:iter") => `(tactic| (k_here; (with_reducible refine gdIter ?_); k_dflt (refine' iter2 ?F ?N ?q ?_; (case F | N => k_asm); (case q => k_mem); k_whole); intro it' h' F' N' l1; (try k_lt l1)))
local macro_rules | `(tactic| walk_at "pyIter ref") => `(tactic| (k_here; (with_reducible refine gdItR ?_); k_dflt (refine' pyIter_callit ?N ?_; (case N => exact (News.get (by k_asm) (by k_mem))); k_whole)))
--M>

/-- the signs of a text, each a text -/
@[reducible] noncomputable def chars (cs : List Nat) : List Str := cs.map fun c => ⟨#[c]⟩
theorem strs_of : ∀ {vs : List Value} {ys : List Str}, vs.length = ys.length → (∀ (i : Nat) (v : Value), vs[i]? = some v → ∃ (y : Str) (t : Tok), ys[i]? = some y ∧ v = Value.str y t) → StrsAre vs ys
  | [], [], _, _ => .nil
  | v :: vs, y :: ys, hl, h => by
    obtain ⟨y', t, e, rfl⟩ := h 0 v rfl
    have e' : y = y' := by simpa using e
    subst e'
    exact .cons y t (strs_of (by simpa using hl) fun i w hw => h (i + 1) w (by simpa using hw))
section
variable {prog : Program} {w : World} {A : Around} {E : Value → Shared → Prop} {s : Shared} {Q : Value → Shared → Prop} {h₀ : Heap} {L : Addr} {m : Env1} {news : Led}
theorem list_str {x : Str} {t : Tok} (hh : A.handled = none) (F : Fr h₀ L s.heap m) (N : News h₀ L s.heap news) (hx : x.length < 1000)
    (h : ∀ D vs k h' tk, StrsAre vs (chars x.cps.toList) → Fr h₀ L h' m → News h₀ L h' ((D, W.listOf vs.toArray k) :: news) → (∀ p ∈ news, p.1 < D) → Q (.ref D) { s with heap := h', toks := tk }) :
    wpAny (model prog w) A (call (.type "list") [.str x t]) Q E s := by
  refine call_list_str hh x t (fun h' tk acc' c' hk hg hi => ?_) (by rw [sizeLine_eq]; show x.length ≤ _; omega)
  refine h _ acc'.toList c' h' tk ?_ (F.keeps hk) ?_ fun p hp => Heap.lt_size (N p hp).1
  · obtain ⟨e1, e2⟩ := hi
    refine strs_of (by simp [e1]) fun i v hv => ?_
    obtain ⟨c, u, hc, rfl⟩ := e2 i v (by simpa using hv)
    exact ⟨_, u, by simp [hc], rfl⟩
  · intro p hp
    rcases List.mem_cons.mp hp with rfl | hp
    · refine ⟨by simpa using hg, Nat.ne_of_gt F.ns.lt, ?_⟩
      cases hq : h₀.get? s.heap.objs.size with
      | none => rfl
      | some o' => exact absurd (Heap.lt_size (F.keep _ _ hq)) (Nat.lt_irrefl _)
    · exact ⟨hk _ _ (N p hp).1, (N p hp).2⟩
end
--<M
local macro_rules | `(tactic| walk_at "call type:list") => `(tactic| (k_here; (with_reducible refine gdListStr ?_); k_dflt (refine' list_str ?k0 ?k1 ?k2 ?k3 ?_; (case k0 => exact rfl); (case k1 | k2 => k_asm); (case k3 => assumption); k_whole); intro D' vs' k' h' tk' ha' F' N' l1; (try k_lt l1)))
--M>
section
variable {prog : Program} {w : World} {A : Around} {E : Value → Shared → Prop} {s : Shared} {h₀ : Heap} {L : Addr} {m : Env1} {news news' : Led}
theorem pop0 {D : Addr} {y : Value} {vs : List Value} {n : Nat} {u : Tok} {Q : Value → Shared → Prop} (F : Fr h₀ L s.heap m) (N : News h₀ L s.heap news) (U : Upd D (W.listOf (y :: vs).toArray n) (W.listOf vs.toArray (n + 1)) news news') (hz : vs.length < 100000)
    (h : ∀ h', Fr h₀ L h' m → News h₀ L h' news' → Q y { s with heap := h' }) : wpAny (model prog w) A (call (.builtin "list.pop") [.ref D, .int 0 u]) Q E s :=
  kl_popAt (k := 0) (p := []) (q := vs) F N rfl (by unfold seqIndex?; simp) rfl U (by rw [sizeLine_eq]; simp only [List.length_cons]; omega) h
theorem truthy_cons {D : Addr} {y : Value} {vs : List Value} {n : Nat} {Q : Bool → Shared → Prop} (N : News h₀ L s.heap news) (hm : (D, W.listOf (y :: vs).toArray n) ∈ news) (hz : vs.length < 100000) (h : ∀ tk, Q true { s with toks := tk }) :
    wpAny (model prog w) A (truthy (.ref D)) Q E s := by
  refine wpAny_truthy_list (News.isList N hm) (by rw [List.size_toArray]; simp only [List.length_cons]; omega) ?_
  have e : (!(y :: vs).toArray.isEmpty) = true := by simp
  rw [e]; exact h _
theorem truthy_nil {D : Addr} {n : Nat} {Q : Bool → Shared → Prop} (N : News h₀ L s.heap news) (hm : (D, W.listOf #[] n) ∈ news) (h : ∀ tk, Q false { s with toks := tk }) :
    wpAny (model prog w) A (truthy (.ref D)) Q E s := wpAny_truthy_list (News.isList N hm) (by decide) (h _)
end
theorem cellNe {L : Addr} {news : Led} (h : AllLt L news) : ∀ p ∈ news, p.1 ≠ L + 1 := fun p hp => Nat.ne_of_lt (Nat.lt_succ_of_lt (allLt_mem h p hp))
--<M
local macro_rules | `(tactic| k_all) => `(tactic| first | assumption | exact cellNe (by assumption))
local macro_rules | `(tactic| walk_at "call builtin:list.pop") => `(tactic| (k_here; (with_reducible refine gdPop ?_); k_dflt (refine' pop0 ?F ?N ?U ?z ?_; (case F | N => k_asm); (case U => k_upd); (case z => omega); k_whole); intro h' F' N'; (try dsimp only at N')))
local macro_rules | `(tactic| walk_at "truthy ref") => `(tactic| (k_here; (with_reducible refine gdTruthy ?_); k_dflt (first | (refine' truthy_cons ?N ?m ?z ?_; (case N => k_asm); (case m => k_mem); (case z => omega); k_whole) | (refine' truthy_nil ?N ?m ?_; (case N => k_asm); (case m => k_mem); k_whole)); intro tk'))
--M>
@[reducible] noncomputable def lexDict (w : World) (ln ins ws pb : Value) (k1 k2 k3 k4 : Tok) : Obj := dictOf [
  { hash := PyData.keyHash w.params (Str.ofString "lineno"), key := .str (Str.ofString "lineno") k1, val := ln },
  { hash := PyData.keyHash w.params (Str.ofString "instream"), key := .str (Str.ofString "instream") k2, val := ins },
  { hash := PyData.keyHash w.params (Str.ofString "whitespace"), key := .str (Str.ofString "whitespace") k3, val := ws },
  { hash := PyData.keyHash w.params (Str.ofString "pushback"), key := .str (Str.ofString "pushback") k4, val := pb }] 4
noncomputable def hdS : List Nat → Str
  | [] => Str.empty
  | c :: _ => ⟨#[c]⟩
/-- a lexer's parameters that no read changes -/
structure LX where
  x : Addr
  d : Addr
  Dl : Addr
  pb : Addr
  x1 : Addr
  tw : Tok
  k1 : Tok
  k2 : Tok
  k3 : Tok
  k4 : Tok
theorem neLX : Nonempty LX := ⟨⟨0, 0, 0, 0, 0, 0, 0, 0, 0, 0⟩⟩
@[reducible] noncomputable def LX.led (X : LX) (w : World) (ln : Int) (tl : Tok) (vs : List Value) (k : Nat) : Led :=
  [(X.d, lexDict w (.int ln tl) (.ref X.x1) (.str (Str.ofString "\n\t\r ") X.tw) (.ref X.pb) X.k1 X.k2 X.k3 X.k4), (X.Dl, W.listOf vs.toArray k), (X.x, instObj 132 X.d)]
/-- what a call of _read_char does -/
noncomputable def RdOk (w : World) (mean : ExcName → Option Value) (mg mb : Str → Option Value) (X : LX) (fixed : Led) : Prop :=
  ∀ (dp un : Nat) (gd : Option (List Code)) (cn : Str) (cs : Scope) (a : Addr) (ccd : Value) (cl : List (Str × Addr)) (outer : List Env) (A₀ : Around) (base h₀ : Heap) (L : Addr) (m : Str → Option Value) (s : Shared) (R : Result → Shared → Prop) (news : Led)
    (chs : List Nat) (vs : List Value) (k : Nat) (ln : Int) (tl : Tok),
    Below A₀ base outer h₀ → Fr h₀ L s.heap m → (Mine.hd.heap_39 w.params).In h₀ → News h₀ L s.heap (X.led w ln tl vs k ++ (fixed ++ news)) → Top topProg looseT mean mg mb h₀ → CodeHd base 142 138 → cs.kind = .function →
    dp + 3 < recursionLimit → un + 8 * 3 < cLine → StrsAre vs (chars chs) → (∀ p ∈ news, p.1 ≠ X.d) → (∀ p ∈ news, p.1 ≠ X.Dl) → 0 ≤ ln → ln + chs.length < 1000000 → chs.length < 10000 →
    (∀ t vs' k' ln' tl' h' tk', Fr h₀ L h' m → News h₀ L h' (X.led w ln' tl' vs' k' ++ (fixed ++ news)) → StrsAre vs' (chars chs.tail) → 0 ≤ ln' → ln' + chs.tail.length < 1000000 → R (.ok (.ret (.str (hdS chs) t))) { s with heap := h', toks := tk' }) →
    codeAny (model PySem.Challenge.rw_pg0243_01.row.prog w) (ktrTop dp un gd cn cs L a ccd cl outer) (.call (.ref 115) ⟨[.ref X.x], []⟩) R s
set_option maxHeartbeats 8000000 in
theorem lex_claim (w : World) (mean : ExcName → Option Value) (mg mb : Str → Option Value) (text : Str) (t : Tok) (hb : text.length < 1000) :
  ∀ (dp un : Nat) (gd : Option (List Code)) (cn : Str) (cs : Scope) (a : Addr) (ccd : Value) (cl : List (Str × Addr)) (outer : List Env) (A₀ : Around) (base h₀ : Heap) (L : Addr) (m : Str → Option Value) (s : Shared) (Q E : Value → Shared → Prop) (news : Led),
    (Mine.hd.heap_39 w.params).In h₀ → CodeHd base 142 138 → Below A₀ base outer h₀ → Fr h₀ L s.heap m → News h₀ L s.heap ((138, tabObj #[]) :: news) → (∀ p ∈ news, p.1 ≠ 138) → Top topProg looseT mean mg mb h₀ → cs.kind = .function →
    dp + 5 < recursionLimit → un + 8 * 5 < cLine →
    (∀ (X : LX) (vs : List Value) (k : Nat) (tl : Tok) (fixed : Led) (ps : Array Value) (h' : Heap) (tk' : Nat), Fr h₀ L h' m → News h₀ L h' (X.led w 1 tl vs k ++ ((X.pb, W.listOf #[] 0) :: (fixed ++ ((138, tabObj ps) :: news)))) → RdOk w mean mg mb X fixed → StrsAre vs (chars text.cps.toList) →
      (∀ p ∈ (138, tabObj ps) :: news, p.1 < X.Dl) → X.Dl < X.d → X.d < X.x → X.x < X.pb → (∀ p ∈ fixed, p.1 < X.d ∧ p.1 ≠ X.Dl ∧ ∀ q ∈ (138, tabObj ps) :: news, @LT.lt Nat _ q.1 p.1) → Q (.ref X.x) { s with heap := h', toks := tk' }) →
      wpAny (model PySem.Challenge.rw_pg0243_01.row.prog w) (ktrTop dp un gd cn cs L a ccd cl outer) (call (.ref 143) [.str text t]) Q E s := by
  w_top off
  k_fill
  have mine_on : MineOn := True.intro
  have eps_on : EpsOn := True.intro
  haveI := neSh; haveI := neAr; haveI := neWo
  revert w mean mg mb text t
  intro w mean mg mb text t hb
  intro dp un gd cn cs a ccd cl outer A₀ base h₀ L m s Q E news X codeHd B F N h138 T hk hd hu hret
  k_steps
  rename_i g0 Lf z1 z2 z3 z4 X1 z5 la o1 z6 zq1 zq2 Dl vs k z7 z8 ha lb z9 oc1 hcell z10 x1 d1 z11 lc ld z12 z13 z14 z15 z16 z17 z18 z19 z20 z21 z22 z23 pb1 z24 le z25 z26 z27 z28 z29 z30 z31 z32 f c oc vs2 tq ct dc z33 z34 hoc hoc2 lf lg z35 z36 x d z37 z38 z39 lh li z40 z41 z42 z43 z44 z45 z46 z47 z48 z49 z50 pb z51 lj z52 z53 z54 z55 z56 z57 z58 kF kN z59 z60
  refine hret ⟨x, d, Dl, pb, x1, _, _, _, _, _⟩ vs k _ [(f, _), (c, oc), (pb1, W.listOf #[] 0), (x1, instObj 132 d1), (d1, _), (Lf + 1, oc1)] _ _ _ kF (cb_drop kN (by
    dsimp only [List.cons_append, List.nil_append]
    refine List.forall_mem_cons.mpr ⟨by k_mem, List.forall_mem_cons.mpr ⟨by k_mem, List.forall_mem_cons.mpr ⟨by k_mem, List.forall_mem_cons.mpr ⟨by k_mem, List.forall_mem_cons.mpr ⟨by k_mem, List.forall_mem_cons.mpr ⟨by k_mem, List.forall_mem_cons.mpr ⟨by k_mem, List.forall_mem_cons.mpr ⟨by k_mem, List.forall_mem_cons.mpr ⟨by k_mem, List.forall_mem_cons.mpr ⟨by k_mem, List.forall_mem_cons.mpr ⟨by k_mem, fun p hp => by repeat' (first | exact hp | apply List.Mem.tail)⟩⟩⟩⟩⟩⟩⟩⟩⟩⟩⟩)) ?_ ha ?_ ?_ ?_ ?_ ?_
  · clear hret kF kN
    try clear hqk qk
    try clear z60
    try clear z59
    try clear z58
    try clear z57
    try clear z56
    try clear z55
    try clear z54
    try clear z53
    try clear z52
    try clear z51
    try clear z50
    try clear z49
    try clear z48
    try clear z47
    try clear z46
    try clear z45
    try clear z44
    try clear z43
    try clear z42
    try clear z41
    try clear z40
    try clear z39
    try clear z38
    try clear z37
    try clear z36
    try clear z35
    try clear z34
    try clear z33
    try clear z32
    try clear z31
    try clear z30
    try clear z29
    try clear z28
    try clear z27
    try clear z26
    try clear z25
    try clear z24
    try clear z23
    try clear z22
    try clear z21
    try clear z20
    try clear z19
    try clear z18
    try clear z17
    try clear z16
    try clear z15
    try clear z14
    try clear z13
    try clear z12
    try clear z11
    try clear z10
    try clear z9
    try clear z8
    try clear z7
    try clear z6
    try clear zq2
    try clear zq1
    try clear z5
    try clear z4
    try clear z3
    try clear z2
    try clear z1
    clear N codeHd h138
    unfold RdOk
    intro dp un gd cn cs a ccd cl outer A₀ base h₀ L m s R news chs vs k ln tl B F X N T codeHd hk hd hu hvs hn1 hn2 hl0 hl1 hl2 hR
    dsimp only [LX.led, List.cons_append, List.nil_append] at N hn1 hn2 hR
    have hch : chs = [] ∨ ∃ ch, ∃ r, chs = ch :: r := by
      cases chs with
      | nil => exact .inl rfl
      | cons ch r => exact .inr ⟨ch, r, rfl⟩
    rcases hch with rfl | hch
    · cases hvs
      k_dflt cell_enter
      k_steps
      exact hR _ [] k ln tl _ _ (by k_asm) (by k_asm) .nil hl0 hl1
    · revert hch
      refine ex_imp ?_
      intro ch
      refine ex_imp ?_
      intro r
      rintro rfl
      have hv1 : ∃ vs1, ∃ t1, vs = .str ⟨#[ch]⟩ t1 :: vs1 ∧ StrsAre vs1 (chars r) := by cases hvs with | cons y t h => exact ⟨_, _, rfl, h⟩
      revert hv1
      refine ex_imp ?_
      intro vs1
      refine ex_imp ?_
      intro t1
      rintro ⟨rfl, hvs1⟩
      have hvl := hvs1.length
      simp only [List.length_map, List.length_cons] at hvl hl1 hl2
      clear hvs
      k_dflt cell_enter
      k_steps
      · exact hR t1 vs1 (k + 1) (ln + 1) _ _ _ (by k_asm) (by k_asm) hvs1 (by omega) (by show ln + 1 + (r.length : Int) < 1000000; omega)
      · exact hR t1 vs1 (k + 1) ln _ _ _ (by k_asm) (by k_asm) hvs1 hl0 (by show ln + (r.length : Int) < 1000000; omega)
  · intro p hp
    rcases List.mem_cons.mp hp with rfl | hp
    · exact lb.2.1
    · exact allLt_mem lb.2.2 p hp
  · exact lh.2.2.2.2.2.1
  · exact li
  · exact lj.1
  · obtain ⟨a1, a2, a3, a4, a5, a6, a7, -⟩ := lh
    obtain ⟨b1, b2, b3, b4, b5, -⟩ := lf
    obtain ⟨c1, c2, c3, c4, -⟩ := le
    have hL : ∀ (o : Obj), ∀ q ∈ (138, o) :: news, @LT.lt Nat _ (q.1 + 1) (Lf + 1) := fun o q hq => Nat.succ_lt_succ (by
      rcases List.mem_cons.mp hq with rfl | hq
      · exact la.1
      · exact allLt_mem la.2 q hq)
    have up : ∀ z : Nat, @LT.lt Nat _ (Lf + 1) z → ∀ (o : Obj), ∀ q ∈ (138, o) :: news, @LT.lt Nat _ q.1 z := fun z hz o q hq => Nat.lt_trans (Nat.lt_succ_self _) (Nat.lt_trans (hL o q hq) hz)
    intro p hp
    simp only [List.mem_cons, List.not_mem_nil, or_false] at hp
    rcases hp with rfl | rfl | rfl | rfl | rfl | rfl
    · exact ⟨a1, Nat.ne_of_gt (Nat.lt_trans b4 lg), up _ (Nat.lt_trans b5 lg) _⟩
    · exact ⟨a2, Nat.ne_of_gt b4, up _ b5 _⟩
    · exact ⟨a3, Nat.ne_of_gt c3, up _ c4 _⟩
    · exact ⟨a4, Nat.ne_of_gt (Nat.lt_trans lc.1 ld), up _ (Nat.lt_trans lc.2.1 ld) _⟩
    · exact ⟨a5, Nat.ne_of_gt lc.1, up _ lc.2.1 _⟩
    · exact ⟨a7, Nat.ne_of_lt lb.1, fun q hq => Nat.lt_of_succ_lt (hL _ q hq)⟩

theorem led_end {h₀ h h' : Heap} {L it : Addr} {m : Env1} {o o' : Obj} {l1 l2 : Led} (F : Fr h₀ L h m) (N : News h₀ L h (l1 ++ (it, o) :: l2)) (h1 : Apart it l1) (h2 : Apart it l2) (hs : Heap.ExtBut it h h') (ho : h'.get? it = some o') :
    Fr h₀ L h' m ∧ News h₀ L h' (l1 ++ (it, o') :: l2) := by
  have hi := N (it, o) (List.mem_append_right _ (.head _))
  obtain ⟨oL, es, ep, hL, r⟩ := F.ns
  refine ⟨⟨⟨oL, es, ep, hs _ _ (Ne.symm hi.2.1) hL, r⟩, fun b x q => hs _ _ (fun z => ?_) (F.keep b x q), F.above⟩, fun p hp => ?_⟩
  · have := hi.2.2; rw [← z, q] at this; cases this
  · rcases List.mem_append.mp hp with hp | hp
    · have := N p (List.mem_append_left _ hp)
      exact ⟨hs _ _ (h1 p hp) this.1, this.2⟩
    · rcases List.mem_cons.mp hp with rfl | hp
      · exact ⟨ho, hi.2⟩
      · have := N p (List.mem_append_right _ (.tail _ hp))
        exact ⟨hs _ _ (h2 p hp) this.1, this.2⟩
noncomputable def isWs (c : Nat) : Bool := c == 10 || c == 9 || c == 13 || c == 32
section
variable {w : World} {mean : ExcName → Option Value} {mg mb : Str → Option Value} {dp un : Nat} {gd : Option (List Code)} {cn : Str} {cs : Scope} {a : Addr} {ccd : Value} {cl : List (Str × Addr)} {outer : List Env} {A₀ : Around} {base h₀ : Heap} {L : Addr} {m : Str → Option Value} {s : Shared} {news : Led} {X : LX} {fixed : Led} {E : Value → Shared → Prop}
theorem rd_fn (h : (Mine.hd.heap_39 w.params).In h₀) : ∃ oc od fd sl, h₀.get? 115 = some ⟨oc, od, .func fd, sl⟩ := ⟨_, _, _, _, h 115 _ rfl⟩
/-- a turn of iter(self._read_char, '') -/
theorem next_lex {q it : Addr} {ts : Tok} {chs : List Nat} {vs : List Value} {k : Nat} {ln : Int} {tl : Tok} {Q : Option Value → Shared → Prop} (rd : RdOk w mean mg mb X fixed)
    (B : Below A₀ base outer h₀) (F : Fr h₀ L s.heap m) (XK : (Mine.hd.heap_39 w.params).In h₀) (N : News h₀ L s.heap (X.led w ln tl vs k ++ (fixed ++ ((it, callIt q ts) :: (q, methodObj (.ref 115) (.ref X.x)) :: news)))) (T : Top topProg looseT mean mg mb h₀) (codeHd : CodeHd base 142 138) (hk : cs.kind = .function)
    (hd : dp + 3 < recursionLimit) (hu : un + 8 * 4 < cLine) (hvs : StrsAre vs (chars chs)) (hn1 : ∀ p ∈ (it, callIt q ts) :: (q, methodObj (.ref 115) (.ref X.x)) :: news, p.1 ≠ X.d) (hn2 : ∀ p ∈ (it, callIt q ts) :: (q, methodObj (.ref 115) (.ref X.x)) :: news, p.1 ≠ X.Dl) (hne : Apart it (fixed ++ ((q, methodObj (.ref 115) (.ref X.x)) :: news))) (hnx : X.x ≠ it)
    (hl0 : 0 ≤ ln) (hl1 : ln + chs.length < 1000000) (hl2 : chs.length < 10000)
    (hitem : ∀ c r t vs' k' ln' tl' h' tk', chs = c :: r → Fr h₀ L h' m → News h₀ L h' (X.led w ln' tl' vs' k' ++ (fixed ++ ((it, callIt q ts) :: (q, methodObj (.ref 115) (.ref X.x)) :: news))) → StrsAre vs' (chars r) → 0 ≤ ln' → ln' + r.length < 1000000 → Q (some (.str ⟨#[c]⟩ t)) { s with heap := h', toks := tk' })
    (hend : ∀ vs' k' ln' tl' h' tk', chs = [] → Fr h₀ L h' m → News h₀ L h' (X.led w ln' tl' vs' k' ++ (fixed ++ ((it, callEnd) :: (q, methodObj (.ref 115) (.ref X.x)) :: news))) → StrsAre vs' (chars []) → 0 ≤ ln' → ln' < 1000000 → Q none { s with heap := h', toks := tk' }) :
    wpAny (model PySem.Challenge.rw_pg0243_01.row.prog w) (ktrTop dp un gd cn cs L a ccd cl outer) (pyNext (.ref it)) Q E s := by
  have m1 : (it, callIt q ts) ∈ X.led w ln tl vs k ++ (fixed ++ ((it, callIt q ts) :: (q, methodObj (.ref 115) (.ref X.x)) :: news)) := List.mem_append_right _ (List.mem_append_right _ (.head _))
  have m2 : (q, methodObj (.ref 115) (.ref X.x)) ∈ X.led w ln tl vs k ++ (fixed ++ ((it, callIt q ts) :: (q, methodObj (.ref 115) (.ref X.x)) :: news)) := List.mem_append_right _ (List.mem_append_right _ (.tail _ (.head _)))
  obtain ⟨oc, od, fd, sl, hf⟩ := rd_fn XK
  refine next_call rfl (N _ m1).1 (N _ m2).1 (F.keep _ _ hf) (wpAny_call (method_call (N _ m2).1 ?_))
  refine rd _ _ _ _ _ _ _ _ _ _ _ _ _ _ _ _ _ chs vs k ln tl B F XK N T codeHd hk ?_ ?_ hvs hn1 hn2 hl0 hl1 hl2 ?_
  · exact hd
  · show un + _ + 8 * 3 < cLine; omega
  · intro t vs' k' ln' tl' h' tk' F' N' hvs' hl0' hl1'
    have m1' : (it, callIt q ts) ∈ X.led w ln' tl' vs' k' ++ (fixed ++ ((it, callIt q ts) :: (q, methodObj (.ref 115) (.ref X.x)) :: news)) := List.mem_append_right _ (List.mem_append_right _ (.head _))
    have m2' : (q, methodObj (.ref 115) (.ref X.x)) ∈ X.led w ln' tl' vs' k' ++ (fixed ++ ((it, callIt q ts) :: (q, methodObj (.ref 115) (.ref X.x)) :: news)) := List.mem_append_right _ (List.mem_append_right _ (.tail _ (.head _)))
    refine ⟨_, t, rfl, (N' _ m1').1, (N' _ m2').1, F'.keep _ _ hf, ?_⟩
    cases chs with
    | nil =>
      rw [if_pos (show hdS [] = Str.empty from rfl)]
      intro h2 hx he
      have N2 : News h₀ L h' ((X.led w ln' tl' vs' k' ++ fixed) ++ (it, callIt q ts) :: (q, methodObj (.ref 115) (.ref X.x)) :: news) := by rw [List.append_assoc]; exact N'
      have e := led_end F' N2 (fun p hp => by
        rcases List.mem_append.mp hp with hp | hp
        · simp only [List.mem_cons, List.not_mem_nil, or_false] at hp
          rcases hp with rfl | rfl | rfl
          · exact (hn1 _ (.head _)).symm
          · exact (hn2 _ (.head _)).symm
          · exact hnx
        · exact hne p (List.mem_append_left _ hp)) (fun p hp => hne p (List.mem_append_right _ hp)) hx he
      have N3 := e.2
      rw [List.append_assoc] at N3
      exact hend vs' k' ln' tl' h2 tk' rfl e.1 N3 hvs' hl0' (by simpa using hl1')
    | cons c r =>
      rw [if_neg (show hdS (c :: r) ≠ Str.empty from fun e => by have := congrArg (fun x : Str => x.cps.size) e; simp [hdS, Str.empty] at this)]
      exact hitem c r t vs' k' ln' tl' h' tk' rfl F' N' hvs' hl0' hl1'
end

section
variable {w : World} {mean : ExcName → Option Value} {mg mb : Str → Option Value} {dp un : Nat} {gd : Option (List Code)} {cn : Str} {cs : Scope} {a : Addr} {ccd : Value} {cl : List (Str × Addr)} {outer : List Env} {A₀ : Around} {base h₀ : Heap} {L : Addr} {m : Str → Option Value} {s : Shared} {news : Led} {X : LX} {fixed : Led} {Q E : Value → Shared → Prop}
theorem read_use {chs : List Nat} {vs : List Value} {k : Nat} {ln : Int} {tl : Tok} (rd : RdOk w mean mg mb X fixed)
    (B : Below A₀ base outer h₀) (F : Fr h₀ L s.heap m) (XK : (Mine.hd.heap_39 w.params).In h₀) (N : News h₀ L s.heap (X.led w ln tl vs k ++ (fixed ++ news))) (T : Top topProg looseT mean mg mb h₀) (codeHd : CodeHd base 142 138) (hk : cs.kind = .function)
    (hd : dp + 3 < recursionLimit) (hu : un + 8 * 3 < cLine) (hvs : StrsAre vs (chars chs)) (hn1 : ∀ p ∈ news, p.1 ≠ X.d) (hn2 : ∀ p ∈ news, p.1 ≠ X.Dl)
    (hl0 : 0 ≤ ln) (hl1 : ln + chs.length < 1000000) (hl2 : chs.length < 10000)
    (h : ∀ t vs' k' ln' tl' h' tk', Fr h₀ L h' m → News h₀ L h' (X.led w ln' tl' vs' k' ++ (fixed ++ news)) → StrsAre vs' (chars chs.tail) → 0 ≤ ln' → ln' + chs.tail.length < 1000000 → Q (.str (hdS chs) t) { s with heap := h', toks := tk' }) :
    wpAny (model PySem.Challenge.rw_pg0243_01.row.prog w) (ktrTop dp un gd cn cs L a ccd cl outer) (call (.ref 115) [.ref X.x]) Q E s :=
  wpAny_call (rd _ _ _ _ _ _ _ _ _ _ _ _ _ _ _ _ _ chs vs k ln tl B F XK N T codeHd hk hd hu hvs hn1 hn2 hl0 hl1 hl2 h)
end
theorem isWs_eq (c : Nat) : decide (c ∈ (Str.ofString "\n\t\r ").cps.toList) = isWs c := by
  have e : (Str.ofString "\n\t\r ").cps.toList = [10, 9, 13, 32] := by decide +kernel
  rw [e]; unfold isWs
  simp only [List.mem_cons, List.not_mem_nil, or_false, Bool.decide_or]
  simp only [Bool.or_assoc]
  rfl
section
variable {prog : Program} {w : World} {A : Around} {E : Value → Shared → Prop} {s : Shared} {Q : Value → Shared → Prop}
theorem in_ws {c : Nat} {t u : Tok} (h : Q (.bool (isWs c)) s) : wpAny (model prog w) A (compareOp .In (.str ⟨#[c]⟩ t) (.str (Str.ofString "\n\t\r ") u)) Q E s := by
  refine PyProof.Rows.in_str ?_
  rw [StrLaws.found_one, isWs_eq]; exact h
theorem eq_one {c n : Nat} {y : Str} {t u : Tok} (e : y = ⟨#[n]⟩) (h : Q (.bool (decide (c = n))) s) : wpAny (model prog w) A (compareOp .Eq (.str ⟨#[c]⟩ t) (.str y u)) Q E s := by
  refine PyProof.Rows.eq_str ?_
  subst e
  have : ((⟨#[c]⟩ : Str) == ⟨#[n]⟩) = decide (c = n) := by
    by_cases h : c = n
    · subst h; simp
    · rw [decide_eq_false h]; exact beq_eq_false_iff_ne.mpr fun e => h (by injection e with e; injection e with e; injection e with e)
  rw [this]; exact h
end
theorem app_empty (x : Str) : x ++ Str.empty = x := by
  show Str.append x Str.empty = x
  unfold Str.append Str.empty
  simp
theorem len_one (x : Str) (c : Nat) : (x ++ (⟨#[c]⟩ : Str)).length = x.length + 1 := by
  show (Str.append x ⟨#[c]⟩).cps.size = _
  unfold Str.append
  simp [Str.length]
theorem str34 : Str.ofString "\"" = ⟨#[34]⟩ := by decide +kernel
theorem str92 : Str.ofString "\\" = ⟨#[92]⟩ := by decide +kernel
inductive Md where | out | quo | bare | quoE | bareE
/-- what get_token makes of the signs that are left -/
noncomputable def lexRun : Md → Str → List Nat → Str × List Nat
  | _, tok, [] => (tok, [])
  | .out, tok, c :: r => if isWs c then lexRun .out tok r else if c = 34 then lexRun .quo tok r else if c = 92 then lexRun .bareE tok r else lexRun .bare (tok ++ ⟨#[c]⟩) r
  | .quo, tok, c :: r => if c = 34 then (tok, r) else if c = 92 then lexRun .quoE tok r else lexRun .quo (tok ++ ⟨#[c]⟩) r
  | .quoE, tok, c :: r => lexRun .quo (tok ++ ⟨#[c]⟩) r
  | .bare, tok, c :: r => if isWs c then (tok, r) else if c = 92 then lexRun .bareE tok r else lexRun .bare (tok ++ ⟨#[c]⟩) r
  | .bareE, tok, c :: r => lexRun .bare (tok ++ ⟨#[c]⟩) r
theorem lex_quoE {tok : Str} {r : List Nat} {res : Str × List Nat} (e : lexRun Md.quoE tok r = res) : lexRun Md.quo (tok ++ hdS r) r.tail = res := by
  rw [← e]
  cases r with
  | nil => rw [show hdS [] = Str.empty from rfl, app_empty]; rfl
  | cons c r => rfl
theorem lex_bareE {tok : Str} {r : List Nat} {res : Str × List Nat} (e : lexRun Md.bareE tok r = res) : lexRun Md.bare (tok ++ hdS r) r.tail = res := by
  rw [← e]
  cases r with
  | nil => rw [show hdS [] = Str.empty from rfl, app_empty]; rfl
  | cons c r => rfl
theorem hd_bd {tok : Str} {r : List Nat} (h : tok.length + r.length < 19999) : (tok ++ hdS r).length + r.tail.length < 20000 := by
  cases r with
  | nil => rw [show hdS [] = Str.empty from rfl, app_empty]; simp only [List.tail_nil, List.length_nil] at h ⊢; omega
  | cons c r => rw [show hdS (c :: r) = (⟨#[c]⟩ : Str) from rfl, len_one]; simp only [List.tail_cons, List.length_cons] at h ⊢; omega
theorem tail_le (r : List Nat) : r.tail.length ≤ r.length := by cases r <;> simp
theorem hdS_len (r : List Nat) : (hdS r).length ≤ 1 := by cases r <;> simp [hdS, Str.empty, Str.length]
structure TC where
  tok : Str
  tt : Tok
  cs : List Nat
  vs : List Value
  k : Nat
  ln : Int
  tl : Tok
  fin : Bool
theorem TC.all {P : TC → Prop} (h : ∀ tok tt cs vs k ln tl fin, P ⟨tok, tt, cs, vs, k, ln, tl, fin⟩) : ∀ c, P c := fun ⟨_, _, _, _, _, _, _, _⟩ => h _ _ _ _ _ _ _ _
theorem sub2 {a b : Addr × Obj} {l1 l2 l3 : Led} : ∀ p ∈ l1 ++ (l2 ++ l3), p ∈ l1 ++ (l2 ++ (a :: b :: l3)) := fun p hp => by
  simp only [List.mem_append, List.mem_cons] at hp ⊢
  rcases hp with h | h | h <;> simp only [h, true_or, or_true]
abbrev TC.Ok (c : TC) (md : Md) (res : Str × List Nat) : Prop := StrsAre c.vs (chars c.cs) ∧ 0 ≤ c.ln ∧ c.ln + c.cs.length < 1000000 ∧ c.cs.length < 10000 ∧ c.tok.length + c.cs.length < 20000 ∧ lexRun md c.tok c.cs = res ∧ (c.fin = true → c.cs = [])
@[reducible] noncomputable def TC.led (X : LX) (w : World) (fixed : Led) (it q : Addr) (ts : Tok) (rest : Led) (c : TC) : Led := X.led w c.ln c.tl c.vs c.k ++ (fixed ++ ((it, if c.fin then callEnd else callIt q ts) :: (q, methodObj (.ref 115) (.ref X.x)) :: rest))
--<M
local macro_rules | `(tactic| walk_at "call ref") => `(tactic| (k_here; (with_reducible refine gdr 115 ?_); k_dflt (refine' read_use ?rd ?B ?F ?X ?N ?T ?C ?hk ?hd ?hu ?hvs ?h1 ?h2 ?l0 ?l1 ?l2 ?_; (case rd => assumption); (case B | F | X | N | T => k_asm); (case C => with_reducible assumption); (case hk => first | exact rfl | assumption); (case hd => ktr_room); (case hu => ktr_units); (case hvs | h1 | h2 | l0 | l1 => assumption); (case l2 => omega); k_whole; intro t' vs' k' ln' tl' h' tk' F' N' hv' h0' h1'; (try dsimp only [LX.led, List.cons_append, List.nil_append] at N'); (try k_fold))))
local macro_rules | `(tactic| walk_at "compareOp In str str") => `(tactic| (k_here; k_dflt (refine' in_ws ?_; k_whole)))
local macro_rules | `(tactic| walk_at "compareOp Eq str str") => `(tactic| (k_here; (with_reducible refine gdEq1 ?_); k_dflt (refine' eq_one ?e ?_; (case e => first | with_reducible exact str34 | with_reducible exact str92); k_whole)))
--M>
set_option maxHeartbeats 8000000 in
theorem tok_claim (w : World) (mean : ExcName → Option Value) (mg mb : Str → Option Value) (X : LX) (fixed : Led) (rd : RdOk w mean mg mb X fixed) (chs : List Nat) (vs : List Value) (k : Nat) (ln : Int) (tl : Tok) (ep : Nat)
    (hvs : StrsAre vs (chars chs)) (hl0 : 0 ≤ ln) (hl1 : ln + chs.length < 1000000) (hl2 : chs.length < 10000) :
  ∀ (dp un : Nat) (gd : Option (List Code)) (cn : Str) (cs : Scope) (a : Addr) (ccd : Value) (cl : List (Str × Addr)) (outer : List Env) (A₀ : Around) (base h₀ : Heap) (L : Addr) (m : Str → Option Value) (s : Shared) (Q E : Value → Shared → Prop) (news : Led),
    (Mine.hd.heap_39 w.params).In h₀ → CodeHd base 142 138 → Below A₀ base outer h₀ → Fr h₀ L s.heap m → News h₀ L s.heap (X.led w ln tl vs k ++ (fixed ++ ((X.pb, W.listOf #[] ep) :: news))) → Top topProg looseT mean mg mb h₀ → cs.kind = .function →
    (∀ p ∈ (X.pb, W.listOf #[] ep) :: news, p.1 ≠ X.d ∧ p.1 ≠ X.Dl) → dp + 6 < recursionLimit → un + 8 * 7 < cLine →
    (∀ t vs' k' ln' tl' h' tk', Fr h₀ L h' m → News h₀ L h' (X.led w ln' tl' vs' k' ++ (fixed ++ ((X.pb, W.listOf #[] ep) :: news))) → StrsAre vs' (chars (lexRun .out Str.empty chs).2) → 0 ≤ ln' → ln' + (lexRun .out Str.empty chs).2.length < 1000000 → Q (.str (lexRun .out Str.empty chs).1 t) { s with heap := h', toks := tk' }) →
      wpAny (model PySem.Challenge.rw_pg0243_01.row.prog w) (ktrTop dp un gd cn cs L a ccd cl outer) (call (.ref 122) [.ref X.x]) Q E s := by
  w_top off
  k_fill
  have mine_on : MineOn := True.intro
  have eps_on : EpsOn := True.intro
  haveI := neSh; haveI := neAr; haveI := neWo; haveI := neLX
  revert w mean mg mb X fixed chs vs k ln tl ep
  intro w mean mg mb X fixed rd chs vs k ln tl ep hvs hl0 hl1 hl2
  intro dp un gd cn cs a ccd cl outer A₀ base h₀ L m s Q E news XK codeHd B F N T hk hne hd hu hret
  dsimp only [LX.led, List.cons_append, List.nil_append] at N
  k_steps
  rename_i g L1 z1 FG B1 X1 T1 z2 z3 z4 q z5 lq it z6 lit h1 F1 N1
  have hap : Apart it (X.led w 0 0 [] 0 ++ (fixed ++ ((q, methodObj (.ref 115) (.ref X.x)) :: (X.pb, W.listOf #[] ep) :: news))) := by
    obtain ⟨e1, e2, e3, e4, e5⟩ := lit
    intro p hp
    simp only [List.cons_append, List.nil_append, List.mem_cons, List.mem_append] at hp
    rcases hp with rfl | rfl | rfl | hp | rfl | hp
    · exact Nat.ne_of_lt e2
    · exact Nat.ne_of_lt e3
    · exact Nat.ne_of_lt e4
    · exact Nat.ne_of_lt (allLt_mem e5 p (List.mem_append_left _ hp))
    · exact Nat.ne_of_lt e1
    · exact Nat.ne_of_lt (allLt_mem e5 p (List.mem_append_right _ (List.mem_cons.mpr hp)))
  have hnd : ∀ o, ∀ p ∈ (it, o) :: (q, methodObj (.ref 115) (.ref X.x)) :: (X.pb, W.listOf #[] ep) :: news, p.1 ≠ X.d := by
    intro o p hp
    simp only [List.mem_cons] at hp
    rcases hp with rfl | rfl | hp
    · exact Nat.ne_of_gt lit.2.1
    · exact Nat.ne_of_gt lq.1
    · exact (hne p (List.mem_cons.mpr hp)).1
  have hnl : ∀ o, ∀ p ∈ (it, o) :: (q, methodObj (.ref 115) (.ref X.x)) :: (X.pb, W.listOf #[] ep) :: news, p.1 ≠ X.Dl := by
    intro o p hp
    simp only [List.mem_cons] at hp
    rcases hp with rfl | rfl | hp
    · exact Nat.ne_of_gt lit.2.2.1
    · exact Nat.ne_of_gt lq.2.1
    · exact (hne p (List.mem_cons.mpr hp)).2
  generalize hres : lexRun Md.out Str.empty chs = res at hret
  refine Loop.rule (σ := TC) (fun c => c.Ok Md.out res) (fun c => [(Str.ofString "self", .ref X.x), (Str.ofString "token", .str c.tok c.tt), (Str.ofString "fiter", .ref it)])
    (TC.led X w fixed it q (z3 + 1 + 1 + 1) ((X.pb, W.listOf #[] ep) :: news)) (fun c => 2 * c.cs.length + (if c.fin then 0 else 1))
    ⟨Str.empty, _, chs, vs, k, ln, tl, false⟩ ⟨hvs, hl0, hl1, hl2, (by show 0 + chs.length < 20000; omega), hres, fun e => nomatch e⟩ (At.intro F1 N1 ⟨rfl, rfl, rfl, True.intro⟩ (fun p hp => by
      simp only [TC.led, LX.led, List.cons_append, List.nil_append, List.mem_cons, List.mem_append] at hp ⊢
      simp only [Bool.false_eq_true, if_false] at hp
      rcases hp with h | h | h | h | h | h | h | h <;> simp only [h, true_or, or_true])) ?_
  refine TC.all ?_
  intro tok tt cs1 vs1 k1 ln1 tl1 fin
  rintro ⟨p1, p2, p3, p4, p5, p6, p7⟩
  intro h tk mm F N
  dsimp only at p1 p2 p3 p4 p5 p6 p7
  dsimp only [kstB] at F
  cases fin with
  | true =>
    have hcs := p7 rfl
    subst hcs
    have N' : News g L1 h (X.led w ln1 tl1 vs1 k1 ++ (fixed ++ ((it, callEnd) :: (q, methodObj (.ref 115) (.ref X.x)) :: (X.pb, W.listOf #[] ep) :: news))) := N
    have mi : (it, callEnd) ∈ X.led w ln1 tl1 vs1 k1 ++ (fixed ++ ((it, callEnd) :: (q, methodObj (.ref 115) (.ref X.x)) :: (X.pb, W.listOf #[] ep) :: news)) := List.mem_append_right _ (List.mem_append_right _ (.head _))
    refine next_ended rfl (N' _ mi).1 fun h2 hkp => ?_
    have F2 := F.keeps hkp
    have N2 : News g L1 h2 (X.led w ln1 tl1 vs1 k1 ++ (fixed ++ ((it, callEnd) :: (q, methodObj (.ref 115) (.ref X.x)) :: (X.pb, W.listOf #[] ep) :: news))) := fun p hp => ⟨hkp _ _ (N' p hp).1, (N' p hp).2⟩
    clear N N' F
    dsimp only
    k_steps
    obtain rfl : (tok, []) = res := p6
    exact hret tt vs1 k1 ln1 tl1 _ _ (by k_asm) (cb_drop (by assumption) sub2) p1 p2 (by simpa using p3)
  | false =>
    have N' : News g L1 h (X.led w ln1 tl1 vs1 k1 ++ (fixed ++ ((it, callIt q (z3 + 1 + 1 + 1)) :: (q, methodObj (.ref 115) (.ref X.x)) :: (X.pb, W.listOf #[] ep) :: news))) := N
    clear N
    k_dflt (refine' next_lex rd B1 F X1 N' T1 codeHd rfl ?hd ?hu p1 (hnd _) (hnl _) ?hne ?hnx p2 p3 p4 ?_ ?_)
    case hd => ktr_room
    case hu => ktr_units
    case hne => exact fun p hp => hap p (List.mem_append_right _ hp)
    case hnx => exact hap (X.x, instObj 132 X.d) (.tail _ (.tail _ (.head _)))
    · intro c r t vs2 k2 ln2 tl2 h2 tk2 hcs F2 N2 hvs2 hl02 hl12
      subst hcs
      clear F N'
      have hnd' := hnd (callIt q (z3 + 1 + 1 + 1))
      have hnl' := hnl (callIt q (z3 + 1 + 1 + 1))
      have hlen2 : r.length < 10000 := by simp only [List.length_cons] at p4; omega
      have htok2 : tok.length + r.length < 19999 := by simp only [List.length_cons] at p5; omega
      dsimp only [LX.led, List.cons_append, List.nil_append] at N2
      by_cases hws : isWs c = true
      · have e0 : lexRun Md.out tok r = res := by rw [← p6]; conv => rhs; unfold lexRun
                                                  rw [if_pos hws]
        k_steps
        exact ⟨⟨tok, tt, r, vs2, k2, ln2, tl2, false⟩, ⟨hvs2, hl02, hl12, hlen2, by show tok.length + r.length < 20000; omega, e0, fun e => nomatch e⟩, by simp,
          At.intro (by k_asm) (by k_asm) ⟨rfl, rfl, rfl, True.intro⟩ fun p hp => hp⟩
      · by_cases h34 : c = 34
        · have e0 : lexRun Md.quo tok r = res := by rw [← p6]; conv => rhs; unfold lexRun
                                                    rw [if_neg hws, if_pos h34]
          k_steps
          refine Loop.rule (σ := TC) (fun c => c.Ok Md.quo res ∧ c.fin = false) (fun c => [(Str.ofString "self", .ref X.x), (Str.ofString "token", .str c.tok c.tt), (Str.ofString "fiter", .ref it)])
            (TC.led X w fixed it q (z3 + 1 + 1 + 1) ((X.pb, W.listOf #[] ep) :: news)) (fun c => c.cs.length)
            ⟨tok, tt, r, vs2, k2, ln2, tl2, false⟩ ⟨⟨hvs2, hl02, hl12, hlen2, (by show tok.length + r.length < 20000; omega), e0, fun e => nomatch e⟩, rfl⟩ (At.intro (by k_asm) (by k_asm) ⟨rfl, rfl, rfl, True.intro⟩ fun p hp => hp) ?_
          refine TC.all ?_
          intro tok tt cs1 vs1 k1 ln1 tl1 fin
          rintro ⟨⟨p1, p2, p3, p4, p5, p6, p7⟩, hfin⟩
          intro h tk mm F N
          dsimp only at p1 p2 p3 p4 p5 p6 p7 hfin
          dsimp only [kstB] at F
          subst hfin
          have N' : News g L1 h (X.led w ln1 tl1 vs1 k1 ++ (fixed ++ ((it, callIt q (z3 + 1 + 1 + 1)) :: (q, methodObj (.ref 115) (.ref X.x)) :: (X.pb, W.listOf #[] ep) :: news))) := N
          clear N
          k_dflt (refine' next_lex rd B1 F X1 N' T1 codeHd rfl ?hd ?hu p1 (hnd _) (hnl _) ?hne ?hnx p2 p3 p4 ?_ ?_)
          case hd => ktr_room
          case hu => ktr_units
          case hne => exact fun p hp => hap p (List.mem_append_right _ hp)
          case hnx => exact hap (X.x, instObj 132 X.d) (.tail _ (.tail _ (.head _)))
          · intro c r t vs2 k2 ln2 tl2 h2 tk2 hcs F2 N2 hvs2 hl02 hl12
            subst hcs
            clear F N'
            have hlen2 : r.length < 10000 := by simp only [List.length_cons] at p4; omega
            have htok2 : tok.length + r.length < 19999 := by simp only [List.length_cons] at p5; omega
            dsimp only [LX.led, List.cons_append, List.nil_append] at N2
            by_cases h34 : c = 34
            · k_steps
              try dsimp only [TurnE]
              k_steps
              have e : (tok, r) = res := by rw [← p6]; unfold lexRun; rw [if_pos h34]
              subst e
              exact hret tt vs2 k2 ln2 tl2 _ _ (by k_asm) (cb_drop (by assumption) sub2) hvs2 hl02 hl12
            · by_cases h92 : c = 92
              · have e : lexRun Md.quoE tok r = res := by rw [← p6]; conv => rhs; unfold lexRun
                                                          rw [if_neg h34, if_pos h92]
                have hz0 := hdS_len r
                have hzt := tail_le r
                have hz1 : r.tail.length < 10000 := by omega
                have hz2 := hd_bd htok2
                k_steps
                exact ⟨⟨tok ++ hdS r, _, r.tail, _, _, _, _, false⟩, ⟨⟨by assumption, by assumption, by assumption, hz1, hz2, lex_quoE e, fun e => nomatch e⟩, rfl⟩, (by show r.tail.length < r.length + 1; omega),
                  At.intro (by k_asm) (by k_asm) ⟨rfl, rfl, rfl, True.intro⟩ fun p hp => hp⟩
              · have e : lexRun Md.quo (tok ++ ⟨#[c]⟩) r = res := by rw [← p6]; conv => rhs; unfold lexRun
                                                                     rw [if_neg h34, if_neg h92]
                have hz2 : (tok ++ ⟨#[c]⟩ : Str).length + r.length < 20000 := by rw [len_one]; omega
                k_steps
                exact ⟨⟨tok ++ ⟨#[c]⟩, _, r, vs2, k2, ln2, tl2, false⟩, ⟨⟨hvs2, hl02, hl12, hlen2, hz2, e, fun e => nomatch e⟩, rfl⟩, by simp,
                  At.intro (by k_asm) (by k_asm) ⟨rfl, rfl, rfl, True.intro⟩ fun p hp => hp⟩
          · intro vs2 k2 ln2 tl2 h2 tk2 hcs F2 N2 hvs2 hl02 hl12
            subst hcs
            clear F N'
            have hz9 : ([] : List Nat).length < 10000 := by decide
            dsimp only
            k_steps
            exact ⟨⟨tok, tt, [], vs2, k2, ln2, tl2, true⟩, ⟨hvs2, hl02, (by simpa using hl12), hz9, p5, p6, fun _ => rfl⟩, by simp,
              At.intro (by k_asm) (by k_asm) ⟨rfl, rfl, rfl, True.intro⟩ fun p hp => hp⟩

        · by_cases h92 : c = 92
          · have e0 : lexRun Md.bareE tok r = res := by rw [← p6]; conv => rhs; unfold lexRun
                                                        rw [if_neg hws, if_neg h34, if_pos h92]
            have hz0 := hdS_len r
            have hzt := tail_le r
            have hz1 : r.tail.length < 10000 := by omega
            have hz2 := hd_bd htok2
            k_steps
            refine Loop.rule (σ := TC) (fun c => c.Ok Md.bare res ∧ c.fin = false) (fun c => [(Str.ofString "self", .ref X.x), (Str.ofString "token", .str c.tok c.tt), (Str.ofString "fiter", .ref it)])
              (TC.led X w fixed it q (z3 + 1 + 1 + 1) ((X.pb, W.listOf #[] ep) :: news)) (fun c => c.cs.length)
              ⟨tok ++ hdS r, _, r.tail, _, _, _, _, false⟩ ⟨⟨by assumption, by assumption, by assumption, hz1, hz2, lex_bareE e0, fun e => nomatch e⟩, rfl⟩ (At.intro (by k_asm) (by k_asm) ⟨rfl, rfl, rfl, True.intro⟩ fun p hp => hp) ?_
            refine TC.all ?_
            intro tok tt cs1 vs1 k1 ln1 tl1 fin
            rintro ⟨⟨p1, p2, p3, p4, p5, p6, p7⟩, hfin⟩
            intro h tk mm F N
            dsimp only at p1 p2 p3 p4 p5 p6 p7 hfin
            dsimp only [kstB] at F
            subst hfin
            have N' : News g L1 h (X.led w ln1 tl1 vs1 k1 ++ (fixed ++ ((it, callIt q (z3 + 1 + 1 + 1)) :: (q, methodObj (.ref 115) (.ref X.x)) :: (X.pb, W.listOf #[] ep) :: news))) := N
            clear N
            k_dflt (refine' next_lex rd B1 F X1 N' T1 codeHd rfl ?hd ?hu p1 (hnd _) (hnl _) ?hne ?hnx p2 p3 p4 ?_ ?_)
            case hd => ktr_room
            case hu => ktr_units
            case hne => exact fun p hp => hap p (List.mem_append_right _ hp)
            case hnx => exact hap (X.x, instObj 132 X.d) (.tail _ (.tail _ (.head _)))
            · intro c r t vs2 k2 ln2 tl2 h2 tk2 hcs F2 N2 hvs2 hl02 hl12
              subst hcs
              clear F N'
              have hlen2 : r.length < 10000 := by simp only [List.length_cons] at p4; omega
              have htok2 : tok.length + r.length < 19999 := by simp only [List.length_cons] at p5; omega
              dsimp only [LX.led, List.cons_append, List.nil_append] at N2
              by_cases hws : isWs c = true
              · k_steps
                try dsimp only [TurnE]
                k_steps
                have e : (tok, r) = res := by rw [← p6]; unfold lexRun; rw [if_pos hws]
                subst e
                exact hret tt vs2 k2 ln2 tl2 _ _ (by k_asm) (cb_drop (by assumption) sub2) hvs2 hl02 hl12
              · by_cases h92 : c = 92
                · have e : lexRun Md.bareE tok r = res := by rw [← p6]; conv => rhs; unfold lexRun
                                                             rw [if_neg hws, if_pos h92]
                  have hz0 := hdS_len r
                  have hzt := tail_le r
                  have hz1 : r.tail.length < 10000 := by omega
                  have hz2 := hd_bd htok2
                  k_steps
                  exact ⟨⟨tok ++ hdS r, _, r.tail, _, _, _, _, false⟩, ⟨⟨by assumption, by assumption, by assumption, hz1, hz2, lex_bareE e, fun e => nomatch e⟩, rfl⟩, (by show r.tail.length < r.length + 1; omega),
                    At.intro (by k_asm) (by k_asm) ⟨rfl, rfl, rfl, True.intro⟩ fun p hp => hp⟩
                · have e : lexRun Md.bare (tok ++ ⟨#[c]⟩) r = res := by rw [← p6]; conv => rhs; unfold lexRun
                                                                        rw [if_neg hws, if_neg h92]
                  have hz2 : (tok ++ ⟨#[c]⟩ : Str).length + r.length < 20000 := by rw [len_one]; omega
                  k_steps
                  exact ⟨⟨tok ++ ⟨#[c]⟩, _, r, vs2, k2, ln2, tl2, false⟩, ⟨⟨hvs2, hl02, hl12, hlen2, hz2, e, fun e => nomatch e⟩, rfl⟩, by simp,
                    At.intro (by k_asm) (by k_asm) ⟨rfl, rfl, rfl, True.intro⟩ fun p hp => hp⟩
            · intro vs2 k2 ln2 tl2 h2 tk2 hcs F2 N2 hvs2 hl02 hl12
              subst hcs
              clear F N'
              have hz9 : ([] : List Nat).length < 10000 := by decide
              dsimp only
              k_steps
              exact ⟨⟨tok, tt, [], vs2, k2, ln2, tl2, true⟩, ⟨hvs2, hl02, (by simpa using hl12), hz9, p5, p6, fun _ => rfl⟩, by simp,
                At.intro (by k_asm) (by k_asm) ⟨rfl, rfl, rfl, True.intro⟩ fun p hp => hp⟩

          · have e0 : lexRun Md.bare (tok ++ ⟨#[c]⟩) r = res := by rw [← p6]; conv => rhs; unfold lexRun
                                                                   rw [if_neg hws, if_neg h34, if_neg h92]
            have hz2 : (tok ++ ⟨#[c]⟩ : Str).length + r.length < 20000 := by rw [len_one]; omega
            k_steps
            refine Loop.rule (σ := TC) (fun c => c.Ok Md.bare res ∧ c.fin = false) (fun c => [(Str.ofString "self", .ref X.x), (Str.ofString "token", .str c.tok c.tt), (Str.ofString "fiter", .ref it)])
              (TC.led X w fixed it q (z3 + 1 + 1 + 1) ((X.pb, W.listOf #[] ep) :: news)) (fun c => c.cs.length)
              ⟨tok ++ ⟨#[c]⟩, _, r, vs2, k2, ln2, tl2, false⟩ ⟨⟨hvs2, hl02, hl12, hlen2, hz2, e0, fun e => nomatch e⟩, rfl⟩ (At.intro (by k_asm) (by k_asm) ⟨rfl, rfl, rfl, True.intro⟩ fun p hp => hp) ?_
            refine TC.all ?_
            intro tok tt cs1 vs1 k1 ln1 tl1 fin
            rintro ⟨⟨p1, p2, p3, p4, p5, p6, p7⟩, hfin⟩
            intro h tk mm F N
            dsimp only at p1 p2 p3 p4 p5 p6 p7 hfin
            dsimp only [kstB] at F
            subst hfin
            have N' : News g L1 h (X.led w ln1 tl1 vs1 k1 ++ (fixed ++ ((it, callIt q (z3 + 1 + 1 + 1)) :: (q, methodObj (.ref 115) (.ref X.x)) :: (X.pb, W.listOf #[] ep) :: news))) := N
            clear N
            k_dflt (refine' next_lex rd B1 F X1 N' T1 codeHd rfl ?hd ?hu p1 (hnd _) (hnl _) ?hne ?hnx p2 p3 p4 ?_ ?_)
            case hd => ktr_room
            case hu => ktr_units
            case hne => exact fun p hp => hap p (List.mem_append_right _ hp)
            case hnx => exact hap (X.x, instObj 132 X.d) (.tail _ (.tail _ (.head _)))
            · intro c r t vs2 k2 ln2 tl2 h2 tk2 hcs F2 N2 hvs2 hl02 hl12
              subst hcs
              clear F N'
              have hlen2 : r.length < 10000 := by simp only [List.length_cons] at p4; omega
              have htok2 : tok.length + r.length < 19999 := by simp only [List.length_cons] at p5; omega
              dsimp only [LX.led, List.cons_append, List.nil_append] at N2
              by_cases hws : isWs c = true
              · k_steps
                try dsimp only [TurnE]
                k_steps
                have e : (tok, r) = res := by rw [← p6]; unfold lexRun; rw [if_pos hws]
                subst e
                exact hret tt vs2 k2 ln2 tl2 _ _ (by k_asm) (cb_drop (by assumption) sub2) hvs2 hl02 hl12
              · by_cases h92 : c = 92
                · have e : lexRun Md.bareE tok r = res := by rw [← p6]; conv => rhs; unfold lexRun
                                                             rw [if_neg hws, if_pos h92]
                  have hz0 := hdS_len r
                  have hzt := tail_le r
                  have hz1 : r.tail.length < 10000 := by omega
                  have hz2 := hd_bd htok2
                  k_steps
                  exact ⟨⟨tok ++ hdS r, _, r.tail, _, _, _, _, false⟩, ⟨⟨by assumption, by assumption, by assumption, hz1, hz2, lex_bareE e, fun e => nomatch e⟩, rfl⟩, (by show r.tail.length < r.length + 1; omega),
                    At.intro (by k_asm) (by k_asm) ⟨rfl, rfl, rfl, True.intro⟩ fun p hp => hp⟩
                · have e : lexRun Md.bare (tok ++ ⟨#[c]⟩) r = res := by rw [← p6]; conv => rhs; unfold lexRun
                                                                        rw [if_neg hws, if_neg h92]
                  have hz2 : (tok ++ ⟨#[c]⟩ : Str).length + r.length < 20000 := by rw [len_one]; omega
                  k_steps
                  exact ⟨⟨tok ++ ⟨#[c]⟩, _, r, vs2, k2, ln2, tl2, false⟩, ⟨⟨hvs2, hl02, hl12, hlen2, hz2, e, fun e => nomatch e⟩, rfl⟩, by simp,
                    At.intro (by k_asm) (by k_asm) ⟨rfl, rfl, rfl, True.intro⟩ fun p hp => hp⟩
            · intro vs2 k2 ln2 tl2 h2 tk2 hcs F2 N2 hvs2 hl02 hl12
              subst hcs
              clear F N'
              have hz9 : ([] : List Nat).length < 10000 := by decide
              dsimp only
              k_steps
              exact ⟨⟨tok, tt, [], vs2, k2, ln2, tl2, true⟩, ⟨hvs2, hl02, (by simpa using hl12), hz9, p5, p6, fun _ => rfl⟩, by simp,
                At.intro (by k_asm) (by k_asm) ⟨rfl, rfl, rfl, True.intro⟩ fun p hp => hp⟩

    · intro vs2 k2 ln2 tl2 h2 tk2 hcs F2 N2 hvs2 hl02 hl12
      subst hcs
      clear F N'
      dsimp only
      k_steps
      obtain rfl : (tok, []) = res := p6
      exact hret tt vs2 k2 ln2 tl2 _ _ (by k_asm) (cb_drop (by assumption) sub2) hvs2 hl02 (by simpa using hl12)

section
open PySem.W
variable {prog : Program} {w : World} {A : Around} {E : Value → Shared → Prop} {s : Shared} {h₀ : Heap} {L : Addr} {m : Env1} {news news' : Led}
/-- l += r, both lists -/
theorem iadd_lists {D b : Addr} {xs ys : List Value} {n k : Nat} {Q : Value → Shared → Prop} (F : Fr h₀ L s.heap m) (N : News h₀ L s.heap news) (U : Upd D (W.listOf xs.toArray n) (W.listOf (xs ++ ys).toArray (n + 1)) news news')
    (hb : (b, W.listOf ys.toArray k) ∈ news) (hx : xs.length < 1000) (hy : ys.length < 1000) (hy0 : ys.length ≠ 0) (h : ∀ h', Fr h₀ L h' m → News h₀ L h' news' → Q (.ref D) { s with heap := h' }) :
    wpAny (model prog w) A (inplaceOp .Add (.ref D) (.ref b)) Q E s := by
  obtain ⟨pre, post, rfl, rfl, e1, e2⟩ := U.split
  have hD := N (D, W.listOf xs.toArray n) (List.mem_append_right _ (.head _))
  have hB := N _ hb
  have ta : s.TypeIs (.ref D) "list" := ⟨_, hD.1, rfl⟩
  have tb : s.TypeIs (.ref b) "list" := ⟨_, hB.1, rfl⟩
  have fi : fillsInplaceSlot (.type "list") "add" (Operator.Add == .Add) = pure false := by
    unfold fillsInplaceSlot
    show (typeLookup (.type "list") (dunderI "add") >>= fun fi => pure (fi.isSome && !isSeqSlot fi)) = pure false
    rw [PySem.F.slot_list_iadd.lookup]
    have e : isSeqSlot (some (.builtin "list.__iadd__")) = true := by decide +kernel
    show (pure (true && !isSeqSlot (some (.builtin "list.__iadd__"))) : Sem Bool) = pure false
    rw [e]; rfl
  have sq : seqSlot? (.type "list") (dunderI "add") = pure (some (.builtin "list.__iadd__")) := PyProof.Rows.seqSlot_of PySem.F.slot_list_iadd.lookup (by decide +kernel)
  unfold inplaceOp
  refine wpAny_holding (wpAny_bind (wpAny_typeOf ta (wpAny_bind (wpAny_of_eq fi ?_))))
  show wpAny _ A (if false = true then _ else _) Q E s
  rw [if_neg Bool.false_ne_true]
  refine wpAny_bind (binaryOp1_none (nm := "add") ta tb noFill_list_add ?_)
  refine wpAny_bind (wpAny_of_eq sq ?_)
  refine wpAny_bind (wpAny_rule ?_)
  have hz : xs.toArray.size + ys.toArray.size ≤ sizeLine := by rw [sizeLine_eq, List.size_toArray, List.size_toArray]; omega
  refine call_meets PySem.F.slot_list_iadd ta PySem.F.entry_list_iadd (PySem.F.args_list_iadd_2 _ _) (AutoSeq1.list___iadd___list_list_0 D xs.toArray n b ys.toArray k (extend_door hz) (Nat.le_trans (Nat.le_add_right _ _) hz) (Nat.le_succ_of_le hz)) ⟨hD.1, hB.1, ?_⟩
  refine h _ (F.change (Heap.SameBut.update ..) hD.2.1 hD.2.2) (kl_turn _ N e1 e2 ?_ ?_)
  · apply Array.toList_inj.mp
    simp
  · simp only [List.size_toArray, List.length_append]; omega
end
--<M
local macro_rules | `(tactic| walk_at "inplaceOp Add ref ref") => `(tactic| (k_here; (with_reducible refine gdIadd ?_); k_dflt (refine' iadd_lists ?F ?N ?U ?m ?hx ?hy ?h0 ?_; (case F | N => k_asm); (case U => k_upd); (case m => k_mem); (case hx => (simp only [List.length_cons, List.length_nil]; omega)); (case hy => (simp only [List.length_cons, List.length_nil]; omega)); (case h0 => (simp only [List.length_cons, List.length_nil]; omega)); k_whole); intro h' F' N'; (try simp only [List.cons_append, List.nil_append] at N')))
--M>
/-- what _law_product reckons -/
noncomputable def prodL (k : Int) (is : List Int) : Int := is.foldl (· * ·) k
noncomputable def prodOf (n : Int) (ns : List Int) : Int := ns.foldl (fun p run => prodL p (rangeKs 2 (run * n - 1).toNat)) 1
set_option maxHeartbeats 8000000 in
theorem product_claim (w : World) (mean : ExcName → Option Value) (mg mb : Str → Option Value) (news : Led) (l : Addr) (vs : List Value) (ns : List Int) (ep : Nat) (hi : IntsAre vs ns) (n : Int) (tn : Tok) (hns : ∀ z ∈ ns, 0 ≤ z ∧ z ≤ 100) (hn : 0 ≤ n ∧ n ≤ 100) :
   Claim w mean mg mb 160 ((l, W.listOf vs.toArray ep) :: news) [.ref l, .int n tn] 3 (fun v news' => ∃ t, v = .int (prodOf n ns) t ∧ news' = (l, W.listOf vs.toArray ep) :: news) := by
  unfold Claim
  w_top off
  k_fill
  have mine_on : MineOn := True.intro
  have eps_on : EpsOn := True.intro
  haveI := neSh; haveI := neAr; haveI := neWo
  revert w mean mg mb news l vs ns ep n tn
  intro w mean mg mb news l vs ns ep hi n tn hns hn
  intro dp un gd cn cs a ccd cl outer A₀ base h₀ L m s Q E B F X N T hk hd hu hret
  k_steps
  rename_i g L1 z1 FG B1 X1 T1 z4 it o h1 F1 N1 ho l9
  have hnn : vs.length = ns.length := hi.length
  refine Loop.iter (σ := Int × Tok) (iter_of_list it l vs ep) rfl (fun i c => c.1 = prodOf n (ns.take i))
    (fun c => [(Str.ofString "times", .int n tn), (Str.ofString "product", .int c.1 c.2)])
    (fun _ => (l, W.listOf vs.toArray ep) :: news) (1, _) rfl ho (At.intro F1 N1 ⟨rfl, rfl, True.intro⟩ fun q hq => hq) (fun _ _ _ => fun q hq => by
      rcases List.mem_cons.mp hq with rfl | hq
      · exact Nat.ne_of_lt l9.1
      · exact Nat.ne_of_lt (allLt_mem l9.2 q hq)) (fun _ _ _ q hq => by rw [List.mem_singleton.mp hq]; exact .head _) ?_ ?_
  · intro i
    refine pr_all ?_
    intro p tp hi' hP v o h tk mm hv ho F N
    (have hx9 := IntsAre.at hi i v hv; revert hx9; refine ex_imp ?_; intro run; refine ex_imp ?_; intro tr; rintro ⟨rfl, hr⟩)
    have hb := hns run (List.mem_of_getElem? hr)
    have hm : 0 ≤ run * n ∧ run * n ≤ 100 * 100 := ⟨Int.mul_nonneg hb.1 hn.1, Int.mul_le_mul hb.2 hn.2 hn.1 (by decide)⟩
    have hP' : prodOf n (ns.take (i + 1)) = prodL p (rangeKs 2 (run * n - 1).toNat) := by
      rw [List.take_add_one, hr]
      dsimp only at hP
      rw [hP]
      unfold prodOf
      rw [List.foldl_append]
      rfl
    dsimp only [kstB] at F
    k_steps
    rename_i it2 h2 F2 N2 l8
    have e0 : (run * n + 1 - 2).toNat = (run * n - 1).toNat := by omega
    rw [e0] at N2
    refine Loop.iter (σ := Int × Tok) (iter_of_range it2 2 (run * n - 1).toNat) rfl (fun i c => c.1 = prodL p (rangeKs 2 i))
      (fun c => [(Str.ofString "times", .int n tn), (Str.ofString "product", .int c.1 c.2)])
      (fun _ => (it, o) :: (l, W.listOf vs.toArray ep) :: news) (p, tp) rfl rng0 (At.intro F2 N2 ⟨rfl, rfl, True.intro⟩ fun q hq => hq) (fun _ _ _ => fun q hq => by
        rcases List.mem_cons.mp hq with rfl | hq
        · exact Nat.ne_of_lt l8.1
        · rcases List.mem_cons.mp hq with rfl | hq
          · exact Nat.ne_of_lt l8.2.1
          · exact Nat.ne_of_lt (allLt_mem l8.2.2 q hq)) (fun _ _ _ q hq => nomatch hq) ?_ ?_
    · intro j
      refine pr_all ?_
      intro p2 tp2 hj hP2 v o2 h tk mm
      refine ex_imp ?_
      intro tv
      rintro rfl
      intro ho2 F N
      dsimp only [kstB] at hP2 F
      have hj2 : 0 ≤ 2 + (j : Int) ∧ 2 + (j : Int) < 20000 := by omega
      k_steps
      refine TurnI.next (p2 * (2 + (j : Int)), _) (by k_asm) (by k_asm) ?_ ⟨rfl, rfl, True.intro⟩ ho2 fun q hq => hq
      dsimp only
      rw [rangeKs_snoc]; unfold prodL at hP2 ⊢; rw [List.foldl_append, ← hP2]; rfl
    · refine pr_all ?_
      intro p2 tp2 hP2 h tk mm F N
      dsimp only [kstB] at hP2 F
      k_steps
      exact TurnI.next (p2, tp2) (by k_asm) (by k_asm) (by dsimp only; rw [hP', hP2]) ⟨rfl, rfl, True.intro⟩ ho fun q hq => hq
  · refine pr_all ?_
    intro p tp hP h tk mm F N
    dsimp only [kstB] at hP F
    k_steps
    have e : p = prodOf n ns := by rw [hP, hnn, List.take_length]
    exact hret _ _ _ _ (by k_asm) (by k_asm) ⟨tp, by rw [e], rfl⟩

section
open LCg
variable {prog : Program} {w : World} {A : Around} {E : Value → Shared → Prop} {s : Shared} {h₀ : Heap} {L : Addr} {m : Str → Option Value} {env : Env}
/-- a comprehension over a text's signs: the iterable is told -/
noncomputable def SgnSrc (prog : Program) (w : World) (A : Around) (h₀ : Heap) (L : Addr) (m : Str → Option Value) (env : Env) (elt : PySem.Expr) (x : Str) (scope : Scope) (cl : List (Str × Addr)) (Q : Value → Shared → Prop) (xv : Value) (s₁ : Shared) : Prop :=
  ∃ (y : Str) (t : Tok) (news : Led) (g : Nat → Str), xv = .str y t ∧ y.cps.all (· < 128) = true ∧ y.length < 1000 ∧ A.handled = none ∧ Fr h₀ L s₁.heap m ∧ News h₀ L s₁.heap news ∧
    (∀ c u I oI C oC D m₂ vs h tk (E' : Value → Shared → Prop), NsObj oC m₂ → m₂ x = some (.str ⟨#[c]⟩ u) → Fr h₀ L h m → News h₀ L h ((I, oI) :: (C, oC) :: (D, lst vs) :: news) → Off3 I C D news → ((@Ne Nat I C) ∧ (@Ne Nat I D) ∧ (@Ne Nat C D)) →
      wpAny (model prog w) A (eval elt (compEnvC scope cl C env)) (CompEnd h₀ L m { s₁ with heap := h, toks := tk } I oI C oC D (lst vs) (fun _ => True) (fun v news' => news' = news ∧ ∃ t, v = .str (g c) t)) E' { s₁ with heap := h, toks := tk }) ∧
    (∀ D vs h tk, Fr h₀ L h m → News h₀ L h ((D, lst vs) :: news) → Off1 D news → StrsAre vs (y.cps.toList.map g) → Q (.ref D) { s₁ with heap := h, toks := tk })
theorem ListComp_S {elt iter : PySem.Expr} {x : Str} {px : Pos} {scope : Scope} {cl : List (Str × Addr)} {pos : Pos} {Q : Value → Shared → Prop} (_ : Fr h₀ L s.heap m)
    (hclos : closureFor scope env = pure cl) (hcell : ∀ y ∈ scope.names, y.2 ≠ .cell) (hkind : scope.kind = .function)
    (hnames : ∀ y ∈ scope.names, y.2 = .local → scope.names.lookup y.1 = some .local) (hx : scope.names.lookup x = some .local)
    (h : wpAny (model prog w) A (eval iter env) (SgnSrc prog w A h₀ L m env elt x scope cl Q) E s)
    (hs : ∀ x, foldedSetIterable iter env x = pure x := by intro _; rfl) :
    wpAny (model prog w) A (eval (.ListComp elt [⟨.Name x px, iter, [], 0⟩] scope pos) env) Q E s := by
  rw [eval_ListComp]
  refine wpAny_comprehension_free (use := none) rfl hs hclos hkind hnames (wpAny_mono h (fun xv s₁ h₁ => ?_) fun _ _ e => e)
  obtain ⟨y, t, news, g, rfl, ha, hl, hh, F, N, turn, fin⟩ := h₁
  refine wpAny_pyIter_ascii ha ?_
  have up : ∀ b o, s₁.heap.get? b = some o → (s₁.heap.push { cls := .type "str_ascii_iterator", data := .fields #[.str y t, .int 0 0] }).get? b = some o := fun b o e => Heap.get?_push_of_some _ e
  refine block_U (S := fun _ => True) (Fin := fun ys nw => nw = news ∧ StrsAre ys (y.cps.toList.map g)) (Walks.strAscii hh s₁.heap.objs.size y t) (by rw [sizeLine_eq]; show y.length ≤ _; omega) (fun i h st => by obtain ⟨o, e, _⟩ := st; exact ⟨o, e⟩)
    (fun i h h' o nw st e e' _ _ _ => by obtain ⟨o', q, r⟩ := st; rw [e] at q; cases q; exact ⟨o, e', r⟩) hcell hkind hx ⟨_, Heap.get?_push_size _ rfl, rfl, rfl⟩ (fun b hb => ?_)
    (F.keeps up) (N.grown up) (Nat.ne_of_lt F.ns.lt) (next_is_new F) (fun p hp => Nat.ne_of_lt (Heap.lt_size (N p hp).1)) True.intro ?_ ?_
  · rw [List.mem_singleton.mp hb]
    show s₁.heap.objs.size < (s₁.heap.push _).objs.size
    rw [Heap.size_push]; exact Nat.lt_succ_self _
  · have key : ∀ (j i : Nat) (ys : List Value), i + j = y.cps.size → StrsAre ys ((y.cps.toList.take i).map g) → CompRest prog w A h₀ L m env elt x scope cl { s₁ with heap := s₁.heap.push { cls := .type "str_ascii_iterator", data := .fields #[.str y t, .int 0 0] } } (fun _ => True) (SignAt y) (fun ys nw => nw = news ∧ StrsAre ys (y.cps.toList.map g)) j i ys news := by
      intro j
      induction j with
      | zero =>
        intro i ys hi hy
        refine CompRest.zero ⟨rfl, ?_⟩
        rw [List.take_of_length_le (by rw [Array.length_toList]; omega)] at hy
        exact hy
      | succ j ih =>
        intro i ys hi hy
        refine CompRest.succ ?_
        intro v I oI C oC D m₂ h tk E' hv hC hx F N off ne
        obtain ⟨c, u, hc, rfl⟩ := hv
        refine wpAny_mono (turn c u I oI C oC D m₂ ys h tk E' hC hx F N off ne) (fun y s₂ hq => ?_) fun _ _ e => e
        obtain ⟨h', tk', nw, e, F', N', off', hS, rfl, t', rfl⟩ := hq
        refine ⟨h', tk', _, e, F', N', off', hS, ih (i + 1) _ (by omega) ?_⟩
        have hc' : y.cps.toList[i]? = some c := by rw [Array.getElem?_toList]; exact hc
        rw [List.take_add_one, hc', List.map_append]
        exact strs_snoc hy _ _
    exact key _ 0 [] (Nat.zero_add _) (by simp only [List.take_zero, List.map_nil]; exact .nil)
  · rintro D C h tk m' ys news' F' N' o1 hn hC₀ hD₀ hCL hDL hCD offC ⟨rfl, hys⟩
    refine ⟨m', hn, fun h'' hs'' => fin D ys h'' tk (F'.change hs'' hCL hC₀) (fun p hp => ?_) o1 hys⟩
    refine ⟨hs''.extBut _ _ ?_ (N' p hp).1, (N' p hp).2⟩
    rcases List.mem_cons.mp hp with rfl | hp
    · exact Ne.symm hCD
    · exact offC p hp
end
--<M
local macro_rules | `(tactic| walk_at "eval ListComp") => `(tactic| (k_here; (with_reducible show wpAny _ _ (eval (Expr.ListComp _ [⟨Expr.Name _ _, Expr.Name _ _, _, _⟩] _ _) _) _ _ _); k_dflt (refine ListComp_S (by k_asm) (by with_unfolding_all rfl) (by decide) (by rfl) (by decide) (by rfl) ?_)))
local macro_rules | `(tactic| walk_at "call builtin:str.join") => `(tactic| (k_here; (with_reducible refine gdJoin ?_); k_dflt (refine join_list (News.isList (by k_asm) (by k_mem)) (by assumption) (by assumption) ?_); intro t' tk'))
--M>
/-- a lead, written so that the lexer reads it as one word -/
noncomputable def slashed (lead : Str) : List Str := lead.cps.toList.map fun c => Str.ofString "\\" ++ ⟨#[c]⟩
noncomputable def writ (q : Int) (lead : Str) : Str := if q ≠ 0 then (Str.ofString "\"" ++ lead) ++ Str.ofString "\"" else Txt.join (Str.ofString "") (slashed lead)
theorem sum_le_of {α : Type} (f : α → Nat) (k : Nat) : ∀ l : List α, (∀ a ∈ l, f a ≤ k) → (l.map f).sum ≤ k * l.length
  | [], _ => Nat.zero_le _
  | a :: r, h => by
    have h1 := h a (.head _)
    have h2 := sum_le_of f k r fun b hb => h b (.tail _ hb)
    simp only [List.map_cons, List.sum_cons, List.length_cons, Nat.mul_add, Nat.mul_one]
    omega
theorem slash_bd (lead : Str) (hl : lead.length < 1000) : ((slashed lead).map (·.length)).sum + (slashed lead).length * (Str.ofString "").length ≤ 16777216 := by
  have e : (slashed lead).length = lead.length := by simp [slashed, Str.length]
  have h1 := sum_le_of (fun x : Str => x.length) 2 (slashed lead) (fun a ha => by
    obtain ⟨c, _, rfl⟩ := List.mem_map.mp ha
    rw [len_one]
    decide)
  rw [e] at h1
  rw [show (Str.ofString "").length = 0 by decide]
  omega
set_option maxHeartbeats 8000000 in
theorem written_claim (w : World) (mean : ExcName → Option Value) (mg mb : Str → Option Value) (news : Led) (lead : Str) (t : Tok) (q : Int) (tq : Tok) (hl : lead.length < 1000) (ha : lead.cps.all (· < 128) = true) :
   Claim w mean mg mb 148 news [.str lead t, .int q tq] 3 (fun v news' => ∃ t, v = .str (writ q lead) t ∧ news' = news) := by
  unfold Claim
  w_top off
  k_fill
  have mine_on : MineOn := True.intro
  have eps_on : EpsOn := True.intro
  haveI := neSh; haveI := neAr; haveI := neWo
  revert w mean mg mb news lead t q tq
  intro w mean mg mb news lead t q tq hl ha
  intro dp un gd cn cs a ccd cl outer A₀ base h₀ L m s Q E B F X N T hk hd hu hret
  k_steps
  · have e : writ q lead = (Str.ofString "\"" ++ lead) ++ Str.ofString "\"" := by unfold writ; rw [if_pos (by assumption)]
    exact hret _ _ _ _ (by k_asm) (by k_asm) ⟨_, congrArg (fun x => Value.str x _) e.symm, rfl⟩
  · refine ⟨lead, t, news, fun c => Str.ofString "\\" ++ ⟨#[c]⟩, rfl, ha, hl, rfl, by k_asm, by k_asm, ?_, ?_⟩
    · intro c u I oI C oC D m₂ vs h tk E' hC hx F N off ne
      k_steps
      exact LCg.CompEnd.intro (by k_asm) (by k_asm) news (fun p hp => hp) off True.intro ⟨rfl, _, rfl⟩
    · intro D vs h tk F N o1 hvs
      have hb := slash_bd lead hl
      dsimp only
      k_steps
      have e : writ q lead = Txt.join (Str.ofString "") (slashed lead) := by unfold writ; rw [if_neg (fun h => h (by omega))]
      exact hret _ _ _ _ (by k_asm) (cb_drop (by assumption) fun q hq => .tail _ hq) ⟨_, congrArg (fun x => Value.str x _) e.symm, rfl⟩


/-- a list of pairs of a number and a text -/
inductive PairsAre (news : Led) : List Value → List (Int × Str) → Prop
  | nil : PairsAre news [] []
  | cons {t : Addr} {z : Int} {tz : Tok} {y : Str} {ty : Tok} {n : Nat} {vs : List Value} {ps : List (Int × Str)} : (t, tupOf [.int z tz, .str y ty] n) ∈ news → PairsAre news vs ps → PairsAre news (.ref t :: vs) ((z, y) :: ps)
theorem PairsAre.at {news : Led} {vs : List Value} {ps : List (Int × Str)} (h : PairsAre news vs ps) : ∀ {i : Nat} {v : Value}, vs[i]? = some v → ∃ t z tz y ty n, v = .ref t ∧ (t, tupOf [.int z tz, .str y ty] n) ∈ news ∧ ps[i]? = some (z, y) := by
  induction h with
  | nil => intro i v e; simp at e
  | cons hm _ ih =>
    intro i v e
    cases i with
    | zero => exact ⟨_, _, _, _, _, _, by simpa using e.symm, hm, rfl⟩
    | succ i => exact ih (by simpa using e)
theorem PairsAre.len {news : Led} {vs : List Value} {ps : List (Int × Str)} (h : PairsAre news vs ps) : vs.length = ps.length := by
  induction h with
  | nil => rfl
  | cons _ _ ih => simp [ih]
section
open LCg LCp
variable {prog : Program} {w : World} {A : Around} {s : Shared} {h₀ : Heap} {L : Addr} {m : Str → Option Value} {env : Env}
theorem restP_key {elt : PySem.Expr} {x x₂ : Str} {scope : Scope} {cl : List (Str × Addr)} {S : Led → Prop} {Fin : List Value → Led → Prop} {news : Led} {its : List Value} {ps : List (Int × Str)} (hp : PairsAre news its ps) (g : Int → Str → Str)
    (turn : ∀ z tz y ty, (z, y) ∈ ps → ∀ I oI C oC D m₂ vs h tk (E' : Value → Shared → Prop), NsObj oC m₂ → m₂ x = some (.int z tz) → m₂ x₂ = some (.str y ty) → Fr h₀ L h m → News h₀ L h ((I, oI) :: (C, oC) :: (D, lst vs) :: news) → Off3 I C D news → ((@Ne Nat I C) ∧ (@Ne Nat I D) ∧ (@Ne Nat C D)) →
      wpAny (model prog w) A (eval elt (compEnvC scope cl C env)) (CompEnd h₀ L m { s with heap := h, toks := tk } I oI C oC D (lst vs) S (fun v news' => news' = news ∧ ∃ t, v = .str (g z y) t)) E' { s with heap := h, toks := tk })
    (fin : ∀ vs, StrsAre vs (ps.map fun q => g q.1 q.2) → Fin vs news) :
    CompRestP prog w A h₀ L m env elt x x₂ scope cl s S (fun i v => its.toArray[i]? = some v) Fin its.toArray.size 0 [] news := by
  have key : ∀ (j i : Nat) (ys : List Value), i + j = ps.length → StrsAre ys ((ps.take i).map fun q => g q.1 q.2) → CompRestP prog w A h₀ L m env elt x x₂ scope cl s S (fun i v => its.toArray[i]? = some v) Fin j i ys news := by
    intro j
    induction j with
    | zero =>
      intro i ys hi hy
      refine CompRestP.zero (fin ys ?_)
      rw [List.take_of_length_le (by omega)] at hy
      exact hy
    | succ j ih =>
      intro i ys hi hy
      refine CompRestP.succ ?_
      intro v hv
      obtain ⟨t, z, tz, y, ty, n, rfl, hm, hz⟩ := hp.at (i := i) (v := v) (by simpa using hv)
      refine ⟨t, _, .int z tz, .str y ty, n, rfl, hm, rfl, rfl, ?_⟩
      intro I oI C oC D m₂ h tk E' hC hx hx₂ F N off ne
      refine wpAny_mono (turn z tz y ty (List.mem_of_getElem? hz) I oI C oC D m₂ ys h tk E' hC hx hx₂ F N off ne) (fun y s₂ hq => ?_) fun _ _ e => e
      obtain ⟨h', tk', nw, e, F', N', off', hS, rfl, t', rfl⟩ := hq
      refine ⟨h', tk', _, e, F', N', off', hS, ih (i + 1) _ (by omega) ?_⟩
      rw [List.take_add_one, hz, List.map_append]
      exact strs_snoc hy _ _
  rw [List.size_toArray, hp.len]
  exact key _ 0 [] (Nat.zero_add _) (by simp only [List.take_zero, List.map_nil]; exact .nil)
end
noncomputable def powers : List (Int × Str) := [(2, Str.ofString "a"), (4, Str.ofString "a"), (8, Str.ofString "a"), (16, Str.ofString "a"), (3, Str.ofString "b"), (9, Str.ofString "b"), (5, Str.ofString "c"), (7, Str.ofString "d"), (11, Str.ofString "e"), (13, Str.ofString "f"), (17, Str.ofString "g"), (19, Str.ofString "h")]
noncomputable def letters (st : WS) (z : Int) (y : Str) : Str := Txt.mul y ((indOf st z).fdiv z - st.nt)
noncomputable def primesOf (st : WS) : Str := Txt.join (Str.ofString "") (powers.map fun q => letters st q.1 q.2)
theorem powers_ok : ∀ z y, (z, y) ∈ powers → 2 ≤ z ∧ z ≤ 19 ∧ y.length = 1 := by
  have e : powers.all (fun q => decide (2 ≤ q.1) && decide (q.1 ≤ 19) && decide (q.2.length = 1)) = true := by decide +kernel
  intro z y h
  have := List.all_eq_true.mp e _ h
  simp only [Bool.and_eq_true, decide_eq_true_eq] at this
  exact ⟨this.1.1, this.1.2, this.2⟩
theorem letters_bd (st : WS) (ok : WsOk st) (hbd : ∀ z, 2 ≤ z → z ≤ 19 → 0 ≤ (indOf st z).fdiv z ∧ (indOf st z).fdiv z ≤ 10000) :
    ((powers.map fun q => letters st q.1 q.2).map (·.length)).sum + (powers.map fun q => letters st q.1 q.2).length * (Str.ofString "").length ≤ 16777216 := by
  have h1 := sum_le_of (fun x : Str => x.length) 10000 (powers.map fun q => letters st q.1 q.2) (fun a ha => by
    obtain ⟨q, hq, rfl⟩ := List.mem_map.mp ha
    obtain ⟨a1, a2, a3⟩ := powers_ok q.1 q.2 hq
    obtain ⟨b1, b2⟩ := hbd q.1 a1 a2
    have c := ok.nt
    have d := len_mul q.2 ((indOf st q.1).fdiv q.1 - st.nt)
    rw [a3] at d
    unfold letters
    split at d <;> omega)
  rw [show (Str.ofString "").length = 0 by decide]
  rw [List.length_map] at h1
  have e : powers.length = 12 := rfl
  omega
section
local macro_rules | `(tactic| walk_at "eval ListComp") => `(tactic| (k_here; (with_reducible show wpAny _ _ (eval (Expr.ListComp _ [⟨Expr.Tuple _ _ _, _, _, _⟩] _ _) _) _ _ _); (with_reducible refine Halt.mk ?_)))
local macro_rules | `(tactic| walk_at "binaryOp Mult str int") => `(tactic| (k_here; refine SB.mul (by assumption) ?_; intro _ _))
set_option maxHeartbeats 4000000 in
theorem primes_claim (w : World) (mean : ExcName → Option Value) (mg mb : Str → Option Value) (news : Led) (x dx p cc : Addr) (raw : Value) (vs : List Value) (st : WS) (tb tn tt k1 k2 k3 k4 k5 : Tok) (hi : IntsAre vs st.ns) (ok : WsOk st)
    (hbd : ∀ z, 2 ≤ z → z ≤ 19 → 0 ≤ (indOf st z).fdiv z ∧ (indOf st z).fdiv z ≤ 10000) :
   Claim w mean mg mb 153 (wsLed w x dx p cc raw vs st tb tn tt k1 k2 k3 k4 k5 ++ news) [.ref x] 6 (fun v news' => ∃ t, v = .str (primesOf st) t ∧ news' = wsLed w x dx p cc raw vs st tb tn tt k1 k2 k3 k4 k5 ++ news) := by
  unfold Claim
  w_top off
  k_fill
  have mine_on : MineOn := True.intro
  have eps_on : EpsOn := True.intro
  haveI := neSh; haveI := neAr; haveI := neWo; haveI := neWS
  revert w mean mg mb news x dx p cc raw vs st tb tn tt k1 k2 k3 k4 k5
  intro w mean mg mb news x dx p cc raw vs st tb tn tt k1 k2 k3 k4 k5 hi ok hbd
  intro dp un gd cn cs a ccd cl outer A₀ base h₀ L m s Q E B F X N T hk hd hu hret
  simp only [List.cons_append, List.nil_append] at N
  k_steps
  unfold Halt
  refine' LCp.ListComp_P ?F ?hclos ?hcell ?hkind ?hnames ?hx ?hx2 ?hxx ?_
  case F => k_asm
  case hclos => exact rfl
  case hcell => decide
  case hkind => exact rfl
  case hnames => decide
  case hx => exact rfl
  case hx2 => exact rfl
  case hxx => decide
  k_whole
  (iterate 1 (walk_at "my_step"))
  refine LCp.SrcLP.ledger rfl (by k_asm) (by k_asm) (by k_mem) (by exact Nat.le_of_ble_eq_true rfl) ?_
  intro g'
  refine restP_key (ps := powers) (.cons (by k_mem) (.cons (by k_mem) (.cons (by k_mem) (.cons (by k_mem) (.cons (by k_mem) (.cons (by k_mem) (.cons (by k_mem) (.cons (by k_mem) (.cons (by k_mem) (.cons (by k_mem) (.cons (by k_mem) (.cons (by k_mem) .nil)))))))))))) (letters st) ?_ ?_
  · intro z tz y ty hz I oI C oC D m₂ vs h tk E' hC hx hx2 F N off ne
    obtain ⟨hz1, hz2, hy⟩ := powers_ok z y hz
    obtain ⟨hb1, hb2⟩ := hbd z hz1 hz2
    have ho1 := ok.nt
    have hok : MulOk y ((indOf st z).fdiv z - st.nt) := mulOk_of 16 1048576 (by omega) (by omega) (by omega) (by decide) (by decide)
    k_steps
    exact LCg.CompEnd.intro (by k_asm) (by k_asm) _ (fun p hp => hp) off (Or.inr ⟨_, by k_mem, rfl, _, rfl⟩) ⟨rfl, _, rfl⟩
  · intro vs hvs D h tk F N o1
    have hbj := letters_bd st ok hbd
    dsimp only
    k_steps
    refine hret _ _ _ _ (by k_asm) (cb_drop (by assumption) ?_) ⟨_, rfl, rfl⟩
    exact List.forall_mem_cons.mpr ⟨by k_mem, List.forall_mem_cons.mpr ⟨by k_mem, List.forall_mem_cons.mpr ⟨by k_mem, List.forall_mem_cons.mpr ⟨by k_mem, fun p hp => by repeat' (first | exact hp | apply List.Mem.tail)⟩⟩⟩⟩
end

section
open LCg
@[reducible] noncomputable def cellObj (v : Option Value) : Obj := { cls := .type "cell", data := .cell v }
/-- a comprehension whose own name is a cell, that an inner one closes over -/
noncomputable def RestC (prog : Program) (w : World) (A : Around) (h₀ : Heap) (L : Addr) (m : Str → Option Value) (env : Env) (elt : Expr) (x : Str) (scope : Scope) (cl : List (Str × Addr)) (s : Shared) (S : Led → Prop) (P : Nat → Value → Prop)
    (Fin : List Value → Led → Prop) : Nat → Nat → List Value → Led → Prop
  | 0, _, ys, news => Fin ys news
  | k + 1, i, ys, news => ∀ v I oI C oC D K oK m₂ h tk (E' : Value → Shared → Prop), P i v → NsObj oC m₂ → oK.data = .cell (some v) → Fr h₀ L h m → News h₀ L h ((I, oI) :: (C, oC) :: (D, lst ys) :: (K, oK) :: news) → Off3 I C D ((K, oK) :: news) → ((@Ne Nat I C) ∧ (@Ne Nat I D) ∧ (@Ne Nat C D)) → Off1 K news →
      wpAny (model prog w) A (eval elt (compEnvC scope ((x, K) :: cl) C env)) (CompEnd h₀ L m { s with heap := h, toks := tk } I oI C oC D (lst ys) (fun _ => True)
        (fun y nw => ∃ news', nw = (K, oK) :: news' ∧ Off1 K news' ∧ S news' ∧ RestC prog w A h₀ L m env elt x scope cl s S P Fin k (i + 1) (ys ++ [y]) news')) E' { s with heap := h, toks := tk }
variable {prog : Program} {w : World} {A : Around} {E : Value → Shared → Prop} {s : Shared} {h₀ : Heap} {L : Addr} {m : Str → Option Value} {env : Env}
theorem RestC.succ {elt : Expr} {x : Str} {scope : Scope} {cl : List (Str × Addr)} {S : Led → Prop} {P : Nat → Value → Prop} {Fin : List Value → Led → Prop} {k i : Nat} {ys : List Value} {news : Led}
    (h : ∀ v I oI C oC D K oK m₂ h tk (E' : Value → Shared → Prop), P i v → NsObj oC m₂ → oK.data = .cell (some v) → Fr h₀ L h m → News h₀ L h ((I, oI) :: (C, oC) :: (D, lst ys) :: (K, oK) :: news) → Off3 I C D ((K, oK) :: news) → ((@Ne Nat I C) ∧ (@Ne Nat I D) ∧ (@Ne Nat C D)) → Off1 K news →
      wpAny (model prog w) A (eval elt (compEnvC scope ((x, K) :: cl) C env)) (CompEnd h₀ L m { s with heap := h, toks := tk } I oI C oC D (lst ys) (fun _ => True)
        (fun y nw => ∃ news', nw = (K, oK) :: news' ∧ Off1 K news' ∧ S news' ∧ RestC prog w A h₀ L m env elt x scope cl s S P Fin k (i + 1) (ys ++ [y]) news')) E' { s with heap := h, toks := tk }) :
    RestC prog w A h₀ L m env elt x scope cl s S P Fin (k + 1) i ys news := h
theorem RestC.zero {elt : Expr} {x : Str} {scope : Scope} {cl : List (Str × Addr)} {S : Led → Prop} {P : Nat → Value → Prop} {Fin : List Value → Led → Prop} {i : Nat} {ys : List Value} {news : Led} (h : Fin ys news) :
    RestC prog w A h₀ L m env elt x scope cl s S P Fin 0 i ys news := h
theorem off1_mem {D : Addr} : ∀ {l : Led}, Off1 D l → ∀ p ∈ l, p.1 ≠ D
  | [], _, _, h => nomatch h
  | _ :: _, x, p, h => by
    rcases List.mem_cons.mp h with rfl | h
    · exact x.1
    · exact off1_mem x.2 p h
theorem off1_of {D : Addr} : ∀ {l : Led}, (∀ p ∈ l, p.1 ≠ D) → Off1 D l
  | [], _ => trivial
  | _ :: _, h => ⟨h _ List.mem_cons_self, off1_of fun p hp => h p (List.mem_cons_of_mem _ hp)⟩
theorem env_cell {scope : Scope} {x : Str} {globals : Addr} {cl : List (Str × Addr)} {qual : Str} {Q : Env → Shared → Prop}
    (hcf : ∀ k, cellsFrom k scope.names cl = (x, k) :: cl) (hpc : ∀ h : Heap, pushCells h scope.names = h.push (cellObj none))
    (hQ : Q { scope, locals := s.heap.objs.size, globals, cells := (x, s.heap.objs.size + 1) :: cl, qual, func := none, code := env.code, frame := env.frame, builtins := env.builtins }
      { s with heap := (s.heap.push { cls := .type "dict", data := .dict #[] }).push (cellObj none) }) :
    wpAny (model prog w) A (newFunctionEnv scope globals cl [] qual none .none (some env)) Q E s := by
  simp only [newFunctionEnv, Option.isSome_some, if_true]
  refine wpAny_bind (wpAny_alloc ?_)
  refine wpAny_bind (wpAny_layCells _ (fun name kind cells => by cases hkc : kind == NameKind.cell <;> simp [hkc]) _ _ _ _ ?_)
  rw [hcf, hpc]
  refine wpAny_bind ?_
  rw [List.forIn_nil]
  refine wpAny_pure (wpAny_pure ?_)
  rw [show ({ s with heap := s.heap.push { cls := .type "dict", data := .dict #[] } } : Shared).heap.objs.size = s.heap.objs.size + 1 from Heap.size_push ..]
  exact hQ

theorem block_C {elt iter : Expr} {x : Str} {px : Pos} {scope : Scope} {cl : List (Str × Addr)} {pos : Pos} {s₂ : Shared} {I : Addr} {fp : List Addr} {n : Nat} {P : Nat → Value → Prop} {St : Nat → Heap → Prop} {S : Led → Prop} {news : Led}
    {Fin : List Value → Led → Prop} {RR : Value → Addr → Result → Shared → Prop}
    (W : Walks prog w A I fp [I] n P St) (hsz : n ≤ sizeLine) (hIo : ∀ i h, St i h → ∃ o, h.get? I = some o)
    (hSt : ∀ i h h' o nw, St i h → h.get? I = some o → h'.get? I = some o → (∀ b o, h₀.get? b = some o → h'.get? b = some o) → News h₀ L h' nw → S nw → St i h')
    (hcf : ∀ k, cellsFrom k scope.names cl = (x, k) :: cl) (hpc : ∀ h : Heap, pushCells h scope.names = h.push (cellObj none))
    (hkind : scope.kind = .function) (hx : (relabel scope env).names.lookup x = some .cell) (hst : St 0 s₂.heap) (hfp : ∀ b ∈ fp, b < s₂.heap.objs.size)
    (F : Fr h₀ L s₂.heap m) (N : News h₀ L s₂.heap news) (hIL : L ≠ I) (hI₀ : h₀.get? I = none) (off : ∀ p ∈ news, p.1 ≠ I) (hS : S news)
    (R : RestC prog w A h₀ L m env elt x scope cl s₂ S P Fin n 0 [] news)
    (hRR : ∀ D C h tk m' ys news', Fr h₀ L h m → News h₀ L h ((D, lst ys) :: news') → Off1 D news' → h.Ns C m' → h₀.get? C = none → h₀.get? D = none → C ≠ L → D ≠ L → C ≠ D → (∀ p ∈ news', p.1 ≠ C) → Fin ys news' → RR (.ref D) C (.ok .next) { s₂ with heap := h, toks := tk }) :
    wpAny (model prog w) A (newList []) (fun acc s₃ => wpAny (model prog w) A (newFunctionEnv scope env.globals cl [] env.qual none .none (some env)) (fun cenv s₄ =>
      codeAny (model prog w) A (.compStart (.ListComp elt [⟨.Name x px, iter, [], 0⟩] scope pos) 0 (.ref I) acc { cenv with scope := relabel scope env }) (RR acc cenv.locals) s₄) E s₃) E s₂ := by
  refine wpAny_newObj_type (env_cell hcf hpc ?_)
  dsimp only
  generalize hH2 : s₂.heap.push { cls := .type "list", dict := none, data := .seq ([] : List Value).toArray } = H2
  generalize hh₁ : (H2.push { cls := .type "dict", data := .dict #[] }).push (cellObj none) = h₁
  have hC : H2.objs.size = s₂.heap.objs.size + 1 := by rw [← hH2, Heap.size_push]
  have e3 : (H2.push { cls := .type "dict", data := .dict #[] }).objs.size = H2.objs.size + 1 := Heap.size_push ..
  have hDC : s₂.heap.objs.size ≠ H2.objs.size := by rw [hC]; exact Nat.ne_of_lt (Nat.lt_succ_self _)
  have hCK : H2.objs.size ≠ H2.objs.size + 1 := Nat.ne_of_lt (Nat.lt_succ_self _)
  have hDK : s₂.heap.objs.size ≠ H2.objs.size + 1 := by rw [hC]; exact Nat.ne_of_lt (Nat.lt_succ_of_lt (Nat.lt_succ_self _))
  have below : ∀ b, b < s₂.heap.objs.size → b ≠ H2.objs.size ∧ b ≠ s₂.heap.objs.size ∧ b ≠ H2.objs.size + 1 := fun b hb => ⟨by rw [hC]; exact Nat.ne_of_lt (Nat.lt_succ_of_lt hb), Nat.ne_of_lt hb, by rw [hC]; exact Nat.ne_of_lt (Nat.lt_succ_of_lt (Nat.lt_succ_of_lt hb))⟩
  have hDf : s₂.heap.objs.size ∉ fp := fun hm => Nat.lt_irrefl _ (hfp _ hm)
  have hCf : H2.objs.size ∉ fp := fun hm => by have := hfp _ hm; rw [hC] at this; exact Nat.lt_irrefl _ (Nat.lt_of_succ_lt this)
  have hKf : H2.objs.size + 1 ∉ fp := fun hm => (below _ (hfp _ hm)).2.2 rfl
  have hIf : I ∈ fp := W.sub I (List.mem_singleton.mpr rfl)
  have hIlt : I < s₂.heap.objs.size := hfp I hIf
  have up : ∀ b o, H2.get? b = some o → h₁.get? b = some o := fun b o e => by rw [← hh₁]; exact Heap.get?_push_of_some _ (Heap.get?_push_of_some _ e)
  have old : ∀ b o, s₂.heap.get? b = some o → h₁.get? b = some o := fun b o e => up b o (hH2 ▸ Heap.get?_push_of_some _ e)
  have hacc : h₁.get? s₂.heap.objs.size = some (lst []) := up _ _ (hH2 ▸ Heap.get?_push_size _ rfl)
  have hns₁ : h₁.Ns H2.objs.size (fun _ => none) := by
    rw [← hh₁]; exact (Heap.Ns.new H2 (.type "dict")).keeps fun b o e => Heap.get?_push_of_some _ e
  have hcl₁ : h₁.get? (H2.objs.size + 1) = some (cellObj none) := by
    have := Heap.get?_push_size (o := cellObj none) (H2.push { cls := .type "dict", data := .dict #[] }) rfl
    rw [e3, hh₁] at this; exact this
  have hst₁ : St 0 h₁ := W.frame _ _ _ hst fun b _ o e => old b o e
  have fresh : ∀ a, s₂.heap.objs.size ≤ a → s₂.heap.get? a = none := fun a ha => by
    cases e : s₂.heap.get? a with
    | none => rfl
    | some o' => exact absurd (Heap.lt_size e) (Nat.not_lt.mpr ha)
  have fresh₀ : ∀ a, s₂.heap.objs.size ≤ a → h₀.get? a = none := fun a ha => by
    cases e : h₀.get? a with
    | none => rfl
    | some o' => have := F.keep a o' e; rw [fresh a ha] at this; cases this
  have hD₀ : h₀.get? s₂.heap.objs.size = none := fresh₀ _ (Nat.le_refl _)
  have hC₀ : h₀.get? H2.objs.size = none := fresh₀ _ (by rw [hC]; exact Nat.le_succ _)
  have hK₀ : h₀.get? (H2.objs.size + 1) = none := fresh₀ _ (by rw [hC]; exact Nat.le_succ_of_le (Nat.le_succ _))
  have hLlt : L < s₂.heap.objs.size := F.ns.lt
  have hDL : s₂.heap.objs.size ≠ L := Ne.symm (below L hLlt).2.1
  have hCL : H2.objs.size ≠ L := Ne.symm (below L hLlt).1
  have hKL : H2.objs.size + 1 ≠ L := Ne.symm (below L hLlt).2.2
  have hCI : I ≠ H2.objs.size := (below I hIlt).1
  have hDI : I ≠ s₂.heap.objs.size := (below I hIlt).2.1
  have hKI : I ≠ H2.objs.size + 1 := (below I hIlt).2.2
  have off₀ : Off3 I H2.objs.size s₂.heap.objs.size news := Off3.of fun p hp => ⟨off p hp, (below _ (Heap.lt_size (N p hp).1)).1, (below _ (Heap.lt_size (N p hp).1)).2.1⟩
  have offK₀ : Off1 (H2.objs.size + 1) news := off1_of fun p hp => (below _ (Heap.lt_size (N p hp).1)).2.2
  generalize hKe : H2.objs.size + 1 = K at *
  have loop : ∀ s₃ : Shared, s₃ = { s₂ with heap := h₁ } →
      codeAny (model prog w) A (.compLoop (.ListComp elt [⟨.Name x px, iter, [], 0⟩] scope pos) 0 (.ref I) (.ref s₂.heap.objs.size) (compEnvC scope ((x, K) :: cl) H2.objs.size env))
        (RR (.ref s₂.heap.objs.size) H2.objs.size) s₃ := by
    rintro s₃ rfl
    refine codeAny_compLoop_tests
      (fun k s' => ∃ h' tk i ys m' news' oK vK, s' = { s₂ with heap := h', toks := tk } ∧ i ≤ n ∧ k = n + 1 - i ∧ ys.length = i ∧ St i h' ∧ Fr h₀ L h' m ∧ h'.Ns H2.objs.size m' ∧ News h₀ L h' ((s₂.heap.objs.size, lst ys) :: (K, oK) :: news') ∧ oK.data = .cell vK ∧
        Off3 I H2.objs.size s₂.heap.objs.size news' ∧ Off1 K news' ∧ S news' ∧ RestC prog w A h₀ L m env elt x scope cl s₂ S P Fin (n - i) i ys news') ?_ (n + 1)
      ⟨h₁, s₂.toks, 0, [], _, news, cellObj none, none, rfl, Nat.zero_le _, rfl, rfl, hst₁, F.keeps old, hns₁, fun p hp => ?_, rfl, off₀, offK₀, hS, R⟩
    · rintro k s' ⟨h', tk, i, ys, m', news', oK, vK, rfl, hi, rfl, hyl, hst', F', hn', N', hoK, off', offK', hS', R'⟩
      have off3 := off'.mem
      have offK := off1_mem offK'
      by_cases hlt : i < n
      · obtain ⟨j, hj⟩ : ∃ j, n - i = j + 1 := ⟨n - i - 1, by omega⟩
        rw [hj] at R'
        refine W.item i _ _ _ hlt hst' fun v h₂ tk₂ hPv hst₂ hk₂ => ?_
        have N₂ : News h₀ L h₂ ((s₂.heap.objs.size, lst ys) :: (K, oK) :: news') := news_but N' hk₂ fun p hp => by
          rcases List.mem_cons.mp hp with rfl | hp
          · exact Ne.symm hDI
          · rcases List.mem_cons.mp hp with rfl | hp
            · exact Ne.symm hKI
            · exact (off3 p hp).1
        have hcK : h₂.IsCell K vK := ⟨oK, (N₂ (K, oK) (List.mem_cons_of_mem _ List.mem_cons_self)).1, hoK⟩
        refine wpAny_assign_Name (wpAny_storeName_cell (env := compEnvC scope ((x, K) :: cl) H2.objs.size env) (c := K) hkind hx (by simp [compEnvC, List.lookup_cons]) hcK fun h₃ hc₃ hs₃ => ?_)
        refine wpAny_tests_nil ?_
        simp only [if_true]
        obtain ⟨oK', hoK₁, hoK₂⟩ := hc₃
        have hst₃ : St (i + 1) h₃ := W.frame _ _ _ hst₂ fun b hb o e => hs₃.extBut b o (fun q => hKf (by have q' : b = K := q; rw [← q']; exact hb)) e
        obtain ⟨oI, heI⟩ := hIo _ _ hst₃
        have hn₃ : h₃.Ns H2.objs.size m' := (hn'.at' fun o e => hk₂ _ o (by simpa using Ne.symm hCI) e).sameBut hs₃ hCK
        obtain ⟨oC, heC, hoC⟩ := ns_obj hn₃
        have F₃ : Fr h₀ L h₃ m := (fr_but F' hk₂ hIL hI₀).change hs₃ hKL hK₀
        have N₃ : News h₀ L h₃ ((I, oI) :: (H2.objs.size, oC) :: (s₂.heap.objs.size, lst ys) :: (K, oK') :: news') := fun p hp => by
          rcases List.mem_cons.mp hp with rfl | hp
          · exact ⟨heI, Ne.symm hIL, hI₀⟩
          rcases List.mem_cons.mp hp with rfl | hp
          · exact ⟨heC, hCL, hC₀⟩
          rcases List.mem_cons.mp hp with rfl | hp
          · exact ⟨hs₃.extBut _ _ hDK (N₂ _ List.mem_cons_self).1, hDL, hD₀⟩
          rcases List.mem_cons.mp hp with rfl | hp
          · exact ⟨hoK₁, hKL, hK₀⟩
          · have z := N₂ p (List.mem_cons_of_mem _ (List.mem_cons_of_mem _ hp))
            exact ⟨hs₃.extBut _ _ (offK p hp) z.1, z.2⟩
        refine wpAny_mono (R' v I oI H2.objs.size oC s₂.heap.objs.size K oK' m' h₃ _ _ hPv hoC hoK₂ F₃ N₃ ⟨⟨Ne.symm hKI, Ne.symm hCK, Ne.symm hDK⟩, off'⟩ ⟨hCI, hDI, Ne.symm hDC⟩ offK') (fun y s₄ h₄ => ?_) fun _ _ e => e
        obtain ⟨h₄, tk₄, news₅, rfl, F₄, N₄, off₄, -, news₄, rfl, offK₄, hS₄, R₄⟩ := h₄
        have zI := (N₄ (I, oI) List.mem_cons_self).1
        have zC := (N₄ (H2.objs.size, oC) (List.mem_cons_of_mem _ List.mem_cons_self)).1
        have zD := (N₄ (s₂.heap.objs.size, lst ys) (List.mem_cons_of_mem _ (List.mem_cons_of_mem _ List.mem_cons_self))).1
        have N₄' : News h₀ L h₄ ((K, oK') :: news₄) := fun p hp => N₄ p (List.mem_cons_of_mem _ (List.mem_cons_of_mem _ (List.mem_cons_of_mem _ hp)))
        have hst₄ : St (i + 1) h₄ := hSt _ _ _ _ _ hst₃ heI zI F₄.keep (fun p hp => N₄' p (List.mem_cons_of_mem _ hp)) hS₄
        refine append_at (hsz := by show ys.toArray.size ≤ sizeLine; rw [List.size_toArray, hyl]; exact Nat.le_trans hi hsz) zD fun h₅ hs₅ hD₅ => ?_
        have off4 := off₄.mem
        refine ⟨n + 1 - (i + 1), by omega, h₅, tk₄, i + 1, ys ++ [y], m', news₄, oK', some v, rfl, hlt, rfl, by rw [List.length_append, List.length_singleton, hyl], W.frame _ _ _ hst₄ fun b hb o e => hs₅.extBut b o (fun q => hDf (q ▸ hb)) e, F₄.change hs₅ hDL hD₀,
          (hoC.ns zC).sameBut hs₅ (Ne.symm hDC), fun p hp => ?_, hoK₂, off₄.2, offK₄, hS₄, ?_⟩
        · rcases List.mem_cons.mp hp with rfl | hp
          · exact ⟨hD₅.trans (congrArg some (lst_snoc ys y)), hDL, hD₀⟩
          · exact ⟨hs₅.extBut _ _ (off4 p hp).2.2 (N₄' p hp).1, (N₄' p hp).2⟩
        · rw [show n - (i + 1) = j by omega]
          exact R₄
      · obtain rfl : i = n := Nat.le_antisymm hi (Nat.not_lt.mp hlt)
        rw [Nat.sub_self] at R'
        refine W.done _ _ _ hst' fun h₂ tk₂ hk₂ => ?_
        have N₂ : News h₀ L h₂ ((s₂.heap.objs.size, lst ys) :: news') := news_but (fun p hp => by
            rcases List.mem_cons.mp hp with rfl | hp
            · exact N' _ List.mem_cons_self
            · exact N' p (List.mem_cons_of_mem _ (List.mem_cons_of_mem _ hp))) hk₂ fun p hp => by
          rcases List.mem_cons.mp hp with rfl | hp
          · exact Ne.symm hDI
          · exact (off3 p hp).1
        exact hRR _ _ h₂ tk₂ _ ys news' (fr_but F' hk₂ hIL hI₀) N₂ off'.one (hn'.at' fun o e => hk₂ _ o (by simpa using Ne.symm hCI) e) hC₀ hD₀ hCL hDL (Ne.symm hDC) (fun p hp => (off3 p hp).2.1) R'
    · rcases List.mem_cons.mp hp with rfl | hp
      · exact ⟨hacc, hDL, hD₀⟩
      rcases List.mem_cons.mp hp with rfl | hp
      · exact ⟨hcl₁, hKL, hK₀⟩
      · exact ⟨old _ _ (N p hp).1, (N p hp).2⟩
  exact codeAny_compStart_list (loop _ rfl) (W.self 0 _ _ _ hst₁ (loop _ rfl))

theorem Assign_ListComp_C {elt iter : Expr} {x y : Str} {px py : Pos} {scope : Scope} {cl : List (Str × Addr)} {pos spos : Pos} {Q : Flow → Shared → Prop} (hLe : env.locals = L)
    (hsw : swapsWith (.ListComp elt [⟨.Name x px, iter, [], 0⟩] scope pos) (some (.Name y py)) spos.line env = pure true)
    (hclos : closureFor scope env = pure cl) (hcf : ∀ k, cellsFrom k scope.names cl = (x, k) :: cl) (hpc : ∀ h : Heap, pushCells h scope.names = h.push (cellObj none)) (hkind : scope.kind = .function)
    (hnames : ∀ z ∈ scope.names, z.2 = .local → scope.names.lookup z.1 = some .local) (hx : (relabel scope env).names.lookup x = some .cell)
    (hy : env.kindOf y = some .local) (hp : (env.scope.kind == .class || (env.scope.kind == .module && env.locals != env.globals)) = false)
    (h : wpAny (model prog w) A (eval iter env) (fun xv s₁ => ∃ ax its k news, xv = .ref ax ∧ A.handled = none ∧ Fr h₀ L s₁.heap m ∧ News h₀ L s₁.heap news ∧ (ax, ({ cls := .type "list", data := .seq its k } : Obj)) ∈ news ∧ its.size ≤ sizeLine ∧
      ∀ g, RestC prog w A h₀ L m env elt x scope cl { s₁ with heap := g } (fun nw => (ax, ({ cls := .type "list", data := .seq its k } : Obj)) ∈ nw) (fun i v => its[i]? = some v) (FinA h₀ L m { s₁ with heap := g } y Q) its.size 0 [] news) E s)
    (hs : ∀ x, foldedSetIterable iter env x = pure x := by intro _; rfl) :
    wpAny (model prog w) A (exec (.Assign [.Name y py] (.ListComp elt [⟨.Name x px, iter, [], 0⟩] scope pos) spos) env) Q E s := by
  subst hLe
  rw [exec_Assign_Name_used _ _ _ _ hsw]
  refine wpAny_bind (wpAny_standAt (wpAny_bind ?_))
  show wpAny _ A (do let _ ← comprehension (.ListComp elt [⟨.Name x px, iter, [], 0⟩] scope pos) scope env _ (newList []) false (eval iter env) (some (assign (.Name y py) env))) _ _ s
  refine wpAny_bind (wpAny_mono (wpAny_comprehension_free (use := some (assign (.Name y py) env)) (Q := fun _ s' => Q .next s') rfl hs hclos hkind hnames
    (wpAny_mono h (fun xv s₁ h₁ => ?_) fun _ _ e => e)) (fun _ s' hq => wpAny_pure (wpAny_pure hq)) fun _ _ e => e)
  obtain ⟨ax, its, k, news, rfl, hh, F, N, hm, hsz, R⟩ := h₁
  have hl : s₁.heap.IsList ax its := ⟨_, (N _ hm).1, rfl, _, rfl⟩
  have hlt : ax < s₁.heap.objs.size := Heap.lt_size (N _ hm).1
  refine wpAny_pyIter_list hl ?_
  have up : ∀ b o, s₁.heap.get? b = some o → (s₁.heap.push { cls := .type "list_iterator", data := .fields #[.ref ax, .int 0 0] }).get? b = some o := fun b o e => Heap.get?_push_of_some _ e
  refine block_C (S := fun nw => (ax, ({ cls := .type "list", data := .seq its k } : Obj)) ∈ nw) (Walks.list hh s₁.heap.objs.size ax (Nat.ne_of_lt hlt) its) hsz (fun i h st => by obtain ⟨o, e, _⟩ := st.1; exact ⟨o, e⟩)
    (fun i h h' o nw st e e' k N S => ⟨by obtain ⟨o', q, r⟩ := st.1; rw [e] at q; cases q; exact ⟨o, e', r⟩, ⟨_, (N _ S).1, rfl, _, rfl⟩⟩) hcf hpc hkind hx ⟨⟨_, Heap.get?_push_size _ rfl, rfl, rfl⟩, hl.push _⟩ (fun b hb => ?_)
    (F.keeps up) (N.grown up) (Nat.ne_of_lt F.ns.lt) (next_is_new F) (fun p hp => Nat.ne_of_lt (Heap.lt_size (N p hp).1)) hm (R _) ?_
  · show b < (s₁.heap.push _).objs.size
    rw [Heap.size_push]
    rcases List.mem_cons.mp hb with rfl | hb
    · exact Nat.lt_succ_self _
    · rw [List.mem_singleton.mp hb]; exact Nat.lt_succ_of_lt hlt
  · intro D C h' tk m' ys news' F' N' o1 hn hC₀ hD₀ hCL hDL hCD offC fin
    show wpAny _ A (assign (.Name y py) env (.ref D)) _ _ _
    refine wpAny_assign_Name (wpAny_storeName_local hy F'.ns (fun h₂ hn₂ hs₂ => ?_) hp)
    have hL₀ : h₀.get? env.locals = none := Heap.get?_none_of_le F'.above
    have F₂ : Fr h₀ env.locals h₂ (fun z => if z = y then some (.ref D) else m z) := ⟨hn₂, fun b o e => hs₂.extBut b o (fun q => by rw [q, hL₀] at e; cases e) (F'.keep b o e), F'.above⟩
    refine ⟨m', hn.sameBut hs₂ hCL, fun h'' hs'' => fin D h'' _ (F₂.change hs'' hCL hC₀) (fun p hp => ?_) o1⟩
    have z : h₂.get? p.1 = some p.2 := hs₂.extBut _ _ (N' p hp).2.1 (N' p hp).1
    refine ⟨hs''.extBut _ _ ?_ z, (N' p hp).2⟩
    rcases List.mem_cons.mp hp with rfl | hp
    · exact Ne.symm hCD
    · exact offC p hp
/-- a turn's end that leaves one new object -/
theorem endC_new {I C D K D1 : Addr} {oI oC oD oK o1 : Obj} {rest : Led} {S : Led → Prop} {R : Value → Led → Prop} {h' : Heap} {tk : Nat} (F : Fr h₀ L h' m) (N : News h₀ L h' ((D1, o1) :: (I, oI) :: (C, oC) :: (D, oD) :: (K, oK) :: rest))
    (off : Off3 I C D ((K, oK) :: rest)) (offK : Off1 K rest) (o : Off1 D1 ((I, oI) :: (C, oC) :: (D, oD) :: (K, oK) :: rest)) (hS : S ((D1, o1) :: rest)) (r : R (.ref D1) ((D1, o1) :: rest)) :
    CompEnd h₀ L m s I oI C oC D oD (fun _ => True) (fun y nw => ∃ news', nw = (K, oK) :: news' ∧ Off1 K news' ∧ S news' ∧ R y news') (.ref D1) { s with heap := h', toks := tk } := by
  obtain ⟨q1, q2, q3, q4, q5⟩ := o
  refine CompEnd.intro F N ((K, oK) :: (D1, o1) :: rest) ?_ ⟨off.1, ⟨Ne.symm q1, Ne.symm q2, Ne.symm q3⟩, off.2⟩ True.intro ⟨_, rfl, ⟨Ne.symm q4, offK⟩, hS, r⟩
  intro p hp
  simp only [List.mem_cons] at hp ⊢
  rcases hp with h | h | h | h | h | h <;> simp only [h, true_or, or_true]
theorem end_new {I C D D1 : Addr} {oI oC oD o1 : Obj} {rest : Led} {S : Led → Prop} {R : Value → Led → Prop} {h' : Heap} {tk : Nat} (F : Fr h₀ L h' m) (N : News h₀ L h' ((D1, o1) :: (I, oI) :: (C, oC) :: (D, oD) :: rest))
    (off : Off3 I C D rest) (o : Off1 D1 ((I, oI) :: (C, oC) :: (D, oD) :: rest)) (hS : S ((D1, o1) :: rest)) (r : R (.ref D1) ((D1, o1) :: rest)) :
    CompEnd h₀ L m s I oI C oC D oD S R (.ref D1) { s with heap := h', toks := tk } := by
  obtain ⟨q1, q2, q3, q4⟩ := o
  refine CompEnd.intro F N ((D1, o1) :: rest) ?_ ⟨⟨Ne.symm q1, Ne.symm q2, Ne.symm q3⟩, off⟩ hS r
  intro p hp
  simp only [List.mem_cons] at hp ⊢
  rcases hp with h | h | h | h | h <;> simp only [h, true_or, or_true]
end

section
open LCg LCp
variable {prog : Program} {w : World} {A : Around} {E : Value → Shared → Prop} {s : Shared} {h₀ : Heap} {L : Addr} {m : Str → Option Value} {env : Env}
theorem objs_of {h : Heap} : ∀ {fp : List Addr}, (∀ a ∈ fp, ∃ o, h.get? a = some o) → ∃ os : Led, (∀ p ∈ os, p.1 ∈ fp ∧ h.get? p.1 = some p.2) ∧ ∀ a ∈ fp, ∃ o, (a, o) ∈ os
  | [], _ => ⟨[], ⟨fun _ h => (nomatch h), fun _ h => (nomatch h)⟩⟩
  | a :: r, H => by
    obtain ⟨os, h1, h2⟩ := objs_of (fp := r) fun b hb => H b (.tail _ hb)
    obtain ⟨o, ho⟩ := H a (.head _)
    refine ⟨(a, o) :: os, fun p hp => ?_, fun b hb => ?_⟩
    · rcases List.mem_cons.mp hp with rfl | hp
      · exact ⟨.head _, ho⟩
      · exact ⟨.tail _ (h1 p hp).1, (h1 p hp).2⟩
    · rcases List.mem_cons.mp hb with rfl | hb
      · exact ⟨o, .head _⟩
      · obtain ⟨o', ho'⟩ := h2 b hb
        exact ⟨o', .tail _ ho'⟩
/-- an element that leaves every ledger as it was -/
noncomputable def EltKeeps (prog : Program) (w : World) (A : Around) (h₀ : Heap) (L : Addr) (m : Str → Option Value) (env : Env) (elt : Expr) (a b : Str) (scope : Scope) (cl : List (Str × Addr)) (x y : Value) (s : Shared) (news : Led) (V : Value → Prop) : Prop :=
  ∀ (led : Led) (C : Addr) (oC : Obj) (m₂ : Env1) (h : Heap) (tk : Nat) (Q' E' : Value → Shared → Prop), NsObj oC m₂ → m₂ a = some x → m₂ b = some y → Fr h₀ L h m → News h₀ L h ((C, oC) :: led) → (∀ p ∈ news, p ∈ led) →
    (∀ v h' tk', V v → Fr h₀ L h' m → News h₀ L h' ((C, oC) :: led) → Q' v { s with heap := h', toks := tk' }) → wpAny (model prog w) A (eval elt (compEnvC scope cl C env)) Q' E' { s with heap := h, toks := tk }

theorem block_Z {elt iter : Expr} {a b : Str} {pa pb tp : Pos} {kk} {scope : Scope} {cl : List (Str × Addr)} {pos : Pos} {s₂ : Shared} {I : Addr} {fp wr : List Addr} {n : Nat} {Pt : Nat → Array Value → Prop} {St : Nat → Heap → Prop} {Mid : Nat → Addr → Heap → Prop} {news : Led}
    {V : Nat → Value → Prop} {RR : Value → Addr → Result → Shared → Prop}
    (W : WalksU prog w A I fp wr n Pt St Mid) (hsz : n ≤ sizeLine) (hIo : ∀ i h, St i h → ∀ a ∈ fp, ∃ o, h.get? a = some o)
    (hcell : ∀ y ∈ scope.names, y.2 ≠ .cell) (hkind : scope.kind = .function) (ha : scope.names.lookup a = some .local) (hb : scope.names.lookup b = some .local) (hab : ¬ a = b) (hh : A.handled = none) (hst : St 0 s₂.heap)
    (hfp : ∀ b ∈ fp, b < s₂.heap.objs.size ∧ b ≠ L ∧ h₀.get? b = none)
    (F : Fr h₀ L s₂.heap m) (N : News h₀ L s₂.heap news) (off : ∀ p ∈ news, p.1 ∉ wr)
    (R : ∀ i vals, i < n → Pt i vals → ∃ x y, vals = #[x, y] ∧ EltKeeps prog w A h₀ L m env elt a b scope cl x y s₂ news (V i))
    (hRR : ∀ D C h tk m' ys, Fr h₀ L h m → News h₀ L h ((D, lst ys) :: news) → Off1 D news → h.Ns C m' → h₀.get? C = none → h₀.get? D = none → C ≠ L → D ≠ L → C ≠ D → (∀ p ∈ news, p.1 ≠ C) → ys.length = n → (∀ i v, ys[i]? = some v → V i v) → RR (.ref D) C (.ok .next) { s₂ with heap := h, toks := tk }) :
    wpAny (model prog w) A (newList []) (fun acc s₃ => wpAny (model prog w) A (newFunctionEnv scope env.globals cl [] env.qual none .none (some env)) (fun cenv s₄ =>
      codeAny (model prog w) A (.compStart (.ListComp elt [⟨.Tuple [.Name a pa, .Name b pb] kk tp, iter, [], 0⟩] scope pos) 0 (.ref I) acc { cenv with scope := relabel scope env }) (RR acc cenv.locals) s₄) E s₃) E s₂ := by
  refine wpAny_newObj_type (wpAny_newFunctionEnv hcell (by intro y hy; simp at hy) (fun h₁ hns₁ hsb₁ => ?_) hkind)
  dsimp only at hns₁ hsb₁ ⊢
  generalize hH2 : s₂.heap.push { cls := .type "list", dict := none, data := .seq ([] : List Value).toArray } = H2 at hns₁ hsb₁ ⊢
  have hC : H2.objs.size = s₂.heap.objs.size + 1 := by rw [← hH2, Heap.size_push]
  have hDC : s₂.heap.objs.size ≠ H2.objs.size := by rw [hC]; exact Nat.ne_of_lt (Nat.lt_succ_self _)
  have below : ∀ b, b < s₂.heap.objs.size → b ≠ H2.objs.size ∧ b ≠ s₂.heap.objs.size := fun b hb => ⟨by rw [hC]; exact Nat.ne_of_lt (Nat.lt_succ_of_lt hb), Nat.ne_of_lt hb⟩
  have hCf : H2.objs.size ∉ fp := fun hm => (below _ (hfp _ hm).1).1 rfl
  have hDf : s₂.heap.objs.size ∉ fp := fun hm => (below _ (hfp _ hm).1).2 rfl
  have hCw : H2.objs.size ∉ wr := fun hm => hCf (W.sub _ hm)
  have hDw : s₂.heap.objs.size ∉ wr := fun hm => hDf (W.sub _ hm)
  have old : ∀ b o, s₂.heap.get? b = some o → h₁.get? b = some o := fun b o e => hsb₁.extBut b o (below b (Heap.lt_size e)).1 (Heap.get?_push_of_some _ (hH2 ▸ Heap.get?_push_of_some _ e))
  have hacc : h₁.get? s₂.heap.objs.size = some (lst []) := hsb₁.extBut _ _ hDC (Heap.get?_push_of_some _ (hH2 ▸ Heap.get?_push_size _ rfl))
  have hst₁ : St 0 h₁ := W.frame _ _ _ hst fun b _ o e => old b o e
  have fresh : ∀ a, s₂.heap.objs.size ≤ a → s₂.heap.get? a = none := fun a ha => by
    cases e : s₂.heap.get? a with
    | none => rfl
    | some o' => exact absurd (Heap.lt_size e) (Nat.not_lt.mpr ha)
  have fresh₀ : ∀ a, s₂.heap.objs.size ≤ a → h₀.get? a = none := fun a ha => by
    cases e : h₀.get? a with
    | none => rfl
    | some o' => have := F.keep a o' e; rw [fresh a ha] at this; cases this
  have hD₀ : h₀.get? s₂.heap.objs.size = none := fresh₀ _ (Nat.le_refl _)
  have hC₀ : h₀.get? H2.objs.size = none := fresh₀ _ (by rw [hC]; exact Nat.le_succ _)
  have hLlt : L < s₂.heap.objs.size := F.ns.lt
  have hDL : s₂.heap.objs.size ≠ L := Ne.symm (below L hLlt).2
  have hCL : H2.objs.size ≠ L := Ne.symm (below L hLlt).1
  have hLw : L ∉ wr := fun hm => (hfp _ (W.sub _ hm)).2.1 rfl
  have hnC : ∀ p ∈ news, p.1 ≠ H2.objs.size := fun p hp => (below _ (Heap.lt_size (N p hp).1)).1
  have hnD : ∀ p ∈ news, p.1 ≠ s₂.heap.objs.size := fun p hp => (below _ (Heap.lt_size (N p hp).1)).2
  have hw₀ : ∀ b o, h₀.get? b = some o → b ∉ wr := fun b o e hm => by rw [(hfp _ (W.sub _ hm)).2.2] at e; cases e
  have frW : ∀ {h h' : Heap}, Fr h₀ L h m → (∀ b o, b ∉ wr → h.get? b = some o → h'.get? b = some o) → Fr h₀ L h' m := fun F hk => ⟨F.ns.at' fun o e => hk L o hLw e, fun b o e => hk b o (hw₀ b o e) (F.keep b o e), F.above⟩
  have loop : ∀ s₃ : Shared, s₃ = { s₂ with heap := h₁, toks := s₂.toks + ([] : List (Str × Value)).length } →
      codeAny (model prog w) A (.compLoop (.ListComp elt [⟨.Tuple [.Name a pa, .Name b pb] kk tp, iter, [], 0⟩] scope pos) 0 (.ref I) (.ref s₂.heap.objs.size) (compEnvC scope cl H2.objs.size env))
        (RR (.ref s₂.heap.objs.size) H2.objs.size) s₃ := by
    rintro s₃ rfl
    refine codeAny_compLoop_pair
      (fun k s' => ∃ h' tk i ys m', s' = { s₂ with heap := h', toks := tk } ∧ i ≤ n ∧ k = n + 1 - i ∧ ys.length = i ∧ St i h' ∧ Fr h₀ L h' m ∧ h'.Ns H2.objs.size m' ∧ News h₀ L h' ((s₂.heap.objs.size, lst ys) :: news) ∧
        (∀ j v, ys[j]? = some v → V j v)) ?_ (n + 1)
      ⟨h₁, _, 0, [], _, rfl, Nat.zero_le _, rfl, rfl, hst₁, F.keeps old, hns₁, fun p hp => ?_, fun j v e => by simp at e⟩
    · rintro k s' ⟨h', tk, i, ys, m', rfl, hi, rfl, hyl, hst', F', hn', N', hV⟩
      by_cases hlt : i < n
      · refine W.item i _ _ _ hlt hst' fun T vals h₂ tk₂ hPv hT hMid hk₂ => ?_
        obtain ⟨x, y, rfl, R'⟩ := R i vals hlt hPv
        have F₂ : Fr h₀ L h₂ m := frW F' hk₂
        have N₂ : News h₀ L h₂ ((s₂.heap.objs.size, lst ys) :: news) := fun p hp => ⟨hk₂ _ _ (by
          rcases List.mem_cons.mp hp with rfl | hp
          · exact hDw
          · exact off p hp) (N' p hp).1, (N' p hp).2⟩
        have hn₂ : h₂.Ns H2.objs.size m' := hn'.at' fun o e => hk₂ _ o hCw e
        refine W.go _ _ _ i T _ _ _ hMid fun h₃ hst₃ hk₃ => ?_
        have F₃ : Fr h₀ L h₃ m := frW F₂ hk₃
        have N₃ : News h₀ L h₃ ((s₂.heap.objs.size, lst ys) :: news) := fun p hp => ⟨hk₃ _ _ (by
          rcases List.mem_cons.mp hp with rfl | hp
          · exact hDw
          · exact off p hp) (N₂ p hp).1, (N₂ p hp).2⟩
        have hn₃ : h₃.Ns H2.objs.size m' := hn₂.at' fun o e => hk₃ _ o hCw e
        have hT₃ : h₃.IsTuple T #[x, y] := hT.at fun o e => hk₃ _ o (W.apart _ _ _ hMid) e
        refine kcp_assign (env := compEnvC scope cl H2.objs.size env) hh hT₃ (lookup_relabel_local ha) (lookup_relabel_local hb) (by simp [compEnvC, relabel, hkind]) hn₃ fun h₄ tk₄ hn₄ hk₄ => ?_
        have hk₄' : ∀ c o, c ≠ H2.objs.size → h₃.get? c = some o → h₄.get? c = some o := hk₄
        have hn₄' : h₄.Ns H2.objs.size (fun z => if z = b then some y else if z = a then some x else m' z) := hn₄
        have hst₄ : St (i + 1) h₄ := W.frame _ _ _ hst₃ fun c hc o e => hk₄' c o (fun q => hCf (q ▸ hc)) e
        have F₄ : Fr h₀ L h₄ m := ⟨F₃.ns.at' fun o e => hk₄' L o (Ne.symm hCL) e, fun c o e => hk₄' c o (fun q => by rw [q, hC₀] at e; cases e) (F₃.keep c o e), F₃.above⟩
        have N₄ : News h₀ L h₄ ((s₂.heap.objs.size, lst ys) :: news) := fun p hp => ⟨hk₄' _ _ (by
          rcases List.mem_cons.mp hp with rfl | hp
          · exact hDC
          · exact hnC p hp) (N₃ p hp).1, (N₃ p hp).2⟩
        obtain ⟨oC, heC, hoC⟩ := ns_obj hn₄'
        obtain ⟨os, ho1, ho2⟩ := objs_of (hIo _ _ hst₄)
        refine R' (os ++ ((s₂.heap.objs.size, lst ys) :: news)) H2.objs.size oC _ h₄ _ _ _ hoC (by simp [hab]) (by simp) F₄ (fun p hp => ?_) (fun p hp => List.mem_append_right _ (.tail _ hp)) fun v h₅ tk₅ hv F₅ N₅ => ?_
        · rcases List.mem_cons.mp hp with rfl | hp
          · exact ⟨heC, hCL, hC₀⟩
          · rcases List.mem_append.mp hp with hp | hp
            · exact ⟨(ho1 p hp).2, (hfp _ (ho1 p hp).1).2⟩
            · exact N₄ p hp
        · have hst₅ : St (i + 1) h₅ := W.frame _ _ _ hst₄ fun c hc o e => by
            obtain ⟨o', ho'⟩ := ho2 c hc
            have e1 := (ho1 _ ho').2
            rw [e] at e1
            cases e1
            exact (N₅ _ (.tail _ (List.mem_append_left _ ho'))).1
          have zC := (N₅ (H2.objs.size, oC) (.head _)).1
          have zD := (N₅ (s₂.heap.objs.size, lst ys) (.tail _ (List.mem_append_right _ (.head _)))).1
          have N₅' : News h₀ L h₅ news := fun p hp => N₅ p (.tail _ (List.mem_append_right _ (.tail _ hp)))
          refine append_at (hsz := by show ys.toArray.size ≤ sizeLine; rw [List.size_toArray, hyl]; exact Nat.le_trans hi hsz) zD fun h₆ hs₆ hD₆ => ?_
          refine ⟨n + 1 - (i + 1), by omega, h₆, tk₅, i + 1, ys ++ [v], _, rfl, hlt, rfl, by rw [List.length_append, List.length_singleton, hyl], W.frame _ _ _ hst₅ fun b hb o e => hs₆.extBut b o (fun q => hDf (q ▸ hb)) e, F₅.change hs₆ hDL hD₀,
            (hoC.ns zC).sameBut hs₆ (Ne.symm hDC), fun p hp => ?_, fun j v' e => ?_⟩
          · rcases List.mem_cons.mp hp with rfl | hp
            · exact ⟨hD₆.trans (congrArg some (lst_snoc ys v)), hDL, hD₀⟩
            · exact ⟨hs₆.extBut _ _ (hnD p hp) (N₅' p hp).1, (N₅' p hp).2⟩
          · by_cases hj : j < ys.length
            · rw [List.getElem?_append_left hj] at e
              exact hV j v' e
            · rw [List.getElem?_append_right (Nat.not_lt.mp hj)] at e
              have hj0 : j - ys.length = 0 := by
                cases q : j - ys.length with
                | zero => rfl
                | succ r => rw [q] at e; simp at e
              rw [hj0] at e
              have : j = i := by omega
              subst this
              simp only [List.getElem?_cons_zero, Option.some.injEq] at e
              rw [← e]; exact hv
      · obtain rfl : i = n := Nat.le_antisymm hi (Nat.not_lt.mp hlt)
        refine W.done _ _ _ hst' fun h₂ tk₂ hk₂ => ?_
        exact hRR _ _ h₂ tk₂ _ ys (frW F' hk₂) (fun p hp => ⟨hk₂ _ _ (by
          rcases List.mem_cons.mp hp with rfl | hp
          · exact hDw
          · exact off p hp) (N' p hp).1, (N' p hp).2⟩) (off1_of hnD) (hn'.at' fun o e => hk₂ _ o hCw e) hC₀ hD₀ hCL hDL (Ne.symm hDC) hnC hyl hV
    · rcases List.mem_cons.mp hp with rfl | hp
      · exact ⟨hacc, hDL, hD₀⟩
      · exact ⟨old _ _ (N p hp).1, (N p hp).2⟩
  exact codeAny_compStart_list (loop _ rfl) (W.self 0 _ _ _ hst₁ (loop _ rfl))
noncomputable def ZipSrc (prog : Program) (w : World) (A : Around) (h₀ : Heap) (L : Addr) (m : Str → Option Value) (env : Env) (elt : Expr) (a b : Str) (scope : Scope) (cl : List (Str × Addr)) (Q : Value → Shared → Prop) (xv : Value) (s₁ : Shared) : Prop :=
  ∃ (z TI TO i1 i2 l1 l2 : Addr) (xs ys : List Value) (news : Led) (V : Nat → Value → Prop), xv = .ref z ∧ A.handled = none ∧ Fr h₀ L s₁.heap m ∧ News h₀ L s₁.heap news ∧ ZipApart z TI TO i1 i2 l1 l2 ∧
    (IsZip s₁.heap z TI TO .none ∧ IsPair s₁.heap TI (.ref i1) (.ref i2) ∧ (∃ a b, IsPair s₁.heap TO a b) ∧ s₁.heap.IsListIter i1 l1 0 ∧ s₁.heap.IsListIter i2 l2 0 ∧ s₁.heap.IsList l1 xs.toArray ∧ s₁.heap.IsList l2 ys.toArray) ∧
    (∀ c ∈ [z, TI, TO, i1, i2, l1, l2], c < s₁.heap.objs.size ∧ c ≠ L ∧ h₀.get? c = none) ∧ (∀ p ∈ news, p.1 ∉ [z, TO, i1, i2]) ∧ min xs.length ys.length ≤ sizeLine ∧
    (∀ i x y, xs[i]? = some x → ys[i]? = some y → EltKeeps prog w A h₀ L m env elt a b scope cl x y s₁ news (V i)) ∧
    ∀ D h tk vs, Fr h₀ L h m → News h₀ L h ((D, lst vs) :: news) → Off1 D news → vs.length = min xs.length ys.length → (∀ i v, vs[i]? = some v → V i v) → Q (.ref D) { s₁ with heap := h, toks := tk }
theorem zip_call {elt : Expr} {a b : Str} {scope : Scope} {cl : List (Str × Addr)} {Q : Value → Shared → Prop} {l1 l2 : Addr} {n1 n2 : Nat} {xs ys : List Value} {news : Led} (hh : A.handled = none) (F : Fr h₀ L s.heap m) (N : News h₀ L s.heap news)
    (hm1 : (l1, W.listOf xs.toArray n1) ∈ news) (hm2 : (l2, W.listOf ys.toArray n2) ∈ news) (hsz : min xs.length ys.length ≤ sizeLine) (V : Nat → Value → Prop)
    (R : ∀ i x y, xs[i]? = some x → ys[i]? = some y → EltKeeps prog w A h₀ L m env elt a b scope cl x y s news (V i))
    (fin : ∀ D h tk vs, Fr h₀ L h m → News h₀ L h ((D, lst vs) :: news) → Off1 D news → vs.length = min xs.length ys.length → (∀ i v, vs[i]? = some v → V i v) → Q (.ref D) { s with heap := h, toks := tk }) :
    wpAny (model prog w) A (call (.type "zip") [.ref l1, .ref l2]) (ZipSrc prog w A h₀ L m env elt a b scope cl Q) E s := by
  have hax1 := N _ hm1
  have hax2 := N _ hm2
  have hl1 : s.heap.IsList l1 xs.toArray := ⟨_, hax1.1, rfl, _, rfl⟩
  have hl2 : s.heap.IsList l2 ys.toArray := ⟨_, hax2.1, rfl, _, rfl⟩
  have hlt1 : l1 < s.heap.objs.size := Heap.lt_size hax1.1
  have hlt2 : l2 < s.heap.objs.size := Heap.lt_size hax2.1
  have hLs : L < s.heap.objs.size := F.ns.lt
  have D : ZipApart (s.heap.objs.size + 4) (s.heap.objs.size + 2) (s.heap.objs.size + 3) s.heap.objs.size (s.heap.objs.size + 1) l1 l2 := ktu_apart _ _ _ hlt1 hlt2
  have fresh₀ : ∀ k, h₀.get? (s.heap.objs.size + k) = none := fun k => by
    cases e : h₀.get? (s.heap.objs.size + k) with
    | none => rfl
    | some o' => have := Heap.lt_size (F.keep _ o' e); exact absurd this (Nat.not_lt.mpr (Nat.le_add_right _ _))
  have hnL : ∀ k, s.heap.objs.size + k ≠ L := fun k => Nat.ne_of_gt (Nat.lt_of_lt_of_le hLs (Nat.le_add_right _ _))
  refine call_zip_2 hl1 hl2 fun h' hz hTI hTO hi1 hi2 hsz' hk => ?_
  refine ⟨_, _, _, _, _, l1, l2, xs, ys, news, V, rfl, hh, F.keeps hk, N.grown hk, D, ⟨hz, hTI, ⟨_, _, hTO⟩, hi1, hi2, hl1.at fun o e => hk _ o e, hl2.at fun o e => hk _ o e⟩, fun c hc => ?_, fun p hp hc => ?_, hsz, R, fin⟩
  · simp only [List.mem_cons, List.not_mem_nil, or_false] at hc
    rcases hc with rfl | rfl | rfl | rfl | rfl | rfl | rfl
    · exact ⟨Heap.lt_size hz, hnL 4, fresh₀ 4⟩
    · exact ⟨Heap.lt_size hTI, hnL 2, fresh₀ 2⟩
    · exact ⟨Heap.lt_size hTO, hnL 3, fresh₀ 3⟩
    · obtain ⟨_, e, _⟩ := hi1; exact ⟨Heap.lt_size e, hnL 0, fresh₀ 0⟩
    · obtain ⟨_, e, _⟩ := hi2; exact ⟨Heap.lt_size e, hnL 1, fresh₀ 1⟩
    · exact ⟨Heap.lt_size (hk _ _ hax1.1), hax1.2⟩
    · exact ⟨Heap.lt_size (hk _ _ hax2.1), hax2.2⟩
  · have hlt : p.1 < s.heap.objs.size := Heap.lt_size (N p hp).1
    simp only [List.mem_cons, List.not_mem_nil, or_false] at hc
    rcases hc with e | e | e | e <;> (have hlt' : @LT.lt Nat _ p.1 s.heap.objs.size := hlt; rw [e] at hlt'; omega)
theorem ListComp_Z {elt iter : Expr} {a b : Str} {pa pb tp : Pos} {kk} {scope : Scope} {cl : List (Str × Addr)} {pos : Pos} {Q : Value → Shared → Prop} (_ : Fr h₀ L s.heap m)
    (hclos : closureFor scope env = pure cl) (hcell : ∀ y ∈ scope.names, y.2 ≠ .cell) (hkind : scope.kind = .function)
    (hnames : ∀ y ∈ scope.names, y.2 = .local → scope.names.lookup y.1 = some .local) (ha : scope.names.lookup a = some .local) (hb : scope.names.lookup b = some .local) (hab : ¬ a = b)
    (h : wpAny (model prog w) A (eval iter env) (ZipSrc prog w A h₀ L m env elt a b scope cl Q) E s)
    (hs : ∀ x, foldedSetIterable iter env x = pure x := by intro _; rfl) :
    wpAny (model prog w) A (eval (.ListComp elt [⟨.Tuple [.Name a pa, .Name b pb] kk tp, iter, [], 0⟩] scope pos) env) Q E s := by
  rw [eval_ListComp]
  refine wpAny_comprehension_free (use := none) rfl hs hclos hkind hnames (wpAny_mono h (fun xv s₁ h₁ => ?_) fun _ _ e => e)
  obtain ⟨z, TI, TO, i1, i2, l1, l2, xs, ys, news, V, rfl, hh, F, N, D, hst, hfp, off, hsz, R, fin⟩ := h₁
  refine wpAny_pyIter_zip hst.1 ?_
  refine block_Z (V := V) (WalksT.zip2 hh _ _ _ _ _ _ _ D xs.toArray ys.toArray).toU (by simpa using hsz) ?_ hcell hkind ha hb hab hh hst hfp F N off ?_ ?_
  · rintro i h ⟨hz, hTI, ⟨a, b, hTO⟩, ⟨o1, ho1, _⟩, ⟨o2, ho2, _⟩, ⟨o3, ho3, _⟩, ⟨o4, ho4, _⟩⟩ c hc
    simp only [List.mem_cons, List.not_mem_nil, or_false] at hc
    rcases hc with rfl | rfl | rfl | rfl | rfl | rfl | rfl
    · exact ⟨_, hz⟩
    · exact ⟨_, hTI⟩
    · exact ⟨_, hTO⟩
    · exact ⟨_, ho1⟩
    · exact ⟨_, ho2⟩
    · exact ⟨_, ho3⟩
    · exact ⟨_, ho4⟩
  · rintro i vals hi ⟨x, y, hx, hy, rfl⟩
    exact ⟨x, y, rfl, R i x y (by simpa using hx) (by simpa using hy)⟩
  · intro D' C h' tk m' vs F' N' o1 hn hC₀ hD₀ hCL hDL hCD offC hlen hV
    refine ⟨m', hn, fun h'' hs'' => fin D' h'' tk vs (F'.change hs'' hCL hC₀) (fun p hp => ?_) o1 (by simpa using hlen) hV⟩
    refine ⟨hs''.extBut _ _ ?_ (N' p hp).1, (N' p hp).2⟩
    rcases List.mem_cons.mp hp with rfl | hp
    · exact Ne.symm hCD
    · exact offC p hp
end

noncomputable def LawEnd (h₀ : Heap) (L : Addr) (s : Shared) (f : Flow) (s' : Shared) : Prop := ∃ h' tk' m' news' ps, f = .ret (.bool true) ∧ s' = { s with heap := h', toks := tk' } ∧ Fr h₀ L h' m' ∧ News h₀ L h' news' ∧ (138, tabObj ps) ∈ news'
theorem to_end {M : Model} {A : Around} {t : Sem Flow} {Q : Flow → Shared → Prop} {E : Value → Shared → Prop} {s : Shared} {h₀ : Heap} {L : Addr} {m : Str → Option Value} (_ : Fr h₀ L s.heap m)
  (h : wpAny M A t (LawEnd h₀ L s) (fun _ _ => False) s) (hf : ∀ f s', LawEnd h₀ L s f s' → Q f s') : wpAny M A t Q E s := wpAny_mono h hf (fun _ _ e => e.elim)
section
open PySem.W
theorem pick_ints (a b : Int) (t u : Tok) (n : Nat) : IntsAre (kms_pick [.int a t, .int b u] (some (n : Int)) none) ([a, b].drop n) := by
  have e : kms_pick [.int a t, .int b u] (some (n : Int)) none = ([.int a t, .int b u] : List Value).drop n := by
    unfold kms_pick kms_lo kms_hi
    dsimp only
    rw [if_neg (by omega)]
    match n with
    | 0 => rfl
    | 1 => rfl
    | n + 2 => simp; omega
  rw [e]
  match n with
  | 0 => exact .cons _ _ (.cons _ _ .nil)
  | 1 => exact .cons _ _ .nil
  | n + 2 => simpa using IntsAre.nil
end
theorem two_ints {ws : List Value} {ns : List Int} {a b : Int} (h : IntsAre ws (ns.take 2 ++ [a, b].drop ns.length)) : ∃ x y t u, ws = [.int x t, .int y u] := by
  have hl : (ns.take 2 ++ [a, b].drop ns.length).length = 2 := by
    match ns with
    | [] => rfl
    | [_] => rfl
    | _ :: _ :: _ => simp
  generalize ns.take 2 ++ [a, b].drop ns.length = zs at h hl
  cases h with
  | nil => simp at hl
  | cons x t h => cases h with
    | nil => simp at hl
    | cons y u h => cases h with
      | nil => exact ⟨_, _, _, _, rfl⟩
      | cons z v h => simp at hl

noncomputable def lawDef : List Stmt × Scope := match PySem.Challenge.pw_pg0243_01.main.body.getLast? with | some (.FunctionDef _ _ b _ _ _ sc _ _ _) => (b, sc) | _ => ([], PySem.Challenge.pw_pg0243_01.main.scope)
noncomputable def lawSt (k : Nat) : List Stmt := lawDef.1.drop k
noncomputable def lawSc : Scope := lawDef.2
/-- a figure to the base 5 -/
noncomputable def dig (a : Int) (k : Nat) : Int := (a.fdiv (5 ^ k)).fmod 5
open LCg
--<M
local macro_rules | `(tactic| walk_at "CompSrc") => `(tactic| (k_here; (with_reducible refine Halt.mk ?_)))
local macro_rules | `(tactic| walk_at "my_range") => `(tactic| (unfold Halt; refine LCg.CompSrc.range (by rfl) (by k_asm) (by k_asm) (by assumption) (by decide) (by rfl) (by exact Nat.le_of_ble_eq_true rfl) ?_; intro g1))
local macro_rules | `(tactic| walk_at "my_turn") => `(tactic| (refine LCg.CompRest.succ ?_; intro v' I' oI' C' oC' D' m' h' tk' E' hv' hC' hx' F' N' off' ne'; revert hv'; refine ex_imp ?_; intro t9 hv9; (simp only [Int.zero_add, Int.natCast_zero, Int.natCast_one] at hv9); subst hv9; have off9 := off'; (simp only [LCg.Off3, and_true] at off'); (try dsimp only at *)))
local macro_rules | `(tactic| walk_at "CompRest") => `(tactic| (with_reducible refine Halt.mk ?_))
local macro_rules | `(tactic| walk_at "eval ListComp") => `(tactic| (k_here; k_dflt (refine LCg.ListComp_U (F₀ := by k_asm) (by with_unfolding_all rfl) (by decide) (by rfl) (by decide) (by rfl) ?_)))
--M>
set_option maxHeartbeats 8000000 in
theorem stageB (w : World) (mean : ExcName → Option Value) (mg mb : Str → Option Value) (g : Heap) (L fa : Addr) (cd : Value) (st : List Stmt) (sc : Scope) (hst : st = lawSt 1) (hsc : sc = lawSc) (s : Shared) (Q : Flow → Shared → Prop) (E : Value → Shared → Prop)
    (X : (hd.heap_39 w.params).In g) (B : Below callerA g [] g) (T : Top topProg looseT mean mg mb g) (codeHd : CodeHd g 142 138) (m : Env1) (D : Addr) (a b : Int) (ta tb : Tok) (w0 w1 : Obj) (c0 c1 : Option Value) (d0 : w0.data = .cell c0) (d1 : w1.data = .cell c1)
    (F : Fr g L s.heap (kstB m [(Str.ofString "numbers", .ref D)])) (N : News g L s.heap [(D, W.listOf [.int a ta, .int b tb].toArray 2), (L + 1 + 1, w1), (L + 1, w0), (138, tabObj #[])])
    (l0 : 138 < L) (ha : 0 ≤ a ∧ a < 250) (hb : 0 ≤ b ∧ b < 250)
    (hnext : ∀ (h : Heap) (tk : Nat) (m : Env1) (R R0 R1 : Addr) (t0 t1 t2 t3 t4 t5 : Tok), Fr g L h (kstB m [(Str.ofString "numbers", .ref D), (Str.ofString "rows", .ref R)]) →
      News g L h [(R, W.listOf [.ref R0, .ref R1].toArray 2), (R1, W.listOf [.int (dig b 0) t3, .int (dig b 1) t4, .int (dig b 2) t5].toArray 3), (R0, W.listOf [.int (dig a 0) t0, .int (dig a 1) t1, .int (dig a 2) t2].toArray 3), (D, W.listOf [.int a ta, .int b tb].toArray 2), (L + 1 + 1, w1), (L + 1, w0), (138, tabObj #[])] →
      Off1 R [(R1, W.listOf #[] 0), (R0, W.listOf #[] 0), (D, W.listOf #[] 0), (L + 1 + 1, w1), (L + 1, w0), (138, tabObj #[])] → Off1 R1 [(R0, W.listOf #[] 0), (D, W.listOf #[] 0), (L + 1 + 1, w1), (L + 1, w0), (138, tabObj #[])] → Off1 R0 [(D, W.listOf #[] 0), (L + 1 + 1, w1), (L + 1, w0), (138, tabObj #[])] →
      wpAny (model PySem.Challenge.rw_pg0243_01.row.prog w) (callerA.deeper (envOfC (Str.ofString "law") sc L fa cd)) (execs (lawSt 2) (envOfC (Str.ofString "law") sc L fa cd)) Q E { s with heap := h, toks := tk }) :
    wpAny (model PySem.Challenge.rw_pg0243_01.row.prog w) (callerA.deeper (envOfC (Str.ofString "law") sc L fa cd)) (execs st (envOfC (Str.ofString "law") sc L fa cd)) Q E s := by
  conv at hst => rhs; whnf
  conv at hsc => rhs; whnf
  subst hst hsc
  w_top off
  revert X; k_fill; intro X
  have mine_on : MineOn := True.intro
  have eps_on : EpsOn := True.intro
  haveI := neSh; haveI := neAr; haveI := neWo
  revert w mean mg mb g L fa cd s Q E m D a b ta tb w0 w1 c0 c1
  intro w mean mg mb g L fa cd s Q E B T codeHd m D a b ta tb w0 w1 c0 c1 d0 d1 F N l0 ha hb hnext X
  (iterate 1 (walk_at "my_step"))
  k_dflt (refine' Assign_ListComp_C (m := kstB m [(Str.ofString "numbers", .ref D)]) (h₀ := g) (L := L) ?hL ?hsw ?hclos ?hcf ?hpc ?hk ?hn ?hx ?hy ?hp ?_)
  case hL => rfl
  case hsw => with_unfolding_all rfl
  case hclos => with_unfolding_all rfl
  case hcf => intro k; rfl
  case hpc => intro h; rfl
  case hk => rfl
  case hn => decide
  case hx => rfl
  case hy => rfl
  case hp => rfl
  (iterate 1 (walk_at "my_step"))
  refine ⟨D, _, _, _, rfl, rfl, F, N, .head _, by exact Nat.le_of_ble_eq_true rfl, ?_⟩
  intro h0
  iterate 2
    refine RestC.succ ?_
    intro v I oI C oC DD K oK m₂ h tk E' hv hC hK F N off ne oK1
    cases hv
    dsimp only at *
    have off8 := off
    (simp only [LCg.Off3, and_true] at off8)
    have oK2 := oK1
    (simp only [LCg.Off1, and_true] at oK2)
    have hK' : oK.data = .cell (some (.int _ _)) := hK
    clear hK
    k_steps
    walk_at "my_range"
    iterate 3
      walk_at "my_turn"
      (iterate 9 (walk_at "my_step"))
      dsimp only
      (iterate 1 (walk_at "my_step"))
      dsimp only
      refine LCg.CompEnd.intro (by k_asm) (by k_asm) _ (fun p hp => hp) (by assumption) True.intro ?_
    refine LCg.CompRest.zero ?_
    intro D9 h9 tk9 F9 N9 o9
    refine endC_new F9 N9 off oK1 o9 (by k_mem) ?_
    dsimp only [List.nil_append, List.cons_append]
    have o7 := o9.2.2.2.2
    clear off oK1 off8 oK2
  refine RestC.zero ?_
  intro D9 h9 tk9 F9 N9 o9
  exact hnext h9 tk9 _ D9 _ _ _ _ _ _ _ _ (Has.fr ⟨rfl, rfl, True.intro⟩ F9) N9 o9 (by assumption) (by assumption)

/-- a row as a lead -/
noncomputable def leadOf (xs : List Int) : Str := Txt.join (Str.ofString "") (xs.map fun r => Txt.mul (Str.ofString " ") r ++ Str.ofString "\t")
theorem three_strs (a b c : Str) (t u v : Tok) : StrsAre [.str a t, .str b u, .str c v] [a, b, c] := .cons _ _ (.cons _ _ (.cons _ _ .nil))
theorem two_strs (a b : Str) (t u : Tok) : StrsAre [.str a t, .str b u] [a, b] := .cons _ _ (.cons _ _ .nil)
--<M
local macro_rules | `(tactic| walk_at "binaryOp Mult str int") => `(tactic| ((walk_at "my_on"); k_here; refine SB.mul (by assumption) ?_; intro _ _))
local macro_rules | `(tactic| walk_at "call builtin:str.join") => `(tactic| (k_here; (with_reducible refine gdJoin ?_); k_dflt (first | refine join_list (News.isList (by k_asm) (by k_mem)) (three_strs _ _ _ _ _ _) (by assumption) ?_ | refine join_list (News.isList (by k_asm) (by k_mem)) (two_strs _ _ _ _) (by assumption) ?_); intro t' tk'))
--M>
theorem mul_ok4 {x : Int} (h : 0 ≤ x ∧ x ≤ 4) : MulOk (Str.ofString " ") x := mulOk_of 16 1048576 (by decide) (by omega) (by omega) (by decide) (by decide)
theorem mul_len4 {x : Int} (h : 0 ≤ x ∧ x ≤ 4) : (Txt.mul (Str.ofString " ") x).length ≤ 4 := by
  have d := len_mul (Str.ofString " ") x
  rw [show (Str.ofString " ").length = 1 by decide] at d
  split at d <;> omega
theorem blank_len {x : Int} (h : 0 ≤ x ∧ x ≤ 4) : (Txt.mul (Str.ofString " ") x ++ Str.ofString "\t").length ≤ 5 := by
  have e : Str.ofString "\t" = ⟨#[9]⟩ := by decide
  have d := len_mul (Str.ofString " ") x
  rw [e, len_one]
  rw [show (Str.ofString " ").length = 1 by decide] at d
  split at d <;> omega
theorem join_ok {x y z : Int} (hx : 0 ≤ x ∧ x ≤ 4) (hy : 0 ≤ y ∧ y ≤ 4) (hz : 0 ≤ z ∧ z ≤ 4) :
    (([Txt.mul (Str.ofString " ") x ++ Str.ofString "\t", Txt.mul (Str.ofString " ") y ++ Str.ofString "\t", Txt.mul (Str.ofString " ") z ++ Str.ofString "\t"] : List Str).map (·.length)).sum + ([Txt.mul (Str.ofString " ") x ++ Str.ofString "\t", Txt.mul (Str.ofString " ") y ++ Str.ofString "\t", Txt.mul (Str.ofString " ") z ++ Str.ofString "\t"] : List Str).length * (Str.ofString "").length ≤ 16777216 := by
  have h1 := blank_len hx
  have h2 := blank_len hy
  have h3 := blank_len hz
  simp only [List.map_cons, List.map_nil, List.sum_cons, List.sum_nil, List.length_cons, List.length_nil]
  rw [show (Str.ofString "").length = 0 by decide]
  omega
set_option maxHeartbeats 8000000 in
theorem stageC (w : World) (mean : ExcName → Option Value) (mg mb : Str → Option Value) (g : Heap) (L fa : Addr) (cd : Value) (st : List Stmt) (sc : Scope) (hst : st = lawSt 2) (hsc : sc = lawSc) (s : Shared) (Q : Flow → Shared → Prop) (E : Value → Shared → Prop)
    (X : (Mine.hd.heap_39 w.params).In g) (B : Below callerA g [] g) (T : Top topProg looseT mean mg mb g) (codeHd : CodeHd g 142 138) (m : Env1) (D R R0 R1 : Addr) (x0 x1 x2 y0 y1 y2 : Int) (t0 t1 t2 t3 t4 t5 : Tok) (rest : Led)
    (F : Fr g L s.heap (kstB m [(Str.ofString "numbers", .ref D), (Str.ofString "rows", .ref R)]))
    (N : News g L s.heap ((R, W.listOf [.ref R0, .ref R1].toArray 2) :: (R1, W.listOf [.int y0 t3, .int y1 t4, .int y2 t5].toArray 3) :: (R0, W.listOf [.int x0 t0, .int x1 t1, .int x2 t2].toArray 3) :: rest))
    (hx0 : 0 ≤ x0 ∧ x0 ≤ 4) (hx1 : 0 ≤ x1 ∧ x1 ≤ 4) (hx2 : 0 ≤ x2 ∧ x2 ≤ 4) (hy0 : 0 ≤ y0 ∧ y0 ≤ 4) (hy1 : 0 ≤ y1 ∧ y1 ≤ 4) (hy2 : 0 ≤ y2 ∧ y2 ≤ 4)
    (hnext : ∀ (h : Heap) (tk : Nat) (m : Env1) (LD : Addr) (u0 u1 : Tok), Fr g L h (kstB m [(Str.ofString "numbers", .ref D), (Str.ofString "rows", .ref R), (Str.ofString "leads", .ref LD)]) →
      News g L h ((LD, W.listOf [.str (leadOf [x0, x1, x2]) u0, .str (leadOf [y0, y1, y2]) u1].toArray 2) :: (R, W.listOf [.ref R0, .ref R1].toArray 2) :: (R1, W.listOf [.int y0 t3, .int y1 t4, .int y2 t5].toArray 3) :: (R0, W.listOf [.int x0 t0, .int x1 t1, .int x2 t2].toArray 3) :: rest) →
      LCg.Off1 LD ((R, W.listOf #[] 0) :: (R1, W.listOf #[] 0) :: (R0, W.listOf #[] 0) :: rest) →
      wpAny (model PySem.Challenge.rw_pg0243_01.row.prog w) (callerA.deeper (envOfC (Str.ofString "law") sc L fa cd)) (execs (lawSt 3) (envOfC (Str.ofString "law") sc L fa cd)) Q E { s with heap := h, toks := tk }) :
    wpAny (model PySem.Challenge.rw_pg0243_01.row.prog w) (callerA.deeper (envOfC (Str.ofString "law") sc L fa cd)) (execs st (envOfC (Str.ofString "law") sc L fa cd)) Q E s := by
  conv at hst => rhs; whnf
  conv at hsc => rhs; whnf
  subst hst hsc
  w_top off
  revert X; k_fill; intro X
  have mine_on : MineOn := True.intro
  have eps_on : EpsOn := True.intro
  haveI := neSh; haveI := neAr; haveI := neWo
  revert w mean mg mb g L fa cd s Q E m D R R0 R1 x0 x1 x2 y0 y1 y2 t0 t1 t2 t3 t4 t5 rest
  intro w mean mg mb g L fa cd s Q E B T codeHd m D R R0 R1 x0 x1 x2 y0 y1 y2 t0 t1 t2 t3 t4 t5 rest F N hx0 hx1 hx2 hy0 hy1 hy2 hnext X
  have k0 := mul_ok4 hx0
  have k1 := mul_ok4 hx1
  have k2 := mul_ok4 hx2
  have k3 := mul_ok4 hy0
  have k4 := mul_ok4 hy1
  have k5 := mul_ok4 hy2
  have n0 := mul_len4 hx0
  have n1 := mul_len4 hx1
  have n2 := mul_len4 hx2
  have n3 := mul_len4 hy0
  have n4 := mul_len4 hy1
  have n5 := mul_len4 hy2
  have j0 := join_ok hx0 hx1 hx2
  have j1 := join_ok hy0 hy1 hy2
  (iterate 1 (walk_at "my_step"))
  k_dflt (refine LCg.Assign_ListComp_U (F₀ := F) (L := L) (by rfl) (by with_unfolding_all rfl) (by with_unfolding_all rfl) (by decide) (by rfl) (by decide) (by rfl) (by rfl) (by rfl) ?_)
  k_steps
  unfold Halt
  refine LCg.CompSrc.ledger (by rfl) F N (by k_mem) (by exact Nat.le_of_ble_eq_true rfl) ?_
  intro g1
  iterate 2
    refine LCg.CompRest.succ ?_
    intro v I oI C oC DD m₂ h tk E' hv hC hx F N off ne
    simp only [List.getElem?_toArray, List.getElem?_cons_zero, List.getElem?_cons_succ, Option.some.injEq] at hv
    subst hv
    dsimp only at *
    k_steps
    unfold Halt
    refine LCg.CompSrc.ledger (by rfl) F N (by k_mem) (by exact Nat.le_of_ble_eq_true rfl) ?_
    intro g2
    iterate 3
      refine LCg.CompRest.succ ?_
      intro v8 I8 oI8 C8 oC8 D8 m8 h8 tk8 E8 hv8 hC8 hx8 F8 N8 off8 ne8
      simp only [List.getElem?_toArray, List.getElem?_cons_zero, List.getElem?_cons_succ, Option.some.injEq] at hv8
      subst hv8
      dsimp only at *
      (iterate 6 (walk_at "my_step"))
      dsimp only
      (iterate 1 (walk_at "my_step"))
      dsimp only
      refine LCg.CompEnd.intro (by k_asm) (by k_asm) _ (fun p hp => hp) off8 (Or.inr ⟨_, by k_mem, rfl, _, rfl⟩) ?_
    refine LCg.CompRest.zero ?_
    intro D9 h9 tk9 F9 N9 o9
    dsimp only [List.nil_append, List.cons_append] at N9 ⊢
    k_steps
    refine LCg.CompEnd.intro F9 N9 _ (fun p hp => .tail _ hp) off (Or.inr ⟨_, by k_mem, rfl, _, rfl⟩) ?_
  refine LCg.CompRest.zero ?_
  intro D9 h9 tk9 F9 N9 o9
  dsimp only [List.nil_append, List.cons_append] at N9 ⊢
  exact hnext h9 tk9 _ D9 _ _ (Has.fr ⟨rfl, rfl, rfl, True.intro⟩ F9) N9 o9

/-- a text's signs -/
@[reducible] noncomputable def sg (x : Str) : List Nat := x.cps.toList
theorem sg_append (x y : Str) : sg (x ++ y) = sg x ++ sg y := by
  show (x.cps ++ y.cps).toList = _
  simp
theorem sg_length (x : Str) : (sg x).length = x.length := by simp [sg, Str.length]
theorem str_ext {x y : Str} (h : sg x = sg y) : x = y := by
  cases x; cases y
  congr 1
  exact Array.toList_inj.mp h
theorem glue_fold (g : Array Nat) : ∀ (l : List Str) (a : Array Nat), (l.foldl (fun (acc : Array Nat) (p : Str) => acc ++ g ++ p.cps) a).toList = a.toList ++ l.flatMap fun p => g.toList ++ sg p
  | [], a => by simp
  | p :: r, a => by
    rw [List.foldl_cons, glue_fold g r]
    simp [List.append_assoc]
theorem sg_join (sep : Str) (x : Str) (l : List Str) : sg (Txt.join sep (x :: l)) = sg x ++ l.flatMap fun p => sg sep ++ sg p := by
  show (List.foldl _ _ _ : Array Nat).toList = _
  exact glue_fold sep.cps l x.cps
theorem sg_join0 (l : List Str) : sg (Txt.join (Str.ofString "") l) = l.flatMap sg := by
  have e : sg (Str.ofString "") = [] := by decide
  cases l with
  | nil => decide
  | cons x l =>
    rw [sg_join, e]
    simp
theorem sg_mul_one {y : Str} {c : Nat} (hy : y = ⟨#[c]⟩) (n : Int) : sg (Txt.mul y n) = List.replicate n.toNat c := by
  subst hy
  exact mul_one_list ..
theorem sg_blank (n : Int) : sg (Txt.mul (Str.ofString " ") n) = List.replicate n.toNat 32 := sg_mul_one (by decide) n
theorem sg_lead (xs : List Int) : sg (leadOf xs) = xs.flatMap fun r => List.replicate r.toNat 32 ++ [9] := by
  unfold leadOf
  rw [sg_join0, List.flatMap_map]
  congr 1
  funext r
  rw [sg_append, sg_blank]
  rfl
theorem sg_writ (q : Int) (l : Str) : sg (writ q l) = if q ≠ 0 then 34 :: (sg l ++ [34]) else (sg l).flatMap fun c => [92, c] := by
  unfold writ
  split
  · rw [sg_append, sg_append]
    have e : sg (Str.ofString "\"") = [34] := by decide
    rw [e]; simp
  · rw [sg_join0]
    unfold slashed
    rw [List.flatMap_map]
    congr 1
theorem flat2_len (l : List Nat) : (l.flatMap fun c => [92, c]).length = 2 * l.length := by
  induction l with
  | nil => rfl
  | cons c r ih => simp only [List.flatMap_cons, List.length_append, List.length_cons, List.length_nil, ih]; omega

/-- a text of blanks and tabs -/
structure LeadOk (l : Str) : Prop where
  len : l.length < 100
  sg : ∀ c ∈ l.cps.toList, c = 32 ∨ c = 9
theorem LeadOk.all {l : Str} (h : LeadOk l) : l.cps.all (· < 128) = true := by
  rw [Array.all_eq_true']
  intro c hc
  have := h.sg c (Array.mem_toList_iff.mpr hc)
  rcases this with rfl | rfl <;> decide
section
variable {w : World} {mean : ExcName → Option Value} {mg mb : Str → Option Value} {dp un : Nat} {gd : Option (List Code)} {cn : Str} {cs : Scope} {a : Addr} {ccd : Value} {cl : List (Str × Addr)} {outer : List Env} {A₀ : Around} {base h₀ : Heap} {L : Addr} {m : Str → Option Value} {s : Shared} {Q E : Value → Shared → Prop} {news : Led}
theorem written_use {lead : Str} {t : Tok} {q : Int} {tq : Tok} (B : Below A₀ base outer h₀) (F : Fr h₀ L s.heap m) (X : (Mine.hd.heap_39 w.params).In h₀) (N : News h₀ L s.heap news) (T : Top topProg looseT mean mg mb h₀) (hk : cs.kind = .function)
    (ok : LeadOk lead) (hd : dp + 3 < recursionLimit) (hu : un + 8 * 3 < cLine)
    (hret : ∀ (t : Tok) (h' : Heap) (tk' : Nat), Fr h₀ L h' m → News h₀ L h' news → Q (.str (writ q lead) t) { s with heap := h', toks := tk' }) :
    wpAny (model PySem.Challenge.rw_pg0243_01.row.prog w) (ktrTop dp un gd cn cs L a ccd cl outer) (call (.ref 148) [.str lead t, .int q tq]) Q E s :=
  written_claim w mean mg mb news lead t q tq (by have := ok.len; omega) ok.all dp un gd cn cs a ccd cl outer A₀ base h₀ L m s Q E B F X N T hk hd hu (by
    rintro v news' h' tk' F' N' ⟨t, rfl, rfl⟩
    exact hret t h' tk' F' N')
end
--<M
local macro_rules | `(tactic| walk_at "call ref") => `(tactic| (k_here; (with_reducible refine gdr 148 ?_); k_dflt (refine' written_use ?k1 ?k2 ?k3 ?k4 ?k5 ?kK ?ok ?kd ?ku ?_; (case k1 | k2 | k3 | k4 | k5 => k_asm); (case kK => first | exact rfl | assumption); (case ok => assumption); (case kd => ktr_room); (case ku => ktr_units); k_whole; intro t' h' tk' F' N'; (try dsimp only); (try k_fold))))
local macro_rules | `(tactic| walk_at "call ref") => `(tactic| (k_here; (with_reducible refine gdr 143 ?_); (with_reducible refine Halt.mk ?_)))
local macro_rules | `(tactic| walk_at "call type:zip") => `(tactic| (k_here; (with_reducible refine Halt.mk ?_)))
local macro_rules | `(tactic| walk_at "eval ListComp") => `(tactic| (k_here; (with_reducible show wpAny _ _ (eval (Expr.ListComp _ [⟨Expr.Tuple _ _ _, _, _, _⟩] _ _) _) _ _ _); k_dflt (refine ListComp_Z (by k_asm) (by with_unfolding_all rfl) (by decide) (by rfl) (by decide) (by rfl) (by rfl) (by decide) ?_)))
--M>
theorem writ_len {l : Str} (ok : LeadOk l) (q : Int) : (writ q l).length < 300 := by
  have h := ok.len
  rw [← sg_length] at h ⊢
  rw [sg_writ]
  split
  · simp only [List.length_cons, List.length_append, List.length_nil]; omega
  · rw [flat2_len]; omega
theorem two_len {x y : Str} (hx : x.length < 300) (hy : y.length < 300) : (Txt.join (Str.ofString "\n") [x, y]).length < 1000 := by
  rw [← sg_length] at hx hy ⊢
  rw [sg_join]
  have e : sg (Str.ofString "\n") = [10] := by decide
  rw [e]
  simp only [List.flatMap_cons, List.flatMap_nil, List.length_append, List.length_cons, List.length_nil]; omega
theorem two_ok {x y : Str} (hx : x.length < 300) (hy : y.length < 300) : (([x, y] : List Str).map (·.length)).sum + ([x, y] : List Str).length * (Str.ofString "\n").length ≤ 16777216 := by
  simp only [List.map_cons, List.map_nil, List.sum_cons, List.sum_nil, List.length_cons, List.length_nil]
  rw [show (Str.ofString "\n").length = 1 by decide]; omega
theorem two_vals {vs : List Value} {x y : Str} (hl : vs.length = 2) (hV : ∀ (i : Nat) (v : Value), vs[i]? = some v → ∃ t, v = Value.str ([x, y].getD i Str.empty) t) : ∃ t u, vs = [.str x t, .str y u] := by
  match vs, hl with
  | [v0, v1], _ =>
    obtain ⟨t, rfl⟩ := hV 0 v0 rfl
    obtain ⟨u, rfl⟩ := hV 1 v1 rfl
    exact ⟨t, u, rfl⟩
/-- the words, as the lexer is to read them -/
noncomputable def textOf (a b : Int) (l0 l1 : Str) : Str := Txt.join (Str.ofString "\n") [writ (a.fdiv 125) l0, writ (b.fdiv 125) l1]
theorem reord {X1 F R : Led} {a b c d e : Addr × Obj} : ∀ p ∈ c :: (X1 ++ (F ++ (a :: d :: e :: b :: R))), p ∈ X1 ++ a :: (F ++ b :: c :: d :: e :: R) := fun p hp => by
  simp only [List.mem_append, List.mem_cons] at hp ⊢
  rcases hp with h | h | h | h | h | h | h | h <;> simp only [h, true_or, or_true]
theorem reord2 {X1 F R : Led} {a c : Addr × Obj} : ∀ p ∈ X1 ++ (F ++ (a :: c :: R)), p ∈ c :: (X1 ++ (F ++ (a :: R))) := fun p hp => by
  simp only [List.mem_append, List.mem_cons] at hp ⊢
  rcases hp with h | h | h | h | h <;> simp only [h, true_or, or_true]
theorem store_cell {M : Model} {A : Around} {E : Value → Shared → Prop} {s : Shared} {env : Env} {x : Str} {v : Value} {h₀ : Heap} {L c : Addr} {m : Env1} {o : Obj} {rest : Led} {v₀ : Option Value} {Q : Unit → Shared → Prop} (F : Fr h₀ L s.heap m) (N : News h₀ L s.heap ((c, o) :: rest)) (hap : ∀ p ∈ rest, p.1 ≠ c)
    (hc : env.cells.lookup x = some c) (hd : o.data = .cell v₀) (hk : env.scope.kind = .function) (hx : env.kindOf x = some .cell)
    (h : ∀ h' o', Fr h₀ L h' m → News h₀ L h' ((c, o') :: rest) → o'.data = .cell (some v) → Q () { s with heap := h' }) : wpAny M A (storeName env x v) Q E s :=
  wpAny_storeName_cell hk hx hc ⟨o, (N _ (.head _)).1, hd⟩ fun h' hv hs => by
    obtain ⟨o', ho', hd'⟩ := hv
    have q := led_upd F N hap hs ho'
    exact h h' o' q.1 q.2 hd'
set_option maxHeartbeats 8000000 in
theorem stageD (w : World) (mean : ExcName → Option Value) (mg mb : Str → Option Value) (g : Heap) (L fa : Addr) (cd : Value) (st : List Stmt) (sc : Scope) (hst : st = lawSt 3) (hsc : sc = lawSc) (s : Shared) (Q : Flow → Shared → Prop) (E : Value → Shared → Prop)
    (X : (Mine.hd.heap_39 w.params).In g) (B : Below callerA g [] g) (T : Top topProg looseT mean mg mb g) (codeHd : CodeHd g 142 138) (m : Env1) (D R LD : Addr) (a b : Int) (ta tb : Tok) (l0 l1 : Str) (u0 u1 : Tok) (w0 : Obj) (c0 : Option Value) (d0 : w0.data = .cell c0) (rest : Led)
    (F : Fr g L s.heap (kstB m [(Str.ofString "numbers", .ref D), (Str.ofString "rows", .ref R), (Str.ofString "leads", .ref LD)]))
    (N : News g L s.heap ((138, tabObj #[]) :: (L + 1, w0) :: (LD, W.listOf [.str l0 u0, .str l1 u1].toArray 2) :: (D, W.listOf [.int a ta, .int b tb].toArray 2) :: rest))
    (h138 : ∀ p ∈ (L + 1, w0) :: (LD, W.listOf [.str l0 u0, .str l1 u1].toArray 2) :: (D, W.listOf [.int a ta, .int b tb].toArray 2) :: rest, p.1 ≠ 138) (hc1 : ∀ p ∈ (LD, W.listOf [.str l0 u0, .str l1 u1].toArray 2) :: (D, W.listOf [.int a ta, .int b tb].toArray 2) :: rest, p.1 ≠ L + 1)
    (ok0 : LeadOk l0) (ok1 : LeadOk l1) (ha : 0 ≤ a ∧ a < 250) (hb : 0 ≤ b ∧ b < 250)
    (hnext : ∀ (h : Heap) (tk : Nat) (X2 : LX) (vs2 : List Value) (k2 : Nat) (tl2 : Tok) (fixed : Led) (o' : Obj) (ps : Array Value), Fr g L h (kstB m [(Str.ofString "numbers", .ref D), (Str.ofString "rows", .ref R), (Str.ofString "leads", .ref LD)]) →
      News g L h (X2.led w 1 tl2 vs2 k2 ++ (fixed ++ ((X2.pb, W.listOf #[] 0) :: (L + 1, o') :: (LD, W.listOf [.str l0 u0, .str l1 u1].toArray 2) :: (D, W.listOf [.int a ta, .int b tb].toArray 2) :: (138, tabObj ps) :: rest))) →
      RdOk w mean mg mb X2 fixed → StrsAre vs2 (chars (sg (textOf a b l0 l1))) → o'.data = .cell (some (.ref X2.x)) →
      (∀ p ∈ (X2.pb, W.listOf #[] 0) :: (L + 1, o') :: (LD, W.listOf [.str l0 u0, .str l1 u1].toArray 2) :: (D, W.listOf [.int a ta, .int b tb].toArray 2) :: (138, tabObj ps) :: rest, p.1 ≠ X2.d ∧ p.1 ≠ X2.Dl) →
      wpAny (model PySem.Challenge.rw_pg0243_01.row.prog w) (callerA.deeper (envOfC (Str.ofString "law") sc L fa cd)) (execs (lawSt 4) (envOfC (Str.ofString "law") sc L fa cd)) Q E { s with heap := h, toks := tk }) :
    wpAny (model PySem.Challenge.rw_pg0243_01.row.prog w) (callerA.deeper (envOfC (Str.ofString "law") sc L fa cd)) (execs st (envOfC (Str.ofString "law") sc L fa cd)) Q E s := by
  conv at hst => rhs; whnf
  conv at hsc => rhs; whnf
  subst hst hsc
  w_top off
  revert X; k_fill; intro X
  have mine_on : MineOn := True.intro
  have eps_on : EpsOn := True.intro
  haveI := neSh; haveI := neAr; haveI := neWo; haveI := neLX
  revert w mean mg mb g L fa cd s Q E m D R LD a b ta tb l0 l1 u0 u1 w0 c0 rest
  intro w mean mg mb g L fa cd s Q E B T codeHd m D R LD a b ta tb l0 l1 u0 u1 w0 c0 d0 rest F N h138 hc1 ok0 ok1 ha hb hnext X
  k_steps
  unfold Halt
  refine zip_call rfl F N (by k_mem) (by k_mem) (by exact Nat.le_of_ble_eq_true rfl) (fun i v => ∃ t, v = .str ([writ (a.fdiv 125) l0, writ (b.fdiv 125) l1].getD i Str.empty) t) ?_ ?_
  · intro i x y hx hy
    match i with
    | 0 =>
      obtain rfl : Value.str l0 u0 = x := by simpa using hx
      obtain rfl : Value.int a ta = y := by simpa using hy
      intro led C oC m₂ h tk Q' E' hC hma hmb F N hsub hq
      k_steps
      exact hq _ _ _ ⟨_, rfl⟩ (by k_asm) (by k_asm)
    | 1 =>
      obtain rfl : Value.str l1 u1 = x := by simpa using hx
      obtain rfl : Value.int b tb = y := by simpa using hy
      intro led C oC m₂ h tk Q' E' hC hma hmb F N hsub hq
      k_steps
      exact hq _ _ _ ⟨_, rfl⟩ (by k_asm) (by k_asm)
    | i + 2 => simp at hx
  · intro D9 h9 tk9 vs F9 N9 o9 hlen hV
    (have hx9 := two_vals (by simpa using hlen) hV; revert hx9; refine ex_imp ?_; intro v0; refine ex_imp ?_; intro v1; rintro rfl)
    have hw0 := writ_len ok0 (a.fdiv 125)
    have hw1 := writ_len ok1 (b.fdiv 125)
    have hj := two_ok hw0 hw1
    have ht := two_len hw0 hw1
    clear hV hlen N
    dsimp only
    k_steps
    unfold Halt
    have N10 := cb_drop N9 fun q hq => List.Mem.tail _ hq
    k_dflt (refine' lex_claim w mean mg mb _ _ ?hb _ _ _ _ _ _ _ _ _ _ _ _ _ _ _ _ _ _ X codeHd B F9 N10 h138 T ?hk ?hd ?hu ?_)
    case hb => exact ht
    case hk => rfl
    case hd => ktr_room
    case hu => ktr_units
    k_whole
    intro X2 vs2 k2 tl2 fixed ps h11 tk11 F11 N11 rd hvs2 q1 q2 q3 q4 q5
    dsimp only
    k_steps
    have N12 := cb_drop N11 reord
    have z0 : @LT.lt Nat _ (L + 1) X2.Dl := q1 (L + 1, w0) (.tail _ (.head _))
    refine store_cell F11 N12 ?_ rfl d0 rfl rfl ?_
    · intro p hp
      rcases List.mem_append.mp hp with hp | hp
      · simp only [List.mem_cons, List.not_mem_nil, or_false] at hp
        rcases hp with rfl | rfl | rfl
        · exact Nat.ne_of_gt (Nat.lt_trans z0 q2)
        · exact Nat.ne_of_gt z0
        · exact Nat.ne_of_gt (Nat.lt_trans z0 (Nat.lt_trans q2 q3))
      rcases List.mem_append.mp hp with hp | hp
      · exact Nat.ne_of_gt ((q5 p hp).2.2 (L + 1, w0) (.tail _ (.head _)))
      rcases List.mem_cons.mp hp with rfl | hp
      · exact Nat.ne_of_gt (Nat.lt_trans z0 (Nat.lt_trans q2 (Nat.lt_trans q3 q4)))
      · rcases List.mem_cons.mp hp with rfl | hp
        · exact hc1 _ (.head _)
        rcases List.mem_cons.mp hp with rfl | hp
        · exact hc1 _ (.tail _ (.head _))
        rcases List.mem_cons.mp hp with rfl | hp
        · exact Ne.symm (h138 _ (.head _))
        · exact hc1 p (.tail _ (.tail _ hp))
    · intro h12 o' F12 N13 hd12
      have N14 := cb_drop N13 reord2
      dsimp only
      refine hnext h12 tk11 X2 vs2 k2 tl2 fixed o' ps F12 N14 rd hvs2 hd12 ?_
      intro p hp
      rcases List.mem_cons.mp hp with rfl | hp
      · exact ⟨Nat.ne_of_gt (Nat.lt_trans q3 q4), Nat.ne_of_gt (Nat.lt_trans q2 (Nat.lt_trans q3 q4))⟩
      · have z1 : @LT.lt Nat _ p.1 X2.Dl := by
          rcases List.mem_cons.mp hp with rfl | hp
          · exact z0
          rcases List.mem_cons.mp hp with rfl | hp
          · exact q1 _ (.tail _ (.tail _ (.head _)))
          rcases List.mem_cons.mp hp with rfl | hp
          · exact q1 _ (.tail _ (.tail _ (.tail _ (.head _))))
          rcases List.mem_cons.mp hp with rfl | hp
          · exact q1 _ (.head _)
          · exact q1 p (.tail _ (.tail _ (.tail _ (.tail _ hp))))
        exact ⟨Nat.ne_of_lt (Nat.lt_trans z1 q2), Nat.ne_of_lt z1⟩

section
open PyProof.V
theorem ks_canLayAll0 : ∀ ns : List Str, (∀ x ∈ ns, PyData.strOk x = true) → PyData.canLayAll0 (ns.map PyData.str) = true
  | [], _ => rfl
  | x :: r, h => by simp [PyData.canLayAll0, PyData.canLay0, ks_canLayAll0 r (fun y hy => h y (.tail _ hy)), h x (.head _)]
theorem ks_depthAll : ∀ ns : List Str, PyData.depthAll (ns.map PyData.str) = 0
  | [] => rfl
  | _ :: r => by simp [PyData.depthAll, PyData.depth, ks_depthAll r]
theorem ks_shaped (ns : List Str) (h : ∀ x ∈ ns, PyData.strOk x = true) : SeqAt.shaped (.list (ns.map PyData.str)) = true := by
  simp [SeqAt.shaped, PyData.canLay0, PyData.depth, ks_canLayAll0 ns h, ks_depthAll]
theorem ks_sameAll : ∀ ns ms : List Str, PySem.Spec.sameAll (ns.map PyData.str) (ms.map PyData.str) = decide (ns = ms)
  | [], [] => by simp [PySem.Spec.sameAll]
  | [], _ :: _ => by simp [PySem.Spec.sameAll]
  | _ :: _, [] => by simp [PySem.Spec.sameAll]
  | a :: r, b :: t => by
    simp only [List.map_cons, PySem.Spec.sameAll, PySem.Spec.same, ks_sameAll r t]
    by_cases h : a = b <;> by_cases h' : r = t <;> simp [h, h']
theorem ks_same (ns ms : List Str) : PySem.Spec.same (.list (ns.map PyData.str)) (.list (ms.map PyData.str)) = decide (ns = ms) := by
  simp only [PySem.Spec.same]; exact ks_sameAll ns ms
theorem ks_carried : ∀ {vs : List Value} {ns : List Str}, StrsAre vs ns → CarriedAll vs (ns.map PyData.str)
  | _, _, .nil => .nil
  | _, _, .cons _ t r => .cons (.str _ t) (ks_carried r)
variable {prog : Program} {w : World} {A : Around} {E : Value → Shared → Prop} {s : Shared} {a b : Addr} {xs ys : List Value} {ns ms : List Str} {Q : Value → Shared → Prop}
theorem ne_strs (ha : s.heap.IsList a xs.toArray) (hb : s.heap.IsList b ys.toArray) (hi : StrsAre xs ns) (hj : StrsAre ys ms) (hu : A.units + 64 < cLine) (o1 : ∀ x ∈ ns, PyData.strOk x = true) (o2 : ∀ x ∈ ms, PyData.strOk x = true) (h : Q (.bool (!decide (ns = ms))) s) :
    wpAny (model prog w) A (compareOp .NotEq (.ref a) (.ref b)) Q E s :=
  ne_dataH_same (reads_newData ha (ks_carried hi)) (reads_newData hb (ks_carried hj)) (ks_shaped _ o1) (ks_shaped _ o2) hu (SeqAt.noMix_of_shape (.list .str) rfl _ _ (list_map_has fun _ => rfl) (list_map_has fun _ => rfl)) (by rw [ks_same]; exact h)
end

--<M
local macro_rules | `(tactic| walk_at "compareOp NotEq ref ref") => `(tactic| (k_here; (with_reducible refine Halt.mk ?_)))
local macro_rules | `(tactic| walk_at "call ref") => `(tactic| (k_here; (with_reducible refine gdr 122 ?_); (with_reducible refine Halt.mk ?_)))
--M>
section
variable {w : World} {mean : ExcName → Option Value} {mg mb : Str → Option Value} {dp un : Nat} {gd : Option (List Code)} {cn : Str} {cs : Scope} {a : Addr} {ccd : Value} {cl : List (Str × Addr)} {outer : List Env} {A₀ : Around} {base h₀ : Heap} {L : Addr} {m : Str → Option Value} {s : Shared} {rest : Led} {X : LX} {fixed : Led} {Q E : Value → Shared → Prop}
theorem tok_turn {chs cs' : List Nat} {y : Str} {vs : List Value} {k : Nat} {ln : Int} {tl : Tok} {I C D : Addr} {oI oC oD : Obj} (rd : RdOk w mean mg mb X fixed)
    (B : Below A₀ base outer h₀) (F : Fr h₀ L s.heap m) (XK : (Mine.hd.heap_39 w.params).In h₀) (N : News h₀ L s.heap ((I, oI) :: (C, oC) :: (D, oD) :: (X.led w ln tl vs k ++ (fixed ++ ((X.pb, W.listOf #[] 0) :: rest))))) (T : Top topProg looseT mean mg mb h₀) (codeHd : CodeHd base 142 138) (hk : cs.kind = .function)
    (hd : dp + 6 < recursionLimit) (hu : un + 8 * 7 < cLine) (hvs : StrsAre vs (chars chs)) (off : LCg.Off3 I C D (X.led w ln tl vs k ++ (fixed ++ ((X.pb, W.listOf #[] 0) :: rest)))) (hne : ∀ p ∈ (X.pb, W.listOf #[] 0) :: rest, p.1 ≠ X.d ∧ p.1 ≠ X.Dl)
    (hl0 : 0 ≤ ln) (hl1 : ln + chs.length < 1000000) (hl2 : chs.length < 10000) (e : lexRun .out Str.empty chs = (y, cs'))
    (h : ∀ t vs' k' ln' tl' h' tk', Fr h₀ L h' m → News h₀ L h' ((I, oI) :: (C, oC) :: (D, oD) :: (X.led w ln' tl' vs' k' ++ (fixed ++ ((X.pb, W.listOf #[] 0) :: rest)))) → StrsAre vs' (chars cs') → 0 ≤ ln' → ln' + cs'.length < 1000000 → Q (.str y t) { s with heap := h', toks := tk' }) :
    wpAny (model PySem.Challenge.rw_pg0243_01.row.prog w) (ktrTop dp un gd cn cs L a ccd cl outer) (call (.ref 122) [.ref X.x]) Q E s := by
  have o1 := off.mem (X.d, _) (.head _)
  have o2 := off.mem (X.Dl, _) (.tail _ (.head _))
  refine tok_claim w mean mg mb X fixed rd chs vs k ln tl 0 hvs hl0 hl1 hl2 dp un gd cn cs a ccd cl outer A₀ base h₀ L m s Q E ((I, oI) :: (C, oC) :: (D, oD) :: rest) XK codeHd B F (cb_drop N fun p hp => ?_) T hk (fun p hp => ?_) hd hu fun t vs' k' ln' tl' h' tk' F' N' hvs' q1 q2 => ?_
  · simp only [List.mem_append, List.mem_cons] at hp ⊢
    rcases hp with h | h | h | h | h | h | h <;> simp only [h, true_or, or_true]
  · rcases List.mem_cons.mp hp with rfl | hp
    · exact hne _ (.head _)
    rcases List.mem_cons.mp hp with rfl | hp
    · exact ⟨Ne.symm o1.1, Ne.symm o2.1⟩
    rcases List.mem_cons.mp hp with rfl | hp
    · exact ⟨Ne.symm o1.2.1, Ne.symm o2.2.1⟩
    rcases List.mem_cons.mp hp with rfl | hp
    · exact ⟨Ne.symm o1.2.2, Ne.symm o2.2.2⟩
    · exact hne p (.tail _ hp)
  · rw [e] at hvs' q2 ⊢
    refine h t vs' k' ln' tl' h' tk' F' (cb_drop N' fun p hp => ?_) hvs' q1 q2
    simp only [List.mem_append, List.mem_cons] at hp ⊢
    rcases hp with h | h | h | h | h | h | h <;> simp only [h, true_or, or_true]
end
theorem word_drop {a b c d e f : Addr × Obj} {fixed rest : Led} : ∀ p ∈ a :: e :: rest, p ∈ a :: ([b, c, d] ++ (fixed ++ (f :: e :: rest))) := fun p hp => by
  simp only [List.mem_append, List.mem_cons] at hp ⊢
  rcases hp with h | h | h <;> simp only [h, true_or, or_true]
theorem LeadOk.str {l : Str} (h : LeadOk l) : PyData.strOk l = true := by
  unfold PyData.strOk
  rw [Array.all_eq_true']
  intro c hc
  have := h.sg c (Array.mem_toList_iff.mpr hc)
  rcases this with rfl | rfl <;> decide
theorem three_ok {l0 l1 l2 : Str} (ok0 : LeadOk l0) (ok1 : LeadOk l1) (h2 : PyData.strOk l2 = true) : ∀ x ∈ [l0, l1, l2], PyData.strOk x = true := by
  intro x hx
  simp only [List.mem_cons, List.not_mem_nil, or_false] at hx
  rcases hx with rfl | rfl | rfl
  · exact ok0.str
  · exact ok1.str
  · exact h2
theorem wd2 {a b c d e : Addr × Obj} {rest : Led} : ∀ p ∈ c :: rest, p ∈ a :: b :: c :: d :: e :: rest := fun p hp => by
  simp only [List.mem_cons] at hp ⊢
  rcases hp with h | h <;> simp only [h, true_or, or_true]
set_option maxHeartbeats 8000000 in
theorem stageE (w : World) (mean : ExcName → Option Value) (mg mb : Str → Option Value) (g : Heap) (L fa : Addr) (cd : Value) (st : List Stmt) (sc : Scope) (hst : st = lawSt 4) (hsc : sc = lawSc) (s : Shared) (Q : Flow → Shared → Prop) (E : Value → Shared → Prop)
    (X : (Mine.hd.heap_39 w.params).In g) (B : Below callerA g [] g) (T : Top topProg looseT mean mg mb g) (codeHd : CodeHd g 142 138) (m : Env1) (R LD : Addr) (l0 l1 : Str) (u0 u1 : Tok) (rest : Led) (X2 : LX) (vs2 : List Value) (k2 : Nat) (tl2 : Tok) (fixed : Led) (o' : Obj) (chs c1 c2 c3 : List Nat)
    (F : Fr g L s.heap (kstB m [(Str.ofString "rows", .ref R), (Str.ofString "leads", .ref LD)]))
    (N : News g L s.heap (X2.led w 1 tl2 vs2 k2 ++ (fixed ++ ((X2.pb, W.listOf #[] 0) :: (L + 1, o') :: (LD, W.listOf [.str l0 u0, .str l1 u1].toArray 2) :: rest))))
    (rd : RdOk w mean mg mb X2 fixed) (hvs : StrsAre vs2 (chars chs)) (ho : o'.data = .cell (some (.ref X2.x)))
    (hne : ∀ p ∈ (X2.pb, W.listOf #[] 0) :: (L + 1, o') :: (LD, W.listOf [.str l0 u0, .str l1 u1].toArray 2) :: rest, p.1 ≠ X2.d ∧ p.1 ≠ X2.Dl)
    (e1 : lexRun .out Str.empty chs = (l0, c1)) (e2 : lexRun .out Str.empty c1 = (l1, c2)) (e3 : lexRun .out Str.empty c2 = (Str.empty, c3)) (ok0 : LeadOk l0) (ok1 : LeadOk l1) (n0 : chs.length < 1000) (n1 : c1.length < 1000) (n2 : c2.length < 1000)
    (hnext : ∀ (h : Heap) (tk : Nat) (m : Env1) (WD : Addr) (v0 v1 v2 : Tok), Fr g L h (kstB m [(Str.ofString "rows", .ref R), (Str.ofString "words", .ref WD)]) →
      News g L h ((WD, W.listOf [.str l0 v0, .str l1 v1, .str Str.empty v2].toArray 3) :: rest) → LCg.Off1 WD rest →
      wpAny (model PySem.Challenge.rw_pg0243_01.row.prog w) (callerA.deeper (envOfC (Str.ofString "law") sc L fa cd)) (execs (lawSt 6) (envOfC (Str.ofString "law") sc L fa cd)) Q E { s with heap := h, toks := tk }) :
    wpAny (model PySem.Challenge.rw_pg0243_01.row.prog w) (callerA.deeper (envOfC (Str.ofString "law") sc L fa cd)) (execs st (envOfC (Str.ofString "law") sc L fa cd)) Q E s := by
  conv at hst => rhs; whnf
  conv at hsc => rhs; whnf
  subst hst hsc
  w_top off
  revert X; k_fill; intro X
  have mine_on : MineOn := True.intro
  have eps_on : EpsOn := True.intro
  haveI := neSh; haveI := neAr; haveI := neWo; haveI := neLX
  revert w mean mg mb g L fa cd s Q E m R LD l0 l1 u0 u1 rest X2 vs2 k2 tl2 fixed o' chs c1 c2 c3
  intro w mean mg mb g L fa cd s Q E B T codeHd m R LD l0 l1 u0 u1 rest X2 vs2 k2 tl2 fixed o' chs c1 c2 c3 F N rd hvs ho hne e1 e2 e3 ok0 ok1 n0 n1 n2 hnext X
  (iterate 1 (walk_at "my_step"))
  k_dflt (refine LCg.Assign_ListComp_U (F₀ := F) (L := L) (by rfl) (by with_unfolding_all rfl) (by with_unfolding_all rfl) (by decide) (by rfl) (by decide) (by rfl) (by rfl) (by rfl) ?_)
  k_steps
  unfold Halt
  refine LCg.CompSrc.range (by rfl) (by k_asm) (by k_asm) (by assumption) (by decide) (by rfl) (by exact Nat.le_of_ble_eq_true rfl) ?_
  intro g1
  refine LCg.CompRest.succ ?_
  intro v I oI C oC DD m₂ h tk E' hv hC hx F N off ne
  have Na := N
  dsimp only [LX.led, List.cons_append, List.nil_append] at N
  k_steps
  unfold Halt
  dsimp only
  k_dflt (refine' tok_turn rd ?B F X Na T codeHd ?hk ?hd ?hu hvs off hne (by omega) (by omega) (by omega) e1 ?_)
  case B => k_asm
  case hk => rfl
  case hd => ktr_room
  case hu => ktr_units
  k_whole
  clear F N Na
  intro ta va ka la tla ha tka Fa Na hva1 p1 q1
  dsimp only
  try k_unfold
  refine LCg.CompEnd.intro Fa Na _ (fun p hp => hp) off True.intro ?_
  clear Fa Na off
  refine LCg.CompRest.succ ?_
  intro v I oI C oC DD m₂ h tk E' hv hC hx F N off ne
  have Na := N
  dsimp only [LX.led, List.cons_append, List.nil_append] at N
  k_steps
  unfold Halt
  dsimp only
  k_dflt (refine' tok_turn rd ?B F X Na T codeHd ?hk ?hd ?hu hva1 off hne p1 q1 (by omega) e2 ?_)
  case B => k_asm
  case hk => rfl
  case hd => ktr_room
  case hu => ktr_units
  k_whole
  clear F N Na
  intro ta va ka la tla ha tka Fa Na hva2 p2 q2
  dsimp only
  try k_unfold
  refine LCg.CompEnd.intro Fa Na _ (fun p hp => hp) off True.intro ?_
  clear Fa Na off
  refine LCg.CompRest.succ ?_
  intro v I oI C oC DD m₂ h tk E' hv hC hx F N off ne
  have Na := N
  dsimp only [LX.led, List.cons_append, List.nil_append] at N
  k_steps
  unfold Halt
  dsimp only
  k_dflt (refine' tok_turn rd ?B F X Na T codeHd ?hk ?hd ?hu hva2 off hne p2 q2 (by omega) e3 ?_)
  case B => k_asm
  case hk => rfl
  case hd => ktr_room
  case hu => ktr_units
  k_whole
  clear F N Na
  intro ta va ka la tla ha tka Fa Na hva3 p3 q3
  dsimp only
  try k_unfold
  refine LCg.CompEnd.intro Fa Na _ (fun p hp => hp) off True.intro ?_
  clear Fa Na off
  refine LCg.CompRest.zero ?_
  intro D9 h9 tk9 F9 N9 o9
  have N8 := cb_drop N9 (word_drop (fixed := fixed))
  clear N9
  dsimp only [List.nil_append, List.cons_append] at N8 ⊢
  k_steps
  unfold Halt
  refine ne_strs (News.isList (by k_asm) (by k_mem)) (News.isList (by k_asm) (by k_mem)) (three_strs _ _ _ _ _ _) (three_strs _ _ _ _ _ _) (by ke_room) (three_ok ok0 ok1 (by decide +kernel)) (three_ok ok0 ok1 (by decide +kernel)) ?_
  rw [show (!decide (([l0, l1, Str.empty] : List Str) = [l0, l1, Str.ofString ""])) = false by rw [decide_eq_true (show ([l0, l1, Str.empty] : List Str) = [l0, l1, Str.ofString ""] from rfl)]; rfl]
  (iterate 1 (walk_at "my_step"))
  rw [if_neg Bool.false_ne_true]
  refine wpAny_execs_nil ?_
  dsimp only
  (rename Fr _ _ _ _ => F20)
  (rename News _ _ _ _ => N20)
  exact hnext _ _ _ D9 _ _ _ (Has.fr ⟨rfl, rfl, True.intro⟩ F20) (cb_drop N20 wd2) (off1_of fun p hp => off1_mem o9 p (List.mem_append_right _ (List.mem_append_right _ (.tail _ (.tail _ (.tail _ hp))))))

/-- in a state that has met the law: its tokens are not nought, and no reader has booked one -/
theorem none_bk {w : World} {g h : Heap} {L : Addr} {m : Env1} (F : Fr g L h m) (X : (Mine.hd.heap_39 w.params).In g) : NoneBooked h :=
  ⟨_, ⟨_, _, _, F.keep 2 _ (X 2 _ rfl), rfl, (fun _ he => (nomatch he)), fun _ => rfl⟩, rfl⟩
section
open LCg
/-- a comprehension's turns, with a least number of tokens -/
noncomputable def RestT (n0 : Nat) (prog : Program) (w : World) (A : Around) (h₀ : Heap) (L : Addr) (m : Env1) (env : Env) (elt : Expr) (x : Str) (scope : Scope) (cl : List (Str × Addr)) (s : Shared) (S : Led → Prop) (P : Nat → Value → Prop) (Fin : List Value → Led → Prop) : Nat → Nat → List Value → Led → Prop
  | 0, _, ys, news => Fin ys news
  | k + 1, i, ys, news => ∀ v I oI C oC D m₂ h tk (E' : Value → Shared → Prop), n0 ≤ tk → P i v → NsObj oC m₂ → m₂ x = some v → Fr h₀ L h m → News h₀ L h ((I, oI) :: (C, oC) :: (D, lst ys) :: news) → Off3 I C D news → ((@Ne Nat I C) ∧ (@Ne Nat I D) ∧ (@Ne Nat C D)) →
      wpAny (model prog w) A (eval elt (compEnvC scope cl C env)) (CompEnd h₀ L m { s with heap := h, toks := tk } I oI C oC D (lst ys) S (fun y news' => RestT n0 prog w A h₀ L m env elt x scope cl s S P Fin k (i + 1) (ys ++ [y]) news')) E' { s with heap := h, toks := tk }
variable {prog : Program} {w : World} {A : Around} {E : Value → Shared → Prop} {s : Shared} {h₀ : Heap} {L : Addr} {m : Env1} {env : Env} {n0 : Nat}
theorem RestT.zero {elt : Expr} {x : Str} {scope : Scope} {cl : List (Str × Addr)} {S : Led → Prop} {P : Nat → Value → Prop} {Fin : List Value → Led → Prop} {i : Nat} {ys : List Value} {news : Led} (h : Fin ys news) :
    RestT n0 prog w A h₀ L m env elt x scope cl s S P Fin 0 i ys news := h
theorem RestT.succ {elt : Expr} {x : Str} {scope : Scope} {cl : List (Str × Addr)} {S : Led → Prop} {P : Nat → Value → Prop} {Fin : List Value → Led → Prop} {k i : Nat} {ys : List Value} {news : Led}
    (h : ∀ v I oI C oC D m₂ h tk (E' : Value → Shared → Prop), n0 ≤ tk → P i v → NsObj oC m₂ → m₂ x = some v → Fr h₀ L h m → News h₀ L h ((I, oI) :: (C, oC) :: (D, lst ys) :: news) → Off3 I C D news → ((@Ne Nat I C) ∧ (@Ne Nat I D) ∧ (@Ne Nat C D)) →
      wpAny (model prog w) A (eval elt (compEnvC scope cl C env)) (CompEnd h₀ L m { s with heap := h, toks := tk } I oI C oC D (lst ys) S (fun y news' => RestT n0 prog w A h₀ L m env elt x scope cl s S P Fin k (i + 1) (ys ++ [y]) news')) E' { s with heap := h, toks := tk }) :
    RestT n0 prog w A h₀ L m env elt x scope cl s S P Fin (k + 1) i ys news := h
theorem block_T {elt iter : Expr} {x : Str} {px : Pos} {scope : Scope} {cl : List (Str × Addr)} {pos : Pos} {s₂ : Shared} {I : Addr} {fp : List Addr} {n : Nat} {P : Nat → Value → Prop} {St : Nat → Heap → Prop} {S : Led → Prop} {news : Led}
    {Fin : List Value → Led → Prop} {RR : Value → Addr → Result → Shared → Prop}
    (W : Walks prog w A I fp [I] n P St) (hsz : n ≤ sizeLine) (hIo : ∀ i h, St i h → ∃ o, h.get? I = some o)
    (hSt : ∀ i h h' o nw, St i h → h.get? I = some o → h'.get? I = some o → (∀ b o, h₀.get? b = some o → h'.get? b = some o) → News h₀ L h' nw → S nw → St i h')
    (hcell : ∀ y ∈ scope.names, y.2 ≠ .cell) (hkind : scope.kind = .function) (hx : scope.names.lookup x = some .local) (hst : St 0 s₂.heap) (hfp : ∀ b ∈ fp, b < s₂.heap.objs.size) (hn0 : n0 ≤ s₂.toks)
    (F : Fr h₀ L s₂.heap m) (N : News h₀ L s₂.heap news) (hIL : L ≠ I) (hI₀ : h₀.get? I = none) (off : ∀ p ∈ news, p.1 ≠ I) (hS : S news)
    (R : RestT n0 prog w A h₀ L m env elt x scope cl s₂ S P Fin n 0 [] news)
    (hRR : ∀ D C h tk m' ys news', n0 ≤ tk → Fr h₀ L h m → News h₀ L h ((D, lst ys) :: news') → Off1 D news' → h.Ns C m' → h₀.get? C = none → h₀.get? D = none → C ≠ L → D ≠ L → C ≠ D → (∀ p ∈ news', p.1 ≠ C) → Fin ys news' → RR (.ref D) C (.ok .next) { s₂ with heap := h, toks := tk }) :
    wpAny (model prog w) A (newList []) (fun acc s₃ => wpAny (model prog w) A (newFunctionEnv scope env.globals cl [] env.qual none .none (some env)) (fun cenv s₄ =>
      codeAny (model prog w) A (.compStart (.ListComp elt [⟨.Name x px, iter, [], 0⟩] scope pos) 0 (.ref I) acc { cenv with scope := relabel scope env }) (RR acc cenv.locals) s₄) E s₃) E s₂ := by
  refine wpAny_newObj_type (wpAny_newFunctionEnv hcell (by intro y hy; simp at hy) (fun h₁ hns₁ hsb₁ => ?_) hkind)
  dsimp only at hns₁ hsb₁ ⊢
  generalize hH2 : s₂.heap.push { cls := .type "list", dict := none, data := .seq ([] : List Value).toArray } = H2 at hns₁ hsb₁ ⊢
  have hC : H2.objs.size = s₂.heap.objs.size + 1 := by rw [← hH2, Heap.size_push]
  have hDC : s₂.heap.objs.size ≠ H2.objs.size := by rw [hC]; exact Nat.ne_of_lt (Nat.lt_succ_self _)
  have below : ∀ b, b < s₂.heap.objs.size → b ≠ H2.objs.size ∧ b ≠ s₂.heap.objs.size := fun b hb => ⟨by rw [hC]; exact Nat.ne_of_lt (Nat.lt_succ_of_lt hb), Nat.ne_of_lt hb⟩
  have hDf : s₂.heap.objs.size ∉ fp := fun hm => Nat.lt_irrefl _ (hfp _ hm)
  have hCf : H2.objs.size ∉ fp := fun hm => (below _ (hfp _ hm)).1 rfl
  have hIlt : I < s₂.heap.objs.size := hfp I (W.sub I (List.mem_singleton.mpr rfl))
  have old : ∀ b o, s₂.heap.get? b = some o → h₁.get? b = some o := fun b o e => hsb₁.extBut b o (below b (Heap.lt_size e)).1 (Heap.get?_push_of_some _ (hH2 ▸ Heap.get?_push_of_some _ e))
  have hacc : h₁.get? s₂.heap.objs.size = some (lst []) := hsb₁.extBut _ _ hDC (Heap.get?_push_of_some _ (hH2 ▸ Heap.get?_push_size _ rfl))
  have hst₁ : St 0 h₁ := W.frame _ _ _ hst fun b _ o e => old b o e
  have fresh₀ : ∀ a, s₂.heap.objs.size ≤ a → h₀.get? a = none := fun a ha => by
    cases e : h₀.get? a with
    | none => rfl
    | some o' => exact absurd (Heap.lt_size (F.keep a o' e)) (Nat.not_lt.mpr ha)
  have hD₀ : h₀.get? s₂.heap.objs.size = none := fresh₀ _ (Nat.le_refl _)
  have hC₀ : h₀.get? H2.objs.size = none := fresh₀ _ (by rw [hC]; exact Nat.le_succ _)
  have hLlt : L < s₂.heap.objs.size := F.ns.lt
  have hDL : s₂.heap.objs.size ≠ L := Ne.symm (below L hLlt).2
  have hCL : H2.objs.size ≠ L := Ne.symm (below L hLlt).1
  have hCI : I ≠ H2.objs.size := (below I hIlt).1
  have hDI : I ≠ s₂.heap.objs.size := (below I hIlt).2
  have off₀ : Off3 I H2.objs.size s₂.heap.objs.size news := Off3.of fun p hp => ⟨off p hp, (below _ (Heap.lt_size (N p hp).1)).1, (below _ (Heap.lt_size (N p hp).1)).2⟩
  have loop : ∀ s₃ : Shared, s₃ = { s₂ with heap := h₁, toks := s₂.toks + ([] : List (Str × Value)).length } →
      codeAny (model prog w) A (.compLoop (.ListComp elt [⟨.Name x px, iter, [], 0⟩] scope pos) 0 (.ref I) (.ref s₂.heap.objs.size) (compEnvC scope cl H2.objs.size env))
        (RR (.ref s₂.heap.objs.size) H2.objs.size) s₃ := by
    rintro s₃ rfl
    refine codeAny_compLoop_tests
      (fun k s' => ∃ h' tk i ys m' news', s' = { s₂ with heap := h', toks := tk } ∧ n0 ≤ tk ∧ i ≤ n ∧ k = n + 1 - i ∧ ys.length = i ∧ St i h' ∧ Fr h₀ L h' m ∧ h'.Ns H2.objs.size m' ∧ News h₀ L h' ((s₂.heap.objs.size, lst ys) :: news') ∧
        Off3 I H2.objs.size s₂.heap.objs.size news' ∧ S news' ∧ RestT n0 prog w A h₀ L m env elt x scope cl s₂ S P Fin (n - i) i ys news') ?_ (n + 1)
      ⟨h₁, _, 0, [], _, news, rfl, hn0, Nat.zero_le _, rfl, rfl, hst₁, F.keeps old, hns₁, fun p hp => ?_, off₀, hS, R⟩
    · rintro k s' ⟨h', tk, i, ys, m', news', rfl, htk, hi, rfl, hyl, hst', F', hn', N', off', hS', R'⟩
      have off3 := off'.mem
      by_cases hlt : i < n
      · obtain ⟨j, hj⟩ : ∃ j, n - i = j + 1 := ⟨n - i - 1, by omega⟩
        rw [hj] at R'
        refine wpAny_with_toks (n := n0) htk (W.item i _ _ _ hlt hst' fun v h₂ tk₂ hPv hst₂ hk₂ htk₂ => ?_)
        refine wpAny_assign_Name (wpAny_storeName_local (lookup_relabel_local hx) (hn'.at' fun o e => hk₂ _ o (by simpa using Ne.symm hCI) e) (fun h₃ hn₃ hs₃ => ?_) (by simp [compEnvC, relabel, hkind]))
        refine wpAny_tests_nil ?_
        simp only [if_true]
        have hst₃ : St (i + 1) h₃ := W.frame _ _ _ hst₂ fun b hb o e => hs₃.extBut b o (fun q => hCf (by have q' : b = H2.objs.size := q; rw [← q']; exact hb)) e
        obtain ⟨oI, heI⟩ := hIo _ _ hst₃
        obtain ⟨oC, heC, hoC⟩ := ns_obj hn₃
        have F₃ : Fr h₀ L h₃ m := (fr_but F' hk₂ hIL hI₀).change hs₃ hCL hC₀
        have N₂ : News h₀ L h₂ ((s₂.heap.objs.size, lst ys) :: news') := news_but N' hk₂ fun p hp => by
          rcases List.mem_cons.mp hp with rfl | hp
          · exact Ne.symm hDI
          · exact (off3 p hp).1
        have N₃ : News h₀ L h₃ ((I, oI) :: (H2.objs.size, oC) :: (s₂.heap.objs.size, lst ys) :: news') := fun p hp => by
          rcases List.mem_cons.mp hp with rfl | hp
          · exact ⟨heI, Ne.symm hIL, hI₀⟩
          rcases List.mem_cons.mp hp with rfl | hp
          · exact ⟨heC, hCL, hC₀⟩
          refine ⟨hs₃.extBut _ _ ?_ (N₂ p hp).1, (N₂ p hp).2⟩
          rcases List.mem_cons.mp hp with rfl | hp
          · exact hDC
          · exact (off3 p hp).2.1
        have htk₃ : n0 ≤ tk₂ := htk₂
        refine wpAny_mono (wpAny_toks_of (n := n0) (Nat.le_succ_of_le htk₃) (R' v I oI H2.objs.size oC s₂.heap.objs.size _ h₃ _ _ (Nat.le_succ_of_le htk₃) hPv hoC (by simp) F₃ N₃ off' ⟨hCI, hDI, Ne.symm hDC⟩)) (fun y s₄ h₄ => ?_) fun _ _ e => e.2
        obtain ⟨ht₄, h₄, tk₄, news₄, rfl, F₄, N₄, off₄, hS₄, R₄⟩ := h₄
        have zI := (N₄ (I, oI) (.head _)).1
        have zC := (N₄ (H2.objs.size, oC) (.tail _ (.head _))).1
        have zD := (N₄ (s₂.heap.objs.size, lst ys) (.tail _ (.tail _ (.head _)))).1
        have N₄' : News h₀ L h₄ news₄ := fun p hp => N₄ p (.tail _ (.tail _ (.tail _ hp)))
        have hst₄ : St (i + 1) h₄ := hSt _ _ _ _ _ hst₃ heI zI F₄.keep N₄' hS₄
        refine append_at (hsz := by show ys.toArray.size ≤ sizeLine; rw [List.size_toArray, hyl]; exact Nat.le_trans hi hsz) zD fun h₅ hs₅ hD₅ => ?_
        have off4 := off₄.mem
        refine ⟨n + 1 - (i + 1), by omega, h₅, tk₄, i + 1, ys ++ [y], _, news₄, rfl, ht₄, hlt, rfl, by rw [List.length_append, List.length_singleton, hyl], W.frame _ _ _ hst₄ fun b hb o e => hs₅.extBut b o (fun q => hDf (q ▸ hb)) e, F₄.change hs₅ hDL hD₀,
          (hoC.ns zC).sameBut hs₅ (Ne.symm hDC), fun p hp => ?_, off₄, hS₄, ?_⟩
        · rcases List.mem_cons.mp hp with rfl | hp
          · exact ⟨hD₅.trans (congrArg some (lst_snoc ys y)), hDL, hD₀⟩
          · exact ⟨hs₅.extBut _ _ (off4 p hp).2.2 (N₄' p hp).1, (N₄' p hp).2⟩
        · rw [show n - (i + 1) = j by omega]
          exact R₄
      · obtain rfl : i = n := Nat.le_antisymm hi (Nat.not_lt.mp hlt)
        rw [Nat.sub_self] at R'
        refine wpAny_with_toks (n := n0) htk (W.done _ _ _ hst' fun h₂ tk₂ hk₂ htk₂ => ?_)
        exact hRR _ _ h₂ tk₂ _ ys news' htk₂ (fr_but F' hk₂ hIL hI₀) (news_but N' hk₂ fun p hp => by
          rcases List.mem_cons.mp hp with rfl | hp
          · exact Ne.symm hDI
          · exact (off3 p hp).1) off'.one (hn'.at' fun o e => hk₂ _ o (by simpa using Ne.symm hCI) e) hC₀ hD₀ hCL hDL (Ne.symm hDC) (fun p hp => (off3 p hp).2.1) R'
    · rcases List.mem_cons.mp hp with rfl | hp
      · exact ⟨hacc, hDL, hD₀⟩
      · exact ⟨old _ _ (N p hp).1, (N p hp).2⟩
  exact codeAny_compStart_list (loop _ rfl) (W.self 0 _ _ _ hst₁ (loop _ rfl))
noncomputable def FinT (n0 : Nat) (h₀ : Heap) (L : Addr) (m : Env1) (s : Shared) (Q : Value → Shared → Prop) (ys : List Value) (news : Led) : Prop :=
  ∀ D h tk, n0 ≤ tk → Fr h₀ L h m → News h₀ L h ((D, lst ys) :: news) → Off1 D news → Q (.ref D) { s with heap := h, toks := tk }
noncomputable def SrcT (n0 : Nat) (prog : Program) (w : World) (A : Around) (h₀ : Heap) (L : Addr) (m : Env1) (env : Env) (elt : Expr) (x : Str) (scope : Scope) (cl : List (Str × Addr)) (Q : Value → Shared → Prop) (xv : Value) (s₁ : Shared) : Prop :=
  ∃ ax its k news, xv = .ref ax ∧ A.handled = none ∧ n0 ≤ s₁.toks ∧ Fr h₀ L s₁.heap m ∧ News h₀ L s₁.heap news ∧ (ax, ({ cls := .type "list", data := .seq its k } : Obj)) ∈ news ∧ its.size ≤ sizeLine ∧
      ∀ g, RestT n0 prog w A h₀ L m env elt x scope cl { s₁ with heap := g } (fun nw => (ax, ({ cls := .type "list", data := .seq its k } : Obj)) ∈ nw) (fun i v => its[i]? = some v) (FinT n0 h₀ L m { s₁ with heap := g } Q) its.size 0 [] news
theorem ListComp_T (n0 : Nat) {elt iter : Expr} {x : Str} {px : Pos} {scope : Scope} {cl : List (Str × Addr)} {pos : Pos} {Q : Value → Shared → Prop} (_ : Fr h₀ L s.heap m)
    (hclos : closureFor scope env = pure cl) (hcell : ∀ y ∈ scope.names, y.2 ≠ .cell) (hkind : scope.kind = .function)
    (hnames : ∀ z ∈ scope.names, z.2 = .local → scope.names.lookup z.1 = some .local) (hx : scope.names.lookup x = some .local)
    (h : wpAny (model prog w) A (eval iter env) (SrcT n0 prog w A h₀ L m env elt x scope cl Q) E s)
    (hs : ∀ x, foldedSetIterable iter env x = pure x := by intro _; rfl) :
    wpAny (model prog w) A (eval (.ListComp elt [⟨.Name x px, iter, [], 0⟩] scope pos) env) Q E s := by
  rw [eval_ListComp]
  refine wpAny_comprehension_free (use := none) rfl hs hclos hkind hnames (wpAny_mono h (fun xv s₁ h₁ => ?_) fun _ _ e => e)
  obtain ⟨ax, its, k, news, rfl, hh, hn0, F, N, hm, hsz, R⟩ := h₁
  have hl : s₁.heap.IsList ax its := ⟨_, (N _ hm).1, rfl, _, rfl⟩
  have hlt : ax < s₁.heap.objs.size := Heap.lt_size (N _ hm).1
  refine wpAny_pyIter_list hl ?_
  have up : ∀ b o, s₁.heap.get? b = some o → (s₁.heap.push { cls := .type "list_iterator", data := .fields #[.ref ax, .int 0 0] }).get? b = some o := fun b o e => Heap.get?_push_of_some _ e
  refine block_T (n0 := n0) (S := fun nw => (ax, ({ cls := .type "list", data := .seq its k } : Obj)) ∈ nw) (Walks.list hh s₁.heap.objs.size ax (Nat.ne_of_lt hlt) its) hsz (fun i h st => by obtain ⟨o, e, _⟩ := st.1; exact ⟨o, e⟩)
    (fun i h h' o nw st e e' k N S => ⟨by obtain ⟨o', q, r⟩ := st.1; rw [e] at q; cases q; exact ⟨o, e', r⟩, ⟨_, (N _ S).1, rfl, _, rfl⟩⟩) hcell hkind hx ⟨⟨_, Heap.get?_push_size _ rfl, rfl, rfl⟩, hl.push _⟩ (fun b hb => ?_) hn0
    (F.keeps up) (N.grown up) (Nat.ne_of_lt F.ns.lt) (next_is_new F) (fun p hp => Nat.ne_of_lt (Heap.lt_size (N p hp).1)) hm (R _) ?_
  · show b < (s₁.heap.push _).objs.size
    rw [Heap.size_push]
    rcases List.mem_cons.mp hb with rfl | hb
    · exact Nat.lt_succ_self _
    · rw [List.mem_singleton.mp hb]; exact Nat.lt_succ_of_lt hlt
  · intro D C h' tk m' ys news' htk F' N' o1 hn hC₀ hD₀ hCL hDL hCD offC fin
    refine ⟨m', hn, fun h'' hs'' => fin D h'' tk htk (F'.change hs'' hCL hC₀) (fun p hp => ?_) o1⟩
    refine ⟨hs''.extBut _ _ ?_ (N' p hp).1, (N' p hp).2⟩
    rcases List.mem_cons.mp hp with rfl | hp
    · exact Ne.symm hCD
    · exact offC p hp
end
/-- a text times a number: whose token the answer has -/
theorem mul_tok {prog : Program} {w : World} {A : Around} {E : Value → Shared → Prop} {s : Shared} {x : Str} {t u : Tok} {n : Int} {Q : Value → Shared → Prop} (hok : MulOk x n) (h1 : 1 ≤ n) (h : ∀ t' k, (t' = t ∨ t' = s.toks) → Q (.str (Txt.mul x n) t') { s with toks := k }) :
    wpAny (model prog w) A (binaryOp .Mult (.str x t) (.int n u)) Q E s := by
  refine PySem.P.mul_str hok.1 hok.2.1 hok.2.2 ?_
  unfold Txt.mul at h
  rw [if_neg (by omega)] at h ⊢
  by_cases hc : (n == 1 || x.length == 0) = true
  · rw [if_pos hc] at h ⊢
    exact h t s.toks (.inl rfl)
  · rw [if_neg hc] at h ⊢
    exact ⟨fits_reps (hok.2.2 (by omega) (by simpa using hc)), h s.toks (s.toks + 1) (.inr rfl)⟩
section
variable {prog : Program} {w : World} {A : Around} {env : Env} {target : Expr} {body orelse : List Stmt} {Q : Flow → Shared → Prop} {E : Value → Shared → Prop} {it : Value} {s : Shared} {n0 : Nat}
/-- Loop.rule with a least number of tokens -/
theorem Loop.ruleT {σ : Type} {h₀ : Heap} {L : Addr} (P : σ → Prop) (ps : σ → List (Str × Value)) (led : σ → Led) (μ : σ → Nat) (c₀ : σ) (hc : P c₀) (hn : n0 ≤ s.toks) (h0 : At h₀ L s (ps c₀) (led c₀) s)
    (turn : ∀ c, P c → ∀ h tk m, n0 ≤ tk → Fr h₀ L h (kstB m (ps c)) → News h₀ L h (led c) →
      wpAny (model prog w) A (pyNext it) (fun r s₁ => match r with
        | none => wpAny (model prog w) A (execs orelse env) Q E s₁
        | some v => wpAny (model prog w) A (assign target env v) (fun _ s₂ => wpAny (model prog w) A (execs body env) (TurnE h₀ L s P ps led μ (μ c) Q) E s₂) E s₁) E { s with heap := h, toks := tk })
    (hE : PassesOwn (model prog w) A env E := by passes_own) (ht : ∀ v, letOwnedTupleGo target it v = pure () := by intro _; rfl) :
    Loop prog w A env target body orelse Q E it s := by
  refine codeAny_forLoop (fun n s' => ∃ c, P c ∧ μ c = n ∧ n0 ≤ s'.toks ∧ At h₀ L s (ps c) (led c) s') ?_ (μ c₀) ⟨c₀, hc, rfl, hn, h0⟩ ht
  rintro n s' ⟨c, hP, rfl, hn, h, tk, m, rfl, F, H, N⟩
  have hn' : n0 ≤ tk := hn
  refine wpAny_mono (wpAny_toks_of hn (turn c hP h tk m hn' (H.fr F) N)) (fun r s₁ h₁ => ?_) fun e s₁ h₁ => hE e s₁ h₁.2
  obtain ⟨hn₁, h₁⟩ := h₁
  cases r with
  | none => exact wpAny_passesOwn hE h₁
  | some v =>
    refine wpAny_mono (wpAny_toks_of hn₁ h₁) (fun _ s₂ h₂ => wpAny_mono (wpAny_toks_of h₂.1 h₂.2) (fun f s₃ h₃ => ?_) fun e s₁ h₁ => hE e s₁ h₁.2) fun e s₁ h₁ => hE e s₁ h₁.2
    obtain ⟨hn₃, h₃⟩ := h₃
    cases f with
    | ret v => exact h₃
    | brk => exact h₃
    | next => obtain ⟨c', a, b, d⟩ := h₃; exact ⟨μ c', b, c', a, rfl, hn₃, d⟩
    | cont => obtain ⟨c', a, b, d⟩ := h₃; exact ⟨μ c', b, c', a, rfl, hn₃, d⟩
end
section
variable {prog : Program} {w : World} {A : Around} {env : Env} {target : Expr} {body orelse : List Stmt} {Q : Flow → Shared → Prop} {E : Value → Shared → Prop} {s : Shared} {n0 : Nat}
theorem Loop.iterT {σ : Type} {h₀ : Heap} {L : Addr} {it : Addr} {n : Nat} {need : Led} {St : Nat → Obj → Prop} {V : Nat → Value → Prop} {o₀ : Obj} (I : Iter prog w it n need St V) (hh : A.handled = none) (hn : n0 ≤ s.toks)
    (P : Nat → σ → Prop) (ps : σ → List (Str × Value)) (led : σ → Led) (c₀ : σ) (hc : P 0 c₀) (ho : St 0 o₀) (h0 : At h₀ L s (ps c₀) ((it, o₀) :: led c₀) s) (hap : ∀ i c, P i c → Apart it (led c)) (hneed : ∀ i c, P i c → ∀ p ∈ need, p ∈ led c)
    (turn : ∀ i c, i < n → P i c → ∀ v o h tk m, n0 ≤ tk → V i v → St (i + 1) o → Fr h₀ L h (kstB m (ps c)) → News h₀ L h ((it, o) :: led c) →
      wpAny (model prog w) A (assign target env v) (fun _ s₂ => wpAny (model prog w) A (execs body env) (TurnI h₀ L s it P ps led St (i + 1) Q) E s₂) E { s with heap := h, toks := tk })
    (done : ∀ c, P n c → ∀ h tk m, n0 ≤ tk → Fr h₀ L h (kstB m (ps c)) → News h₀ L h (led c) → wpAny (model prog w) A (execs orelse env) Q E { s with heap := h, toks := tk })
    (hE : PassesOwn (model prog w) A env E := by passes_own) (ht : ∀ v, letOwnedTupleGo target (.ref it) v = pure () := by intro _; rfl) :
    Loop prog w A env target body orelse Q E (.ref it) s := by
  refine Loop.ruleT (n0 := n0) (σ := Nat × σ × Obj) (fun c => c.1 ≤ n ∧ P c.1 c.2.1 ∧ St c.1 c.2.2) (fun c => ps c.2.1) (fun c => (it, c.2.2) :: led c.2.1) (fun c => n - c.1) (0, c₀, o₀) ⟨Nat.zero_le _, hc, ho⟩ hn h0 ?_ hE ht
  rintro ⟨i, c, o⟩ ⟨hi, hp, ho⟩ h tk m hn' F N
  dsimp only at *
  by_cases hlt : i < n
  · refine wpAny_with_toks (n := n0) hn' (I.item _ _ _ _ _ _ _ _ _ _ hlt F N ho (hap i c hp) (hneed i c hp) fun v o' h' tk' hv F' N' ho' htk' => ?_)
    refine wpAny_mono (turn i c hlt hp v o' h' tk' m htk' hv ho' F' N') (fun _ s₂ q => wpAny_mono q (fun f s₃ t => ?_) fun _ _ e => e) fun _ _ e => e
    cases f with
    | ret v => exact t
    | brk => exact t
    | next => obtain ⟨c', o'', h1, h2, h3⟩ := t; exact ⟨(i + 1, c', o''), ⟨hlt, h1, h2⟩, (by show n - (i + 1) < n - i; omega), h3⟩
    | cont => obtain ⟨c', o'', h1, h2, h3⟩ := t; exact ⟨(i + 1, c', o''), ⟨hlt, h1, h2⟩, (by show n - (i + 1) < n - i; omega), h3⟩
  · have e : i = n := by omega
    subst e
    exact I.done _ _ _ _ _ _ _ _ _ hh F N ho (hap i c hp) (hneed i c hp) fun h' F' N' => done c hp h' tk m hn' F' N'
end

/-- a lead, each blank made t blanks -/
noncomputable def rep (t : Int) (l : Str) : Str := Txt.replace l (Str.ofString " ") (Txt.mul (Str.ofString " ") t)
noncomputable def stOf (t : Int) (l : Str) : WS := wsRun (sg (rep t l))
section
variable {w : World} {mean : ExcName → Option Value} {mg mb : Str → Option Value} {dp un : Nat} {gd : Option (List Code)} {cn : Str} {cs : Scope} {a : Addr} {ccd : Value} {cl : List (Str × Addr)} {outer : List Env} {A₀ : Around} {base h₀ : Heap} {L : Addr} {m : Str → Option Value} {s : Shared} {Q E : Value → Shared → Prop} {news : Led}
theorem ws_use {ws : Str} {t : Tok} (B : Below A₀ base outer h₀) (F : Fr h₀ L s.heap m) (X : (Mine.hd.heap_39 w.params).In h₀) (N : News h₀ L s.heap news) (T : Top topProg looseT mean mg mb h₀) (hk : cs.kind = .function)
    (hb : ws.length < 1000) (hws : ∀ c ∈ sg ws, c = 32 ∨ c = 9) (hd : dp + 3 < recursionLimit) (hu : un + 8 * 3 < cLine)
    (hret : ∀ x dx p c vs tb tn tt k1 k2 k3 k4 k5 (h' : Heap) (tk' : Nat), Fr h₀ L h' m → News h₀ L h' (wsLed w x dx p c (.str ws t) vs (wsRun (sg ws)) tb tn tt k1 k2 k3 k4 k5 ++ news) → IntsAre vs (wsRun (sg ws)).ns → (∀ q ∈ news, q.1 < dx) → dx < x → x < c → c < p → Q (.ref x) { s with heap := h', toks := tk' }) :
    wpAny (model PySem.Challenge.rw_pg0243_01.row.prog w) (ktrTop dp un gd cn cs L a ccd cl outer) (call (.ref 83) [.str ws t]) Q E s :=
  ws_claim w mean mg mb news ws t hb (by
    rw [Array.all_eq_true']
    intro c hc
    rcases hws c (Array.mem_toList_iff.mpr hc) with rfl | rfl <;> decide) hws dp un gd cn cs a ccd cl outer A₀ base h₀ L m s Q E B F X N T hk hd hu (by
    rintro v news' h' tk' F' N' ⟨x, dx, p, c, vs, tb, tn, tt, k1, k2, k3, k4, k5, rfl, rfl, hi, q1, q2, q3, q4⟩
    exact hret x dx p c vs tb tn tt k1 k2 k3 k4 k5 h' tk' F' N' hi q1 q2 q3 q4)
theorem product_use {l : Addr} {vs : List Value} {ns : List Int} {ep : Nat} {n : Int} {tn : Tok} (B : Below A₀ base outer h₀) (F : Fr h₀ L s.heap m) (X : (Mine.hd.heap_39 w.params).In h₀) (N : News h₀ L s.heap news) (T : Top topProg looseT mean mg mb h₀) (hk : cs.kind = .function)
    (hm : (l, W.listOf vs.toArray ep) ∈ news) (hi : IntsAre vs ns) (hns : ∀ z ∈ ns, 0 ≤ z ∧ z ≤ 100) (hn : 0 ≤ n ∧ n ≤ 100) (hd : dp + 3 < recursionLimit) (hu : un + 8 * 3 < cLine)
    (hret : ∀ (t : Tok) (h' : Heap) (tk' : Nat), Fr h₀ L h' m → News h₀ L h' news → Q (.int (prodOf n ns) t) { s with heap := h', toks := tk' }) :
    wpAny (model PySem.Challenge.rw_pg0243_01.row.prog w) (ktrTop dp un gd cn cs L a ccd cl outer) (call (.ref 160) [.ref l, .int n tn]) Q E s :=
  product_claim w mean mg mb news l vs ns ep hi n tn hns hn dp un gd cn cs a ccd cl outer A₀ base h₀ L m s Q E B F X (fun q hq => by
      rcases List.mem_cons.mp hq with rfl | hq
      · exact N _ hm
      · exact N q hq) T hk hd hu (by
    rintro v news' h' tk' F' N' ⟨t, rfl, rfl⟩
    exact hret t h' tk' F' (cb_drop N' fun q hq => .tail _ hq))
theorem primes_use {x dx p cc : Addr} {raw : Value} {vs : List Value} {st : WS} {tb tn tt k1 k2 k3 k4 k5 : Tok}
    (B : Below A₀ base outer h₀) (F : Fr h₀ L s.heap m) (X : (Mine.hd.heap_39 w.params).In h₀) (N : News h₀ L s.heap news) (T : Top topProg looseT mean mg mb h₀) (hk : cs.kind = .function)
    (m3 : (x, instObj 83 dx) ∈ news) (m4 : (dx, wsDict w raw (.int st.n tn) (.int st.nt tt) (.ref p) (.bool (decide ((st.ns.length : Int) ≤ 1))) k1 k2 k3 k4 k5) ∈ news) (m1 : (p, tupOf [.ref cc, .int st.b tb] 0) ∈ news) (m2 : (cc, tupOf vs 0) ∈ news)
    (hi : IntsAre vs st.ns) (ok : WsOk st) (hbd : ∀ z, 2 ≤ z → z ≤ 19 → 0 ≤ (indOf st z).fdiv z ∧ (indOf st z).fdiv z ≤ 10000) (hd : dp + 6 < recursionLimit) (hu : un + 8 * 6 < cLine)
    (hret : ∀ (t : Tok) (h' : Heap) (tk' : Nat), Fr h₀ L h' m → News h₀ L h' news → Q (.str (primesOf st) t) { s with heap := h', toks := tk' }) :
    wpAny (model PySem.Challenge.rw_pg0243_01.row.prog w) (ktrTop dp un gd cn cs L a ccd cl outer) (call (.ref 153) [.ref x]) Q E s :=
  primes_claim w mean mg mb news x dx p cc raw vs st tb tn tt k1 k2 k3 k4 k5 hi ok hbd dp un gd cn cs a ccd cl outer A₀ base h₀ L m s Q E B F X
    (fun q hq => by
      rcases List.mem_append.mp hq with hq | hq
      · simp only [List.mem_cons, List.not_mem_nil, or_false] at hq
        rcases hq with rfl | rfl | rfl | rfl <;> exact N _ (by assumption)
      · exact N q hq) T hk hd hu (by
    rintro v news' h' tk' F' N' ⟨t, rfl, rfl⟩
    exact hret t h' tk' F' (cb_drop N' fun q hq => List.mem_append.mpr (.inr hq)))
/-- what is asked of a pattern -/
structure PatOk (want : Str) (ss : List Str) : Prop where
  hin : (!(Builtin.Str.occurrences want dots 0 want.length 1).isEmpty) = true
  hsp : Txt.split want dots = Str.empty :: (ss ++ [Str.empty])
  hss : ss.length < 1000
  hsl : ∀ w ∈ ss, w.length < 1000
  hw : want.length < 1000
theorem ell_use {want got : Str} {t u : Tok} {ss : List Str} {r : Bool} (B : Below A₀ base outer h₀) (F : Fr h₀ L s.heap m) (X : (Mine.hd.heap_39 w.params).In h₀) (N : News h₀ L s.heap news) (T : Top topProg looseT mean mg mb h₀) (hk : cs.kind = .function)
    (ok : PatOk want ss) (hr : ellRun got (Str.empty :: (ss ++ [Str.empty])) 0 = r) (hg : got.length < 1000) (hd : dp + 3 < recursionLimit) (hu : un + 8 * 3 < cLine)
    (hret : ∀ (h' : Heap) (tk' : Nat), Fr h₀ L h' m → News h₀ L h' news → Q (.bool r) { s with heap := h', toks := tk' }) :
    wpAny (model PySem.Challenge.rw_pg0243_01.row.prog w) (ktrTop dp un gd cn cs L a ccd cl outer) (call (.ref 94) [.str want t, .str got u]) Q E s :=
  ell_claim w mean mg mb news want got t u ss ok.hin ok.hsp ok.hss ok.hsl ok.hw hg dp un gd cn cs a ccd cl outer A₀ base h₀ L m s Q E B F X N T hk hd hu (by
    rintro v news' h' tk' F' N' ⟨rfl, rfl⟩
    rw [hr]
    exact hret h' tk' F' N')
end
section
variable {prog : Program} {w : World} {A : Around} {E : Value → Shared → Prop} {s : Shared} {h₀ : Heap} {L : Addr} {m : Env1} {news : Led}
theorem lists_add {l b : Addr} {xs ys : List Value} {n1 n2 : Nat} {Q : Value → Shared → Prop} (F : Fr h₀ L s.heap m) (N : News h₀ L s.heap news) (hm1 : (l, W.listOf xs.toArray n1) ∈ news) (hm2 : (b, W.listOf ys.toArray n2) ∈ news) (hz : xs.length + ys.length ≤ 10000)
    (h : ∀ D h', Fr h₀ L h' m → News h₀ L h' ((D, W.listOf (xs ++ ys).toArray 0) :: news) → (∀ p ∈ news, p.1 < D) → Q (.ref D) { s with heap := h' }) : wpAny (model prog w) A (binaryOp .Add (.ref l) (.ref b)) Q E s :=
  PyProof.Rows.add_lists (vs := xs) (ws := ys) (hsz := by rw [sizeLine_eq]; omega) F N (News.isList N hm1) (News.isList N hm2) fun h' F' N' => h _ h' F' N' fun p hp => Heap.lt_size (N p hp).1
end
theorem list_app {prog : Program} {w : World} {A : Around} {E : Value → Shared → Prop} {s : Shared} {h₀ : Heap} {L D : Addr} {m : Env1} {rest : Led} {xs : List Value} {n : Nat} {y : Value} {Q : Value → Shared → Prop} (F : Fr h₀ L s.heap m) (N : News h₀ L s.heap ((D, W.listOf xs.toArray n) :: rest)) (hap : ∀ p ∈ rest, p.1 ≠ D) (hz : xs.length < 10000)
    (h : ∀ h', Fr h₀ L h' m → News h₀ L h' ((D, W.listOf (xs ++ [y]).toArray (n + 1)) :: rest) → Q .none { s with heap := h' }) : wpAny (model prog w) A (call (.builtin "list.append") [.ref D, y]) Q E s := by
  refine PyProof.Rows.append_at (N _ (.head _)).1 (fun h' hs ho => ?_) (by rw [sizeLine_eq, List.size_toArray]; omega)
  have e : ({ cls := .type "list", data := .seq (xs.toArray.push y) (n + 1) } : Obj) = W.listOf (xs ++ [y]).toArray (n + 1) := by
    rw [List.push_toArray]
  rw [e] at ho
  have q := led_upd F N hap hs ho
  exact h h' q.1 q.2
theorem pat_strs {vs : List Value} {ss : List Str} (h : StrsAre vs ss) (x : Str) (t u : Tok) : StrsAre (([.str x t] ++ vs) ++ [.str x u]) (x :: (ss ++ [x])) := .cons _ _ (strs_snoc h x u)
theorem pat_bd (p : Str) (h : p.length < 1000) : ((Str.ofString "" :: (chars (sg p) ++ [Str.ofString ""]) : List Str).map (·.length)).sum + (Str.ofString "" :: (chars (sg p) ++ [Str.ofString ""]) : List Str).length * (Str.ofString "...").length ≤ 16777216 := by
  have h1 := sum_le_of (fun x : Str => x.length) 1 (Str.ofString "" :: (chars (sg p) ++ [Str.ofString ""])) (fun a ha => by
    rcases List.mem_cons.mp ha with rfl | ha
    · decide
    · rcases List.mem_append.mp ha with ha | ha
      · obtain ⟨c, _, rfl⟩ := List.mem_map.mp ha
        exact Nat.le_refl 1
      · rw [List.mem_singleton.mp ha]; decide)
  have e : (Str.ofString "" :: (chars (sg p) ++ [Str.ofString ""]) : List Str).length = p.length + 2 := by
    simp only [List.length_cons, List.length_append, List.length_map, List.length_nil, sg_length]
  rw [e] at h1 ⊢
  rw [show (Str.ofString "...").length = 3 by decide]
  omega
theorem three_ints (a b c : Int) (t u v : Tok) : IntsAre [.int a t, .int b u, .int c v] [a, b, c] := .cons _ _ (.cons _ _ (.cons _ _ .nil))
--<M
local macro_rules | `(tactic| walk_at "call ref") => `(tactic| (k_here; (with_reducible refine gdr 83 ?_); (with_reducible refine Halt.mk ?_)))
local macro_rules | `(tactic| walk_at "call ref") => `(tactic| (k_here; (with_reducible refine gdr 160 ?_); k_dflt (refine' product_use ?k1 ?k2 ?k3 ?k4 ?k5 ?kK ?m ?hi ?hns ?hn ?kd ?ku ?_; (case k1 | k2 | k3 | k4 | k5 => k_asm); (case kK => first | exact rfl | assumption); (case m => k_mem); (case hi => exact three_ints _ _ _ _ _ _); (case hns => assumption); (case hn => omega); (case kd => ktr_room); (case ku => ktr_units); k_whole; intro t' h' tk' F' N'; (try dsimp only); (try k_fold))))
local macro_rules | `(tactic| walk_at "call ref") => `(tactic| (k_here; (with_reducible refine gdr 153 ?_); k_dflt (refine' primes_use ?k1 ?k2 ?k3 ?k4 ?k5 ?kK ?m3 ?m4 ?m1 ?m2 ?hi ?ok ?hbd ?kd ?ku ?_; (case k1 | k2 | k3 | k4 | k5 => k_asm); (case kK => first | exact rfl | assumption); (case m3 | m4 | m1 | m2 => k_mem); (case hi | ok | hbd => assumption); (case kd => ktr_room); (case ku => ktr_units); k_whole; intro t' h' tk' F' N'; (try dsimp only); (try k_fold))))
local macro_rules | `(tactic| walk_at "call ref") => `(tactic| (k_here; (with_reducible refine gdr 94 ?_); k_dflt (refine' ell_use ?k1 ?k2 ?k3 ?k4 ?k5 ?kK ?ok ?hr ?hg ?kd ?ku ?_; (case k1 | k2 | k3 | k4 | k5 => k_asm); (case kK => first | exact rfl | assumption); (case ok | hr | hg => assumption); (case kd => ktr_room); (case ku => ktr_units); k_whole; intro h' tk' F' N'; (try dsimp only); (try k_fold))))
local macro_rules | `(tactic| walk_at "eval ListComp") => `(tactic| (k_here; k_dflt (refine ListComp_T 1 (by k_asm) (by with_unfolding_all rfl) (by decide) (by rfl) (by decide) (by rfl) ?_)))
local macro_rules | `(tactic| walk_at "call builtin:str.join") => `(tactic| (k_here; (with_reducible refine gdJoin ?_); k_dflt (refine join_list (News.isList (by k_asm) (by k_mem)) (pat_strs (by assumption) _ _ _) (by assumption) ?_); intro t' tk'))
local macro_rules | `(tactic| walk_at "binaryOp Add ref ref") => `(tactic| (k_here; (with_reducible refine Halt.mk ?_)))
local macro_rules | `(tactic| walk_at "SrcT") => `(tactic| (with_reducible refine Halt.mk ?_))
local macro_rules | `(tactic| walk_at "binaryOp Mult str int") => `(tactic| (k_here; refine mul_tok (by assumption) (by omega) ?_; intro t' k' ht'))
--M>
noncomputable def forOf : List Stmt → Option (Expr × List Stmt)
  | .For t _ b _ _ :: _ => some (t, b)
  | _ => none
/-- what a turn of the first loop needs to know -/
structure FactF (t : Int) (l0 l1 : Str) (xs ys : List Int) : Prop where
  k0 : l0.length < 100
  k1 : l1.length < 100
  r0 : (rep t l0).length < 1000
  r1 : (rep t l1).length < 1000
  g0 : ∀ c ∈ sg (rep t l0), c = 32 ∨ c = 9
  g1 : ∀ c ∈ sg (rep t l1), c = 32 ∨ c = 9
  ok0 : WsOk (stOf t l0)
  ok1 : WsOk (stOf t l1)
  b0 : ∀ z, 2 ≤ z → z ≤ 19 → 0 ≤ (indOf (stOf t l0) z).fdiv z ∧ (indOf (stOf t l0) z).fdiv z ≤ 10000
  b1 : ∀ z, 2 ≤ z → z ≤ 19 → 0 ≤ (indOf (stOf t l1) z).fdiv z ∧ (indOf (stOf t l1) z).fdiv z ≤ 10000
  n1 : prodOf t ys ≠ 0
  p0 : (primesOf (stOf t l0)).length < 240
  p1 : (primesOf (stOf t l1)).length < 240
  pat : PatOk (Txt.join dots (Str.ofString "" :: (chars (sg (primesOf (stOf t l1))) ++ [Str.ofString ""]))) (chars (sg (primesOf (stOf t l1))))
  law : ellRun (primesOf (stOf t l0)) (Str.empty :: (chars (sg (primesOf (stOf t l1))) ++ [Str.empty])) 0 = ((prodOf t xs).fmod (prodOf t ys) == 0)
theorem end_ws {h₀ : Heap} {L I C D : Addr} {m : Env1} {s : Shared} {oI oC oD : Obj} {W4 rest : Led} {S : Led → Prop} {R : Value → Led → Prop} {y : Value} {h' : Heap} {tk : Nat} (F : Fr h₀ L h' m) (N : News h₀ L h' (W4 ++ ((I, oI) :: (C, oC) :: (D, oD) :: rest)))
    (off : LCg.Off3 I C D rest) (hw : ∀ p ∈ W4, ∀ q ∈ (I, oI) :: (C, oC) :: (D, oD) :: rest, @LT.lt Nat _ q.1 p.1) (hS : S (W4 ++ rest)) (r : R y (W4 ++ rest)) :
    LCg.CompEnd h₀ L m s I oI C oC D oD S R y { s with heap := h', toks := tk } := by
  refine LCg.CompEnd.intro F N (W4 ++ rest) (fun p hp => ?_) (LCg.Off3.of fun p hp => ?_) hS r
  · simp only [List.mem_append, List.mem_cons] at hp ⊢
    rcases hp with h | h | h | h | h <;> simp only [h, true_or, or_true]
  · rcases List.mem_append.mp hp with hp | hp
    · exact ⟨Nat.ne_of_gt (hw p hp _ (.head _)), Nat.ne_of_gt (hw p hp _ (.tail _ (.head _))), Nat.ne_of_gt (hw p hp _ (.tail _ (.tail _ (.head _))))⟩
    · exact off.mem p hp
theorem ws_above {w : World} {x dx p c : Addr} {raw : Value} {vs : List Value} {st : WS} {tb tn tt k1 k2 k3 k4 k5 : Tok} {news : Led} (q0 : ∀ q ∈ news, q.1 < dx) (q1 : dx < x) (q2 : x < c) (q3 : c < p) :
    ∀ r ∈ wsLed w x dx p c raw vs st tb tn tt k1 k2 k3 k4 k5, ∀ q ∈ news, @LT.lt Nat _ q.1 r.1 := by
  intro r hr q hq
  have h0 : @LT.lt Nat _ q.1 dx := q0 q hq
  have h1 : @LT.lt Nat _ q.1 x := Nat.lt_trans h0 q1
  have h2 : @LT.lt Nat _ q.1 c := Nat.lt_trans h1 q2
  have h3 : @LT.lt Nat _ q.1 p := Nat.lt_trans h2 q3
  simp only [List.mem_cons, List.not_mem_nil, or_false] at hr
  rcases hr with rfl | rfl | rfl | rfl
  · exact h3
  · exact h2
  · exact h1
  · exact h0
set_option maxHeartbeats 8000000 in
theorem turnF (w : World) (mean : ExcName → Option Value) (mg mb : Str → Option Value) (g : Heap) (L fa : Addr) (cd : Value) (tg : Expr) (st : List Stmt) (sc : Scope) (hst : some (tg, st) = forOf (lawSt 7)) (hsc : sc = lawSc) (s : Shared) (Q : Flow → Shared → Prop) (E : Value → Shared → Prop)
    (X : (Mine.hd.heap_39 w.params).In g) (B : Below callerA g [] g) (T : Top topProg looseT mean mg mb g) (codeHd : CodeHd g 142 138) (m : Env1) (R R0 R1 WD WL : Addr) (l0 l1 : Str) (v0 v1 v2 : Tok) (x0 x1 x2 y0 y1 y2 : Int) (t0 t1 t2 t3 t4 t5 : Tok) (it : Addr) (o w1 tb : Obj) (c1 : Option Value) (d1 : w1.data = .cell c1) (bs : List Value) (ep : Nat) (t : Int) (tt : Tok) (ht : 1 ≤ t ∧ t ≤ 5)
    (F : Fr g L s.heap (kstB m [(Str.ofString "rows", .ref R), (Str.ofString "words", .ref WD), (Str.ofString "wholes", .ref WL)]))
    (N : News g L s.heap [(L + 1 + 1, w1), (it, o), (WL, W.listOf bs.toArray ep), (WD, W.listOf [.str l0 v0, .str l1 v1, .str Str.empty v2].toArray 3), (R, W.listOf [.ref R0, .ref R1].toArray 2), (R1, W.listOf [.int y0 t3, .int y1 t4, .int y2 t5].toArray 3), (R0, W.listOf [.int x0 t0, .int x1 t1, .int x2 t2].toArray 3), (138, tb)])
    (hbs : bs.length < 100) (hn : 1 ≤ s.toks) (nd : ∀ b ∈ [it, WL, WD, R, R1, R0, 138], b ≠ L + 1 + 1) (nd2 : ∀ b ∈ [it, WD, R, R1, R0, 138], b ≠ WL)
    (hx0 : 0 ≤ x0 ∧ x0 ≤ 4) (hx1 : 0 ≤ x1 ∧ x1 ≤ 4) (hx2 : 0 ≤ x2 ∧ x2 ≤ 4) (hy0 : 0 ≤ y0 ∧ y0 ≤ 4) (hy1 : 0 ≤ y1 ∧ y1 ≤ 4) (hy2 : 0 ≤ y2 ∧ y2 ≤ 4) (fc : FactF t l0 l1 [x0, x1, x2] [y0, y1, y2])
    (hnext : ∀ (h : Heap) (tk : Nat) (m : Env1) (w1' : Obj), Fr g L h (kstB m [(Str.ofString "rows", .ref R), (Str.ofString "words", .ref WD), (Str.ofString "wholes", .ref WL)]) → w1'.data = .cell (some (.int t tt)) →
      News g L h [(L + 1 + 1, w1'), (it, o), (WL, W.listOf (bs ++ [Value.bool ((prodOf t [x0, x1, x2]).fmod (prodOf t [y0, y1, y2]) == 0)]).toArray (ep + 1)), (WD, W.listOf [.str l0 v0, .str l1 v1, .str Str.empty v2].toArray 3), (R, W.listOf [.ref R0, .ref R1].toArray 2), (R1, W.listOf [.int y0 t3, .int y1 t4, .int y2 t5].toArray 3), (R0, W.listOf [.int x0 t0, .int x1 t1, .int x2 t2].toArray 3), (138, tb)] →
      Q .next { s with heap := h, toks := tk }) :
    wpAny (model PySem.Challenge.rw_pg0243_01.row.prog w) (callerA.deeper (envOfC (Str.ofString "law") sc L fa cd)) (assign tg (envOfC (Str.ofString "law") sc L fa cd) (.int t tt)) (fun _ s₂ => wpAny (model PySem.Challenge.rw_pg0243_01.row.prog w) (callerA.deeper (envOfC (Str.ofString "law") sc L fa cd)) (execs st (envOfC (Str.ofString "law") sc L fa cd)) Q E s₂) E s := by
  conv at hst => rhs; whnf
  conv at hsc => rhs; whnf
  cases hst
  subst hsc
  w_top off
  revert X; k_fill; intro X
  have mine_on : MineOn := True.intro
  have eps_on : EpsOn := True.intro
  haveI := neSh; haveI := neAr; haveI := neWo; haveI := neWS
  revert w mean mg mb g L fa cd s Q E m R R0 R1 WD WL l0 l1 v0 v1 v2 x0 x1 x2 y0 y1 y2 t0 t1 t2 t3 t4 t5 it o w1 tb c1 bs ep t tt
  intro w mean mg mb g L fa cd s Q E B T codeHd m R R0 R1 WD WL l0 l1 v0 v1 v2 x0 x1 x2 y0 y1 y2 t0 t1 t2 t3 t4 t5 it o w1 tb c1 d1 bs ep t tt ht F N hbs hn nd nd2 hx0 hx1 hx2 hy0 hy1 hy2 fc hnext X
  (iterate 1 (walk_at "my_step"))
  refine store_cell F N (fun p hp => nd p.1 (List.mem_map_of_mem (f := Prod.fst) hp)) rfl d1 rfl rfl ?_
  clear F N
  intro h12 w1' F N d1'
  have hk : MulOk (Str.ofString " ") t := mulOk_of 16 1048576 (by decide) (by omega) (by omega) (by decide) (by decide)
  have hz : (Txt.mul (Str.ofString " ") t).length ≤ 8 := by
    have d := len_mul (Str.ofString " ") t
    rw [show (Str.ofString " ").length = 1 by decide] at d
    split at d <;> omega
  obtain ⟨fk0, fk1, fr0, fr1, fg0, fg1, fok0, fok1, fb0, fb1, fn1, fp0, fp1, fpat, flaw⟩ := fc
  k_steps
  unfold Halt
  refine ⟨_, _, _, _, rfl, rfl, by dsimp only; omega, by k_asm, by k_asm, by k_mem, by exact Nat.le_of_ble_eq_true rfl, ?_⟩
  intro g1
  refine RestT.succ ?_
  intro v I oI C oC DD m₂ h tk E' htk hv hC hx F N off ne
  simp only [List.getElem?_toArray, List.getElem?_cons_zero, List.getElem?_cons_succ, Option.some.injEq] at hv
  subst hv
  dsimp only at *
  k_steps
  (rename _ ∨ _ => hor)
  dsimp only at hor
  refine SC.replaceW2 200 8 (by decide) (show @Ne Nat _ _ by omega) (show @Ne Nat _ _ by rcases hor with e | e <;> rw [e] <;> omega) (show @Ne Nat _ _ by rcases hor with e | e <;> rw [e] <;> omega) (by omega) hz ?_ (none_bk F X)
  intro tr0 kr0
  clear hor
  k_steps
  unfold Halt
  k_dflt (refine' ws_use ?k1 F X N T ?kK fr0 fg0 ?kd ?ku ?_)
  case k1 => k_asm
  case kK => rfl
  case kd => ktr_room
  case ku => ktr_units
  k_whole
  clear F N
  intro wx dx wp wc vs0 tb0 tn0 tt0 a1 a2 a3 a4 a5 h2 tk2 F N hi0 q0 q1 q2 q3
  try k_unfold
  refine end_ws F N off (ws_above q0 q1 q2 q3) (by k_mem) ?_
  clear F N off
  refine RestT.succ ?_
  intro v I oI C oC DD m₂ h tk E' htk hv hC hx F N off ne
  simp only [List.getElem?_toArray, List.getElem?_cons_zero, List.getElem?_cons_succ, Option.some.injEq] at hv
  subst hv
  dsimp only at *
  simp only [List.cons_append, List.nil_append] at N
  k_steps
  (rename _ ∨ _ => hor)
  dsimp only at hor
  refine SC.replaceW2 200 8 (by decide) (show @Ne Nat _ _ by omega) (show @Ne Nat _ _ by rcases hor with e | e <;> rw [e] <;> omega) (show @Ne Nat _ _ by rcases hor with e | e <;> rw [e] <;> omega) (by omega) hz ?_ (none_bk F X)
  intro tr1 kr1
  clear hor
  k_steps
  unfold Halt
  k_dflt (refine' ws_use ?k1 F X N T ?kK fr1 fg1 ?kd ?ku ?_)
  case k1 => k_asm
  case kK => rfl
  case kd => ktr_room
  case ku => ktr_units
  k_whole
  clear F N
  intro wx' dx' wp' wc' vs1 tb1 tn1 tt1 b1 b2 b3 b4 b5 h2 tk2 F N hi1 q0 q1 q2 q3
  try k_unfold
  refine end_ws F N off (ws_above q0 q1 q2 q3) (by k_mem) ?_
  clear F N off
  refine RestT.zero ?_
  intro D9 h9 tk9 htk9 F9 N9 o9
  simp only [List.cons_append, List.nil_append] at N9 ⊢
  have e0 : wsRun (sg (Txt.replace l0 (Str.ofString " ") (Txt.mul (Str.ofString " ") t))) = stOf t l0 := rfl
  have e1 : wsRun (sg (Txt.replace l1 (Str.ofString " ") (Txt.mul (Str.ofString " ") t))) = stOf t l1 := rfl
  rw [e0] at N9 hi0
  rw [e1] at N9 hi1
  clear e0 e1 o9 hk hz fr0 fr1 fg0 fg1
  generalize stOf t l0 = S0 at *
  generalize stOf t l1 = S1 at *
  clear eps_on
  have hxs : ∀ z ∈ [x0, x1, x2], 0 ≤ z ∧ z ≤ 100 := by
    intro z hz
    simp only [List.mem_cons, List.not_mem_nil, or_false] at hz
    rcases hz with rfl | rfl | rfl <;> omega
  have hys : ∀ z ∈ [y0, y1, y2], 0 ≤ z ∧ z ≤ 100 := by
    intro z hz
    simp only [List.mem_cons, List.not_mem_nil, or_false] at hz
    rcases hz with rfl | rfl | rfl <;> omega
  have fq0 : (primesOf S0).length < 1000 := by omega
  have fq1 : (primesOf S1).length < 1000 := by omega
  have hpb := pat_bd _ fq1
  k_steps
  unfold Halt
  (rename StrsAre _ _ => hsa)
  have hsl := hsa.length
  rw [List.length_map, sg_length] at hsl
  refine lists_add (by k_asm) (by k_asm) (by k_mem) (by k_mem) (by rw [hsl]; simp only [List.length_cons, List.length_nil]; omega) ?_
  intro D10 h10 F10 N10 l10
  k_lt l10
  dsimp only
  k_steps
  unfold Halt
  refine lists_add (by k_asm) (by k_asm) (by k_mem) (by k_mem) (by rw [List.length_append, hsl]; simp only [List.length_cons, List.length_nil]; omega) ?_
  intro D11 h11 F11 N11 l11
  k_lt l11
  dsimp only
  have z1 : @Ne Nat it WL := nd2 it (by simp)
  have z2 : @Ne Nat WD WL := nd2 WD (by simp)
  have z3 : @Ne Nat R WL := nd2 R (by simp)
  have z4 : @Ne Nat R1 WL := nd2 R1 (by simp)
  have z5 : @Ne Nat R0 WL := nd2 R0 (by simp)
  have z7 : @Ne Nat 138 WL := nd2 138 (by simp)
  have z6 : @Ne Nat WL (L + 1 + 1) := nd WL (by simp)
  k_steps
  · (rename (_ != _) = true => hh)
    exact absurd hh (by rw [bne_self_eq_false]; decide)
  (rename Fr _ _ _ _ => F20)
  (rename News _ _ _ _ => N20)
  have N21 := cb_drop (news := [(WL, W.listOf bs.toArray ep), (L + 1 + 1, w1'), (it, o), (WD, W.listOf [.str l0 v0, .str l1 v1, .str Str.empty v2].toArray 3), (R, W.listOf [.ref R0, .ref R1].toArray 2), (R1, W.listOf [.int y0 t3, .int y1 t4, .int y2 t5].toArray 3), (R0, W.listOf [.int x0 t0, .int x1 t1, .int x2 t2].toArray 3), (138, tb)]) N20
    (List.forall_mem_cons.mpr ⟨by k_mem, List.forall_mem_cons.mpr ⟨by k_mem, List.forall_mem_cons.mpr ⟨by k_mem, List.forall_mem_cons.mpr ⟨by k_mem, List.forall_mem_cons.mpr ⟨by k_mem, List.forall_mem_cons.mpr ⟨by k_mem, List.forall_mem_cons.mpr ⟨by k_mem, List.forall_mem_cons.mpr ⟨by k_mem, List.forall_mem_nil _⟩⟩⟩⟩⟩⟩⟩⟩)
  refine list_app F20 N21 (List.forall_mem_cons.mpr ⟨Ne.symm z6, List.forall_mem_cons.mpr ⟨z1, List.forall_mem_cons.mpr ⟨z2, List.forall_mem_cons.mpr ⟨z3, List.forall_mem_cons.mpr ⟨z4, List.forall_mem_cons.mpr ⟨z5, List.forall_mem_cons.mpr ⟨z7, List.forall_mem_nil _⟩⟩⟩⟩⟩⟩⟩) (by omega) ?_
  intro h22 F22 N22
  refine wpAny_execs_nil ?_
  refine hnext h22 _ _ w1' (Has.fr ⟨rfl, rfl, rfl, True.intro⟩ F22) d1' (cb_drop N22 ?_)
  intro p hp
  simp only [List.mem_cons, List.not_mem_nil, or_false] at hp ⊢
  rcases hp with h | h | h | h | h | h | h | h <;> simp only [h, true_or, or_true]

/-- a lead with a blank behind it -/
noncomputable def stB (t : Int) (l : Str) : WS := wsRun (sg (rep t l ++ Str.ofString " "))
section
variable {w : World} {mean : ExcName → Option Value} {mg mb : Str → Option Value} {dp un : Nat} {gd : Option (List Code)} {cn : Str} {cs : Scope} {a : Addr} {ccd : Value} {cl : List (Str × Addr)} {outer : List Env} {A₀ : Around} {base h₀ : Heap} {L : Addr} {m : Str → Option Value} {s : Shared} {Q E : Value → Shared → Prop} {news : Led}
theorem less_use {x dx p cc : Addr} {raw : Value} {vs : List Value} {st : WS} {tb tn tt k1 k2 k3 k4 k5 : Tok} {x' dx' p' cc' : Addr} {raw' : Value} {vs' : List Value} {st' : WS} {tb' tn' tt' k1' k2' k3' k4' k5' : Tok}
    (B : Below A₀ base outer h₀) (F : Fr h₀ L s.heap m) (X : (Mine.hd.heap_39 w.params).In h₀) (N : News h₀ L s.heap news) (T : Top topProg looseT mean mg mb h₀) (hk : cs.kind = .function)
    (m3 : (x, instObj 83 dx) ∈ news) (m4 : (dx, wsDict w raw (.int st.n tn) (.int st.nt tt) (.ref p) (.bool (decide ((st.ns.length : Int) ≤ 1))) k1 k2 k3 k4 k5) ∈ news) (m1 : (p, tupOf [.ref cc, .int st.b tb] 0) ∈ news) (m2 : (cc, tupOf vs 0) ∈ news)
    (hi : IntsAre vs st.ns) (ok : WsOk st)
    (m3' : (x', instObj 83 dx') ∈ news) (m4' : (dx', wsDict w raw' (.int st'.n tn') (.int st'.nt tt') (.ref p') (.bool (decide ((st'.ns.length : Int) ≤ 1))) k1' k2' k3' k4' k5') ∈ news) (m1' : (p', tupOf [.ref cc', .int st'.b tb'] 0) ∈ news) (m2' : (cc', tupOf vs' 0) ∈ news)
    (hi' : IntsAre vs' st'.ns) (ok' : WsOk st') (hd : dp + 6 < recursionLimit) (hu : un + 8 * 6 < cLine)
    (hret : ∀ (h' : Heap) (tk' : Nat), Fr h₀ L h' m → News h₀ L h' news → Q (.bool (lessOf st st')) { s with heap := h', toks := tk' }) :
    wpAny (model PySem.Challenge.rw_pg0243_01.row.prog w) (ktrTop dp un gd cn cs L a ccd cl outer) (call (.ref 73) [.ref x, .ref x']) Q E s :=
  less_claim w mean mg mb news x dx p cc raw vs st tb tn tt k1 k2 k3 k4 k5 hi ok x' dx' p' cc' raw' vs' st' tb' tn' tt' k1' k2' k3' k4' k5' hi' ok' dp un gd cn cs a ccd cl outer A₀ base h₀ L m s Q E B F X
    (fun q hq => by
      rcases List.mem_append.mp hq with hq | hq
      · simp only [List.mem_cons, List.not_mem_nil, or_false] at hq
        rcases hq with rfl | rfl | rfl | rfl <;> exact N _ (by assumption)
      rcases List.mem_append.mp hq with hq | hq
      · simp only [List.mem_cons, List.not_mem_nil, or_false] at hq
        rcases hq with rfl | rfl | rfl | rfl <;> exact N _ (by assumption)
      · exact N q hq) T hk hd hu (by
    rintro v news' h' tk' F' N' ⟨rfl, rfl⟩
    exact hret h' tk' F' (cb_drop N' fun q hq => List.mem_append.mpr (.inr (List.mem_append.mpr (.inr hq)))))
end
--<M
local macro_rules | `(tactic| walk_at "call ref") => `(tactic| (k_here; (with_reducible refine gdr 73 ?_); k_dflt (refine' less_use ?k1 ?k2 ?k3 ?k4 ?k5 ?kK ?m3 ?m4 ?m1 ?m2 ?hi ?ok ?n3 ?n4 ?n1 ?n2 ?hj ?ok2 ?kd ?ku ?_; (case k1 | k2 | k3 | k4 | k5 => k_asm); (case kK => first | exact rfl | assumption); (case m3 | m4 | m1 | m2 => k_mem); (case hi | ok => assumption); (case n3 | n4 | n1 | n2 => k_mem); (case hj | ok2 => assumption); (case kd => ktr_room); (case ku => ktr_units); k_whole; intro h' tk' F' N'; (try dsimp only); (try k_fold))))
--M>
/-- what a turn of the second loop needs to know -/
structure FactG (t : Int) (l0 l1 : Str) : Prop where
  k0 : l0.length < 100
  k1 : l1.length < 100
  r0 : (rep t l0).length < 900
  r1 : (rep t l1).length < 1000
  g0 : ∀ c ∈ sg (rep t l0), c = 32 ∨ c = 9
  g1 : ∀ c ∈ sg (rep t l1), c = 32 ∨ c = 9
  ok0 : WsOk (stB t l0)
  ok1 : WsOk (stOf t l1)
theorem blank_ok {x : Str} (h : x.length < 900) : (x ++ Str.ofString " ").length < 1000 := by
  rw [← sg_length] at h ⊢
  rw [sg_append, List.length_append]
  have e : (sg (Str.ofString " ")).length = 1 := by decide
  omega
theorem blank_sg {x : Str} (h : ∀ c ∈ sg x, c = 32 ∨ c = 9) : ∀ c ∈ sg (x ++ Str.ofString " "), c = 32 ∨ c = 9 := by
  intro c hc
  rw [sg_append] at hc
  rcases List.mem_append.mp hc with hc | hc
  · exact h c hc
  · have e : sg (Str.ofString " ") = [32] := by decide
    rw [e] at hc
    exact .inl (List.mem_singleton.mp hc)
set_option maxHeartbeats 8000000 in
theorem turnG (w : World) (mean : ExcName → Option Value) (mg mb : Str → Option Value) (g : Heap) (L fa : Addr) (cd : Value) (tg : Expr) (st : List Stmt) (sc : Scope) (hst : some (tg, st) = forOf (lawSt 9)) (hsc : sc = lawSc) (s : Shared) (Q : Flow → Shared → Prop) (E : Value → Shared → Prop)
    (X : (Mine.hd.heap_39 w.params).In g) (B : Below callerA g [] g) (T : Top topProg looseT mean mg mb g) (codeHd : CodeHd g 142 138) (m : Env1) (WD WL LL S2 : Addr) (l0 l1 : Str) (v0 v1 v2 : Tok) (it : Addr) (o w1 tb : Obj) (c1 : Option Value) (d1 : w1.data = .cell c1) (bs cs2 ones : List Value) (ep ep2 ep3 : Nat) (t : Int) (tt : Tok) (ht : 1 ≤ t ∧ t ≤ 5)
    (F : Fr g L s.heap (kstB m [(Str.ofString "words", .ref WD), (Str.ofString "wholes", .ref WL), (Str.ofString "lesses", .ref S2)]))
    (N : News g L s.heap [(L + 1 + 1, w1), (it, o), (S2, W.listOf cs2.toArray ep2), (LL, W.listOf ones.toArray ep3), (WL, W.listOf bs.toArray ep), (WD, W.listOf [.str l0 v0, .str l1 v1, .str Str.empty v2].toArray 3), (138, tb)])
    (hbs : cs2.length < 100) (hn : 1 ≤ s.toks) (nd : ∀ b ∈ [it, S2, LL, WL, WD, 138], b ≠ L + 1 + 1) (nd2 : ∀ b ∈ [it, LL, WL, WD, 138], b ≠ S2) (fc : FactG t l0 l1)
    (hnext : ∀ (h : Heap) (tk : Nat) (m : Env1) (w1' : Obj), Fr g L h (kstB m [(Str.ofString "words", .ref WD), (Str.ofString "wholes", .ref WL), (Str.ofString "lesses", .ref S2)]) → w1'.data = .cell (some (.int t tt)) →
      News g L h [(L + 1 + 1, w1'), (it, o), (S2, W.listOf (cs2 ++ [Value.bool (lessOf (stOf t l1) (stB t l0))]).toArray (ep2 + 1)), (LL, W.listOf ones.toArray ep3), (WL, W.listOf bs.toArray ep), (WD, W.listOf [.str l0 v0, .str l1 v1, .str Str.empty v2].toArray 3), (138, tb)] →
      Q .next { s with heap := h, toks := tk }) :
    wpAny (model PySem.Challenge.rw_pg0243_01.row.prog w) (callerA.deeper (envOfC (Str.ofString "law") sc L fa cd)) (assign tg (envOfC (Str.ofString "law") sc L fa cd) (.int t tt)) (fun _ s₂ => wpAny (model PySem.Challenge.rw_pg0243_01.row.prog w) (callerA.deeper (envOfC (Str.ofString "law") sc L fa cd)) (execs st (envOfC (Str.ofString "law") sc L fa cd)) Q E s₂) E s := by
  conv at hst => rhs; whnf
  conv at hsc => rhs; whnf
  cases hst
  subst hsc
  w_top off
  revert X; k_fill; intro X
  have mine_on : MineOn := True.intro
  have eps_on : EpsOn := True.intro
  haveI := neSh; haveI := neAr; haveI := neWo; haveI := neWS
  revert w mean mg mb g L fa cd s Q E m WD WL LL S2 l0 l1 v0 v1 v2 it o w1 tb c1 bs cs2 ones ep ep2 ep3 t tt
  intro w mean mg mb g L fa cd s Q E B T codeHd m WD WL LL S2 l0 l1 v0 v1 v2 it o w1 tb c1 d1 bs cs2 ones ep ep2 ep3 t tt ht F N hbs hn nd nd2 fc hnext X
  (iterate 1 (walk_at "my_step"))
  refine store_cell F N (fun p hp => nd p.1 (List.mem_map_of_mem (f := Prod.fst) hp)) rfl d1 rfl rfl ?_
  clear F N
  intro h12 w1' F N d1'
  have hk : MulOk (Str.ofString " ") t := mulOk_of 16 1048576 (by decide) (by omega) (by omega) (by decide) (by decide)
  have hz : (Txt.mul (Str.ofString " ") t).length ≤ 8 := by
    have d := len_mul (Str.ofString " ") t
    rw [show (Str.ofString " ").length = 1 by decide] at d
    split at d <;> omega
  obtain ⟨fk0, fk1, fr0, fr1, fg0, fg1, fok0, fok1⟩ := fc
  k_steps
  unfold Halt
  refine ⟨_, _, _, _, rfl, rfl, by dsimp only; omega, by k_asm, by k_asm, by k_mem, by exact Nat.le_of_ble_eq_true rfl, ?_⟩
  intro g1
  refine RestT.succ ?_
  intro v I oI C oC DD m₂ h tk E' htk hv hC hx F N off ne
  simp only [List.getElem?_toArray, List.getElem?_cons_zero, List.getElem?_cons_succ, Option.some.injEq] at hv
  subst hv
  dsimp only at *
  k_steps
  (rename _ ∨ _ => hor)
  dsimp only at hor
  refine SC.replaceW2 200 8 (by decide) (show @Ne Nat _ _ by omega) (show @Ne Nat _ _ by rcases hor with e | e <;> rw [e] <;> omega) (show @Ne Nat _ _ by rcases hor with e | e <;> rw [e] <;> omega) (by omega) hz ?_ (none_bk F X)
  intro tr0 kr0
  clear hor
  k_steps
  refine LCg.CompEnd.intro F N _ (fun p hp => hp) off (by k_mem) ?_
  clear F N off
  refine RestT.succ ?_
  intro v I oI C oC DD m₂ h tk E' htk hv hC hx F N off ne
  simp only [List.getElem?_toArray, List.getElem?_cons_zero, List.getElem?_cons_succ, Option.some.injEq] at hv
  subst hv
  dsimp only at *
  k_steps
  (rename _ ∨ _ => hor)
  dsimp only at hor
  refine SC.replaceW2 200 8 (by decide) (show @Ne Nat _ _ by omega) (show @Ne Nat _ _ by rcases hor with e | e <;> rw [e] <;> omega) (show @Ne Nat _ _ by rcases hor with e | e <;> rw [e] <;> omega) (by omega) hz ?_ (none_bk F X)
  intro tr1 kr1
  clear hor
  k_steps
  refine LCg.CompEnd.intro F N _ (fun p hp => hp) off (by k_mem) ?_
  clear F N off
  refine RestT.zero ?_
  intro D9 h9 tk9 htk9 F9 N9 o9
  simp only [List.cons_append, List.nil_append] at N9 ⊢
  have e0 : Txt.replace l0 (Str.ofString " ") (Txt.mul (Str.ofString " ") t) = rep t l0 := rfl
  have e1 : Txt.replace l1 (Str.ofString " ") (Txt.mul (Str.ofString " ") t) = rep t l1 := rfl
  rw [e0, e1] at N9
  clear e0 e1 o9 hk hz
  k_steps
  unfold Halt
  (rename Fr _ _ _ _ => F10)
  (rename News _ _ _ _ => N10)
  k_dflt (refine' ws_use ?k1 F10 X N10 T ?kK fr1 fg1 ?kd ?ku ?_)
  case k1 => k_asm
  case kK => rfl
  case kd => ktr_room
  case ku => ktr_units
  k_whole
  clear F10 N10
  intro wx dx wp wc vs0 tb0 tn0 tt0 a1 a2 a3 a4 a5 h2 tk2 F10 N10 hi0 q0 q1 q2 q3
  have e1 : wsRun (sg (rep t l1)) = stOf t l1 := rfl
  rw [e1] at N10 hi0
  simp only [List.cons_append, List.nil_append] at N10
  have hsb := blank_ok fr0
  have hsg := blank_sg fg0
  have fr9 : (rep t l0).length < 1000 := by omega
  k_steps
  unfold Halt
  (rename News _ _ _ _ => N11)
  (rename Fr _ _ _ _ => F11)
  k_dflt (refine' ws_use ?k1 F11 X N11 T ?kK hsb hsg ?kd ?ku ?_)
  case k1 => k_asm
  case kK => rfl
  case kd => ktr_room
  case ku => ktr_units
  k_whole
  clear F11 N11
  intro wx' dx' wp' wc' vs1 tb1 tn1 tt1 b1 b2 b3 b4 b5 h3 tk3 F11 N11 hi1 q0' q1' q2' q3'
  have e2 : wsRun (sg (rep t l0 ++ Str.ofString " ")) = stB t l0 := rfl
  rw [e2] at N11 hi1
  simp only [List.cons_append, List.nil_append] at N11
  clear e1 e2
  k_steps
  (rename Fr _ _ _ _ => F20)
  (rename News _ _ _ _ => N20)
  have z1 : @Ne Nat it S2 := nd2 it (by simp)
  have z2 : @Ne Nat LL S2 := nd2 LL (by simp)
  have z3 : @Ne Nat WL S2 := nd2 WL (by simp)
  have z4 : @Ne Nat WD S2 := nd2 WD (by simp)
  have z7 : @Ne Nat 138 S2 := nd2 138 (by simp)
  have z6 : @Ne Nat S2 (L + 1 + 1) := nd S2 (by simp)
  have N21 := cb_drop (news := [(S2, W.listOf cs2.toArray ep2), (L + 1 + 1, w1'), (it, o), (LL, W.listOf ones.toArray ep3), (WL, W.listOf bs.toArray ep), (WD, W.listOf [.str l0 v0, .str l1 v1, .str Str.empty v2].toArray 3), (138, tb)]) N20
    (List.forall_mem_cons.mpr ⟨by k_mem, List.forall_mem_cons.mpr ⟨by k_mem, List.forall_mem_cons.mpr ⟨by k_mem, List.forall_mem_cons.mpr ⟨by k_mem, List.forall_mem_cons.mpr ⟨by k_mem, List.forall_mem_cons.mpr ⟨by k_mem, List.forall_mem_cons.mpr ⟨by k_mem, List.forall_mem_nil _⟩⟩⟩⟩⟩⟩⟩)
  refine list_app F20 N21 (List.forall_mem_cons.mpr ⟨Ne.symm z6, List.forall_mem_cons.mpr ⟨z1, List.forall_mem_cons.mpr ⟨z2, List.forall_mem_cons.mpr ⟨z3, List.forall_mem_cons.mpr ⟨z4, List.forall_mem_cons.mpr ⟨z7, List.forall_mem_nil _⟩⟩⟩⟩⟩⟩) (by omega) ?_
  intro h22 F22 N22
  refine wpAny_execs_nil ?_
  refine hnext h22 _ _ w1' (Has.fr ⟨rfl, rfl, rfl, True.intro⟩ F22) d1' (cb_drop N22 ?_)
  intro p hp
  simp only [List.mem_cons, List.not_mem_nil, or_false] at hp ⊢
  rcases hp with h | h | h | h | h | h | h <;> simp only [h, true_or, or_true]

section
open PyProof.V
theorem kb_canLay : ∀ ns : List Bool, PyData.canLayAll0 (ns.map PyData.bool) = true
  | [] => rfl
  | _ :: r => by simp [PyData.canLayAll0, PyData.canLay0, kb_canLay r]
theorem kb_depth : ∀ ns : List Bool, PyData.depthAll (ns.map PyData.bool) = 0
  | [] => rfl
  | _ :: r => by simp [PyData.depthAll, PyData.depth, kb_depth r]
theorem kb_carried : ∀ ns : List Bool, CarriedAll (ns.map Value.bool) (ns.map PyData.bool)
  | [] => .nil
  | b :: r => .cons (.bool b) (kb_carried r)
variable {prog : Program} {w : World} {A : Around} {E : Value → Shared → Prop} {s : Shared} {l : Addr} {Q : Value → Shared → Prop}
theorem in_bools {bl : List Bool} (hl : s.heap.IsList l (bl.map Value.bool).toArray) (hu : A.units + 64 < cLine) (h : Q (.bool (bl.any (· == false))) s) : wpAny (model prog w) A (compareOp .In (.bool false) (.ref l)) Q E s := by
  refine PySem.SeqAt.in_list_reads (reads_newData hl (kb_carried bl)) (Reads.bool false) (kb_canLay bl) rfl (by rw [kb_depth]; have : min 0 (PyData.bool false).depth = 0 := Nat.zero_min _; omega) ?_
  rw [List.any_map]
  have e : ((fun y => PyData.eqv y (PyData.bool false)) ∘ PyData.bool) = (· == false) := by
    funext b; cases b <;> simp [PyData.eqv]
  rw [e]; exact h
end

--<M
local macro_rules | `(tactic| walk_at "exec For Name List cons nil") => `(tactic| (k_here; (with_reducible refine for_loop ?_ ?_); rotate_left; (with_unfolding_all (intro _; rfl))))
local macro_rules | `(tactic| walk_at "call type:range") => `(tactic| (k_here; (with_reducible refine Halt.mk ?_)))
local macro_rules | `(tactic| walk_at "Loop") => `(tactic| (with_reducible refine Halt.mk ?_))
local macro_rules | `(tactic| walk_at "compareOp In bool ref") => `(tactic| (k_here; (with_reducible refine Halt.mk ?_)))
--M>
/-- whether the quotient is whole -/
noncomputable def wh (xs ys : List Int) (t : Int) : Bool := (prodOf t xs).fmod (prodOf t ys) == 0
noncomputable def whs (xs ys : List Int) (n : Nat) : List Bool := (List.range n).map fun (j : Nat) => wh xs ys (1 + (j : Int))
theorem whs_succ (xs ys : List Int) (n : Nat) : (whs xs ys (n + 1)).map Value.bool = (whs xs ys n).map Value.bool ++ [Value.bool (wh xs ys (1 + (n : Int)))] := by
  unfold whs; rw [List.range_succ, List.map_append, List.map_append]; rfl
theorem whs_len (xs ys : List Int) (n : Nat) : ((whs xs ys n).map Value.bool).length = n := by simp [whs]
noncomputable def lss (l0 l1 : Str) (n : Nat) : List Bool := (List.range n).map fun (j : Nat) => lessOf (stOf (1 + (j : Int)) l1) (stB (1 + (j : Int)) l0)
theorem lss_succ (l0 l1 : Str) (n : Nat) : (lss l0 l1 (n + 1)).map Value.bool = (lss l0 l1 n).map Value.bool ++ [Value.bool (lessOf (stOf (1 + (n : Int)) l1) (stB (1 + (n : Int)) l0))] := by
  unfold lss; rw [List.range_succ, List.map_append, List.map_append]; rfl
theorem lss_len (l0 l1 : Str) (n : Nat) : ((lss l0 l1 n).map Value.bool).length = n := by simp [lss]
structure HC where
  w1 : Obj
  bs : List Value
  ep : Nat
theorem HC.all {P : HC → Prop} (h : ∀ w1 bs ep, P ⟨w1, bs, ep⟩) : ∀ c, P c := fun ⟨_, _, _⟩ => h _ _ _
set_option maxHeartbeats 8000000 in
theorem stageH (w : World) (mean : ExcName → Option Value) (mg mb : Str → Option Value) (g : Heap) (L fa : Addr) (cd : Value) (st : List Stmt) (sc : Scope) (hst : st = lawSt 6) (hsc : sc = lawSc) (s : Shared) (Q : Flow → Shared → Prop)
    (X : (Mine.hd.heap_39 w.params).In g) (B : Below callerA g [] g) (T : Top topProg looseT mean mg mb g) (codeHd : CodeHd g 142 138) (m : Env1) (R R0 R1 WD : Addr) (l0 l1 : Str) (v0 v1 v2 : Tok) (x0 x1 x2 y0 y1 y2 : Int) (t0 t1 t2 t3 t4 t5 : Tok) (w1 tb : Obj) (c1 : Option Value) (d1 : w1.data = .cell c1)
    (F : Fr g L s.heap (kstB m [(Str.ofString "rows", .ref R), (Str.ofString "words", .ref WD)]))
    (N : News g L s.heap [(L + 1 + 1, w1), (WD, W.listOf [.str l0 v0, .str l1 v1, .str Str.empty v2].toArray 3), (R, W.listOf [.ref R0, .ref R1].toArray 2), (R1, W.listOf [.int y0 t3, .int y1 t4, .int y2 t5].toArray 3), (R0, W.listOf [.int x0 t0, .int x1 t1, .int x2 t2].toArray 3), (138, tb)])
    (nd : ∀ b ∈ [WD, R, R1, R0, 138], b ≠ L + 1 + 1)
    (hx0 : 0 ≤ x0 ∧ x0 ≤ 4) (hx1 : 0 ≤ x1 ∧ x1 ≤ 4) (hx2 : 0 ≤ x2 ∧ x2 ≤ 4) (hy0 : 0 ≤ y0 ∧ y0 ≤ 4) (hy1 : 0 ≤ y1 ∧ y1 ≤ 4) (hy2 : 0 ≤ y2 ∧ y2 ≤ 4)
    (fF : ∀ t, 1 ≤ t → t ≤ 5 → FactF t l0 l1 [x0, x1, x2] [y0, y1, y2]) (fG : ∀ t, 1 ≤ t → t ≤ 2 → FactG t l0 l1)
    (law : (whs [x0, x1, x2] [y0, y1, y2] 5).any (· == false) = (lss l0 l1 2).any (· == false))
    (hret : ∀ (h : Heap) (tk : Nat) (m : Env1) (news : Led), Fr g L h m → News g L h news → (138, tb) ∈ news → Q (.ret (.bool true)) { s with heap := h, toks := tk }) :
    wpAny (model PySem.Challenge.rw_pg0243_01.row.prog w) (callerA.deeper (envOfC (Str.ofString "law") sc L fa cd)) (execs st (envOfC (Str.ofString "law") sc L fa cd)) Q (fun _ _ => False) s := by
  conv at hst => rhs; whnf
  have hsc' := hsc
  conv at hsc => rhs; whnf
  subst hst hsc
  w_top off
  revert X; k_fill; intro X
  have mine_on : MineOn := True.intro
  have eps_on : EpsOn := True.intro
  haveI := neSh; haveI := neAr; haveI := neWo
  revert w mean mg mb g L fa cd s Q m R R0 R1 WD l0 l1 v0 v1 v2 x0 x1 x2 y0 y1 y2 t0 t1 t2 t3 t4 t5 w1 tb c1
  intro w mean mg mb g L fa cd s Q B T codeHd m R R0 R1 WD l0 l1 v0 v1 v2 x0 x1 x2 y0 y1 y2 t0 t1 t2 t3 t4 t5 w1 tb c1 d1 F N nd hx0 hx1 hx2 hy0 hy1 hy2 fF fG law hret X
  k_steps
  unfold Halt
  refine wpAny_with_toks (n := 1) (by dsimp only; omega) ?_
  (rename Fr _ _ _ _ => F1)
  (rename News _ _ _ _ => N1)
  refine range2_rows F1 N1 ?_
  clear F1 N1
  intro h1 tk1 ta1 ua1 wa1 hr1 F1 N1 hk1 htk1
  dsimp only at *
  k_steps
  unfold Halt
  (rename _ ∧ _ ∧ _ ∧ _ ∧ _ ∧ _ ∧ _ => hlt)
  (rename Fr _ _ _ _ => F2)
  (rename News _ _ _ _ => N2)
  rename_i WL _ _ _ it _
  rw [show ((6 : Int) - 1).toNat = 5 from rfl] at N2
  obtain ⟨q1, q2, q3, q4, q5, q6, q7⟩ := hlt
  (rename _ ∧ _ ∧ _ ∧ _ ∧ _ ∧ _ => hlt)
  obtain ⟨p1, p2, p3, p4, p5, p6⟩ := hlt
  have nl : ∀ b ∈ [WL, L + 1 + 1, WD, R, R1, R0, 138], b ≠ it := by
    intro b hb
    simp only [List.mem_cons, List.not_mem_nil, or_false] at hb
    rcases hb with rfl | rfl | rfl | rfl | rfl | rfl | rfl
    · exact Nat.ne_of_lt q1
    · exact Nat.ne_of_lt q2
    · exact Nat.ne_of_lt q3
    · exact Nat.ne_of_lt q4
    · exact Nat.ne_of_lt q5
    · exact Nat.ne_of_lt q6
    · exact Nat.ne_of_lt q7
  refine Loop.iterT (n0 := 1) (σ := HC) (iter_of_range it 1 5) rfl htk1 (fun i c => (∃ c1, c.w1.data = .cell c1) ∧ c.bs = (whs [x0, x1, x2] [y0, y1, y2] i).map Value.bool)
    (fun _ => [(Str.ofString "rows", .ref R), (Str.ofString "words", .ref WD), (Str.ofString "wholes", .ref WL)])
    (fun c => [(WL, W.listOf c.bs.toArray c.ep), (L + 1 + 1, c.w1), (WD, W.listOf [.str l0 v0, .str l1 v1, .str Str.empty v2].toArray 3), (R, W.listOf [.ref R0, .ref R1].toArray 2), (R1, W.listOf [.int y0 t3, .int y1 t4, .int y2 t5].toArray 3), (R0, W.listOf [.int x0 t0, .int x1 t1, .int x2 t2].toArray 3), (138, tb)])
    ⟨w1, [], 0⟩ ⟨⟨c1, d1⟩, rfl⟩ (rng0 (a := 1) (n := 5)) (At.intro F2 N2 ⟨rfl, rfl, rfl, True.intro⟩ fun q hq => hq) (fun _ _ _ p hp => nl p.1 (List.mem_map_of_mem (f := Prod.fst) hp)) (fun _ _ _ _ hq => nomatch hq) ?_ ?_
  · intro i
    refine HC.all ?_
    intro wc bs ep hi
    refine and_imp' ?_
    refine ex_imp ?_
    intro cc dd hbs v o h tk mm hn
    refine ex_imp ?_
    intro tv
    rintro rfl
    intro ho F N
    dsimp only at dd hbs F N
    have hlen : bs.length = i := by rw [hbs, whs_len]
    refine turnF w mean mg mb g L fa cd _ _ _ rfl hsc' _ _ _ X B T codeHd mm R R0 R1 WD WL l0 l1 v0 v1 v2 x0 x1 x2 y0 y1 y2 t0 t1 t2 t3 t4 t5 it o wc tb cc dd bs ep (1 + (i : Int)) tv ⟨by omega, by omega⟩ F (cb_drop N ?_) (by omega) hn ?_ ?_ hx0 hx1 hx2 hy0 hy1 hy2 (fF _ (by omega) (by omega)) ?_
    · intro p hp
      simp only [List.mem_cons, List.not_mem_nil, or_false] at hp ⊢
      rcases hp with h | h | h | h | h | h | h | h <;> simp only [h, true_or, or_true]
    · intro b hb
      simp only [List.mem_cons, List.not_mem_nil, or_false] at hb
      rcases hb with rfl | rfl | rfl | rfl | rfl | rfl | rfl
      · exact Nat.ne_of_gt q2
      · exact Nat.ne_of_gt p1
      · exact nd _ (by simp)
      · exact nd _ (by simp)
      · exact nd _ (by simp)
      · exact nd _ (by simp)
      · exact nd _ (by simp)
    · intro b hb
      simp only [List.mem_cons, List.not_mem_nil, or_false] at hb
      rcases hb with rfl | rfl | rfl | rfl | rfl | rfl
      · exact Nat.ne_of_gt q1
      · exact Nat.ne_of_lt p2
      · exact Nat.ne_of_lt p3
      · exact Nat.ne_of_lt p4
      · exact Nat.ne_of_lt p5
      · exact Nat.ne_of_lt p6
    · intro h' tk' m' w1' F' d' N'
      refine TurnI.next ⟨w1', bs ++ [Value.bool ((prodOf (1 + (i : Int)) [x0, x1, x2]).fmod (prodOf (1 + (i : Int)) [y0, y1, y2]) == 0)], ep + 1⟩ F' N' ⟨⟨_, d'⟩, ?_⟩ ⟨rfl, rfl, rfl, True.intro⟩ ho ?_
      · dsimp only
        rw [whs_succ, hbs]; rfl
      · intro p hp
        simp only [List.mem_cons, List.not_mem_nil, or_false] at hp ⊢
        rcases hp with h | h | h | h | h | h | h | h <;> simp only [h, true_or, or_true]
  · refine HC.all ?_
    intro wc bs ep
    refine and_imp' ?_
    refine ex_imp ?_
    intro cc dd hbs h tk mm hn F N
    dsimp only at dd hbs F N
    subst hbs
    refine wpAny_execs_nil ?_
    dsimp only
    clear F2 N2 nl
    k_steps
    unfold Halt
    (rename _ ∧ _ ∧ _ ∧ _ ∧ _ ∧ _ ∧ _ ∧ _ ∧ _ => hlt)
    (rename Fr _ _ _ _ => F3)
    (rename News _ _ _ _ => N3)
    (rename ListIt _ _ _ => ho3)
    rename_i S2 _ _ _ LL _ _ it2 o2 _
    obtain ⟨r1, r2, r3, r4, r5, r6, r7, r8, r9⟩ := hlt
    (rename _ ∧ _ ∧ _ ∧ _ ∧ _ ∧ _ ∧ _ ∧ _ => hlt)
    obtain ⟨k1, k2, k3, k4, k5, k6, k7, k8⟩ := hlt
    (rename _ ∧ _ ∧ _ ∧ _ ∧ _ ∧ _ ∧ _ => hlt)
    obtain ⟨j1, j2, j3, j4, j5, j6, j7⟩ := hlt
    have nl2 : ∀ b ∈ [S2, L + 1 + 1, LL, WL, WD, 138], b ≠ it2 := by
      intro b hb
      simp only [List.mem_cons, List.not_mem_nil, or_false] at hb
      rcases hb with rfl | rfl | rfl | rfl | rfl | rfl
      · exact Nat.ne_of_lt r2
      · exact Nat.ne_of_lt r4
      · exact Nat.ne_of_lt r1
      · exact Nat.ne_of_lt r3
      · exact Nat.ne_of_lt r5
      · exact Nat.ne_of_lt r9
    have N4 := cb_drop (news := [(it2, o2), (LL, W.listOf [.int 1 tk, .int 2 (tk + 1)].toArray 0), (S2, W.listOf #[] 0), (WL, W.listOf ((whs [x0, x1, x2] [y0, y1, y2] 5).map Value.bool).toArray ep), (L + 1 + 1, wc), (WD, W.listOf [.str l0 v0, .str l1 v1, .str Str.empty v2].toArray 3), (138, tb)]) N3 (by
      intro p hp
      simp only [List.mem_cons, List.not_mem_nil, or_false] at hp ⊢
      rcases hp with h | h | h | h | h | h | h <;> simp only [h, true_or, or_true])
    refine Loop.iterT (n0 := 1) (σ := HC) (iter_of_list it2 LL [.int 1 tk, .int 2 (tk + 1)] 0) rfl (by dsimp only; omega) (fun i c => (∃ c1, c.w1.data = .cell c1) ∧ c.bs = (lss l0 l1 i).map Value.bool)
      (fun _ => [(Str.ofString "words", .ref WD), (Str.ofString "wholes", .ref WL), (Str.ofString "lesses", .ref S2)])
      (fun c => [(LL, W.listOf [.int 1 tk, .int 2 (tk + 1)].toArray 0), (S2, W.listOf c.bs.toArray c.ep), (WL, W.listOf ((whs [x0, x1, x2] [y0, y1, y2] 5).map Value.bool).toArray ep), (L + 1 + 1, c.w1), (WD, W.listOf [.str l0 v0, .str l1 v1, .str Str.empty v2].toArray 3), (138, tb)])
      ⟨wc, [], 0⟩ ⟨⟨cc, dd⟩, rfl⟩ ho3 (At.intro F3 N4 ⟨rfl, rfl, rfl, True.intro⟩ fun q hq => hq) (fun _ _ _ p hp => nl2 p.1 (by
        have := List.mem_map_of_mem (f := Prod.fst) hp
        simp only [List.map_cons, List.map_nil, List.mem_cons, List.not_mem_nil, or_false] at this ⊢
        rcases this with h | h | h | h | h | h <;> simp only [h, true_or, or_true])) (fun _ _ _ q hq => by rw [List.mem_singleton.mp hq]; exact .head _) ?_ ?_
    · intro i
      refine HC.all ?_
      intro wd cs2 ep2 hi
      refine and_imp' ?_
      refine ex_imp ?_
      intro ce de hcs v o h tk2 mm hn hv ho F N
      dsimp only at de hcs F N
      have hlen : cs2.length = i := by rw [hcs, lss_len]
      have hi2 : i < 2 := hi
      have hx9 : ∃ tv, v = .int (1 + (i : Int)) tv := by
        match i, hi2, hv with
        | 0, _, hv => exact ⟨tk, by simpa using hv.symm⟩
        | 1, _, hv => exact ⟨tk + 1, by simpa using hv.symm⟩
      revert hx9
      refine ex_imp ?_
      intro tv
      rintro rfl
      refine turnG w mean mg mb g L fa cd _ _ _ rfl hsc' _ _ _ X B T codeHd mm WD WL LL S2 l0 l1 v0 v1 v2 it2 o wd tb ce de ((whs [x0, x1, x2] [y0, y1, y2] 5).map Value.bool) cs2 [.int 1 tk, .int 2 (tk + 1)] ep ep2 0 (1 + (i : Int)) tv ⟨by omega, by omega⟩ F (cb_drop N ?_) (by omega) hn ?_ ?_ (fG _ (by omega) (by omega)) ?_
      · intro p hp
        simp only [List.mem_cons, List.not_mem_nil, or_false] at hp ⊢
        rcases hp with h | h | h | h | h | h | h <;> simp only [h, true_or, or_true]
      · intro b hb
        simp only [List.mem_cons, List.not_mem_nil, or_false] at hb
        rcases hb with rfl | rfl | rfl | rfl | rfl | rfl
        · exact Nat.ne_of_gt r4
        · exact Nat.ne_of_gt j2
        · exact Nat.ne_of_gt k3
        · exact Nat.ne_of_gt p1
        · exact nd _ (by simp)
        · exact nd _ (by simp)
      · intro b hb
        simp only [List.mem_cons, List.not_mem_nil, or_false] at hb
        rcases hb with rfl | rfl | rfl | rfl | rfl
        · exact Nat.ne_of_gt r2
        · exact Nat.ne_of_gt k1
        · exact Nat.ne_of_lt j1
        · exact Nat.ne_of_lt j3
        · exact Nat.ne_of_lt j7
      · intro h' tk' m' w1' F' d' N'
        refine TurnI.next ⟨w1', cs2 ++ [Value.bool (lessOf (stOf (1 + (i : Int)) l1) (stB (1 + (i : Int)) l0))], ep2 + 1⟩ F' N' ⟨⟨_, d'⟩, ?_⟩ ⟨rfl, rfl, rfl, True.intro⟩ ho ?_
        · dsimp only
          rw [lss_succ, hcs]
        · intro p hp
          simp only [List.mem_cons, List.not_mem_nil, or_false] at hp ⊢
          rcases hp with h | h | h | h | h | h | h <;> simp only [h, true_or, or_true]
    · refine HC.all ?_
      intro wd cs2 ep2
      refine and_imp' ?_
      refine ex_imp ?_
      intro ce de hcs h tk2 mm hn F N
      dsimp only at de hcs F N
      subst hcs
      refine wpAny_execs_nil ?_
      dsimp only
      clear F3 N3 N4 nl2
      k_steps
      unfold Halt
      refine in_bools (bl := whs [x0, x1, x2] [y0, y1, y2] 5) (News.isList N (by k_mem)) (by ke_room) ?_
      k_steps
      unfold Halt
      refine in_bools (bl := lss l0 l1 2) (News.isList N (by k_mem)) (by ke_room) ?_
      rw [law]
      k_steps
      rw [beq_self_eq_true]
      exact hret h _ _ _ F N (by simp)

open PySem.StrLaws PySem.Builtin PySem.Builtin.Str in
theorem sub_free (c : Nat) (zs : List Nat) : ∀ l : List Nat, c ∉ l → (l.flatMap fun d => if d = c then zs else [d]) = l
  | [], _ => rfl
  | k :: r, h => by
    rw [List.flatMap_cons, if_neg (fun (e : k = c) => h (e ▸ List.mem_cons_self ..)), sub_free c zs r fun m => h (List.mem_cons_of_mem _ m)]
    rfl
theorem sub_join (c : Nat) (z : Str) : ∀ parts : List Str, (∀ p ∈ parts, c ∉ sg p) → ((sg (Str.join ⟨#[c]⟩ parts)).flatMap fun d => if d = c then sg z else [d]) = sg (Str.join z parts)
  | [], _ => rfl
  | [p], h => sub_free c _ _ (h p (List.mem_singleton.mpr rfl))
  | p :: q :: r, h => by
    have ih := sub_join c z (q :: r) fun a ha => h a (List.mem_cons_of_mem _ ha)
    show ((sg (p ++ ⟨#[c]⟩ ++ Str.join ⟨#[c]⟩ (q :: r))).flatMap fun d => if d = c then sg z else [d]) = sg (p ++ z ++ Str.join z (q :: r))
    rw [sg_append, sg_append, sg_append, sg_append, List.flatMap_append, List.flatMap_append, ih, sub_free c _ _ (h p (List.mem_cons_self ..))]
    have e : sg (⟨#[c]⟩ : Str) = [c] := rfl
    rw [e, List.flatMap_cons, List.flatMap_nil, if_pos rfl, List.append_nil]
theorem sg_replace (x z : Str) (c : Nat) : sg (Txt.replace x ⟨#[c]⟩ z) = (sg x).flatMap fun d => if d = c then sg z else [d] := by
  rw [StrLaws.replace_one, ← sub_join c z _ (StrLaws.split_free x c), StrLaws.join_split]
/-- a row's lead, each blank made t blanks -/
noncomputable def spread (t : Nat) (xs : List Int) : List Nat := xs.flatMap fun r => List.replicate (r.toNat * t) 32 ++ [9]
theorem rep_run (zs : List Nat) : ∀ n : Nat, ((List.replicate n 32).flatMap fun d => if d = 32 then zs else [d]) = (List.replicate n zs).flatten
  | 0 => rfl
  | n + 1 => by
    rw [List.replicate_succ, List.replicate_succ, List.flatMap_cons, List.flatten_cons, rep_run zs n, if_pos rfl]
theorem sg_rep (t : Int) (xs : List Int) : sg (rep t (leadOf xs)) = spread t.toNat xs := by
  unfold rep
  rw [show Str.ofString " " = (⟨#[32]⟩ : Str) by decide, sg_replace, sg_lead]
  unfold spread
  induction xs with
  | nil => rfl
  | cons r xs ih =>
    rw [List.flatMap_cons, List.flatMap_append, List.flatMap_append, ih, List.flatMap_cons]
    have e : sg (Txt.mul (⟨#[32]⟩ : Str) t) = List.replicate t.toNat 32 := sg_mul_one rfl t
    rw [e, rep_run, List.flatten_replicate_replicate]
    rfl
theorem stOf_lead (t : Int) (xs : List Int) : stOf t (leadOf xs) = wsRun (spread t.toNat xs) := by unfold stOf; rw [sg_rep]
theorem stB_lead (t : Int) (xs : List Int) : stB t (leadOf xs) = wsRun (spread t.toNat xs ++ [32]) := by
  unfold stB
  rw [sg_append, sg_rep]
  rfl
/-- the letters that a lead's word has -/
noncomputable def cnt (st : WS) (z : Int) : Nat := ((indOf st z).fdiv z - st.nt).toNat
noncomputable def exps (st : WS) : List Nat := [cnt st 2 + cnt st 4 + cnt st 8 + cnt st 16, cnt st 3 + cnt st 9, cnt st 5, cnt st 7, cnt st 11, cnt st 13, cnt st 17, cnt st 19]
noncomputable def word8 : List Nat → List Nat
  | [a, b, c, d, e, f, g, h] => List.replicate a 97 ++ (List.replicate b 98 ++ (List.replicate c 99 ++ (List.replicate d 100 ++ (List.replicate e 101 ++ (List.replicate f 102 ++ (List.replicate g 103 ++ List.replicate h 104))))))
  | _ => []
theorem sg_letters (st : WS) (z : Int) (y : Str) (c : Nat) (hy : y = ⟨#[c]⟩) : sg (letters st z y) = List.replicate (cnt st z) c := sg_mul_one hy _
theorem sg_primes (st : WS) : sg (primesOf st) = word8 (exps st) := by
  unfold primesOf powers
  rw [sg_join0]
  simp only [List.map_cons, List.map_nil, List.flatMap_cons, List.flatMap_nil, List.append_nil]
  rw [sg_letters st 2 _ 97 (by decide), sg_letters st 4 _ 97 (by decide), sg_letters st 8 _ 97 (by decide), sg_letters st 16 _ 97 (by decide), sg_letters st 3 _ 98 (by decide), sg_letters st 9 _ 98 (by decide), sg_letters st 5 _ 99 (by decide), sg_letters st 7 _ 100 (by decide),
    sg_letters st 11 _ 101 (by decide), sg_letters st 13 _ 102 (by decide), sg_letters st 17 _ 103 (by decide), sg_letters st 19 _ 104 (by decide)]
  unfold exps word8
  dsimp only
  rw [← List.replicate_append_replicate, ← List.replicate_append_replicate, ← List.replicate_append_replicate, ← List.replicate_append_replicate]
  simp only [List.append_assoc]
section
open PySem.StrLaws PySem.Builtin PySem.Builtin.Str
theorem drop_first {g : Nat} {gs post : List Nat} : ∀ pre : List Nat, g ∉ pre → ((g :: gs).Sublist (pre ++ g :: post) ↔ gs.Sublist post)
  | [], _ => List.cons_sublist_cons
  | a :: pre, h => by
    have ih := drop_first (gs := gs) (post := post) pre fun m => h (List.mem_cons_of_mem _ m)
    rw [← ih, List.cons_append]
    constructor
    · intro q
      cases q with
      | cons _ q => exact q
      | cons_cons _ q => exact absurd (List.mem_cons_self ..) h
    · exact fun q => q.cons _
theorem ell_sub (got : Str) : ∀ (gs : List Nat) (p : Nat), p ≤ got.length → (ellRun got (chars gs ++ [Str.empty]) p = true ↔ gs.Sublist ((sg got).drop p))
  | [], p, hp => by
    have e : ellRun got (chars [] ++ [Str.empty]) p = true := by
      show (match Builtin.Str.occurrences got Str.empty p got.length 1 with | [] => false | i :: _ => ellRun got [] (i + Str.empty.length)) = true
      rcases occ_head_from got Str.empty p 1 (Nat.le_refl _) with ⟨_, hn⟩ | ⟨i, q, h, _⟩
      · refine absurd ⟨?_, ?_⟩ (hn p (Nat.le_refl _))
        · show p + 0 ≤ got.length; omega
        · rw [subAt_eq]; show ((got.cps.toList.drop p).take 0 == []) = true; rfl
      · rw [h]; rfl
    exact ⟨fun _ => List.nil_sublist _, fun _ => e⟩
  | g :: gs, p, hp => by
    show (match Builtin.Str.occurrences got ⟨#[g]⟩ p got.length 1 with | [] => false | i :: _ => ellRun got (chars gs ++ [Str.empty]) (i + (⟨#[g]⟩ : Str).length)) = true ↔ _
    rcases occ_head_from got ⟨#[g]⟩ p 1 (Nat.le_refl _) with ⟨h, hn⟩ | ⟨i, q, h, hpi, hi, hn⟩
    · rw [h]
      refine ⟨fun e => by simp at e, fun e => ?_⟩
      have hm : g ∈ (sg got).drop p := e.subset (List.mem_cons_self ..)
      obtain ⟨j, hj⟩ := List.getElem?_of_mem hm
      rw [List.getElem?_drop] at hj
      exact absurd ((subAt_one got g (p + j)).mpr hj) (hn (p + j) (by omega))
    · rw [h]
      have hg : (sg got)[i]? = some g := (subAt_one got g i).mp hi
      have hlt : i < (sg got).length := (List.getElem?_eq_some_iff.mp hg).1
      have hlt' : i < got.length := by rw [← sg_length]; exact hlt
      show ellRun got (chars gs ++ [Str.empty]) (i + 1) = true ↔ _
      rw [ell_sub got gs (i + 1) hlt']
      have e1 : (sg got).drop i = g :: (sg got).drop (i + 1) := by
        rw [List.drop_eq_getElem_cons hlt]
        have := (List.getElem?_eq_some_iff.mp hg).2
        rw [this]
      have e2 : (sg got).drop p = ((sg got).drop p).take (i - p) ++ g :: (sg got).drop (i + 1) := by
        conv => lhs; rw [← List.take_append_drop (i - p) ((sg got).drop p)]
        rw [List.drop_drop, show p + (i - p) = i by omega, e1]
      rw [e2]
      refine (drop_first _ ?_).symm
      intro hm
      obtain ⟨j, hj⟩ := List.getElem?_of_mem hm
      have hjl : j < i - p := by
        have := (List.getElem?_eq_some_iff.mp hj).1
        simp at this
        omega
      rw [List.getElem?_take_of_lt hjl, List.getElem?_drop] at hj
      exact hn (p + j) (by omega) (by omega) ((subAt_one got g (p + j)).mpr hj)
theorem ell_word (got : Str) (gs : List Nat) : ellRun got (Str.empty :: (chars gs ++ [Str.empty])) 0 = true ↔ gs.Sublist (sg got) := by
  have e : ellRun got (Str.empty :: (chars gs ++ [Str.empty])) 0 = ellRun got (chars gs ++ [Str.empty]) 0 := by
    show (match Builtin.Str.occurrences got Str.empty 0 got.length 1 with | [] => false | i :: _ => ellRun got (chars gs ++ [Str.empty]) (i + Str.empty.length)) = _
    have h0 : StrLaws.At got Str.empty got.length 0 := ⟨Nat.zero_le _, by rw [subAt_eq]; show ((got.cps.toList.drop 0).take 0 == []) = true; rfl⟩
    rcases occ_head_from got Str.empty 0 1 (Nat.le_refl _) with ⟨_, hn⟩ | ⟨i, q, h, _, _, hn⟩
    · exact absurd h0 (hn 0 (Nat.le_refl _))
    · rw [h]
      have : i = 0 := by
        rcases Nat.eq_zero_or_pos i with h | h
        · exact h
        · exact absurd h0 (hn 0 (Nat.le_refl _) h)
      subst this
      rfl
  rw [e, ell_sub got gs 0 (Nat.zero_le _), List.drop_zero]
end
noncomputable def leAll : List Nat → List Nat → Bool
  | [], [] => true
  | a :: r, b :: q => decide (a ≤ b) && leAll r q
  | _, _ => false
theorem word8_sub (a b c d e f g h a' b' c' d' e' f' g' h' : Nat) : (word8 [a, b, c, d, e, f, g, h]).Sublist (word8 [a', b', c', d', e', f', g', h']) ↔ leAll [a, b, c, d, e, f, g, h] [a', b', c', d', e', f', g', h'] = true := by
  simp only [leAll, Bool.and_eq_true, decide_eq_true_eq, and_true]
  constructor
  · intro q
    have k := fun n => q.count_le n
    have k1 := k 97
    have k2 := k 98
    have k3 := k 99
    have k4 := k 100
    have k5 := k 101
    have k6 := k 102
    have k7 := k 103
    have k8 := k 104
    simp [word8, List.count_append, List.count_replicate] at k1 k2 k3 k4 k5 k6 k7 k8
    exact ⟨k1, k2, k3, k4, k5, k6, k7, k8⟩
  · rintro ⟨k1, k2, k3, k4, k5, k6, k7, k8⟩
    unfold word8
    dsimp only
    have r : ∀ {m n : Nat} (x : Nat), m ≤ n → (List.replicate m x).Sublist (List.replicate n x) := fun x h => List.replicate_sublist_replicate x |>.mpr h
    exact (r _ k1).append ((r _ k2).append ((r _ k3).append ((r _ k4).append ((r _ k5).append ((r _ k6).append ((r _ k7).append (r _ k8)))))))

section
open PySem.StrLaws PySem.Builtin PySem.Builtin.Str
/-- a pattern's signs -/
noncomputable def patX (gs : List Nat) : List Nat := gs.flatMap (fun c => [46, 46, 46, c]) ++ [46, 46, 46]
theorem patX_cons (g : Nat) (gs : List Nat) : patX (g :: gs) = 46 :: 46 :: 46 :: g :: patX gs := rfl
theorem patX_len (gs : List Nat) : (patX gs).length = 4 * gs.length + 3 := by
  induction gs with
  | nil => rfl
  | cons g gs ih => rw [patX_cons]; simp only [List.length_cons, ih]; omega
theorem patX_drop : ∀ (gs : List Nat) (i : Nat), i ≤ gs.length → (patX gs).drop (4 * i) = patX (gs.drop i)
  | gs, 0, _ => rfl
  | [], i + 1, h => by simp at h
  | g :: gs, i + 1, h => by
    rw [patX_cons, show 4 * (i + 1) = 4 * i + 4 by omega]
    show (patX gs).drop (4 * i) = patX (gs.drop i)
    exact patX_drop gs i (by simpa using h)
theorem patX_at : ∀ (gs : List Nat) (k : Nat), 46 ∉ gs → (((patX gs).drop k).take 3 = [46, 46, 46] ↔ ∃ i, i ≤ gs.length ∧ k = 4 * i)
  | [], 0, _ => ⟨fun _ => ⟨0, Nat.le_refl _, rfl⟩, fun _ => rfl⟩
  | [], 1, _ => ⟨fun h => by simp [patX] at h, fun ⟨i, h, e⟩ => by simp at h; omega⟩
  | [], 2, _ => ⟨fun h => by simp [patX] at h, fun ⟨i, h, e⟩ => by simp at h; omega⟩
  | [], k + 3, _ => ⟨fun h => by simp [patX] at h, fun ⟨i, h, e⟩ => by simp at h; omega⟩
  | g :: gs, 0, _ => ⟨fun _ => ⟨0, Nat.zero_le _, rfl⟩, fun _ => rfl⟩
  | g :: gs, 1, hf => ⟨fun h => by
      rw [patX_cons] at h
      have h' : [46, 46, g] = [46, 46, 46] := h
      injection h' with _ h'; injection h' with _ h'; injection h' with h' _
      exact absurd (h' ▸ List.mem_cons_self ..) hf, fun ⟨i, h, e⟩ => by omega⟩
  | g :: gs, 2, hf => ⟨fun h => by
      rw [patX_cons] at h
      have h' : 46 :: g :: (patX gs).take 1 = [46, 46, 46] := h
      injection h' with _ h'; injection h' with h' _
      exact absurd (h' ▸ List.mem_cons_self ..) hf, fun ⟨i, h, e⟩ => by omega⟩
  | g :: gs, 3, hf => ⟨fun h => by
      rw [patX_cons] at h
      have h' : g :: (patX gs).take 2 = [46, 46, 46] := h
      injection h' with h' _
      exact absurd (h' ▸ List.mem_cons_self ..) hf, fun ⟨i, h, e⟩ => by omega⟩
  | g :: gs, k + 4, hf => by
    have ih := patX_at gs k fun m => hf (List.mem_cons_of_mem _ m)
    rw [patX_cons]
    show ((patX gs).drop k).take 3 = [46, 46, 46] ↔ _
    rw [ih]
    constructor
    · rintro ⟨i, h, e⟩; exact ⟨i + 1, by simpa using h, by omega⟩
    · rintro ⟨i, h, e⟩
      simp only [List.length_cons] at h
      exact ⟨i - 1, by omega, by omega⟩
variable {x : Str} {gs : List Nat}
theorem pat_at (hx : sg x = patX gs) (hf : 46 ∉ gs) (k : Nat) : StrLaws.At x dots x.length k ↔ ∃ i, i ≤ gs.length ∧ k = 4 * i := by
  have e3 : dots.length = 3 := by decide
  have ed : dots.cps.toList = [46, 46, 46] := by decide
  have hl : x.length = 4 * gs.length + 3 := by rw [← sg_length, hx, patX_len]
  unfold StrLaws.At
  rw [subAt_eq, e3, ed]
  rw [show x.cps.toList = patX gs from hx]
  rw [← patX_at gs k hf]
  constructor
  · rintro ⟨_, h⟩; simpa using h
  · intro h
    refine ⟨?_, by simpa using h⟩
    obtain ⟨i, hi, e⟩ := (patX_at gs k hf).mp h
    omega
theorem pat_parts (hx : sg x = patX gs) (hf : 46 ∉ gs) : ∀ (n i : Nat) (cuts : List Nat) (f : Nat), n = gs.length - i → i ≤ gs.length → ChainG x dots x.length (4 * i + 3) cuts f → (∀ k, f ≤ k → ¬ StrLaws.At x dots x.length k) →
    partsFrom x 3 (4 * i + 3) cuts = chars (gs.drop i) ++ [Str.empty]
  | n, i, [], f, hn, hi, hc, hend => by
    have e : f = 4 * i + 3 := hc
    subst e
    have ei : i = gs.length := by
      rcases Nat.lt_or_ge i gs.length with h | h
      · exact absurd ((pat_at hx hf (4 * (i + 1))).mpr ⟨i + 1, h, rfl⟩) (hend _ (by omega))
      · omega
    subst ei
    rw [List.drop_length]
    show [strSub x (4 * gs.length + 3) x.length] = [Str.empty]
    congr 1
    apply str_ext
    show (strSub x (4 * gs.length + 3) x.length).cps.toList = []
    have hl : x.length = 4 * gs.length + 3 := by rw [← sg_length, hx, patX_len]
    rw [strSub_toList, hl, Nat.sub_self, List.take_zero]
  | n, i, c :: r, f, hn, hi, hc, hend => by
    obtain ⟨h1, h2, h3, h4⟩ := hc
    obtain ⟨j, hj, ej⟩ := (pat_at hx hf c).mp h2
    have hij : i < j := by omega
    have hj1 : j = i + 1 := by
      rcases Nat.lt_or_ge (i + 1) j with h | h
      · exact absurd ((pat_at hx hf (4 * (i + 1))).mpr ⟨i + 1, by omega, rfl⟩) (h3 _ (by omega) (by omega))
      · omega
    subst hj1
    subst ej
    have hlt : i < gs.length := by omega
    show strSub x (4 * i + 3) (4 * (i + 1)) :: partsFrom x 3 (4 * (i + 1) + 3) r = _
    have e3 : dots.length = 3 := by decide
    rw [e3] at h4
    rw [pat_parts hx hf (n - 1) (i + 1) r f (by omega) hj h4 hend, List.drop_eq_getElem_cons hlt]
    show _ = (⟨#[gs[i]]⟩ : Str) :: (chars (gs.drop (i + 1)) ++ [Str.empty])
    congr 1
    apply str_ext
    show (strSub x (4 * i + 3) (4 * (i + 1))).cps.toList = [gs[i]]
    rw [strSub_toList, show x.cps.toList = patX gs from hx, ← List.drop_drop, patX_drop gs i hi, List.drop_eq_getElem_cons hlt, patX_cons, show 4 * (i + 1) - (4 * i + 3) = 1 by omega]
    rfl
theorem pat_split (hx : sg x = patX gs) (hf : 46 ∉ gs) : Txt.split x dots = Str.empty :: (chars gs ++ [Str.empty]) := by
  have e3 : dots.length = 3 := by decide
  have hl : x.length = 4 * gs.length + 3 := by rw [← sg_length, hx, patX_len]
  obtain ⟨f, hc, hend⟩ := occ_tight x dots (by decide)
  have h0 : StrLaws.At x dots x.length 0 := (pat_at hx hf 0).mpr ⟨0, Nat.zero_le _, rfl⟩
  have hk : Builtin.Str.strKind dots = 1 := by decide +kernel
  have hk2 : 1 ≤ Builtin.Str.strKind x := by
    unfold Builtin.Str.strKind; split
    · exact Nat.le_refl _
    · split <;> decide
  cases ho : occurrences x dots 0 x.length (x.length + 1) with
  | nil =>
    rw [ho] at hc
    have e : f = 0 := hc
    subst e
    exact absurd h0 (hend 0 (Nat.le_refl _))
  | cons c r =>
    rw [ho] at hc
    obtain ⟨h1, h2, h3, h4⟩ := hc
    have hc0 : c = 0 := by
      rcases Nat.eq_zero_or_pos c with h | h
      · exact h
      · exact absurd h0 (h3 0 (Nat.le_refl _) h)
    subst hc0
    unfold Txt.split
    rw [ho, hk, e3, if_neg (by simp only [Bool.or_eq_true, decide_eq_true_eq]; omega), if_neg (show ¬ ((0 :: r).isEmpty = true) from Bool.false_ne_true), partsBetween_eq]
    show strSub x 0 0 :: partsFrom x 3 (4 * 0 + 3) r = _
    rw [e3] at h4
    rw [pat_parts hx hf gs.length 0 r f rfl (Nat.zero_le _) h4 hend, List.drop_zero]
    congr 1
    apply str_ext
    show (strSub x 0 0).cps.toList = []
    rw [strSub_toList]; rfl
theorem pat_ok {p : Str} (hf : 46 ∉ sg p) (hl : p.length < 240) : PatOk (Txt.join dots (Str.ofString "" :: (chars (sg p) ++ [Str.ofString ""]))) (chars (sg p)) := by
  have hx : sg (Txt.join dots (Str.ofString "" :: (chars (sg p) ++ [Str.ofString ""]))) = patX (sg p) := by
    rw [sg_join]
    have e0 : sg (Str.ofString "") = [] := by decide
    have ed : sg dots = [46, 46, 46] := by decide
    rw [e0, ed, List.nil_append, List.flatMap_append, List.flatMap_map]
    rfl
  have hlen : (Txt.join dots (Str.ofString "" :: (chars (sg p) ++ [Str.ofString ""]))).length = 4 * p.length + 3 := by rw [← sg_length, hx, patX_len, sg_length]
  generalize Txt.join dots (Str.ofString "" :: (chars (sg p) ++ [Str.ofString ""])) = x at hx hlen
  have h0 : StrLaws.At x dots x.length 0 := (pat_at hx hf 0).mpr ⟨0, Nat.zero_le _, rfl⟩
  refine ⟨?_, pat_split hx hf, ?_, ?_, ?_⟩
  · rcases occ_head_from x dots 0 1 (Nat.le_refl _) with ⟨_, hn⟩ | ⟨i, q, h, _⟩
    · exact absurd h0 (hn 0 (Nat.le_refl _))
    · rw [h]; rfl
  · rw [List.length_map, sg_length]; omega
  · intro w hw
    obtain ⟨c, _, rfl⟩ := List.mem_map.mp hw
    show 1 < 1000
    decide
  · rw [hlen]; omega
end
theorem word8_free : ∀ es : List Nat, 46 ∉ word8 es := by
  intro es h
  unfold word8 at h
  split at h
  · simp [List.mem_replicate] at h
  · simp at h

/-- a sorted row, with what is reckoned of it for 1 to 5 blanks a blank -/
structure Row where
  r : List Int
  s : List WS
  e : List (List Nat)
  p : List Int
noncomputable def tbl : List Row := [
  ⟨[0, 0, 0], [⟨[3], 0, 3, 3⟩, ⟨[3], 0, 3, 3⟩, ⟨[3], 0, 3, 3⟩, ⟨[3], 0, 3, 3⟩, ⟨[3], 0, 3, 3⟩], [[0, 0, 0, 0, 0, 0, 0, 0], [0, 0, 0, 0, 0, 0, 0, 0], [0, 0, 0, 0, 0, 0, 0, 0], [0, 0, 0, 0, 0, 0, 0, 0], [0, 0, 0, 0, 0, 0, 0, 0]], [1, 1, 1, 1, 1]⟩,
  ⟨[0, 0, 1], [⟨[2, 1], 0, 4, 3⟩, ⟨[2, 0, 1], 0, 5, 3⟩, ⟨[2, 0, 0, 1], 0, 6, 3⟩, ⟨[2, 0, 0, 0, 1], 0, 7, 3⟩, ⟨[2, 0, 0, 0, 0, 1], 0, 8, 3⟩], [[0, 0, 0, 0, 0, 0, 0, 0], [1, 0, 0, 0, 0, 0, 0, 0], [1, 1, 0, 0, 0, 0, 0, 0], [3, 1, 0, 0, 0, 0, 0, 0], [3, 1, 1, 0, 0, 0, 0, 0]], [1, 2, 6, 24, 120]⟩,
  ⟨[0, 0, 2], [⟨[2, 0, 1], 0, 5, 3⟩, ⟨[2, 0, 0, 0, 1], 0, 7, 3⟩, ⟨[2, 0, 0, 0, 0, 0, 1], 0, 9, 3⟩, ⟨[2, 0, 0, 0, 0, 0, 0, 0, 1], 0, 11, 3⟩, ⟨[2, 0, 0, 0, 0, 0, 0, 0, 0, 0, 1], 0, 13, 3⟩], [[1, 0, 0, 0, 0, 0, 0, 0], [3, 1, 0, 0, 0, 0, 0, 0], [4, 2, 1, 0, 0, 0, 0, 0], [7, 2, 1, 1, 0, 0, 0, 0], [8, 4, 2, 1, 0, 0, 0, 0]], [2, 24, 720, 40320, 3628800]⟩,
  ⟨[0, 0, 3], [⟨[2, 0, 0, 1], 0, 6, 3⟩, ⟨[2, 0, 0, 0, 0, 0, 1], 0, 9, 3⟩, ⟨[2, 0, 0, 0, 0, 0, 0, 0, 0, 1], 0, 12, 3⟩, ⟨[2, 0, 0, 0, 0, 0, 0, 0, 0, 0, 0, 0, 1], 0, 15, 3⟩, ⟨[2, 0, 0, 0, 0, 0, 0, 0, 0, 0, 0, 0, 0, 0, 0, 1], 0, 18, 3⟩], [[1, 1, 0, 0, 0, 0, 0, 0], [4, 2, 1, 0, 0, 0, 0, 0], [7, 4, 1, 1, 0, 0, 0, 0], [10, 5, 2, 1, 1, 0, 0, 0], [11, 6, 3, 2, 1, 1, 0, 0]], [6, 720, 362880, 479001600, 1307674368000]⟩,
  ⟨[0, 0, 4], [⟨[2, 0, 0, 0, 1], 0, 7, 3⟩, ⟨[2, 0, 0, 0, 0, 0, 0, 0, 1], 0, 11, 3⟩, ⟨[2, 0, 0, 0, 0, 0, 0, 0, 0, 0, 0, 0, 1], 0, 15, 3⟩, ⟨[2, 0, 0, 0, 0, 0, 0, 0, 0, 0, 0, 0, 0, 0, 0, 0, 1], 0, 19, 3⟩, ⟨[2, 0, 0, 0, 0, 0, 0, 0, 0, 0, 0, 0, 0, 0, 0, 0, 0, 0, 0, 0, 1], 0, 23, 3⟩], [[3, 1, 0, 0, 0, 0, 0, 0], [7, 2, 1, 1, 0, 0, 0, 0], [10, 5, 2, 1, 1, 0, 0, 0], [15, 6, 3, 2, 1, 1, 0, 0], [18, 8, 4, 2, 1, 1, 1, 1]], [24, 40320, 479001600, 20922789888000, 2432902008176640000]⟩,
  ⟨[0, 1, 1], [⟨[1, 2], 0, 5, 3⟩, ⟨[1, 0, 2], 0, 7, 3⟩, ⟨[1, 0, 0, 2], 0, 9, 3⟩, ⟨[1, 0, 0, 0, 2], 0, 11, 3⟩, ⟨[1, 0, 0, 0, 0, 2], 0, 13, 3⟩], [[0, 0, 0, 0, 0, 0, 0, 0], [2, 0, 0, 0, 0, 0, 0, 0], [2, 2, 0, 0, 0, 0, 0, 0], [6, 2, 0, 0, 0, 0, 0, 0], [6, 2, 2, 0, 0, 0, 0, 0]], [1, 4, 36, 576, 14400]⟩,
  ⟨[0, 1, 2], [⟨[1, 1, 1], 0, 6, 3⟩, ⟨[1, 0, 1, 0, 1], 0, 9, 3⟩, ⟨[1, 0, 0, 1, 0, 0, 1], 0, 12, 3⟩, ⟨[1, 0, 0, 0, 1, 0, 0, 0, 1], 0, 15, 3⟩, ⟨[1, 0, 0, 0, 0, 1, 0, 0, 0, 0, 1], 0, 18, 3⟩], [[1, 0, 0, 0, 0, 0, 0, 0], [4, 1, 0, 0, 0, 0, 0, 0], [5, 3, 1, 0, 0, 0, 0, 0], [10, 3, 1, 1, 0, 0, 0, 0], [11, 5, 3, 1, 0, 0, 0, 0]], [2, 48, 4320, 967680, 435456000]⟩,
  ⟨[0, 1, 3], [⟨[1, 1, 0, 1], 0, 7, 3⟩, ⟨[1, 0, 1, 0, 0, 0, 1], 0, 11, 3⟩, ⟨[1, 0, 0, 1, 0, 0, 0, 0, 0, 1], 0, 15, 3⟩, ⟨[1, 0, 0, 0, 1, 0, 0, 0, 0, 0, 0, 0, 1], 0, 19, 3⟩, ⟨[1, 0, 0, 0, 0, 1, 0, 0, 0, 0, 0, 0, 0, 0, 0, 1], 0, 23, 3⟩], [[1, 1, 0, 0, 0, 0, 0, 0], [5, 2, 1, 0, 0, 0, 0, 0], [8, 5, 1, 1, 0, 0, 0, 0], [13, 6, 2, 1, 1, 0, 0, 0], [14, 7, 4, 2, 1, 1, 0, 0]], [6, 1440, 2177280, 11496038400, 156920924160000]⟩,
  ⟨[0, 1, 4], [⟨[1, 1, 0, 0, 1], 0, 8, 3⟩, ⟨[1, 0, 1, 0, 0, 0, 0, 0, 1], 0, 13, 3⟩, ⟨[1, 0, 0, 1, 0, 0, 0, 0, 0, 0, 0, 0, 1], 0, 18, 3⟩, ⟨[1, 0, 0, 0, 1, 0, 0, 0, 0, 0, 0, 0, 0, 0, 0, 0, 1], 0, 23, 3⟩, ⟨[1, 0, 0, 0, 0, 1, 0, 0, 0, 0, 0, 0, 0, 0, 0, 0, 0, 0, 0, 0, 1], 0, 28, 3⟩], [[3, 1, 0, 0, 0, 0, 0, 0], [8, 2, 1, 1, 0, 0, 0, 0], [11, 6, 2, 1, 1, 0, 0, 0], [18, 7, 3, 2, 1, 1, 0, 0], [21, 9, 5, 2, 1, 1, 1, 1]], [24, 80640, 2874009600, 502146957312000, 291948240981196800000]⟩,
  ⟨[0, 2, 2], [⟨[1, 0, 2], 0, 7, 3⟩, ⟨[1, 0, 0, 0, 2], 0, 11, 3⟩, ⟨[1, 0, 0, 0, 0, 0, 2], 0, 15, 3⟩, ⟨[1, 0, 0, 0, 0, 0, 0, 0, 2], 0, 19, 3⟩, ⟨[1, 0, 0, 0, 0, 0, 0, 0, 0, 0, 2], 0, 23, 3⟩], [[2, 0, 0, 0, 0, 0, 0, 0], [6, 2, 0, 0, 0, 0, 0, 0], [8, 4, 2, 0, 0, 0, 0, 0], [14, 4, 2, 2, 0, 0, 0, 0], [16, 8, 4, 2, 0, 0, 0, 0]], [4, 576, 518400, 1625702400, 13168189440000]⟩,
  ⟨[0, 2, 3], [⟨[1, 0, 1, 1], 0, 8, 3⟩, ⟨[1, 0, 0, 0, 1, 0, 1], 0, 13, 3⟩, ⟨[1, 0, 0, 0, 0, 0, 1, 0, 0, 1], 0, 18, 3⟩, ⟨[1, 0, 0, 0, 0, 0, 0, 0, 1, 0, 0, 0, 1], 0, 23, 3⟩, ⟨[1, 0, 0, 0, 0, 0, 0, 0, 0, 0, 1, 0, 0, 0, 0, 1], 0, 28, 3⟩], [[2, 1, 0, 0, 0, 0, 0, 0], [7, 3, 1, 0, 0, 0, 0, 0], [11, 6, 2, 1, 0, 0, 0, 0], [17, 7, 3, 2, 1, 0, 0, 0], [19, 10, 5, 3, 1, 1, 0, 0]], [12, 17280, 261273600, 19313344512000, 4745288746598400000]⟩,
  ⟨[0, 2, 4], [⟨[1, 0, 1, 0, 1], 0, 9, 3⟩, ⟨[1, 0, 0, 0, 1, 0, 0, 0, 1], 0, 15, 3⟩, ⟨[1, 0, 0, 0, 0, 0, 1, 0, 0, 0, 0, 0, 1], 0, 21, 3⟩, ⟨[1, 0, 0, 0, 0, 0, 0, 0, 1, 0, 0, 0, 0, 0, 0, 0, 1], 0, 27, 3⟩, ⟨[1, 0, 0, 0, 0, 0, 0, 0, 0, 0, 1, 0, 0, 0, 0, 0, 0, 0, 0, 0, 1], 0, 33, 3⟩], [[4, 1, 0, 0, 0, 0, 0, 0], [10, 3, 1, 1, 0, 0, 0, 0], [14, 7, 3, 1, 1, 0, 0, 0], [22, 8, 4, 3, 1, 1, 0, 0], [26, 12, 6, 3, 1, 1, 1, 1]], [48, 967680, 344881152000, 843606888284160000, 8828514807271391232000000]⟩,
  ⟨[0, 3, 3], [⟨[1, 0, 0, 2], 0, 9, 3⟩, ⟨[1, 0, 0, 0, 0, 0, 2], 0, 15, 3⟩, ⟨[1, 0, 0, 0, 0, 0, 0, 0, 0, 2], 0, 21, 3⟩, ⟨[1, 0, 0, 0, 0, 0, 0, 0, 0, 0, 0, 0, 2], 0, 27, 3⟩, ⟨[1, 0, 0, 0, 0, 0, 0, 0, 0, 0, 0, 0, 0, 0, 0, 2], 0, 33, 3⟩], [[2, 2, 0, 0, 0, 0, 0, 0], [8, 4, 2, 0, 0, 0, 0, 0], [14, 8, 2, 2, 0, 0, 0, 0], [20, 10, 4, 2, 2, 0, 0, 0], [22, 12, 6, 4, 2, 2, 0, 0]], [36, 518400, 131681894400, 229442532802560000, 1710012252724199424000000]⟩,
  ⟨[0, 3, 4], [⟨[1, 0, 0, 1, 1], 0, 10, 3⟩, ⟨[1, 0, 0, 0, 0, 0, 1, 0, 1], 0, 17, 3⟩, ⟨[1, 0, 0, 0, 0, 0, 0, 0, 0, 1, 0, 0, 1], 0, 24, 3⟩, ⟨[1, 0, 0, 0, 0, 0, 0, 0, 0, 0, 0, 0, 1, 0, 0, 0, 1], 0, 31, 3⟩, ⟨[1, 0, 0, 0, 0, 0, 0, 0, 0, 0, 0, 0, 0, 0, 0, 1, 0, 0, 0, 0, 1], 0, 38, 3⟩], [[4, 2, 0, 0, 0, 0, 0, 0], [11, 4, 2, 1, 0, 0, 0, 0], [17, 9, 3, 2, 1, 0, 0, 0], [25, 11, 5, 3, 2, 1, 0, 0], [29, 14, 7, 4, 2, 2, 1, 1]], [144, 29030400, 173820100608000, 10022049832815820800000, 3181443595948318544363520000000]⟩,
  ⟨[0, 4, 4], [⟨[1, 0, 0, 0, 2], 0, 11, 3⟩, ⟨[1, 0, 0, 0, 0, 0, 0, 0, 2], 0, 19, 3⟩, ⟨[1, 0, 0, 0, 0, 0, 0, 0, 0, 0, 0, 0, 2], 0, 27, 3⟩, ⟨[1, 0, 0, 0, 0, 0, 0, 0, 0, 0, 0, 0, 0, 0, 0, 0, 2], 0, 35, 3⟩, ⟨[1, 0, 0, 0, 0, 0, 0, 0, 0, 0, 0, 0, 0, 0, 0, 0, 0, 0, 0, 0, 2], 0, 43, 3⟩], [[6, 2, 0, 0, 0, 0, 0, 0], [14, 4, 2, 2, 0, 0, 0, 0], [20, 10, 4, 2, 2, 0, 0, 0], [30, 12, 6, 4, 2, 2, 0, 0], [36, 16, 8, 4, 2, 2, 2, 2]], [576, 1625702400, 229442532802560000, 437763136697395052544000000, 5919012181389927685417441689600000000]⟩,
  ⟨[1, 1, 1], [⟨[0, 3], 0, 6, 3⟩, ⟨[0, 0, 3], 0, 9, 3⟩, ⟨[0, 0, 0, 3], 0, 12, 3⟩, ⟨[0, 0, 0, 0, 3], 0, 15, 3⟩, ⟨[0, 0, 0, 0, 0, 3], 0, 18, 3⟩], [[0, 0, 0, 0, 0, 0, 0, 0], [3, 0, 0, 0, 0, 0, 0, 0], [3, 3, 0, 0, 0, 0, 0, 0], [9, 3, 0, 0, 0, 0, 0, 0], [9, 3, 3, 0, 0, 0, 0, 0]], [1, 8, 216, 13824, 1728000]⟩,
  ⟨[1, 1, 2], [⟨[0, 2, 1], 0, 7, 3⟩, ⟨[0, 0, 2, 0, 1], 0, 11, 3⟩, ⟨[0, 0, 0, 2, 0, 0, 1], 0, 15, 3⟩, ⟨[0, 0, 0, 0, 2, 0, 0, 0, 1], 0, 19, 3⟩, ⟨[0, 0, 0, 0, 0, 2, 0, 0, 0, 0, 1], 0, 23, 3⟩], [[1, 0, 0, 0, 0, 0, 0, 0], [5, 1, 0, 0, 0, 0, 0, 0], [6, 4, 1, 0, 0, 0, 0, 0], [13, 4, 1, 1, 0, 0, 0, 0], [14, 6, 4, 1, 0, 0, 0, 0]], [2, 96, 25920, 23224320, 52254720000]⟩,
  ⟨[1, 1, 3], [⟨[0, 2, 0, 1], 0, 8, 3⟩, ⟨[0, 0, 2, 0, 0, 0, 1], 0, 13, 3⟩, ⟨[0, 0, 0, 2, 0, 0, 0, 0, 0, 1], 0, 18, 3⟩, ⟨[0, 0, 0, 0, 2, 0, 0, 0, 0, 0, 0, 0, 1], 0, 23, 3⟩, ⟨[0, 0, 0, 0, 0, 2, 0, 0, 0, 0, 0, 0, 0, 0, 0, 1], 0, 28, 3⟩], [[1, 1, 0, 0, 0, 0, 0, 0], [6, 2, 1, 0, 0, 0, 0, 0], [9, 6, 1, 1, 0, 0, 0, 0], [16, 7, 2, 1, 1, 0, 0, 0], [17, 8, 5, 2, 1, 1, 0, 0]], [6, 2880, 13063680, 275904921600, 18830510899200000]⟩,
  ⟨[1, 1, 4], [⟨[0, 2, 0, 0, 1], 0, 9, 3⟩, ⟨[0, 0, 2, 0, 0, 0, 0, 0, 1], 0, 15, 3⟩, ⟨[0, 0, 0, 2, 0, 0, 0, 0, 0, 0, 0, 0, 1], 0, 21, 3⟩, ⟨[0, 0, 0, 0, 2, 0, 0, 0, 0, 0, 0, 0, 0, 0, 0, 0, 1], 0, 27, 3⟩, ⟨[0, 0, 0, 0, 0, 2, 0, 0, 0, 0, 0, 0, 0, 0, 0, 0, 0, 0, 0, 0, 1], 0, 33, 3⟩], [[3, 1, 0, 0, 0, 0, 0, 0], [9, 2, 1, 1, 0, 0, 0, 0], [12, 7, 2, 1, 1, 0, 0, 0], [21, 8, 3, 2, 1, 1, 0, 0], [24, 10, 6, 2, 1, 1, 1, 1]], [24, 161280, 17244057600, 12051526975488000, 35033788917743616000000]⟩,
  ⟨[1, 2, 2], [⟨[0, 1, 2], 0, 8, 3⟩, ⟨[0, 0, 1, 0, 2], 0, 13, 3⟩, ⟨[0, 0, 0, 1, 0, 0, 2], 0, 18, 3⟩, ⟨[0, 0, 0, 0, 1, 0, 0, 0, 2], 0, 23, 3⟩, ⟨[0, 0, 0, 0, 0, 1, 0, 0, 0, 0, 2], 0, 28, 3⟩], [[2, 0, 0, 0, 0, 0, 0, 0], [7, 2, 0, 0, 0, 0, 0, 0], [9, 5, 2, 0, 0, 0, 0, 0], [17, 5, 2, 2, 0, 0, 0, 0], [19, 9, 5, 2, 0, 0, 0, 0]], [4, 1152, 3110400, 39016857600, 1580182732800000]⟩,
  ⟨[1, 2, 3], [⟨[0, 1, 1, 1], 0, 9, 3⟩, ⟨[0, 0, 1, 0, 1, 0, 1], 0, 15, 3⟩, ⟨[0, 0, 0, 1, 0, 0, 1, 0, 0, 1], 0, 21, 3⟩, ⟨[0, 0, 0, 0, 1, 0, 0, 0, 1, 0, 0, 0, 1], 0, 27, 3⟩, ⟨[0, 0, 0, 0, 0, 1, 0, 0, 0, 0, 1, 0, 0, 0, 0, 1], 0, 33, 3⟩], [[2, 1, 0, 0, 0, 0, 0, 0], [8, 3, 1, 0, 0, 0, 0, 0], [12, 7, 2, 1, 0, 0, 0, 0], [20, 8, 3, 2, 1, 0, 0, 0], [22, 11, 6, 3, 1, 1, 0, 0]], [12, 34560, 1567641600, 463520268288000, 569434649591808000000]⟩,
  ⟨[1, 2, 4], [⟨[0, 1, 1, 0, 1], 0, 10, 3⟩, ⟨[0, 0, 1, 0, 1, 0, 0, 0, 1], 0, 17, 3⟩, ⟨[0, 0, 0, 1, 0, 0, 1, 0, 0, 0, 0, 0, 1], 0, 24, 3⟩, ⟨[0, 0, 0, 0, 1, 0, 0, 0, 1, 0, 0, 0, 0, 0, 0, 0, 1], 0, 31, 3⟩, ⟨[0, 0, 0, 0, 0, 1, 0, 0, 0, 0, 1, 0, 0, 0, 0, 0, 0, 0, 0, 0, 1], 0, 38, 3⟩], [[4, 1, 0, 0, 0, 0, 0, 0], [11, 3, 1, 1, 0, 0, 0, 0], [15, 8, 3, 1, 1, 0, 0, 0], [25, 9, 4, 3, 1, 1, 0, 0], [29, 13, 7, 3, 1, 1, 1, 1]], [48, 1935360, 2069286912000, 20246565318819840000, 1059421776872566947840000000]⟩,
  ⟨[1, 3, 3], [⟨[0, 1, 0, 2], 0, 10, 3⟩, ⟨[0, 0, 1, 0, 0, 0, 2], 0, 17, 3⟩, ⟨[0, 0, 0, 1, 0, 0, 0, 0, 0, 2], 0, 24, 3⟩, ⟨[0, 0, 0, 0, 1, 0, 0, 0, 0, 0, 0, 0, 2], 0, 31, 3⟩, ⟨[0, 0, 0, 0, 0, 1, 0, 0, 0, 0, 0, 0, 0, 0, 0, 2], 0, 38, 3⟩], [[2, 2, 0, 0, 0, 0, 0, 0], [9, 4, 2, 0, 0, 0, 0, 0], [15, 9, 2, 2, 0, 0, 0, 0], [23, 11, 4, 2, 2, 0, 0, 0], [25, 13, 7, 4, 2, 2, 0, 0]], [36, 1036800, 790091366400, 5506620787261440000, 205201470326903930880000000]⟩,
  ⟨[1, 3, 4], [⟨[0, 1, 0, 1, 1], 0, 11, 3⟩, ⟨[0, 0, 1, 0, 0, 0, 1, 0, 1], 0, 19, 3⟩, ⟨[0, 0, 0, 1, 0, 0, 0, 0, 0, 1, 0, 0, 1], 0, 27, 3⟩, ⟨[0, 0, 0, 0, 1, 0, 0, 0, 0, 0, 0, 0, 1, 0, 0, 0, 1], 0, 35, 3⟩, ⟨[0, 0, 0, 0, 0, 1, 0, 0, 0, 0, 0, 0, 0, 0, 0, 1, 0, 0, 0, 0, 1], 0, 43, 3⟩], [[4, 2, 0, 0, 0, 0, 0, 0], [12, 4, 2, 1, 0, 0, 0, 0], [18, 10, 3, 2, 1, 0, 0, 0], [28, 12, 5, 3, 2, 1, 0, 0], [32, 15, 8, 4, 2, 2, 1, 1]], [144, 58060800, 1042920603648000, 240529195987579699200000, 381773231513798225323622400000000]⟩,
  ⟨[1, 4, 4], [⟨[0, 1, 0, 0, 2], 0, 12, 3⟩, ⟨[0, 0, 1, 0, 0, 0, 0, 0, 2], 0, 21, 3⟩, ⟨[0, 0, 0, 1, 0, 0, 0, 0, 0, 0, 0, 0, 2], 0, 30, 3⟩, ⟨[0, 0, 0, 0, 1, 0, 0, 0, 0, 0, 0, 0, 0, 0, 0, 0, 2], 0, 39, 3⟩, ⟨[0, 0, 0, 0, 0, 1, 0, 0, 0, 0, 0, 0, 0, 0, 0, 0, 0, 0, 0, 0, 2], 0, 48, 3⟩], [[6, 2, 0, 0, 0, 0, 0, 0], [15, 4, 2, 2, 0, 0, 0, 0], [21, 11, 4, 2, 2, 0, 0, 0], [33, 13, 6, 4, 2, 2, 0, 0], [39, 17, 9, 4, 2, 2, 2, 2]], [576, 3251404800, 1376655196815360000, 10506315280737481261056000000, 710281461766791322250093002752000000000]⟩,
  ⟨[2, 2, 2], [⟨[0, 0, 3], 0, 9, 3⟩, ⟨[0, 0, 0, 0, 3], 0, 15, 3⟩, ⟨[0, 0, 0, 0, 0, 0, 3], 0, 21, 3⟩, ⟨[0, 0, 0, 0, 0, 0, 0, 0, 3], 0, 27, 3⟩, ⟨[0, 0, 0, 0, 0, 0, 0, 0, 0, 0, 3], 0, 33, 3⟩], [[3, 0, 0, 0, 0, 0, 0, 0], [9, 3, 0, 0, 0, 0, 0, 0], [12, 6, 3, 0, 0, 0, 0, 0], [21, 6, 3, 3, 0, 0, 0, 0], [24, 12, 6, 3, 0, 0, 0, 0]], [8, 13824, 373248000, 65548320768000, 47784725839872000000]⟩,
  ⟨[2, 2, 3], [⟨[0, 0, 2, 1], 0, 10, 3⟩, ⟨[0, 0, 0, 0, 2, 0, 1], 0, 17, 3⟩, ⟨[0, 0, 0, 0, 0, 0, 2, 0, 0, 1], 0, 24, 3⟩, ⟨[0, 0, 0, 0, 0, 0, 0, 0, 2, 0, 0, 0, 1], 0, 31, 3⟩, ⟨[0, 0, 0, 0, 0, 0, 0, 0, 0, 0, 2, 0, 0, 0, 0, 1], 0, 38, 3⟩], [[3, 1, 0, 0, 0, 0, 0, 0], [10, 4, 1, 0, 0, 0, 0, 0], [15, 8, 3, 1, 0, 0, 0, 0], [24, 9, 4, 3, 1, 0, 0, 0], [27, 14, 7, 4, 1, 1, 0, 0]], [24, 414720, 188116992000, 778714050723840000, 17219703803656273920000000]⟩,
  ⟨[2, 2, 4], [⟨[0, 0, 2, 0, 1], 0, 11, 3⟩, ⟨[0, 0, 0, 0, 2, 0, 0, 0, 1], 0, 19, 3⟩, ⟨[0, 0, 0, 0, 0, 0, 2, 0, 0, 0, 0, 0, 1], 0, 27, 3⟩, ⟨[0, 0, 0, 0, 0, 0, 0, 0, 2, 0, 0, 0, 0, 0, 0, 0, 1], 0, 35, 3⟩, ⟨[0, 0, 0, 0, 0, 0, 0, 0, 0, 0, 2, 0, 0, 0, 0, 0, 0, 0, 0, 0, 1], 0, 43, 3⟩], [[5, 1, 0, 0, 0, 0, 0, 0], [13, 4, 1, 1, 0, 0, 0, 0], [18, 9, 4, 1, 1, 0, 0, 0], [29, 10, 5, 4, 1, 1, 0, 0], [34, 16, 8, 4, 1, 1, 1, 1]], [96, 23224320, 248314429440000, 34014229735617331200000, 32036914532626424502681600000000]⟩,
  ⟨[2, 3, 3], [⟨[0, 0, 1, 2], 0, 11, 3⟩, ⟨[0, 0, 0, 0, 1, 0, 2], 0, 19, 3⟩, ⟨[0, 0, 0, 0, 0, 0, 1, 0, 0, 2], 0, 27, 3⟩, ⟨[0, 0, 0, 0, 0, 0, 0, 0, 1, 0, 0, 0, 2], 0, 35, 3⟩, ⟨[0, 0, 0, 0, 0, 0, 0, 0, 0, 0, 1, 0, 0, 0, 0, 2], 0, 43, 3⟩], [[3, 2, 0, 0, 0, 0, 0, 0], [11, 5, 2, 0, 0, 0, 0, 0], [18, 10, 3, 2, 0, 0, 0, 0], [27, 12, 5, 3, 2, 0, 0, 0], [30, 16, 8, 5, 2, 2, 0, 0]], [72, 12441600, 94810963968000, 9251122922599219200000, 6205292462685574869811200000000]⟩,
  ⟨[2, 3, 4], [⟨[0, 0, 1, 1, 1], 0, 12, 3⟩, ⟨[0, 0, 0, 0, 1, 0, 1, 0, 1], 0, 21, 3⟩, ⟨[0, 0, 0, 0, 0, 0, 1, 0, 0, 1, 0, 0, 1], 0, 30, 3⟩, ⟨[0, 0, 0, 0, 0, 0, 0, 0, 1, 0, 0, 0, 1, 0, 0, 0, 1], 0, 39, 3⟩, ⟨[0, 0, 0, 0, 0, 0, 0, 0, 0, 0, 1, 0, 0, 0, 0, 1, 0, 0, 0, 0, 1], 0, 48, 3⟩], [[5, 2, 0, 0, 0, 0, 0, 0], [14, 5, 2, 1, 0, 0, 0, 0], [21, 11, 4, 2, 1, 0, 0, 0], [32, 13, 6, 4, 2, 1, 0, 0], [37, 18, 9, 5, 2, 2, 1, 1]], [288, 696729600, 125150472437760000, 404089049259133894656000000, 11544822520977258333786341376000000000]⟩,
  ⟨[2, 4, 4], [⟨[0, 0, 1, 0, 2], 0, 13, 3⟩, ⟨[0, 0, 0, 0, 1, 0, 0, 0, 2], 0, 23, 3⟩, ⟨[0, 0, 0, 0, 0, 0, 1, 0, 0, 0, 0, 0, 2], 0, 33, 3⟩, ⟨[0, 0, 0, 0, 0, 0, 0, 0, 1, 0, 0, 0, 0, 0, 0, 0, 2], 0, 43, 3⟩, ⟨[0, 0, 0, 0, 0, 0, 0, 0, 0, 0, 1, 0, 0, 0, 0, 0, 0, 0, 0, 0, 2], 0, 53, 3⟩], [[7, 2, 0, 0, 0, 0, 0, 0], [17, 5, 2, 2, 0, 0, 0, 0], [24, 12, 5, 2, 2, 0, 0, 0], [37, 14, 7, 5, 2, 2, 0, 0], [44, 20, 10, 5, 2, 2, 2, 2]], [1152, 39016857600, 165198623617843200000, 17650609671638968518574080000000, 21478911403827769584842812403220480000000000]⟩,
  ⟨[3, 3, 3], [⟨[0, 0, 0, 3], 0, 12, 3⟩, ⟨[0, 0, 0, 0, 0, 0, 3], 0, 21, 3⟩, ⟨[0, 0, 0, 0, 0, 0, 0, 0, 0, 3], 0, 30, 3⟩, ⟨[0, 0, 0, 0, 0, 0, 0, 0, 0, 0, 0, 0, 3], 0, 39, 3⟩, ⟨[0, 0, 0, 0, 0, 0, 0, 0, 0, 0, 0, 0, 0, 0, 0, 3], 0, 48, 3⟩], [[3, 3, 0, 0, 0, 0, 0, 0], [12, 6, 3, 0, 0, 0, 0, 0], [21, 12, 3, 3, 0, 0, 0, 0], [30, 15, 6, 3, 3, 0, 0, 0], [33, 18, 9, 6, 3, 3, 0, 0]], [216, 373248000, 47784725839872000, 109903340320478724096000000, 2236139191853373760085164032000000000]⟩,
  ⟨[3, 3, 4], [⟨[0, 0, 0, 2, 1], 0, 13, 3⟩, ⟨[0, 0, 0, 0, 0, 0, 2, 0, 1], 0, 23, 3⟩, ⟨[0, 0, 0, 0, 0, 0, 0, 0, 0, 2, 0, 0, 1], 0, 33, 3⟩, ⟨[0, 0, 0, 0, 0, 0, 0, 0, 0, 0, 0, 0, 2, 0, 0, 0, 1], 0, 43, 3⟩, ⟨[0, 0, 0, 0, 0, 0, 0, 0, 0, 0, 0, 0, 0, 0, 0, 2, 0, 0, 0, 0, 1], 0, 53, 3⟩], [[5, 3, 0, 0, 0, 0, 0, 0], [15, 6, 3, 1, 0, 0, 0, 0], [24, 13, 4, 3, 1, 0, 0, 0], [35, 16, 7, 4, 3, 1, 0, 0], [40, 20, 10, 6, 3, 3, 1, 1]], [864, 20901888000, 63075838108631040000, 4800577905198510668513280000000, 4160292243659364813163245978255360000000000]⟩,
  ⟨[3, 4, 4], [⟨[0, 0, 0, 1, 2], 0, 14, 3⟩, ⟨[0, 0, 0, 0, 0, 0, 1, 0, 2], 0, 25, 3⟩, ⟨[0, 0, 0, 0, 0, 0, 0, 0, 0, 1, 0, 0, 2], 0, 36, 3⟩, ⟨[0, 0, 0, 0, 0, 0, 0, 0, 0, 0, 0, 0, 1, 0, 0, 0, 2], 0, 47, 3⟩, ⟨[0, 0, 0, 0, 0, 0, 0, 0, 0, 0, 0, 0, 0, 0, 0, 1, 0, 0, 0, 0, 2], 0, 58, 3⟩], [[7, 3, 0, 0, 0, 0, 0, 0], [18, 6, 3, 2, 0, 0, 0, 0], [27, 14, 5, 3, 2, 0, 0, 0], [40, 17, 8, 5, 3, 2, 0, 0], [47, 22, 11, 6, 3, 3, 2, 2]], [3456, 1170505728000, 83260106303392972800000, 209689242899070946000660070400000000, 7740140513483375047593955877624532172800000000000]⟩,
  ⟨[4, 4, 4], [⟨[0, 0, 0, 0, 3], 0, 15, 3⟩, ⟨[0, 0, 0, 0, 0, 0, 0, 0, 3], 0, 27, 3⟩, ⟨[0, 0, 0, 0, 0, 0, 0, 0, 0, 0, 0, 0, 3], 0, 39, 3⟩, ⟨[0, 0, 0, 0, 0, 0, 0, 0, 0, 0, 0, 0, 0, 0, 0, 0, 3], 0, 51, 3⟩, ⟨[0, 0, 0, 0, 0, 0, 0, 0, 0, 0, 0, 0, 0, 0, 0, 0, 0, 0, 0, 0, 3], 0, 63, 3⟩], [[9, 3, 0, 0, 0, 0, 0, 0], [21, 6, 3, 3, 0, 0, 0, 0], [30, 15, 6, 3, 3, 0, 0, 0], [45, 18, 9, 6, 3, 3, 0, 0], [54, 24, 12, 6, 3, 3, 3, 3]], [13824, 65548320768000, 109903340320478724096000000, 9159226129831418921308831875072000000000, 14400376622525549608547603031202889616850944000000000000]⟩]

noncomputable def srt : List Int → List Int
  | [a, b, c] => if a ≤ b then (if b ≤ c then [a, b, c] else if a ≤ c then [a, c, b] else [c, a, b]) else (if a ≤ c then [b, a, c] else if b ≤ c then [b, c, a] else [c, b, a])
  | l => l
noncomputable def sameWS (a b : WS) : Bool := decide (a.ns = b.ns) && decide (a.b = b.b) && decide (a.n = b.n) && decide (a.nt = b.nt)
theorem sameWS_eq {a b : WS} (h : sameWS a b = true) : a = b := by
  unfold sameWS at h
  simp only [Bool.and_eq_true, decide_eq_true_eq] at h
  cases a; cases b
  obtain ⟨⟨⟨h1, h2⟩, h3⟩, h4⟩ := h
  dsimp only at h1 h2 h3 h4
  subst h1 h2 h3 h4
  rfl
noncomputable def dWS : WS := ⟨[], 0, 0, 0⟩
noncomputable def rowChk (xs : List Int) : Bool := (List.range 5).all fun t => sameWS (wsRun (spread (t + 1) xs)) (wsRun (spread (t + 1) (srt xs))) && decide (prodOf ((t : Int) + 1) xs = prodOf ((t : Int) + 1) (srt xs))
noncomputable def smallI (q : Int) : Bool := match q with
  | .ofNat n => Nat.ble n 10000
  | .negSucc _ => false
theorem smallI_ok {q : Int} (h : smallI q = true) : 0 ≤ q ∧ q ≤ 10000 := by
  cases q with
  | ofNat n =>
    have h1 : n ≤ 10000 := Nat.le_of_ble_eq_true h
    exact ⟨Int.natCast_nonneg n, by show ((n : Nat) : Int) ≤ 10000; omega⟩
  | negSucc n => cases h
noncomputable def bdChk (st : WS) : Bool := (List.range 18).all fun z => smallI ((indOf st ((z : Int) + 2)).fdiv ((z : Int) + 2))
noncomputable def tabChk (R : Row) : Bool := (List.range 5).all fun t => sameWS (wsRun (spread (t + 1) R.r)) (R.s.getD t dWS) && (decide (exps (R.s.getD t dWS) = R.e.getD t []) && (decide (prodOf ((t : Int) + 1) R.r = R.p.getD t 0) && (bdChk (R.s.getD t dWS) && (decide ((R.e.getD t []).sum < 240) && decide (R.p.getD t 0 ≠ 0)))))
noncomputable def tabHas (xs : List Int) : Bool := tbl.any fun R => decide (R.r = srt xs)
noncomputable def pairChk (R S : Row) : Bool := ((List.range 5).all fun t => leAll (S.e.getD t []) (R.e.getD t []) == ((R.p.getD t 0).fmod (S.p.getD t 0) == 0)) &&
  (((List.range 5).any fun t => ((R.p.getD t 0).fmod (S.p.getD t 0) == 0) == false) == ((List.range 2).any fun t => lessOf (S.s.getD t dWS) (wsStep (R.s.getD t dWS) 32) == false))
set_option maxRecDepth 1000000 in
theorem all_rows : ((List.range 5).all fun i => (List.range 5).all fun j => (List.range 5).all fun k => rowChk [(i : Int), (j : Int), (k : Int)] && tabHas [(i : Int), (j : Int), (k : Int)]) = true := by decide +kernel
set_option maxRecDepth 1000000 in
theorem all_tab : (tbl.all tabChk) = true := by decide +kernel
set_option maxRecDepth 1000000 in
theorem all_pairs : (tbl.all fun R => tbl.all fun S => pairChk R S) = true := by decide +kernel

theorem sg_mk (l : List Nat) : sg (⟨l.toArray⟩ : Str) = l := by simp
theorem app_cons (tok : Str) (c : Nat) (l : List Nat) : (tok ++ (⟨#[c]⟩ : Str)) ++ (⟨l.toArray⟩ : Str) = tok ++ (⟨(c :: l).toArray⟩ : Str) := by
  apply str_ext
  rw [sg_append, sg_append, sg_append, sg_mk, sg_mk]
  simp
theorem quo_run : ∀ (l : List Nat) (tok : Str) (rest : List Nat), (∀ c ∈ l, c = 32 ∨ c = 9) → lexRun .quo tok (l ++ 34 :: rest) = (tok ++ (⟨l.toArray⟩ : Str), rest)
  | [], tok, rest, _ => by
    show (if (34 : Nat) = 34 then (tok, rest) else _) = _
    rw [if_pos rfl]
    exact congrArg (·, rest) (app_empty tok).symm
  | c :: l, tok, rest, h => by
    have hc := h c (.head _)
    show (if c = 34 then _ else if c = 92 then _ else lexRun .quo (tok ++ ⟨#[c]⟩) (l ++ 34 :: rest)) = _
    rw [if_neg (by omega), if_neg (by omega), quo_run l _ rest fun d hd => h d (.tail _ hd), app_cons]
theorem bare_run : ∀ (l : List Nat) (tok : Str) (rest : List Nat), lexRun .bare tok ((l.flatMap fun c => [92, c]) ++ rest) = lexRun .bare (tok ++ (⟨l.toArray⟩ : Str)) rest
  | [], tok, rest => by
    show lexRun .bare tok rest = lexRun .bare (tok ++ Str.empty) rest
    rw [app_empty]
  | c :: l, tok, rest => by
    show (if isWs 92 = true then _ else if (92 : Nat) = 92 then lexRun .bare (tok ++ ⟨#[c]⟩) ((l.flatMap fun c => [92, c]) ++ rest) else _) = _
    rw [if_neg (by decide), if_pos rfl, bare_run l _ rest, app_cons]
theorem empty_app (x : Str) : Str.empty ++ x = x := by
  apply str_ext
  rw [sg_append]; rfl
theorem lex_word (l : Str) (ok : LeadOk l) (hne : sg l ≠ []) (q : Int) (rest : List Nat) : lexRun .out Str.empty (sg (writ q l) ++ rest) = if q ≠ 0 then (l, rest) else lexRun .bare l rest := by
  rw [sg_writ]
  have hl : (⟨(sg l).toArray⟩ : Str) = l := str_ext (sg_mk _)
  split
  · rw [List.cons_append, List.append_assoc]
    show (if isWs 34 = true then _ else if (34 : Nat) = 34 then lexRun .quo Str.empty (sg l ++ 34 :: rest) else _) = _
    rw [if_neg (by decide), if_pos rfl, quo_run (sg l) _ rest ok.sg, empty_app, hl]
  · cases hs : sg l with
    | nil => exact absurd hs hne
    | cons c r =>
      rw [List.flatMap_cons, List.append_assoc]
      show (if isWs 92 = true then _ else if (92 : Nat) = 34 then _ else if (92 : Nat) = 92 then lexRun .bare (Str.empty ++ ⟨#[c]⟩) ((r.flatMap fun c => [92, c]) ++ rest) else _) = _
      rw [if_neg (by decide), if_neg (by decide), if_pos rfl, bare_run, app_cons, empty_app, ← hs, hl]
theorem lex_text (a b : Int) (l0 l1 : Str) (ok0 : LeadOk l0) (ok1 : LeadOk l1) (n0 : sg l0 ≠ []) (n1 : sg l1 ≠ []) :
    ∃ c1, lexRun .out Str.empty (sg (textOf a b l0 l1)) = (l0, c1) ∧ lexRun .out Str.empty c1 = (l1, []) ∧ c1.length < 1000 := by
  have e : sg (textOf a b l0 l1) = sg (writ (a.fdiv 125) l0) ++ 10 :: sg (writ (b.fdiv 125) l1) := by
    unfold textOf
    rw [sg_join]
    have e1 : sg (Str.ofString "\n") = [10] := by decide
    rw [e1]; simp
  have hw : (sg (writ (b.fdiv 125) l1)).length < 300 := by rw [sg_length]; exact writ_len ok1 _
  have e2 : lexRun .out Str.empty (sg (writ (b.fdiv 125) l1)) = (l1, []) := by
    have := lex_word l1 ok1 n1 (b.fdiv 125) []
    rw [List.append_nil] at this
    rw [this]
    split
    · rfl
    · rfl
  rw [e, lex_word l0 ok0 n0]
  split
  · refine ⟨_, rfl, ?_, by simp only [List.length_cons]; omega⟩
    show (if isWs 10 = true then lexRun .out Str.empty (sg (writ (b.fdiv 125) l1)) else _) = _
    rw [if_pos (by decide), e2]
  · refine ⟨sg (writ (b.fdiv 125) l1), ?_, e2, by omega⟩
    show (if isWs 10 = true then (l0, sg (writ (b.fdiv 125) l1)) else _) = _
    rw [if_pos (by decide)]
/-- a row within its bounds -/
structure RowOk (xs : List Int) : Prop where
  ex : ∃ x y z : Int, xs = [x, y, z] ∧ (0 ≤ x ∧ x ≤ 4) ∧ (0 ≤ y ∧ y ≤ 4) ∧ (0 ≤ z ∧ z ≤ 4)
theorem spread_len {xs : List Int} (h : RowOk xs) {t : Nat} (ht : t ≤ 5) : (spread t xs).length ≤ 63 := by
  obtain ⟨x, y, z, rfl, hx, hy, hz⟩ := h.ex
  unfold spread
  simp only [List.flatMap_cons, List.flatMap_nil, List.length_append, List.length_replicate, List.length_cons, List.length_nil]
  have h1 : x.toNat * t ≤ 4 * 5 := Nat.mul_le_mul (by omega) ht
  have h2 : y.toNat * t ≤ 4 * 5 := Nat.mul_le_mul (by omega) ht
  have h3 : z.toNat * t ≤ 4 * 5 := Nat.mul_le_mul (by omega) ht
  omega
theorem spread_sg (t : Nat) (xs : List Int) : ∀ c ∈ spread t xs, c = 32 ∨ c = 9 := by
  intro c hc
  obtain ⟨r, _, hr⟩ := List.mem_flatMap.mp hc
  rcases List.mem_append.mp hr with h | h
  · exact .inl (List.mem_replicate.mp h).2
  · exact .inr (List.mem_singleton.mp h)
theorem sg_lead1 (xs : List Int) : sg (leadOf xs) = spread 1 xs := by
  rw [sg_lead]; unfold spread
  congr 1
  funext r
  rw [Nat.mul_one]
theorem lead_ok {xs : List Int} (h : RowOk xs) : LeadOk (leadOf xs) := by
  refine ⟨?_, ?_⟩
  · rw [← sg_length, sg_lead1]
    have := spread_len h (t := 1) (by decide)
    omega
  · rw [show (leadOf xs).cps.toList = spread 1 xs from sg_lead1 xs]
    exact spread_sg 1 xs
theorem lead_ne {xs : List Int} (h : RowOk xs) : sg (leadOf xs) ≠ [] := by
  obtain ⟨x, y, z, rfl, _⟩ := h.ex
  rw [sg_lead1]
  intro e
  have := congrArg List.length e
  unfold spread at this
  simp at this
theorem wsok_of {cs : List Nat} (h : cs.length < 500) : WsOk (wsRun cs) := by
  obtain ⟨h1, h2, h3, h4, h5, h6, h7, h8, h9⟩ := wsRun_bd cs
  exact ⟨by omega, ⟨by omega, by omega⟩, ⟨by omega, by omega⟩, fun z hz => by have := h9 z hz; omega⟩
/-- what the table says of a row -/
structure TabOk (R : Row) (xs : List Int) : Prop where
  mem : R ∈ tbl
  st : ∀ t, t < 5 → wsRun (spread (t + 1) xs) = R.s.getD t dWS
  ex : ∀ t, t < 5 → exps (R.s.getD t dWS) = R.e.getD t []
  pr : ∀ t : Nat, t < 5 → prodOf ((t : Int) + 1) xs = R.p.getD t 0
  bd : ∀ t, t < 5 → bdChk (R.s.getD t dWS) = true
  sm : ∀ t, t < 5 → (R.e.getD t []).sum < 240
  ne : ∀ t, t < 5 → R.p.getD t 0 ≠ 0
theorem tab_row {xs : List Int} (h : RowOk xs) : ∃ R, TabOk R xs := by
  obtain ⟨x, y, z, rfl, hx, hy, hz⟩ := h.ex
  have h1 := List.all_eq_true.mp all_rows x.toNat (List.mem_range.mpr (by omega))
  have h2 := List.all_eq_true.mp h1 y.toNat (List.mem_range.mpr (by omega))
  have h3 := List.all_eq_true.mp h2 z.toNat (List.mem_range.mpr (by omega))
  rw [Int.toNat_of_nonneg hx.1, Int.toNat_of_nonneg hy.1, Int.toNat_of_nonneg hz.1, Bool.and_eq_true] at h3
  obtain ⟨h4, h5⟩ := h3
  unfold tabHas at h5
  obtain ⟨R, hR, hr⟩ := List.any_eq_true.mp h5
  have hr' : R.r = srt [x, y, z] := of_decide_eq_true hr
  have h6 := List.all_eq_true.mp all_tab R hR
  unfold rowChk at h4
  unfold tabChk at h6
  have k : ∀ t : Nat, t < 5 → wsRun (spread (t + 1) [x, y, z]) = R.s.getD t dWS ∧ exps (R.s.getD t dWS) = R.e.getD t [] ∧ prodOf ((t : Int) + 1) [x, y, z] = R.p.getD t 0 ∧ bdChk (R.s.getD t dWS) = true ∧ (R.e.getD t []).sum < 240 ∧ R.p.getD t 0 ≠ 0 := by
    intro t ht
    have a := List.all_eq_true.mp h4 t (List.mem_range.mpr ht)
    have b := List.all_eq_true.mp h6 t (List.mem_range.mpr ht)
    simp only [Bool.and_eq_true, decide_eq_true_eq] at a b
    obtain ⟨a1, a2⟩ := a
    obtain ⟨b1, b2, b3, b4, b5, b6⟩ := b
    rw [hr'] at b1 b3
    exact ⟨(sameWS_eq a1).trans (sameWS_eq b1), b2, a2.trans b3, b4, b5, b6⟩
  exact ⟨R, hR, fun t ht => (k t ht).1, fun t ht => (k t ht).2.1, fun t ht => (k t ht).2.2.1, fun t ht => (k t ht).2.2.2.1, fun t ht => (k t ht).2.2.2.2.1, fun t ht => (k t ht).2.2.2.2.2⟩
theorem tab_pair {R S : Row} {xs ys : List Int} (h : TabOk R xs) (k : TabOk S ys) : pairChk R S = true := List.all_eq_true.mp (List.all_eq_true.mp all_pairs R h.mem) S k.mem
theorem bd_of {st : WS} (h : bdChk st = true) : ∀ z, 2 ≤ z → z ≤ 19 → 0 ≤ (indOf st z).fdiv z ∧ (indOf st z).fdiv z ≤ 10000 := by
  intro z h2 h19
  unfold bdChk at h
  have a := List.all_eq_true.mp h (z - 2).toNat (List.mem_range.mpr (by omega))
  rw [show (((z - 2).toNat : Nat) : Int) + 2 = z by omega] at a
  exact smallI_ok a
theorem primes_len (st : WS) : (primesOf st).length = (exps st).sum := by
  rw [← sg_length, sg_primes]
  unfold exps word8
  dsimp only
  simp only [List.length_append, List.length_replicate, List.sum_cons, List.sum_nil]
  omega
theorem ell_exps (st0 st1 : WS) : ellRun (primesOf st0) (Str.empty :: (chars (sg (primesOf st1)) ++ [Str.empty])) 0 = leAll (exps st1) (exps st0) := by
  have e := ell_word (primesOf st0) (sg (primesOf st1))
  rw [sg_primes st0, sg_primes st1] at e
  have f : (word8 (exps st1)).Sublist (word8 (exps st0)) ↔ leAll (exps st1) (exps st0) = true := word8_sub ..
  rw [f] at e
  rw [sg_primes st1]
  exact Bool.eq_iff_iff.mpr e
theorem factF {xs ys : List Int} (hx : RowOk xs) (hy : RowOk ys) (t : Int) (h1 : 1 ≤ t) (h5 : t ≤ 5) : FactF t (leadOf xs) (leadOf ys) xs ys := by
  obtain ⟨R, hR⟩ := tab_row hx
  obtain ⟨S, hS⟩ := tab_row hy
  obtain ⟨n, hn, rfl⟩ : ∃ n : Nat, n < 5 ∧ t = (n : Int) + 1 := ⟨(t - 1).toNat, by omega, by omega⟩
  have ht : ((n : Int) + 1).toNat = n + 1 := by omega
  have e0 : stOf ((n : Int) + 1) (leadOf xs) = R.s.getD n dWS := by rw [stOf_lead, ht, hR.st n hn]
  have e1 : stOf ((n : Int) + 1) (leadOf ys) = S.s.getD n dWS := by rw [stOf_lead, ht, hS.st n hn]
  have l0 := spread_len hx (t := n + 1) (by omega)
  have l1 := spread_len hy (t := n + 1) (by omega)
  have q0 : (primesOf (R.s.getD n dWS)).length < 240 := by rw [primes_len, hR.ex n hn]; exact hR.sm n hn
  have q1 : (primesOf (S.s.getD n dWS)).length < 240 := by rw [primes_len, hS.ex n hn]; exact hS.sm n hn
  refine ⟨(lead_ok hx).len, (lead_ok hy).len, ?_, ?_, ?_, ?_, ?_, ?_, ?_, ?_, ?_, ?_, ?_, ?_, ?_⟩
  · rw [← sg_length, sg_rep, ht]; omega
  · rw [← sg_length, sg_rep, ht]; omega
  · rw [sg_rep]; exact spread_sg _ _
  · rw [sg_rep]; exact spread_sg _ _
  · rw [stOf_lead, ht]; exact wsok_of (by omega)
  · rw [stOf_lead, ht]; exact wsok_of (by omega)
  · rw [e0]; exact bd_of (hR.bd n hn)
  · rw [e1]; exact bd_of (hS.bd n hn)
  · rw [hS.pr n hn]; exact hS.ne n hn
  · rw [e0]; exact q0
  · rw [e1]; exact q1
  · rw [e1]; exact pat_ok (by rw [sg_primes]; exact word8_free _) q1
  · rw [e0, e1, ell_exps, hR.ex n hn, hS.ex n hn, hR.pr n hn, hS.pr n hn]
    have p := tab_pair hR hS
    unfold pairChk at p
    rw [Bool.and_eq_true] at p
    exact eq_of_beq (List.all_eq_true.mp p.1 n (List.mem_range.mpr hn))
theorem factG {xs ys : List Int} (hx : RowOk xs) (hy : RowOk ys) (t : Int) (h1 : 1 ≤ t) (h2 : t ≤ 2) : FactG t (leadOf xs) (leadOf ys) := by
  obtain ⟨n, hn, rfl⟩ : ∃ n : Nat, n < 2 ∧ t = (n : Int) + 1 := ⟨(t - 1).toNat, by omega, by omega⟩
  have ht : ((n : Int) + 1).toNat = n + 1 := by omega
  have l0 := spread_len hx (t := n + 1) (by omega)
  have l1 := spread_len hy (t := n + 1) (by omega)
  refine ⟨(lead_ok hx).len, (lead_ok hy).len, ?_, ?_, ?_, ?_, ?_, ?_⟩
  · rw [← sg_length, sg_rep, ht]; omega
  · rw [← sg_length, sg_rep, ht]; omega
  · rw [sg_rep]; exact spread_sg _ _
  · rw [sg_rep]; exact spread_sg _ _
  · rw [stB_lead, ht]; exact wsok_of (by rw [List.length_append]; simp only [List.length_cons, List.length_nil]; omega)
  · rw [stOf_lead, ht]; exact wsok_of (by omega)
theorem any_congr {f g : Nat → Bool} : ∀ {l : List Nat}, (∀ j ∈ l, f j = g j) → l.any f = l.any g
  | [], _ => rfl
  | a :: r, h => by rw [List.any_cons, List.any_cons, h a (.head _), any_congr fun j hj => h j (.tail _ hj)]
theorem plain_law {xs ys : List Int} (hx : RowOk xs) (hy : RowOk ys) : (whs xs ys 5).any (· == false) = (lss (leadOf xs) (leadOf ys) 2).any (· == false) := by
  obtain ⟨R, hR⟩ := tab_row hx
  obtain ⟨S, hS⟩ := tab_row hy
  have p := tab_pair hR hS
  unfold pairChk at p
  rw [Bool.and_eq_true] at p
  have e := eq_of_beq p.2
  unfold whs lss
  rw [List.any_map, List.any_map]
  have f1 : ∀ j ∈ List.range 5, ((· == false) ∘ fun (j : Nat) => wh xs ys (1 + (j : Int))) j = ((((R.p.getD j 0).fmod (S.p.getD j 0) == 0) == false)) := by
    intro j hj
    have hj' := List.mem_range.mp hj
    show ((((prodOf (1 + (j : Int)) xs).fmod (prodOf (1 + (j : Int)) ys) == 0)) == false) = _
    rw [Int.add_comm, hR.pr j hj', hS.pr j hj']
  have f2 : ∀ j ∈ List.range 2, ((· == false) ∘ fun (j : Nat) => lessOf (stOf (1 + (j : Int)) (leadOf ys)) (stB (1 + (j : Int)) (leadOf xs))) j = (lessOf (S.s.getD j dWS) (wsStep (R.s.getD j dWS) 32) == false) := by
    intro j hj
    have hj' : j < 5 := Nat.lt_trans (List.mem_range.mp hj) (by decide)
    show (lessOf (stOf (1 + (j : Int)) (leadOf ys)) (stB (1 + (j : Int)) (leadOf xs)) == false) = _
    rw [stOf_lead, stB_lead, show (1 + (j : Int)).toNat = j + 1 by omega, wsRun_snoc, hR.st j hj', hS.st j hj']
  rw [any_congr f1, any_congr f2]
  exact e

theorem dig_bd (a : Int) (k : Nat) : 0 ≤ dig a k ∧ dig a k ≤ 4 := by
  unfold dig
  rw [Int.fmod_eq_emod_of_nonneg _ (by decide)]
  have h1 := Int.emod_nonneg (a.fdiv (5 ^ k)) (show (5 : Int) ≠ 0 by decide)
  have h2 := Int.emod_lt_of_pos (a.fdiv (5 ^ k)) (show (0 : Int) < 5 by decide)
  omega
theorem dig_row (a : Int) : RowOk [dig a 0, dig a 1, dig a 2] := ⟨⟨_, _, _, rfl, dig_bd a 0, dig_bd a 1, dig_bd a 2⟩⟩
theorem text_len (a b : Int) {l0 l1 : Str} (ok0 : LeadOk l0) (ok1 : LeadOk l1) : (sg (textOf a b l0 l1)).length < 1000 := by
  rw [sg_length]; exact two_len (writ_len ok0 _) (writ_len ok1 _)
set_option maxHeartbeats 4000000 in
theorem glue (w : World) (mean : ExcName → Option Value) (mg mb : Str → Option Value) (g : Heap) (L fa : Addr) (cd : Value) (st : List Stmt) (sc : Scope) (hst : st = lawSt 1) (hsc : sc = lawSc) (s : Shared) (Q : Flow → Shared → Prop)
    (X : (Mine.hd.heap_39 w.params).In g) (B : Below callerA g [] g) (T : Top topProg looseT mean mg mb g) (codeHd : CodeHd g 142 138) (m : Env1) (D : Addr) (a b : Int) (ta tb : Tok) (w0 w1 : Obj) (c0 c1 : Option Value) (d0 : w0.data = .cell c0) (d1 : w1.data = .cell c1)
    (F : Fr g L s.heap (kstB m [(Str.ofString "numbers", .ref D)])) (N : News g L s.heap [(D, W.listOf [.int a ta, .int b tb].toArray 2), (L + 1 + 1, w1), (L + 1, w0), (138, tabObj #[])])
    (l0 : 138 < L) (o0 : LCg.Off1 D [(L + 1 + 1, w1), (L + 1, w0), (138, tabObj #[])]) (ha : 0 ≤ a ∧ a < 250) (hb : 0 ≤ b ∧ b < 250)
    (hret : ∀ (h : Heap) (tk : Nat) (m : Env1) (news : Led) (ps : Array Value), Fr g L h m → News g L h news → (138, tabObj ps) ∈ news → Q (.ret (.bool true)) { s with heap := h, toks := tk }) :
    wpAny (model PySem.Challenge.rw_pg0243_01.row.prog w) (callerA.deeper (envOfC (Str.ofString "law") sc L fa cd)) (execs st (envOfC (Str.ofString "law") sc L fa cd)) Q (fun _ _ => False) s := by
  have hx := dig_row a
  have hy := dig_row b
  have k0 := dig_bd a 0
  have k1 := dig_bd a 1
  have k2 := dig_bd a 2
  have k3 := dig_bd b 0
  have k4 := dig_bd b 1
  have k5 := dig_bd b 2
  have ok0 := lead_ok hx
  have ok1 := lead_ok hy
  have n8 : @Ne Nat (L + 1) 138 := Nat.ne_of_gt (Nat.lt_succ_of_lt l0)
  have n9 : @Ne Nat (L + 1 + 1) 138 := Nat.ne_of_gt (Nat.lt_succ_of_lt (Nat.lt_succ_of_lt l0))
  have n7 : @Ne Nat (L + 1 + 1) (L + 1) := Nat.ne_of_gt (Nat.lt_succ_self _)
  obtain ⟨a1, a2, a3, -⟩ := o0
  refine stageB w mean mg mb g L fa cd st sc hst hsc s Q _ X B T codeHd m D a b ta tb w0 w1 c0 c1 d0 d1 F N l0 ha hb ?_
  intro h tk m R R0 R1 t0 t1 t2 t3 t4 t5 F N o1 o2 o3
  obtain ⟨b1, b2, b3, b4, b5, b6, -⟩ := o1
  obtain ⟨p1, p2, p3, p4, p5, -⟩ := o2
  obtain ⟨q1, q2, q3, q4, -⟩ := o3
  refine stageC w mean mg mb g L fa cd _ sc rfl hsc _ Q _ X B T codeHd m D R R0 R1 (dig a 0) (dig a 1) (dig a 2) (dig b 0) (dig b 1) (dig b 2) t0 t1 t2 t3 t4 t5 _ F N k0 k1 k2 k3 k4 k5 ?_
  intro h tk m LD u0 u1 F N o4
  obtain ⟨c1', c2', c3', c4', c5', c6', c7', -⟩ := o4
  refine stageD w mean mg mb g L fa cd _ sc rfl hsc _ Q _ X B T codeHd m D R LD a b ta tb (leadOf [dig a 0, dig a 1, dig a 2]) (leadOf [dig b 0, dig b 1, dig b 2]) u0 u1 w0 c0 d0
    [(R, W.listOf [.ref R0, .ref R1].toArray 2), (R1, W.listOf [.int (dig b 0) t3, .int (dig b 1) t4, .int (dig b 2) t5].toArray 3), (R0, W.listOf [.int (dig a 0) t0, .int (dig a 1) t1, .int (dig a 2) t2].toArray 3), (L + 1 + 1, w1)] F (cb_drop N ?_) ?_ ?_ ok0 ok1 ha hb ?_
  · intro p hp
    simp only [List.mem_cons, List.not_mem_nil, or_false] at hp ⊢
    rcases hp with h | h | h | h | h | h | h | h <;> simp only [h, true_or, or_true]
  · exact List.forall_mem_cons.mpr ⟨n8, List.forall_mem_cons.mpr ⟨Ne.symm c7', List.forall_mem_cons.mpr ⟨Ne.symm a3, List.forall_mem_cons.mpr ⟨Ne.symm b6, List.forall_mem_cons.mpr ⟨Ne.symm p5, List.forall_mem_cons.mpr ⟨Ne.symm q4, List.forall_mem_cons.mpr ⟨n9, List.forall_mem_nil _⟩⟩⟩⟩⟩⟩⟩
  · exact List.forall_mem_cons.mpr ⟨Ne.symm c6', List.forall_mem_cons.mpr ⟨Ne.symm a2, List.forall_mem_cons.mpr ⟨Ne.symm b5, List.forall_mem_cons.mpr ⟨Ne.symm p4, List.forall_mem_cons.mpr ⟨Ne.symm q3, List.forall_mem_cons.mpr ⟨n7, List.forall_mem_nil _⟩⟩⟩⟩⟩⟩
  intro h tk X2 vs2 k2' tl2 fixed o' ps F N rd hvs ho hne
  obtain ⟨c1, e1, e2, e3⟩ := lex_text a b _ _ ok0 ok1 (lead_ne hx) (lead_ne hy)
  refine stageE w mean mg mb g L fa cd _ sc rfl hsc _ Q _ X B T codeHd _ R LD (leadOf [dig a 0, dig a 1, dig a 2]) (leadOf [dig b 0, dig b 1, dig b 2]) u0 u1 _ X2 vs2 k2' tl2 fixed o' _ c1 [] [] (Has.fr ⟨rfl, rfl, True.intro⟩ F) N rd hvs ho hne e1 e2 rfl ok0 ok1 (text_len a b ok0 ok1) e3 (by decide) ?_
  intro h tk m WD v0 v1 v2 F N o5
  refine stageH w mean mg mb g L fa cd _ sc rfl hsc _ Q X B T codeHd m R R0 R1 WD (leadOf [dig a 0, dig a 1, dig a 2]) (leadOf [dig b 0, dig b 1, dig b 2]) v0 v1 v2 (dig a 0) (dig a 1) (dig a 2) (dig b 0) (dig b 1) (dig b 2) t0 t1 t2 t3 t4 t5 w1 (tabObj ps) _ d1 F (cb_drop N ?_) ?_ k0 k1 k2 k3 k4 k5 (fun t h1 h5 => factF hx hy t h1 h5) (fun t h1 h2 => factG hx hy t h1 h2) (plain_law hx hy) ?_
  · intro p hp
    simp only [List.mem_cons, List.not_mem_nil, or_false] at hp ⊢
    rcases hp with h | h | h | h | h | h <;> simp only [h, true_or, or_true]
  · obtain ⟨f1, f2, f3, f4, f5, f6, -⟩ := o5
    exact List.forall_mem_cons.mpr ⟨Ne.symm f6, List.forall_mem_cons.mpr ⟨Ne.symm b4, List.forall_mem_cons.mpr ⟨Ne.symm p3, List.forall_mem_cons.mpr ⟨Ne.symm q2, List.forall_mem_cons.mpr ⟨Ne.symm n9, List.forall_mem_nil _⟩⟩⟩⟩⟩
  · intro h tk m news F N hm
    exact hret h tk m news ps F N hm

--<M
local macro_rules | `(tactic| walk_at "exec Assign cons ListComp") => `(tactic| (k_here; k_dflt (refine LCg.Assign_ListComp_U (F₀ := by k_asm) (by rfl) (by with_unfolding_all rfl) (by with_unfolding_all rfl) (by decide) (by rfl) (by decide) (by rfl) (by rfl) (by rfl) ?_)))
local macro_rules | `(tactic| walk_at "subscriptTail Name Slice ref ref") => `(tactic| (k_here; (with_reducible show wpAny _ _ (subscriptTail _ (PySem.Expr.Slice (some _) none none _) (Value.ref _) (Value.ref _)) _ _ _); k_dflt (refine' kms_slice_lit ?F ?N ?l ?p ?q ?e ?_ ?s ?t ?z; (case F | N => k_asm); (case l => kmk_list); (case p | q => kmk_part); (case e => exact rfl); (case s => with_unfolding_all rfl); (case t => kmk_pure); (case z => kmk_size)); intro D' h' F' N' l1; (try k_lt l1)))
--M>
theorem mod_bd (x : Int) : 0 ≤ x.fmod 250 ∧ x.fmod 250 < 250 := by
  rw [Int.fmod_eq_emod_of_nonneg _ (by decide)]
  exact ⟨Int.emod_nonneg _ (by decide), Int.emod_lt_of_pos _ (by decide)⟩
theorem keep1 {a b : Addr × Obj} {r : Led} : ∀ p ∈ a :: r, p ∈ a :: b :: r := fun p hp => by
  simp only [List.mem_cons] at hp ⊢
  rcases hp with h | h <;> simp only [h, true_or, or_true]
set_option maxHeartbeats 16000000 in
theorem main_ok : PySem.Challenge.rw_pg0243_01.Holds := by
  refine Mine.hd ?_
  clear main_ok
  k_go0
  (rename Fr _ _ _ _ => F)
  refine to_end F ?_ ?_
  case refine_2 =>
    rintro f s' ⟨h', tk', m', news', ps', rfl, rfl, F', N', hm'⟩
    clear F
    dsimp only
    refine ⟨?_, GrownAt.of N' hm', True.intro⟩
    clear hm' N'
    wrow_close
  (rename IntsAre _ _ => hI)
  (rename List Int => ns)
  try (repeat (with_reducible rename Reads _ _ _ _ => g0; clear g0))
  try (repeat (with_reducible rename ReadsAll _ _ _ _ => g0; clear g0))
  try (repeat (with_reducible rename ReadsAllW _ _ _ _ _ _ => g0; clear g0))
  try (repeat (with_reducible rename Well _ _ _ _ => g0; clear g0))
  try (repeat (with_reducible rename Dflts _ _ _ => g0; clear g0))
  try (repeat (with_reducible rename (PyData.layable0 _ = true) => g0; clear g0))
  try (repeat (with_reducible rename (PyData.layableAll0 _ = true) => g0; clear g0))
  try (repeat (with_reducible rename (Spec.Shape.has _ _ = true) => g0; clear g0))
  try (repeat (with_reducible rename (WData.layableAll _ = true) => g0; clear g0))
  try (repeat (with_reducible rename (WShape.hasAll _ _ _ = true) => g0; clear g0))
  try (repeat (with_reducible rename TabsAt _ _ => g0; clear g0))
  try (repeat (with_reducible rename TopW _ _ _ => g0; clear g0))
  try (repeat (with_reducible rename TopE _ _ _ _ => g0; clear g0))
  try (repeat (with_reducible rename Tables _ _ _ _ => g0; clear g0))
  try (repeat (with_reducible rename LooseAre _ _ _ => g0; clear g0))
  try (repeat (with_reducible rename Flt.MathXP _ _ _ => g0; clear g0))
  try (repeat (with_reducible rename (Hook.says _ _ _) => g0; clear g0))
  try (repeat (with_reducible rename Ground _ _ _ _ _ _ _ _ _ => g0; clear g0))
  try (repeat (with_reducible rename Heap.CodeRec _ _ _ => g0; clear g0))
  rename_i w s0 s1 mg mb fa o pm cd doc ho hg T0 u1 u2 ls vs u5 hL h63 hcond hD h1 tk1 w1 w0 dl dr X0 X T B N l0
  clear ho hg hT8 T0 hL hcond hD X0
  dsimp only at F N T B X dl dr ⊢
  generalize ghostOf s1.heap [(142, 138)] = g at *
  generalize s1.heap.objs.size = L at *
  generalize ExcName.means s0.heap = mean at *
  have mine_on : MineOn := True.intro
  k_steps
  unfold Halt
  (rename IntsAre _ (List.take 2 _) => hI1)
  have hpk := pick_ints 9 138 (tk1 + 1) (tk1 + 1 + 1) ns.length
  have hI2 := PyProof.Rows.IntsAre.append hI1 hpk
  have hz1 : (List.take 2 ns).length ≤ 2 := by rw [List.length_take]; omega
  have hz2 : (([9, 138] : List Int).drop ns.length).length ≤ 2 := by rw [List.length_drop]; simp only [List.length_cons, List.length_nil]; omega
  refine lists_add (by k_asm) (by k_asm) (by k_mem) (by k_mem) (by have e1 := hI1.length; have e2 := hpk.length; rw [e1]; rw [show kms_pick #[Value.int 9 (tk1 + 1), Value.int 138 (tk1 + 1 + 1)].toList (some (ns.length : Int)) none = kms_pick [Value.int 9 (tk1 + 1), Value.int 138 (tk1 + 1 + 1)] (some (ns.length : Int)) none from rfl, e2]; omega) ?_
  intro D1 h2 F1 N1 l1
  obtain ⟨x0, y0, tx0, ty0, e0⟩ := two_ints hI2
  rw [show kms_pick #[Value.int 9 (tk1 + 1), Value.int 138 (tk1 + 1 + 1)].toList (some (ns.length : Int)) none = kms_pick [Value.int 9 (tk1 + 1), Value.int 138 (tk1 + 1 + 1)] (some (ns.length : Int)) none from rfl, e0] at N1
  have N2 := cb_drop (news := [(D1, W.listOf [.int x0 tx0, .int y0 ty0].toArray 0), (L + 1 + 1, w1), (L + 1, w0), (138, tabObj #[])]) N1 (List.forall_mem_cons.mpr ⟨by k_mem, List.forall_mem_cons.mpr ⟨by k_mem, List.forall_mem_cons.mpr ⟨by k_mem, List.forall_mem_cons.mpr ⟨by k_mem, List.forall_mem_nil _⟩⟩⟩⟩)
  dsimp only
  refine LCg.CompSrc.ledger (by rfl) F1 N2 (by k_mem) (by exact Nat.le_of_ble_eq_true rfl) ?_
  intro g1
  clear N1 F1
  iterate 2
    refine LCg.CompRest.succ ?_
    intro v I oI C oC DD m₂ h tk E' hv hC hx F N off ne
    simp only [List.getElem?_toArray, List.getElem?_cons_zero, List.getElem?_cons_succ, Option.some.injEq] at hv
    subst hv
    dsimp only at *
    k_steps
    refine LCg.CompEnd.intro (by k_asm) (by k_asm) _ (fun p hp => hp) off (Or.inr ⟨_, by k_mem, rfl, _, rfl⟩) ?_
    clear N F off
  refine LCg.CompRest.zero ?_
  intro D9 h9 tk9 F9 N9 o9
  dsimp only [List.nil_append, List.cons_append] at N9 ⊢
  have N10 := cb_drop N9 keep1
  exact glue w mean mg mb g L fa cd _ _ rfl rfl _ _ X B T codeHd _ D9 _ _ _ _ w0 w1 _ _ dr dl (Has.fr ⟨rfl, True.intro⟩ F9) N10 l0 o9.2 (mod_bd x0) (mod_bd y0) fun h tk m news ps F N hm => ⟨h, tk, m, news, ps, rfl, rfl, F, N, hm⟩

end Mine
theorem PySem.Challenge.cw_pg0243_01_holds : PySem.Challenge.rw_pg0243_01.Holds :=
  Mine.main_ok
