import PyProof.Rows.All
import Wide.All
import OpenK.AllK
import Wide.FinOn
import Lean
import PySem.Challenge.RW_pg0243_02
open PySem PySem.W PyProof.Rows PySem.Spec PySem.Calls
set_option Elab.async false
set_option compiler.extract_closed false
set_option maxRecDepth 100000
namespace Mine
noncomputable def MineOn : Prop := True
noncomputable def Halt (P : Prop) : Prop := P
theorem Halt.mk {P : Prop} (h : Halt P) : P := h
abbrev Led := List (Addr × Obj)
abbrev Env1 := Str → Option Value

/-- the names' values that are wanted -/
noncomputable def Has (m : Env1) : List (Str × Value) → Prop
  | [] => True
  | p :: r => m p.1 = some p.2 ∧ Has m r
theorem Has.all {m : Env1} : ∀ {ps : List (Str × Value)}, Has m ps → ∀ p ∈ ps, m p.1 = some p.2
  | _ :: _, h, _, .head _ => h.1
  | _ :: _, h, _, .tail _ q => h.2.all _ q
theorem Has.eq {m : Env1} {ps : List (Str × Value)} (h : Has m ps) : kstB m ps = m := by
  funext z
  exact kstB_eq (fun p hp => h.all p hp) fun _ => rfl
theorem Has.fr {h₀ h : Heap} {L : Addr} {m : Env1} {ps : List (Str × Value)} (H : Has m ps) (F : Fr h₀ L h m) : Fr h₀ L h (kstB m ps) := by
  rw [H.eq]; exact F

/-- a state of the frame at hand -/
noncomputable def At (h₀ : Heap) (L : Addr) (s₀ : Shared) (ps : List (Str × Value)) (led : Led) (s : Shared) : Prop :=
  ∃ h tk m, s = { s₀ with heap := h, toks := tk } ∧ Fr h₀ L h m ∧ Has m ps ∧ News h₀ L h led
theorem At.intro {h₀ : Heap} {L : Addr} {s₀ : Shared} {ps : List (Str × Value)} {led led' : Led} {h : Heap} {tk : Nat} {m : Env1} (F : Fr h₀ L h m) (N : News h₀ L h led') (H : Has m ps) (hs : ∀ p ∈ led, p ∈ led') :
    At h₀ L s₀ ps led { s₀ with heap := h, toks := tk } := ⟨h, tk, m, rfl, F, H, fun p hp => N p (hs p hp)⟩

/-- a loop that is reached: it stops the walk -/
noncomputable def Loop (prog : Program) (w : World) (A : Around) (env : Env) (target : Expr) (body orelse : List Stmt) (Q : Flow → Shared → Prop) (E : Value → Shared → Prop) (it : Value) (s : Shared) : Prop :=
  codeAny (model prog w) A (.forLoop target it body orelse env) (fun r s' => match r with | .ok f => Q f s' | .error e => cameBackBy (model prog w) A env E e s') s

section
variable {prog : Program} {w : World} {A : Around} {env : Env} {target iter : Expr} {body orelse : List Stmt} {Q : Flow → Shared → Prop} {E : Value → Shared → Prop} {it : Value} {s : Shared} {pos : Pos}
theorem for_loop
    (h : wpAny (model prog w) A (eval iter env) (fun x s₁ => wpAny (model prog w) A (pyIter x) (fun it s₂ => Loop prog w A env target body orelse Q E it s₂) E s₁) E s)
    (hs : ∀ x, foldedSetIterable iter env x = pure x := by intro _; rfl) :
    wpAny (model prog w) A (exec (.For target iter body orelse pos) env) Q E s := wpAny_For h hs

/-- the turn's end -/
noncomputable def TurnE {σ : Type} (h₀ : Heap) (L : Addr) (s₀ : Shared) (P : σ → Prop) (ps : σ → List (Str × Value)) (led : σ → Led) (μ : σ → Nat) (n : Nat) (Q : Flow → Shared → Prop) (f : Flow) (s : Shared) : Prop :=
  match f with
  | .ret v => Q (.ret v) s
  | .brk => Q .next s
  | _ => ∃ c, P c ∧ μ c < n ∧ At h₀ L s₀ (ps c) (led c) s

theorem Loop.rule {σ : Type} {h₀ : Heap} {L : Addr} (P : σ → Prop) (ps : σ → List (Str × Value)) (led : σ → Led) (μ : σ → Nat) (c₀ : σ) (hc : P c₀) (h0 : At h₀ L s (ps c₀) (led c₀) s)
    (turn : ∀ c, P c → ∀ h tk m, Fr h₀ L h (kstB m (ps c)) → News h₀ L h (led c) →
      wpAny (model prog w) A (pyNext it) (fun r s₁ => match r with
        | none => wpAny (model prog w) A (execs orelse env) Q E s₁
        | some v => wpAny (model prog w) A (assign target env v) (fun _ s₂ => wpAny (model prog w) A (execs body env) (TurnE h₀ L s P ps led μ (μ c) Q) E s₂) E s₁) E { s with heap := h, toks := tk })
    (hE : PassesOwn (model prog w) A env E := by passes_own) (ht : ∀ v, letOwnedTupleGo target it v = pure () := by intro _; rfl) :
    Loop prog w A env target body orelse Q E it s := by
  refine codeAny_forLoop (fun n s' => ∃ c, P c ∧ μ c = n ∧ At h₀ L s (ps c) (led c) s') ?_ (μ c₀) ⟨c₀, hc, rfl, h0⟩ ht
  rintro n s' ⟨c, hP, rfl, h, tk, m, rfl, F, H, N⟩
  refine wpAny_mono (turn c hP h tk m (H.fr F) N) (fun r s₁ h₁ => ?_) fun e s₁ h₁ => hE e s₁ h₁
  cases r with
  | none => exact wpAny_passesOwn hE h₁
  | some v =>
    refine wpAny_mono h₁ (fun _ s₂ h₂ => wpAny_mono h₂ (fun f s₃ h₃ => ?_) fun e s₁ h₁ => hE e s₁ h₁) fun e s₁ h₁ => hE e s₁ h₁
    cases f with
    | ret v => exact h₃
    | brk => exact h₃
    | next => obtain ⟨c', a, b, d⟩ := h₃; exact ⟨μ c', b, c', a, rfl, d⟩
    | cont => obtain ⟨c', a, b, d⟩ := h₃; exact ⟨μ c', b, c', a, rfl, d⟩
end
@[reducible] noncomputable def strIt (x : Str) (t : Tok) (i : Nat) : Obj := { cls := .type "str_ascii_iterator", data := .fields #[.str x t, .int i 0] }
abbrev Apart (it : Addr) (led : Led) : Prop := ∀ p ∈ led, p.1 ≠ it
section
variable {prog : Program} {w : World} {A : Around} {E : Value → Shared → Prop} {s : Shared} {h₀ : Heap} {L : Addr} {m : Str → Option Value} {news : Led}
theorem led_upd {h h' : Heap} {it : Addr} {o o' : Obj} (F : Fr h₀ L h m) (N : News h₀ L h ((it, o) :: news)) (ha : Apart it news) (hs : Heap.SameBut it h h') (ho : h'.get? it = some o') :
    Fr h₀ L h' m ∧ News h₀ L h' ((it, o') :: news) := by
  have hi := N (it, o) (.head _)
  refine ⟨F.change hs hi.2.1 hi.2.2, fun p hp => ?_⟩
  rcases List.mem_cons.mp hp with rfl | hp
  · exact ⟨ho, hi.2⟩
  · have := N p (.tail _ hp)
    exact ⟨(hs.2 p.1 (ha p hp)).trans this.1, this.2⟩
theorem led_ext {h h' : Heap} {it : Addr} {o : Obj} (F : Fr h₀ L h m) (N : News h₀ L h ((it, o) :: news)) (ha : Apart it news) (hs : Heap.ExtBut it h h') :
    Fr h₀ L h' m ∧ News h₀ L h' news := by
  have hi := N (it, o) (.head _)
  obtain ⟨oL, es, ep, hL, r⟩ := F.ns
  refine ⟨⟨⟨oL, es, ep, hs _ _ (Ne.symm hi.2.1) hL, r⟩, fun b x q => hs _ _ (fun z => ?_) (F.keep b x q), F.above⟩, fun p hp => ?_⟩
  · have := hi.2.2; rw [← z, q] at this; cases this
  · have := N p (.tail _ hp)
    exact ⟨hs _ _ (ha p hp) this.1, this.2⟩
/-- a text's iterator, at sign i -/
abbrev StrIt (o : Obj) (x : Str) (t : Tok) (i : Nat) : Prop := o.cls = .type "str_ascii_iterator" ∧ o.data = .fields #[.str x t, .int i 0]
theorem iter_ascii {x : Str} {t : Tok} {Q : Value → Shared → Prop} (F : Fr h₀ L s.heap m) (N : News h₀ L s.heap news) (ha : x.cps.all (· < 128) = true)
    (h : ∀ it o h', Fr h₀ L h' m → News h₀ L h' ((it, o) :: news) → StrIt o x t 0 → (∀ p ∈ news, p.1 < it) → Q (.ref it) { s with heap := h' }) : wpAny (model prog w) A (pyIter (.str x t)) Q E s :=
  wpAny_pyIter_ascii ha (h _ _ _ (F.push _) (N.push F _) ⟨rfl, rfl⟩ fun p hp => Heap.lt_size (N p hp).1)
theorem next_ascii {it : Addr} {x : Str} {t : Tok} {i c : Nat} {o : Obj} {Q : Option Value → Shared → Prop} (F : Fr h₀ L s.heap m) (N : News h₀ L s.heap ((it, o) :: news)) (ho : StrIt o x t i) (ha : Apart it news) (hx : x.cps[i]? = some c)
    (h : ∀ o' h', Fr h₀ L h' m → News h₀ L h' ((it, o') :: news) → StrIt o' x t (i + 1) → Q (some (.str ⟨#[c]⟩ s.toks)) { s with heap := h', toks := s.toks + 1 }) : wpAny (model prog w) A (pyNext (.ref it)) Q E s := by
  have hi := N (it, o) (.head _)
  refine wpAny_pyNext_ascii_item ⟨_, hi.1, ho⟩ hx fun h' hit' hs => ?_
  obtain ⟨o', e1, e2⟩ := hit'
  exact h o' h' (led_upd F N ha hs e1).1 (led_upd F N ha hs e1).2 e2
theorem next_ascii_end {it : Addr} {x : Str} {t : Tok} {i : Nat} {o : Obj} {Q : Option Value → Shared → Prop} (hh : A.handled = none) (F : Fr h₀ L s.heap m) (N : News h₀ L s.heap ((it, o) :: news)) (ho : StrIt o x t i) (ha : Apart it news) (hx : x.cps[i]? = none)
    (h : ∀ h', Fr h₀ L h' m → News h₀ L h' news → Q none { s with heap := h' }) : wpAny (model prog w) A (pyNext (.ref it)) Q E s := by
  have hi := N (it, o) (.head _)
  exact wpAny_pyNext_ascii_end hh ⟨_, hi.1, ho⟩ hx fun h' hs => h h' (led_ext F N ha hs).1 (led_ext F N ha hs).2
end
theorem allLt_mem {d : Addr} {l : Led} (h : AllLt d l) : ∀ p ∈ l, p.1 < d := by
  induction l with
  | nil => intro p hp; cases hp
  | cons q r ih =>
    intro p hp
    rcases List.mem_cons.mp hp with rfl | hp
    · exact h.1
    · exact ih h.2 p hp
theorem abs_rest {P : Prop} {h₀ h : Heap} {L : Addr} {a b : Addr × Obj} {rest : Led} (N : News h₀ L h (a :: b :: rest)) (l1 : AllLt a.1 (b :: rest)) (l2 : AllLt b.1 rest) (k : ∀ r, r = rest → News h₀ L h (a :: b :: r) → b.1 < a.1 → AllLt a.1 r → AllLt b.1 r → P) : P := k _ rfl N l1.1 l1.2 l2
@[reducible] noncomputable def tupOf (vs : List Value) (n : Nat) : Obj := { cls := .type "tuple", data := .seq vs.toArray n }
theorem sub_tail {a : Addr × Obj} {l l' : Led} (h : ∀ p ∈ l, p ∈ l') : ∀ p ∈ l, p ∈ a :: l' := fun p hp => .tail _ (h p hp)
/-- an iterator of the call's own, by its turns -/
structure Iter (prog : Program) (w : World) (it : Addr) (n : Nat) (need : Led) (St : Nat → Obj → Prop) (V : Nat → Value → Prop) : Prop where
  item : ∀ (A : Around) (s : Shared) (h₀ : Heap) (L : Addr) (m : Env1) (led : Led) (o : Obj) (i : Nat) (Q : Option Value → Shared → Prop) (E : Value → Shared → Prop), i < n → Fr h₀ L s.heap m → News h₀ L s.heap ((it, o) :: led) → St i o → Apart it led → (∀ p ∈ need, p ∈ led) →
    (∀ v o' h' tk, V i v → Fr h₀ L h' m → News h₀ L h' ((it, o') :: led) → St (i + 1) o' → Q (some v) { s with heap := h', toks := tk }) → wpAny (model prog w) A (pyNext (.ref it)) Q E s
  done : ∀ (A : Around) (s : Shared) (h₀ : Heap) (L : Addr) (m : Env1) (led : Led) (o : Obj) (Q : Option Value → Shared → Prop) (E : Value → Shared → Prop), A.handled = none → Fr h₀ L s.heap m → News h₀ L s.heap ((it, o) :: led) → St n o → Apart it led → (∀ p ∈ need, p ∈ led) →
    (∀ h', Fr h₀ L h' m → News h₀ L h' led → Q none { s with heap := h' }) → wpAny (model prog w) A (pyNext (.ref it)) Q E s
theorem iter_of_str {prog : Program} {w : World} (it : Addr) (x : Str) (t : Tok) : Iter prog w it x.cps.size [] (fun i o => StrIt o x t i) (fun i v => ∃ c t', x.cps[i]? = some c ∧ v = .str ⟨#[c]⟩ t') where
  item := fun A s h₀ L m led o i Q E hi F N ho ha _ h => by
    have hx : x.cps[i]? = some x.cps[i] := by simp [hi]
    exact next_ascii F N ho ha hx fun o' h' F' N' ho' => h _ o' h' _ ⟨_, _, hx, rfl⟩ F' N' ho'
  done := fun A s h₀ L m led o Q E hh F N ho ha _ h => next_ascii_end hh F N ho ha (Array.getElem?_eq_none (Nat.le_refl _)) h
@[reducible] noncomputable def rngIt (x left : Int) : Obj := { cls := .type "range_iterator", dict := none, data := .fields #[rawInt x, rawInt left, rawInt 1], slots := #[] }
theorem iter_of_range {prog : Program} {w : World} (it : Addr) (a : Int) (n : Nat) : Iter prog w it n [] (fun i o => o = rngIt (a + i) ((n : Int) - i)) (fun i v => ∃ t', v = .int (a + i) t') where
  item := fun A s h₀ L m led o i Q E hi F N ho ha _ h => by
    subst ho
    have hi' := N _ (.head _)
    refine wpAny_pyNext_range_item (step := 1) hi'.1 (by omega) fun h' hit' hs => ?_
    have e : IsRangeIter h' it (a + i + 1) (n - i - 1) 1 := hit'
    exact h _ _ h' _ ⟨_, rfl⟩ (led_upd F N ha hs e).1 (led_upd F N ha hs e).2 (by
      have e1 : a + (i : Int) + 1 = a + ((i + 1 : Nat) : Int) := by omega
      have e2 : (n : Int) - i - 1 = (n : Int) - ((i + 1 : Nat) : Int) := by omega
      rw [e1, e2])
  done := fun A s h₀ L m led o Q E hh F N ho ha _ h => by
    subst ho
    have hi' := N _ (.head _)
    exact wpAny_pyNext_range_end (step := 1) hh hi'.1 (by omega) fun h' hs => h h' (led_ext F N ha hs).1 (led_ext F N ha hs).2
section
variable {prog : Program} {w : World} {A : Around} {env : Env} {target : Expr} {body orelse : List Stmt} {Q : Flow → Shared → Prop} {E : Value → Shared → Prop} {s : Shared}
noncomputable def TurnI {σ : Type} (h₀ : Heap) (L : Addr) (s₀ : Shared) (it : Addr) (P : Nat → σ → Prop) (ps : σ → List (Str × Value)) (led : σ → Led) (St : Nat → Obj → Prop) (i : Nat) (Q : Flow → Shared → Prop) (f : Flow) (s : Shared) : Prop :=
  match f with
  | .ret v => Q (.ret v) s
  | .brk => Q .next s
  | _ => ∃ c o, P i c ∧ St i o ∧ At h₀ L s₀ (ps c) ((it, o) :: led c) s
theorem TurnI.next {σ : Type} {h₀ : Heap} {L : Addr} {s₀ : Shared} {it : Addr} {P : Nat → σ → Prop} {ps : σ → List (Str × Value)} {led : σ → Led} {St : Nat → Obj → Prop} {i : Nat} {Q : Flow → Shared → Prop} {h : Heap} {tk : Nat} {m : Env1} {led' : Led} {o : Obj} (c : σ)
    (F : Fr h₀ L h m) (N : News h₀ L h led') (hp : P i c) (hm : Has m (ps c)) (ho : St i o) (hs : ∀ p ∈ (it, o) :: led c, p ∈ led') : TurnI h₀ L s₀ it P ps led St i Q .next { s₀ with heap := h, toks := tk } := ⟨c, o, hp, ho, At.intro F N hm hs⟩
theorem TurnI.cont {σ : Type} {h₀ : Heap} {L : Addr} {s₀ : Shared} {it : Addr} {P : Nat → σ → Prop} {ps : σ → List (Str × Value)} {led : σ → Led} {St : Nat → Obj → Prop} {i : Nat} {Q : Flow → Shared → Prop} {h : Heap} {tk : Nat} {m : Env1} {led' : Led} {o : Obj} (c : σ)
    (F : Fr h₀ L h m) (N : News h₀ L h led') (hp : P i c) (hm : Has m (ps c)) (ho : St i o) (hs : ∀ p ∈ (it, o) :: led c, p ∈ led') : TurnI h₀ L s₀ it P ps led St i Q .cont { s₀ with heap := h, toks := tk } := ⟨c, o, hp, ho, At.intro F N hm hs⟩
theorem Loop.iter {σ : Type} {h₀ : Heap} {L : Addr} {it : Addr} {n : Nat} {need : Led} {St : Nat → Obj → Prop} {V : Nat → Value → Prop} {o₀ : Obj} (I : Iter prog w it n need St V) (hh : A.handled = none)
    (P : Nat → σ → Prop) (ps : σ → List (Str × Value)) (led : σ → Led) (c₀ : σ) (hc : P 0 c₀) (ho : St 0 o₀) (h0 : At h₀ L s (ps c₀) ((it, o₀) :: led c₀) s) (hap : ∀ i c, P i c → Apart it (led c)) (hneed : ∀ i c, P i c → ∀ p ∈ need, p ∈ led c)
    (turn : ∀ i c, i < n → P i c → ∀ v o h tk m, V i v → St (i + 1) o → Fr h₀ L h (kstB m (ps c)) → News h₀ L h ((it, o) :: led c) →
      wpAny (model prog w) A (assign target env v) (fun _ s₂ => wpAny (model prog w) A (execs body env) (TurnI h₀ L s it P ps led St (i + 1) Q) E s₂) E { s with heap := h, toks := tk })
    (done : ∀ c, P n c → ∀ h tk m, Fr h₀ L h (kstB m (ps c)) → News h₀ L h (led c) → wpAny (model prog w) A (execs orelse env) Q E { s with heap := h, toks := tk })
    (hE : PassesOwn (model prog w) A env E := by passes_own) (ht : ∀ v, letOwnedTupleGo target (.ref it) v = pure () := by intro _; rfl) :
    Loop prog w A env target body orelse Q E (.ref it) s := by
  refine Loop.rule (σ := Nat × σ × Obj) (fun c => c.1 ≤ n ∧ P c.1 c.2.1 ∧ St c.1 c.2.2) (fun c => ps c.2.1) (fun c => (it, c.2.2) :: led c.2.1) (fun c => n - c.1) (0, c₀, o₀) ⟨Nat.zero_le _, hc, ho⟩ h0 ?_ hE ht
  rintro ⟨i, c, o⟩ ⟨hi, hp, ho⟩ h tk m F N
  dsimp only at *
  by_cases hlt : i < n
  · refine I.item _ _ _ _ _ _ _ _ _ _ hlt F N ho (hap i c hp) (hneed i c hp) fun v o' h' tk' hv F' N' ho' => ?_
    refine wpAny_mono (turn i c hlt hp v o' h' tk' m hv ho' F' N') (fun _ s₂ q => wpAny_mono q (fun f s₃ t => ?_) fun _ _ e => e) fun _ _ e => e
    cases f with
    | ret v => exact t
    | brk => exact t
    | next => obtain ⟨c', o'', h1, h2, h3⟩ := t; exact ⟨(i + 1, c', o''), ⟨hlt, h1, h2⟩, (by show n - (i + 1) < n - i; omega), h3⟩
    | cont => obtain ⟨c', o'', h1, h2, h3⟩ := t; exact ⟨(i + 1, c', o''), ⟨hlt, h1, h2⟩, (by show n - (i + 1) < n - i; omega), h3⟩
  · have e : i = n := by omega
    subst e
    exact I.done _ _ _ _ _ _ _ _ _ hh F N ho (hap i c hp) (hneed i c hp) fun h' F' N' => done c hp h' tk m F' N'
end
abbrev ListIt (l : Addr) (i : Nat) (o : Obj) : Prop := o.cls = .type "list_iterator" ∧ o.data = .fields #[.ref l, .int i 0]
theorem iter_of_list {prog : Program} {w : World} (it l : Addr) (vs : List Value) (ep : Nat) : Iter prog w it vs.length [(l, W.listOf vs.toArray ep)] (ListIt l) (fun i v => vs[i]? = some v) where
  item := fun A s h₀ L m led o i Q E hi F N ho ha hn h => by
    have hi' := N _ (.head _)
    have hl := N _ (.tail _ (hn _ (.head _)))
    have hx : vs.toArray[i]? = some vs[i] := by simp [hi]
    refine wpAny_pyNext_list_item ⟨_, hi'.1, ho⟩ ⟨_, hl.1, rfl, _, rfl⟩ hx fun h' hit' hs => ?_
    obtain ⟨o', e1, e2⟩ := hit'
    exact h _ o' h' s.toks (by simp [hi]) (led_upd F N ha hs e1).1 (led_upd F N ha hs e1).2 e2
  done := fun A s h₀ L m led o Q E hh F N ho ha hn h => by
    have hi' := N _ (.head _)
    have hl := N _ (.tail _ (hn _ (.head _)))
    exact wpAny_pyNext_list_end hh ⟨_, hi'.1, ho⟩ ⟨_, hl.1, rfl, _, rfl⟩ (by simp) fun h' hs => h h' (led_ext F N ha hs).1 (led_ext F N ha hs).2
section
variable {prog : Program} {w : World} {A : Around} {E : Value → Shared → Prop} {s : Shared} {h₀ : Heap} {L : Addr} {m : Str → Option Value} {news : Led}
theorem iter_list {l : Addr} {vs : List Value} {ep : Nat} {Q : Value → Shared → Prop} (F : Fr h₀ L s.heap m) (N : News h₀ L s.heap news) (hm : (l, W.listOf vs.toArray ep) ∈ news)
    (h : ∀ it o h', Fr h₀ L h' m → News h₀ L h' ((it, o) :: news) → ListIt l 0 o → (∀ p ∈ news, p.1 < it) → Q (.ref it) { s with heap := h' }) : wpAny (model prog w) A (pyIter (.ref l)) Q E s :=
  wpAny_pyIter_list ⟨_, (N _ hm).1, rfl, _, rfl⟩ (h _ _ _ (F.push _) (N.push F _) ⟨rfl, rfl⟩ fun p hp => Heap.lt_size (N p hp).1)
theorem small_of {a b : Int} (ha : -1000000000 < a ∧ a < 1000000000) (hb : -1000000000 < b ∧ b < 1000000000) : Builtin.Range.small a b 1 = true := by
  have e : Builtin.Range.rangeSize a b 1 = ((b - a).toNat : Int) := by
    unfold Builtin.Range.rangeSize
    rw [if_pos (by decide)]
    split
    · rw [Int.ediv_one]; omega
    · omega
  unfold Builtin.Range.small
  rw [e]
  have hf : ∀ x : Int, -10000000000 < x → x < 10000000000 → Builtin.Range.rangeFitsLong x = true := by
    intro x h1 h2
    unfold Builtin.Range.rangeFitsLong
    simp only [Bool.and_eq_true, decide_eq_true_eq]
    omega
  rw [hf a (by omega) (by omega), hf b (by omega) (by omega), hf 1 (by omega) (by omega), hf ((b - a).toNat : Int) (by omega) (by omega), if_pos (by decide), hf (b + (1 - 1)) (by omega) (by omega)]
  simp
theorem iter_range {r : Addr} {a b : Int} {t u v : Tok} {Q : Value → Shared → Prop} (F : Fr h₀ L s.heap m) (N : News h₀ L s.heap news) (hr : IsRange s.heap r a b 1 t u v) (ha : -1000000000 < a ∧ a < 1000000000) (hb : -1000000000 < b ∧ b < 1000000000)
    (h : ∀ it h', Fr h₀ L h' m → News h₀ L h' ((it, rngIt a ((b - a).toNat : Int)) :: news) → (∀ p ∈ news, p.1 < it) → Q (.ref it) { s with heap := h' }) : wpAny (model prog w) A (pyIter (.ref r)) Q E s := by
  have e : Builtin.Range.rangeSize a b 1 = ((b - a).toNat : Int) := by
    unfold Builtin.Range.rangeSize
    rw [if_pos (by decide)]
    split
    · rw [Int.ediv_one]; omega
    · omega
  refine wpAny_pyIter_range hr (small_of ha hb) ?_
  rw [e]
  exact h _ _ (F.push _) (N.push F _) fun p hp => Heap.lt_size (N p hp).1
end
theorem rng0 {a : Int} {n : Nat} : rngIt a (n : Int) = rngIt (a + ((0 : Nat) : Int)) ((n : Int) - ((0 : Nat) : Int)) := by simp
section
variable {prog : Program} {w : World} {A : Around} {E : Value → Shared → Prop} {s : Shared}
/-- guards: what a macro looks at before it works (a term in a macro costs some 100 KB of compiled file, a lemma's name little) -/
theorem gdr (n : Nat) {vs : List Value} {Q : Value → Shared → Prop} (h : wpAny (model prog w) A (call (Value.ref n) vs) Q E s) : wpAny (model prog w) A (call (Value.ref n) vs) Q E s := h
theorem gdJoin {x : Str} {t : Tok} {a : Addr} {Q : Value → Shared → Prop} (h : wpAny (model prog w) A (call (Value.builtin "str.join") [Value.str x t, Value.ref a]) Q E s) : wpAny (model prog w) A (call (Value.builtin "str.join") [Value.str x t, Value.ref a]) Q E s := h
theorem gdLen {a : Addr} {Q : Value → Shared → Prop} (h : wpAny (model prog w) A (call (Value.builtin "len") [Value.ref a]) Q E s) : wpAny (model prog w) A (call (Value.builtin "len") [Value.ref a]) Q E s := h
theorem gdTruthy {a : Addr} {Q : Bool → Shared → Prop} (h : wpAny (model prog w) A (truthy (Value.ref a)) Q E s) : wpAny (model prog w) A (truthy (Value.ref a)) Q E s := h
theorem gdSplit {x y : Str} {t u : Tok} {Q : Value → Shared → Prop} (h : wpAny (model prog w) A (call (Value.builtin "str.split") [Value.str x t, Value.str y u]) Q E s) : wpAny (model prog w) A (call (Value.builtin "str.split") [Value.str x t, Value.str y u]) Q E s := h
theorem gdPop {a : Addr} {t : Tok} {Q : Value → Shared → Prop} (h : wpAny (model prog w) A (call (Value.builtin "list.pop") [Value.ref a, Value.int 0 t]) Q E s) : wpAny (model prog w) A (call (Value.builtin "list.pop") [Value.ref a, Value.int 0 t]) Q E s := h
theorem gdIter {a : Addr} {x : Str} {t : Tok} {Q : Value → Shared → Prop} (h : wpAny (model prog w) A (call (Value.builtin "iter") [Value.ref a, Value.str x t]) Q E s) : wpAny (model prog w) A (call (Value.builtin "iter") [Value.ref a, Value.str x t]) Q E s := h
theorem gdType {n : String} {a : Addr} {Q : Value → Shared → Prop} (h : wpAny (model prog w) A (call (Value.type n) [Value.ref a]) Q E s) : wpAny (model prog w) A (call (Value.type n) [Value.ref a]) Q E s := h
theorem gdListStr {x : Str} {t : Tok} {Q : Value → Shared → Prop} (h : wpAny (model prog w) A (call (Value.type "list") [Value.str x t]) Q E s) : wpAny (model prog w) A (call (Value.type "list") [Value.str x t]) Q E s := h
theorem gdItR {a : Addr} {prog' : Program} {w' : World} {A' : Around} {env : Env} {t : PySem.Expr} {b o : List Stmt} {Q : Flow → Shared → Prop} {E' : Value → Shared → Prop} (h : wpAny (model prog w) A (pyIter (Value.ref a)) (fun it s₂ => Loop prog' w' A' env t b o Q E' it s₂) E s) : wpAny (model prog w) A (pyIter (Value.ref a)) (fun it s₂ => Loop prog' w' A' env t b o Q E' it s₂) E s := h
theorem gdItS {x : Str} {k : Tok} {prog' : Program} {w' : World} {A' : Around} {env : Env} {t : PySem.Expr} {b o : List Stmt} {Q : Flow → Shared → Prop} {E' : Value → Shared → Prop} (h : wpAny (model prog w) A (pyIter (Value.str x k)) (fun it s₂ => Loop prog' w' A' env t b o Q E' it s₂) E s) : wpAny (model prog w) A (pyIter (Value.str x k)) (fun it s₂ => Loop prog' w' A' env t b o Q E' it s₂) E s := h
theorem gdIadd {a b : Addr} {Q : Value → Shared → Prop} (h : wpAny (model prog w) A (inplaceOp Operator.Add (Value.ref a) (Value.ref b)) Q E s) : wpAny (model prog w) A (inplaceOp Operator.Add (Value.ref a) (Value.ref b)) Q E s := h
theorem gdEq1 {c : Nat} {x : String} {t u : Tok} {Q : Value → Shared → Prop} (h : wpAny (model prog w) A (compareOp CmpOp.Eq (Value.str (Str.mk #[c]) t) (Value.str (Str.ofString x) u)) Q E s) : wpAny (model prog w) A (compareOp CmpOp.Eq (Value.str (Str.mk #[c]) t) (Value.str (Str.ofString x) u)) Q E s := h
end
noncomputable def EpsOn : Prop := True
/-- a constant that stands for all: what holds of it holds of every one (so a proof's data are closed terms, stored once and not anew at each binder) -/
noncomputable def eps {α : Type} (i : Nonempty α) (P : α → Prop) : α := Classical.epsilon fun a => ¬ P a
theorem all_eps {α : Type} [i : Nonempty α] {P : α → Prop} (h : P (eps i P)) : ∀ a, P a :=
  fun a => Classical.byContradiction fun n => (Classical.epsilon_spec (p := fun a => ¬ P a) ⟨a, n⟩) h
theorem neP {α β : Type} (i : Nonempty α) (j : Nonempty β) : Nonempty (α × β) := i.elim fun a => j.elim fun b => ⟨(a, b)⟩
noncomputable def s1 {α β γ δ : Type} (e : α × β × γ × δ) : α := e.1
noncomputable def s2 {α β γ δ : Type} (e : α × β × γ × δ) : β := e.2.1
noncomputable def s3 {α β γ δ : Type} (e : α × β × γ × δ) : γ := e.2.2.1
noncomputable def s4 {α β γ δ : Type} (e : α × β × γ × δ) : δ := e.2.2.2
noncomputable def r1 {α β γ δ ε ζ η θ : Type} (e : α × β × γ × δ × ε × ζ × η × θ) : α := e.1
noncomputable def r2 {α β γ δ ε ζ η θ : Type} (e : α × β × γ × δ × ε × ζ × η × θ) : β := e.2.1
noncomputable def r3 {α β γ δ ε ζ η θ : Type} (e : α × β × γ × δ × ε × ζ × η × θ) : γ := e.2.2.1
noncomputable def r4 {α β γ δ ε ζ η θ : Type} (e : α × β × γ × δ × ε × ζ × η × θ) : δ := e.2.2.2.1
noncomputable def r5 {α β γ δ ε ζ η θ : Type} (e : α × β × γ × δ × ε × ζ × η × θ) : ε := e.2.2.2.2.1
noncomputable def r6 {α β γ δ ε ζ η θ : Type} (e : α × β × γ × δ × ε × ζ × η × θ) : ζ := e.2.2.2.2.2.1
noncomputable def r7 {α β γ δ ε ζ η θ : Type} (e : α × β × γ × δ × ε × ζ × η × θ) : η := e.2.2.2.2.2.2.1
noncomputable def r8 {α β γ δ ε ζ η θ : Type} (e : α × β × γ × δ × ε × ζ × η × θ) : θ := e.2.2.2.2.2.2.2
noncomputable def un2 {α β : Type} (P : α → β → Prop) (e : α × β × Unit × Unit) : Prop := P (s1 e) (s2 e)
theorem all_eps2 {α β : Type} [i1 : Nonempty α] [i2 : Nonempty β] {P : α → β → Prop} (k : P (s1 (eps (neP i1 (neP i2 (neP ⟨()⟩ ⟨()⟩))) (un2 P))) (s2 (eps (neP i1 (neP i2 (neP ⟨()⟩ ⟨()⟩))) (un2 P)))) : ∀ a b, P a b :=
  fun a b => all_eps (i := (neP i1 (neP i2 (neP ⟨()⟩ ⟨()⟩)))) (P := un2 P) k (a, b, (), ())
noncomputable def un3 {α β γ : Type} (P : α → β → γ → Prop) (e : α × β × γ × Unit) : Prop := P (s1 e) (s2 e) (s3 e)
theorem all_eps3 {α β γ : Type} [i1 : Nonempty α] [i2 : Nonempty β] [i3 : Nonempty γ] {P : α → β → γ → Prop} (k : P (s1 (eps (neP i1 (neP i2 (neP i3 ⟨()⟩))) (un3 P))) (s2 (eps (neP i1 (neP i2 (neP i3 ⟨()⟩))) (un3 P))) (s3 (eps (neP i1 (neP i2 (neP i3 ⟨()⟩))) (un3 P)))) : ∀ a b c, P a b c :=
  fun a b c => all_eps (i := (neP i1 (neP i2 (neP i3 ⟨()⟩)))) (P := un3 P) k (a, b, c, ())
noncomputable def un4 {α β γ δ : Type} (P : α → β → γ → δ → Prop) (e : α × β × γ × δ) : Prop := P (s1 e) (s2 e) (s3 e) (s4 e)
theorem all_eps4 {α β γ δ : Type} [i1 : Nonempty α] [i2 : Nonempty β] [i3 : Nonempty γ] [i4 : Nonempty δ] {P : α → β → γ → δ → Prop} (k : P (s1 (eps (neP i1 (neP i2 (neP i3 i4))) (un4 P))) (s2 (eps (neP i1 (neP i2 (neP i3 i4))) (un4 P))) (s3 (eps (neP i1 (neP i2 (neP i3 i4))) (un4 P))) (s4 (eps (neP i1 (neP i2 (neP i3 i4))) (un4 P)))) : ∀ a b c d, P a b c d :=
  fun a b c d => all_eps (i := (neP i1 (neP i2 (neP i3 i4)))) (P := un4 P) k (a, b, c, d)
noncomputable def un8 {α β γ δ ε ζ η θ : Type} (P : α → β → γ → δ → ε → ζ → η → θ → Prop) (e : α × β × γ × δ × ε × ζ × η × θ) : Prop := P (r1 e) (r2 e) (r3 e) (r4 e) (r5 e) (r6 e) (r7 e) (r8 e)
theorem all_eps8 {α β γ δ ε ζ η θ : Type} [i1 : Nonempty α] [i2 : Nonempty β] [i3 : Nonempty γ] [i4 : Nonempty δ] [i5 : Nonempty ε] [i6 : Nonempty ζ] [i7 : Nonempty η] [i8 : Nonempty θ] {P : α → β → γ → δ → ε → ζ → η → θ → Prop} (k : P (r1 (eps (neP i1 (neP i2 (neP i3 (neP i4 (neP i5 (neP i6 (neP i7 i8))))))) (un8 P))) (r2 (eps (neP i1 (neP i2 (neP i3 (neP i4 (neP i5 (neP i6 (neP i7 i8))))))) (un8 P))) (r3 (eps (neP i1 (neP i2 (neP i3 (neP i4 (neP i5 (neP i6 (neP i7 i8))))))) (un8 P))) (r4 (eps (neP i1 (neP i2 (neP i3 (neP i4 (neP i5 (neP i6 (neP i7 i8))))))) (un8 P))) (r5 (eps (neP i1 (neP i2 (neP i3 (neP i4 (neP i5 (neP i6 (neP i7 i8))))))) (un8 P))) (r6 (eps (neP i1 (neP i2 (neP i3 (neP i4 (neP i5 (neP i6 (neP i7 i8))))))) (un8 P))) (r7 (eps (neP i1 (neP i2 (neP i3 (neP i4 (neP i5 (neP i6 (neP i7 i8))))))) (un8 P))) (r8 (eps (neP i1 (neP i2 (neP i3 (neP i4 (neP i5 (neP i6 (neP i7 i8))))))) (un8 P)))) : ∀ a b c d e f g h, P a b c d e f g h :=
  fun a b c d e f g h => all_eps (i := (neP i1 (neP i2 (neP i3 (neP i4 (neP i5 (neP i6 (neP i7 i8)))))))) (P := un8 P) k (a, b, c, d, e, f, g, h)
theorem neSh : Nonempty Shared := ⟨{}⟩
theorem neAr : Nonempty Around := ⟨{}⟩
theorem neWo : Nonempty World := ⟨Classical.choice ⟨aWorld 1⟩⟩
theorem nePa : Nonempty Params := ⟨(aWorld 1).params⟩
/-- what a goal ends in, hidden behind constants -/
noncomputable def Hid {α : Type} (q Q : α → Shared → Prop) : Prop := ∀ v s, q v s → Q v s
theorem Hid.use {α : Type} {q Q : α → Shared → Prop} {v : α} {s : Shared} (h : Hid q Q) (k : q v s) : Q v s := h v s k
theorem hide {prog : Program} {w : World} {A : Around} {α : Type} {x : Sem α} {q : α → Shared → Prop} {e : Value → Shared → Prop} {s : Shared}
    (k : ∀ Q : α → Shared → Prop, Hid q Q → wpAny (model prog w) A x Q e s) : wpAny (model prog w) A x q e s := k q fun _ _ h => h
/-- the data of an existential, one by one -/
theorem ex_imp {α : Sort u} {p : α → Prop} {G : Prop} (k : ∀ x, p x → G) : (∃ x, p x) → G := fun ⟨x, h⟩ => k x h
theorem and_imp' {a b G : Prop} (k : a → b → G) : a ∧ b → G := fun ⟨x, h⟩ => k x h
theorem pr_all {α β : Type} {P : α × β → Prop} (h : ∀ a b, P (a, b)) : ∀ c, P c := fun ⟨_, _⟩ => h _ _
theorem pr_all3 {α β γ : Type} {P : α × β × γ → Prop} (h : ∀ a b c, P (a, b, c)) : ∀ c, P c := fun ⟨_, _, _⟩ => h _ _ _
theorem pr_all4 {α β γ δ : Type} {P : α × β × γ × δ → Prop} (h : ∀ a b c d, P (a, b, c, d)) : ∀ c, P c := fun ⟨_, _, _, _⟩ => h _ _ _ _
theorem rm0 {a b c : Nat} (h : a + b < c) : a < c := Nat.lt_of_le_of_lt (Nat.le_add_right _ _) h
theorem rm1 {a b c i : Nat} (h : a + b < c) (e : Nat.ble i b = true) : a + i < c := Nat.lt_of_le_of_lt (Nat.add_le_add_left (Nat.le_of_ble_eq_true e) _) h
theorem rm2 {a b c i j : Nat} (h : a + b < c) (e : Nat.ble (i + j) b = true) : a + i + j < c := Nat.add_assoc a i j ▸ rm1 h e
theorem kind_fn {k : ScopeKind} (h : k = .function) : k = .function := h

end Mine
namespace Mine
/-- the state behind the opening -/
noncomputable abbrev booted (w : World) (os : OsState) : Shared := ⟨boot_heap w.params, Array.mk [], boot_drawn, boot_toks, os⟩
/-- the top, run at once behind the opening, for either answer of the world's row -/
theorem left_of {p q : Program} {loose : List Str} {Xt : Shared → Bool} {α : Type} {Yf : Shared → α} {Ya : World → α} {N : Nat} {g0 : Bool} (row : String)
    (e : opening p = plainProg p.main.scope.names) (hN : Nat.ble 600 N = true) (f : ∀ s, fenceModules? p s = some s)
    (h0 : ∀ (w : World) (os : OsState), (topFrom treeTable p (w.withFollow row false) N (booted w os)).map (fun s => (openSeen q loose (importedModules p.main.body) Xt g0 s, Yf s)) = some (openGood q loose, Ya (w.withFollow row false)))
    (h1 : ∀ (w : World) (os : OsState), (topFrom treeTable p (w.withFollow row true) N (booted w os)).map (fun s => (openSeen q loose (importedModules p.main.body) Xt g0 s, Yf s)) = some (openGood q loose, Ya (w.withFollow row true))) :
    LeftO p q loose Xt Yf Ya N g0 := fun w => by
  obtain ⟨⟨h, gs, d, k, os⟩, e1, e2⟩ := Option.map_eq_some_iff.mp (boot_open e hN f w)
  obtain ⟨rfl, rfl, rfl, rfl⟩ : h = boot_heap w.params ∧ gs = Array.mk [] ∧ d = boot_drawn ∧ k = boot_toks := by simpa using e2
  have e3 := World.withFollow_self w row
  unfold openEnds
  rw [e1]
  show (topFrom treeTable p w N (booted w os)).map _ = _
  have a0 := h0 w os
  have a1 := h1 w os
  cases hb : w.params.followText row <;> rw [hb] at e3
  · rw [e3] at a0; exact a0
  · rw [e3] at a1; exact a1
end Mine
section
local macro_rules | `(tactic| refine $h:ident (q := $q:term) $as*) => `(tactic| (refine' $h:ident (q := $q) $as*; case hl => (refine Mine.left_of "special-get-raises" ?e ?n ?f ?a ?b; (case n => rfl); (case e => kernel_rfl); (case f => (intro s; kernel_rfl)); (all_goals (intro w os; unfold topFrom; rw [PySem.W.Fast.te14082659384304107361, PySem.W.Fast.te14364793385576792824, PySem.W.Fast.te4187177175401517315]; kernel_rfl)))))
namespace Mine
set_option maxHeartbeats 8000000 in
open_top hd for PySem.Challenge.rw_pg0243_02
end Mine
end
namespace Mine
local macro_rules | `(tactic| walk_at "my_on") => `(tactic| (have z0 : MineOn := (by with_reducible assumption); clear z0))
local macro_rules | `(tactic| walk_at "my_step") => `(tactic| first | (k_unfold; (try dsimp only)) | (k_end; wrow_close) | walk1 | (dsimp only; walk1) | (leave1; walk_say "STEP leave1"; try dsimp only) | skip)
local macro_rules | `(tactic| k_mem) => `(tactic| ((walk_at "my_on"); ((refine List.mem_append_right _ ?_; k_mem))))
local macro_rules | `(tactic| k_room) => `(tactic| ((walk_at "my_on"); (ktr_room)))
local macro_rules | `(tactic| k_units) => `(tactic| ((walk_at "my_on"); (ktr_units)))
local macro_rules | `(tactic| k_enter) => `(tactic| ((walk_at "my_on"); (cell_enter)))
local macro_rules | `(tactic| walk_at "exec For Name Attribute cons nil") => `(tactic| (k_here; (with_reducible refine for_loop ?_ ?_); rotate_left; (with_unfolding_all (intro _; rfl))))
local macro_rules | `(tactic| walk_at "exec For Name Call cons nil") => `(tactic| (k_here; (with_reducible refine for_loop ?_ ?_); rotate_left; (with_unfolding_all (intro _; rfl))))
local macro_rules | `(tactic| walk_at "exec For Name Name cons nil") => `(tactic| (k_here; (with_reducible refine for_loop ?_ ?_); rotate_left; (with_unfolding_all (intro _; rfl))))
local macro_rules | `(tactic| walk_at "pyIter str") => `(tactic| (k_here; (with_reducible refine gdItS ?_); k_dflt (refine' iter_ascii ?k1 ?k2 ?k3 ?_; (case k1 | k2 => k_asm); (case k3 => assumption); k_whole; intro it' o' h' F' N' ho' l1; (try k_lt l1); (try k_sweep))))
local macro_rules | `(tactic| walk_at "pyIter ref") => `(tactic| (k_here; (with_reducible refine gdItR ?_); k_dflt (first
  | (refine' iter_range ?k1 ?k2 ?k3 ?k4 ?k5 ?_; (case k1 => k_asm); (case k2 => k_asm); (case k3 => assumption); (case k4 => omega); (case k5 => omega); k_whole; intro it' h' F' N' l1; (try k_lt l1); (try k_sweep))
  | (refine' iter_list ?k1 ?k2 ?k3 ?_; (case k1 => k_asm); (case k2 => k_asm); (case k3 => k_mem); k_whole; intro it' o' h' F' N' ho' l1; (try k_lt l1); (try k_sweep)))))
local macro_rules | `(tactic| walk_at "call type:tuple") => `(tactic| (k_here; (with_reducible refine gdType ?_); k_dflt (refine' kde_tupleOf ?k1 ?k2 ?k3 ?k4 ?k5 ?_; (case k1 | k2 => k_asm); (case k3 => exact News.isList (by k_asm) (by k_mem)); (case k4 => (rw [List.size_toArray, IntsAre.length (by assumption)]; omega)); (case k5 => exact rfl); k_whole); intro D' h' F' N' l1; (try k_lt l1); (try k_sweep)))
local macro_rules | `(tactic| walk_at "my_all") => `(tactic| (walk_at "eps_on"; first | refine all_eps ?_ | refine all_eps (i := by walk_at "my_ne") ?_))
local macro_rules | `(tactic| walk_at "my_ne") => `(tactic| first | exact neSh | exact neAr | exact neWo)
local macro_rules | `(tactic| walk_at "eps_on") => `(tactic| (have z0 : EpsOn := (by with_reducible assumption); clear z0))
local macro_rules | `(tactic| intro $x:ident) => `(tactic| first | (walk_at "my_all"; generalize eps _ _ = $x:ident) | (intros $x:ident))
local macro_rules | `(tactic| intro _) => `(tactic| first | (walk_at "my_all"; generalize eps _ _ = v) | (intros _))
local macro_rules | `(tactic| walk_at "my_g8") => `(tactic| (refine all_eps8 ?_; generalize r1 _ = v1, r2 _ = v2, r3 _ = v3, r4 _ = v4, r5 _ = v5, r6 _ = v6, r7 _ = v7, r8 _ = v8))
local macro_rules | `(tactic| walk_at "my_g4") => `(tactic| (refine all_eps4 ?_; generalize s1 _ = v1, s2 _ = v2, s3 _ = v3, s4 _ = v4))
local macro_rules | `(tactic| walk_at "my_g3") => `(tactic| (refine all_eps3 ?_; generalize s1 _ = v1, s2 _ = v2, s3 _ = v3))
local macro_rules | `(tactic| walk_at "my_g2") => `(tactic| (refine all_eps2 ?_; generalize s1 _ = v1, s2 _ = v2))
local macro_rules | `(tactic| intro $x:term $y:term $zs:term*) => do
  let ts : Array (Lean.TSyntax `term) := #[x, y] ++ zs
  let bs ← ts.mapM fun t => if t.raw.isIdent then let i : Lean.TSyntax `ident := ⟨t.raw⟩; `(Lean.binderIdent| $i:ident) else `(Lean.binderIdent| _)
  let go (k : Nat) (s : String) : Lean.MacroM (Lean.TSyntax `tactic) := do
    let r : Lean.TSyntaxArray `term := ts.extract k ts.size
    let c : Lean.TSyntaxArray ``Lean.binderIdent := bs.extract 0 k
    if ts.size < k then `(tactic| fail)
    else if k < ts.size then `(tactic| (walk_at $(Lean.quote s); rename_i $c*; intro $r:term*))
    else `(tactic| (walk_at $(Lean.quote s); rename_i $c*))
  let r : Lean.TSyntaxArray `term := ts.extract 1 ts.size
  let a8 ← go 8 "my_g8"
  let a4 ← go 4 "my_g4"
  let a3 ← go 3 "my_g3"
  let a2 ← go 2 "my_g2"
  `(tactic| first | (walk_at "eps_on"; first | $a8:tactic | $a4:tactic | $a3:tactic | $a2:tactic) | (intro $x:term; intro $r:term*))
local macro_rules | `(tactic| k_fold) => do
  let (a, b) := (Lean.mkIdent `qk, Lean.mkIdent `hqk)
  `(tactic| (walk_at "eps_on"; refine hide ?_; intro $a:ident $b:ident))
local macro_rules | `(tactic| k_unfold) => `(tactic| (with_reducible refine Hid.use (by with_reducible assumption) ?_))
local macro_rules | `(tactic| k_cells $Y:ident) => `(tactic| (walk_at "eps_on"; have hY := CellsAre.one $Y; revert hY; refine ex_imp ?_; intro o'; rintro ⟨hE', d1'⟩; subst hE'; clear $Y))
local macro_rules | `(tactic| k_ne) => `(tactic| (walk_at "my_on"; refine neN ?_; (try dsimp only); first | walk_at "my_ne1" | omega))
local macro_rules | `(tactic| walk_at "my_an") => `(tactic| (iterate 14 (first | done | assumption | apply And.right)))
local macro_rules | `(tactic| walk_at "my_lt") => `(tactic| first | assumption | (focus (apply And.left; walk_at "my_an"; done)))
local macro_rules | `(tactic| walk_at "my_ne1") => `(tactic| focus first | (apply Nat.ne_of_lt; walk_at "my_lt"; done) | (apply Nat.ne_of_gt; first | (walk_at "my_lt"; done) | (apply Nat.lt_trans; rotate_left; assumption; walk_at "my_lt"; done)))
local macro_rules | `(tactic| omega) => `(tactic| first | (walk_at "my_on"; decide) | fail)

local macro_rules | `(tactic| exact $t:ident) => if t.getId.eraseMacroScopes == `rfl then `(tactic| first | (walk_at "my_on"; with_reducible refine kind_fn ?_; with_reducible assumption) | fail) else Lean.Macro.throwUnsupported

noncomputable abbrev looseT : List Str := (looseW hd.view_39 [Str.ofString "Whitespace"] ++ List.map (fun x => x.name) (recsOf hd.view_39) ++
      List.map (fun x => x.fst) (litsOf hd.view_39) ++
    List.map (fun x => x.name) (clssOf hd.view_39 (looseW hd.view_39 [Str.ofString "Whitespace"])))
/-- A call's contract -/
abbrev Claim (w : World) (mean : ExcName → Option Value) (mg mb : Str → Option Value) (f : Addr) (news : Led) (vs : List Value) (d : Nat) (Post : Value → Led → Prop) : Prop :=
  ∀ (dp un : Nat) (gd : Option (List Code)) (cn : Str) (cs : Scope) (a : Addr) (ccd : Value) (cl : List (Str × Addr)) (outer : List Env) (A₀ : Around) (base h₀ : Heap) (L : Addr) (m : Str → Option Value) (s : Shared) (Q E : Value → Shared → Prop),
    Below A₀ base outer h₀ → Fr h₀ L s.heap m → (hd.heap_39 w.params).In h₀ → News h₀ L s.heap news → Top topProg looseT mean mg mb h₀ → cs.kind = .function →
    dp + d < recursionLimit → un + 8 * d < cLine →
    (∀ (v : Value) (news' : Led) (h' : Heap) (tk' : Nat), Fr h₀ L h' m → News h₀ L h' news' → Post v news' → Q v { s with heap := h', toks := tk' }) →
      wpAny (model PySem.Challenge.rw_pg0243_02.row.prog w) (ktrTop dp un gd cn cs L a ccd cl outer) (call (.ref f) vs) Q E s

structure WS where
  ns : List Int
  b : Int
  n : Int
  nt : Int
noncomputable def wsStep (s : WS) (c : Nat) : WS :=
  if c = 32 then ⟨s.ns, s.b + 1, s.n + 1, s.nt⟩ else
  let ns1 := if s.b ≥ (s.ns.length : Int) then s.ns ++ List.replicate (s.b - s.ns.length + 1).toNat 0 else s.ns
  ⟨ns1.set s.b.toNat (ns1.getD s.b.toNat 0 + 1), 0, s.n + 1, s.nt + 1⟩
noncomputable def wsRun (cs : List Nat) : WS := cs.foldl wsStep ⟨[], 0, 0, 0⟩
theorem wsStep_bd {s : WS} {c k : Nat} (h : s.ns.length ≤ k ∧ 0 ≤ s.b ∧ s.b ≤ k ∧ 0 ≤ s.n ∧ s.n ≤ k ∧ 0 ≤ s.nt ∧ s.nt ≤ k ∧ s.ns.length + s.b ≤ k ∧ ∀ z ∈ s.ns, 0 ≤ z ∧ z ≤ k) :
    (wsStep s c).ns.length ≤ k + 1 ∧ 0 ≤ (wsStep s c).b ∧ (wsStep s c).b ≤ (k + 1 : Nat) ∧ 0 ≤ (wsStep s c).n ∧ (wsStep s c).n ≤ (k + 1 : Nat) ∧ 0 ≤ (wsStep s c).nt ∧ (wsStep s c).nt ≤ (k + 1 : Nat) ∧ (wsStep s c).ns.length + (wsStep s c).b ≤ (k + 1 : Nat) ∧ ∀ z ∈ (wsStep s c).ns, 0 ≤ z ∧ z ≤ (k + 1 : Nat) := by
  obtain ⟨h1, h2, h3, h4, h5, h6, h7, h8, h9⟩ := h
  unfold wsStep
  split
  · dsimp only
    refine ⟨by omega, by omega, by omega, by omega, by omega, by omega, by omega, by omega, fun z hz => ?_⟩
    have := h9 z hz
    omega
  · dsimp only
    have hlen : (if s.b ≥ (s.ns.length : Int) then s.ns ++ List.replicate (s.b - s.ns.length + 1).toNat 0 else s.ns).length ≤ k + 1 := by
      split
      · simp only [List.length_append, List.length_replicate]; omega
      · omega
    have hmem : ∀ z ∈ (if s.b ≥ (s.ns.length : Int) then s.ns ++ List.replicate (s.b - s.ns.length + 1).toNat 0 else s.ns), 0 ≤ z ∧ z ≤ (k : Int) := by
      intro z hz
      split at hz
      · rcases List.mem_append.mp hz with hz | hz
        · exact h9 z hz
        · rw [(List.mem_replicate.mp hz).2]; omega
      · exact h9 z hz
    generalize (if s.b ≥ (s.ns.length : Int) then s.ns ++ List.replicate (s.b - s.ns.length + 1).toNat 0 else s.ns) = xs at hlen hmem
    refine ⟨by simpa using hlen, by omega, by omega, by omega, by omega, by omega, by omega, ?_, fun z hz => ?_⟩
    · rw [List.length_set]; omega
    · rcases List.mem_or_eq_of_mem_set hz with hz | rfl
      · have := hmem z hz; omega
      · have : 0 ≤ xs.getD s.b.toNat 0 ∧ xs.getD s.b.toNat 0 ≤ (k : Int) := by
          rw [List.getD_eq_getElem?_getD]
          cases hq : xs[s.b.toNat]? with
          | none => simp only [Option.getD_none]; omega
          | some y => exact hmem y (List.mem_of_getElem? hq)
        omega
theorem wsRun_bd (cs : List Nat) : (wsRun cs).ns.length ≤ cs.length ∧ 0 ≤ (wsRun cs).b ∧ (wsRun cs).b ≤ cs.length ∧ 0 ≤ (wsRun cs).n ∧ (wsRun cs).n ≤ cs.length ∧ 0 ≤ (wsRun cs).nt ∧ (wsRun cs).nt ≤ cs.length ∧ (wsRun cs).ns.length + (wsRun cs).b ≤ cs.length ∧ ∀ z ∈ (wsRun cs).ns, 0 ≤ z ∧ z ≤ (cs.length : Int) := by
  have key : ∀ (cs : List Nat) (s : WS) (k : Nat), (s.ns.length ≤ k ∧ 0 ≤ s.b ∧ s.b ≤ k ∧ 0 ≤ s.n ∧ s.n ≤ k ∧ 0 ≤ s.nt ∧ s.nt ≤ k ∧ s.ns.length + s.b ≤ k ∧ ∀ z ∈ s.ns, 0 ≤ z ∧ z ≤ (k : Int)) →
      ((cs.foldl wsStep s).ns.length ≤ k + cs.length ∧ 0 ≤ (cs.foldl wsStep s).b ∧ (cs.foldl wsStep s).b ≤ ((k + cs.length : Nat) : Int) ∧ 0 ≤ (cs.foldl wsStep s).n ∧ (cs.foldl wsStep s).n ≤ ((k + cs.length : Nat) : Int) ∧ 0 ≤ (cs.foldl wsStep s).nt ∧ (cs.foldl wsStep s).nt ≤ ((k + cs.length : Nat) : Int) ∧ (cs.foldl wsStep s).ns.length + (cs.foldl wsStep s).b ≤ ((k + cs.length : Nat) : Int) ∧ ∀ z ∈ (cs.foldl wsStep s).ns, 0 ≤ z ∧ z ≤ ((k + cs.length : Nat) : Int)) := by
    intro cs
    induction cs with
    | nil => intro s k h; simpa using h
    | cons c r ih =>
      intro s k h
      have := ih (wsStep s c) (k + 1) (wsStep_bd h)
      rw [show k + 1 + r.length = k + (c :: r).length by simp only [List.length_cons]; omega] at this
      exact this
  have := key cs ⟨[], 0, 0, 0⟩ 0 (by simp)
  simpa [wsRun] using this
theorem flat0 (k : Nat) : (List.replicate k [(0:Int)]).flatten = List.replicate k 0 := by
  induction k with
  | zero => rfl
  | succ k ih => rw [List.replicate_succ, List.flatten_cons, ih]; rfl
theorem wsRun_snoc (cs : List Nat) (c : Nat) : wsRun (cs ++ [c]) = wsStep (wsRun cs) c := by
  unfold wsRun; rw [List.foldl_append]; rfl
structure WC where
  i : Nat
  o : Obj
  l : Addr
  vs : List Value
  ep : Nat
  st : WS
  tb : Tok
  tn : Tok
  tt : Tok
theorem neWS : Nonempty WS := ⟨⟨[], 0, 0, 0⟩⟩
--<M
local macro_rules | `(tactic| walk_at "my_ne") => `(tactic| exact neWS)
--M>
theorem WC.all {P : WC → Prop} (h : ∀ i o l vs ep st tb tn tt, P ⟨i, o, l, vs, ep, st, tb, tn, tt⟩) : ∀ c, P c := fun ⟨_, _, _, _, _, _, _, _, _⟩ => h _ _ _ _ _ _ _ _ _
/-- an object's dict -/
@[reducible] noncomputable def wsDict (w : World) (raw n nt norm simple : Value) (k1 k2 k3 k4 k5 : Tok) : Obj := dictOf [
  { hash := PyData.keyHash w.params (Str.ofString "raw"), key := .str (Str.ofString "raw") k1, val := raw },
  { hash := PyData.keyHash w.params (Str.ofString "n"), key := .str (Str.ofString "n") k2, val := n },
  { hash := PyData.keyHash w.params (Str.ofString "nt"), key := .str (Str.ofString "nt") k3, val := nt },
  { hash := PyData.keyHash w.params (Str.ofString "norm"), key := .str (Str.ofString "norm") k4, val := norm },
  { hash := PyData.keyHash w.params (Str.ofString "is_simple"), key := .str (Str.ofString "is_simple") k5, val := simple }] 5
/-- the four objects of a Whitespace -/
@[reducible] noncomputable def wsLed (w : World) (x dx p c : Addr) (raw : Value) (vs : List Value) (st : WS) (tb tn tt : Tok) (k1 k2 k3 k4 k5 : Tok) : Led :=
  [(p, tupOf [.ref c, .int st.b tb] 0), (c, tupOf vs 0), (x, instObj 83 dx), (dx, wsDict w raw (.int st.n tn) (.int st.nt tt) (.ref p) (.bool (decide ((st.ns.length : Int) ≤ 1))) k1 k2 k3 k4 k5)]
set_option maxHeartbeats 8000000 in
theorem ws_claim (w : World) (mean : ExcName → Option Value) (mg mb : Str → Option Value) (news : Led) (ws : Str) (t : Tok) (hb : ws.length < 1000) (hall : ws.cps.all (· < 128) = true) (hws : ∀ c ∈ ws.cps.toList, c = 32 ∨ c = 9) :
   Claim w mean mg mb 83 news [.str ws t] 3 (fun v news' => ∃ x dx p c vs tb tn tt k1 k2 k3 k4 k5, v = .ref x ∧ news' = wsLed w x dx p c (.str ws t) vs (wsRun ws.cps.toList) tb tn tt k1 k2 k3 k4 k5 ++ news ∧
      IntsAre vs (wsRun ws.cps.toList).ns ∧ (∀ q ∈ news, q.1 < dx) ∧ dx < x ∧ x < c ∧ c < p) := by
  unfold Claim
  w_top off
  k_fill
  have mine_on : MineOn := True.intro
  have eps_on : EpsOn := True.intro
  haveI := neSh; haveI := neAr; haveI := neWo; haveI := neWS
  revert w mean mg mb news ws t
  intro w mean mg mb news ws t hb hall hws
  intro dp un gd cn cs a ccd cl outer A₀ base h₀ L m s Q E B F X N T hk hd hu hret
  k_steps

  rename_i x d _ _ _ la lb g L1 _ FG B1 X1 T1 tk0 _ D _ lc _ _ _ _ l _ ld _ _ _ _ it o h1 F1 N1 ho le
  refine abs_rest N1 le ld ?_
  clear N1 le ld
  intro rest hrest N1 hlt le ld
  refine Loop.rule (σ := WC) (fun c => c.i ≤ ws.cps.size ∧ StrIt c.o ws t c.i ∧ IntsAre c.vs c.st.ns ∧ c.st = wsRun (ws.cps.toList.take c.i) ∧ AllLt c.l rest ∧ c.l ≠ it)
    (fun c => [(Str.ofString "self", .ref x), (Str.ofString "S", .str (Str.ofString " ") 209), (Str.ofString "T", .str (Str.ofString "\t") 210), (Str.ofString "count", .ref c.l), (Str.ofString "b", .int c.st.b c.tb), (Str.ofString "n", .int c.st.n c.tn), (Str.ofString "nt", .int c.st.nt c.tt)])
    (fun c => (it, c.o) :: (c.l, W.listOf c.vs.toArray c.ep) :: rest) (fun c => ws.cps.size - c.i)
    ⟨0, o, l, [], 0, ⟨[], 0, 0, 0⟩, _, _, _⟩ ⟨Nat.zero_le _, ho, .nil, rfl, ld, Nat.ne_of_lt hlt⟩ (At.intro F1 N1 ⟨rfl, rfl, rfl, rfl, rfl, rfl, rfl, True.intro⟩ fun p hp => hp) ?_

  refine WC.all ?_
  intro i o l vs ep st tb tn tt
  rintro ⟨hi, ho, hI, hst, hl1, hl2⟩
  intro h tk mm F N
  dsimp only [kstB] at *
  have hlen : ws.cps.size < 1000 := hb
  have hl3 : @Ne Nat l it := hl2
  by_cases hlt' : i < ws.cps.size
  · have hx0 : ∃ ch : Nat, ws.cps[i]? = some ch ∧ (ch = 32 ∨ ch = 9) := ⟨ws.cps[i], by simp [hlt'], hws ws.cps[i] (by simp)⟩
    revert hx0
    refine ex_imp ?_
    intro ch
    rintro ⟨hx, hc⟩
    have hap : Apart it ((l, W.listOf vs.toArray ep) :: rest) := by
      intro p hp
      rcases List.mem_cons.mp hp with rfl | hp
      · exact hl2
      · exact Nat.ne_of_lt (allLt_mem le p hp)
    have htk : (ws.cps.toList.take i).length = i := by simp; omega
    have hbd := wsRun_bd (ws.cps.toList.take i)
    rw [htk, ← hst] at hbd
    have hsn : ws.cps.toList.take (i + 1) = ws.cps.toList.take i ++ [ch] := by
      rw [List.take_add_one]; simp [hx]
    have hst2 : wsRun (ws.cps.toList.take (i + 1)) = wsStep st ch := by
      rw [hsn, wsRun_snoc, hst]
    clear hst
    obtain ⟨b1, b2, b3, b4, b5, b6, b7, b8, b9⟩ := hbd
    refine next_ascii F N ho hap hx ?_
    intro o2 h2 F2 N2 ho2
    dsimp only
    rcases hc with hc | hc
    · rw [hc]
      rw [hc] at hst2
      k_steps
      refine ⟨WC.mk (i + 1) o2 l vs ep ⟨st.ns, st.b + 1, st.n + 1, st.nt⟩ _ _ _, ⟨hlt', ho2, hI, by rw [hst2]; rfl, hl1, hl2⟩, by show ws.cps.size - (i + 1) < ws.cps.size - i; omega,
        At.intro (by k_asm) (by k_asm) ⟨rfl, rfl, rfl, rfl, rfl, rfl, rfl, True.intro⟩ fun p hp => hp⟩
    · rw [hc]
      rw [hc] at hst2
      k_steps
      · refine ⟨WC.mk (i + 1) o2 _ _ _ ⟨(st.ns ++ (List.replicate (st.b - ↑st.ns.length + 1).toNat [(0:Int)]).flatten).set st.b.toNat ((st.ns ++ (List.replicate (st.b - ↑st.ns.length + 1).toNat [(0:Int)]).flatten).getD st.b.toNat 0 + 1), 0, st.n + 1, st.nt + 1⟩ _ _ _, ⟨hlt', ho2, by assumption, ?_, ?_, ?_⟩, by show ws.cps.size - (i + 1) < ws.cps.size - i; omega,
          At.intro (by k_asm) (by k_asm) ⟨rfl, rfl, rfl, rfl, rfl, rfl, rfl, True.intro⟩ (List.forall_mem_cons.mpr ⟨by k_mem, List.forall_mem_cons.mpr ⟨by k_mem, fun p hp => by first | (repeat' (first | exact hp | apply List.Mem.tail))⟩⟩)⟩
        · rw [hst2]; unfold wsStep; dsimp only; rw [if_neg (by decide)]
          have hge : st.b ≥ (st.ns.length : Int) := by first | assumption | omega
          rw [if_pos hge, flat0]
        · (rename _ ∧ _ ∧ _ ∧ _ ∧ AllLt _ rest => q); exact q.2.2.2.2
        · (rename _ ∧ _ ∧ _ ∧ _ ∧ AllLt _ rest => q); exact Nat.ne_of_gt q.2.2.1
      · refine ⟨WC.mk (i + 1) o2 _ _ _ ⟨st.ns.set st.b.toNat (st.ns.getD st.b.toNat 0 + 1), 0, st.n + 1, st.nt + 1⟩ _ _ _, ⟨hlt', ho2, by assumption, ?_, hl1, hl2⟩, by show ws.cps.size - (i + 1) < ws.cps.size - i; omega,
          At.intro (by k_asm) (by k_asm) ⟨rfl, rfl, rfl, rfl, rfl, rfl, rfl, True.intro⟩ fun p hp => hp⟩
        rw [hst2]; unfold wsStep; dsimp only; rw [if_neg (by decide)]
        have hge : ¬ st.b ≥ (st.ns.length : Int) := by first | assumption | omega
        rw [if_neg hge]
  · have hap : Apart it ((l, W.listOf vs.toArray ep) :: rest) := by
      intro p hp
      rcases List.mem_cons.mp hp with rfl | hp
      · exact hl2
      · exact Nat.ne_of_lt (allLt_mem le p hp)
    have hi2 : i = ws.cps.size := by omega
    have htk : ws.cps.toList.take i = ws.cps.toList := List.take_of_length_le (by rw [Array.length_toList]; omega)
    rw [htk] at hst
    have hbd := wsRun_bd ws.cps.toList
    rw [← hst] at hbd
    obtain ⟨b1, b2, b3, b4, b5, b6, b7, b8, b9⟩ := hbd
    refine next_ascii_end rfl F N ho hap (Array.getElem?_eq_none (by omega)) ?_
    intro h2 F2 N2
    dsimp only
    subst hrest
    simp only [AllLt] at hl1
    rw [Array.length_toList] at b1 b3 b5 b7 b8 b9
    have hret' : ∀ (p c : Addr) (k1 k2 k3 k4 k5 : Tok) (h' : Heap) (tk' : Nat), Fr h₀ L h' m → News h₀ L h' (wsLed w x d p c (.str ws t) vs st tb tn tt k1 k2 k3 k4 k5 ++ news) → x < c → c < p → Q (.ref x) { s with heap := h', toks := tk' } := by
      intro p c k1 k2 k3 k4 k5 h' tk' F' N' q1 q2
      rw [hst] at N'
      exact hret _ _ h' tk' F' N' ⟨x, d, p, c, vs, tb, tn, tt, k1, k2, k3, k4, k5, rfl, rfl, hst ▸ hI, la, lb, q1, q2⟩
    clear hst hret
    clear hap le ld
    k_steps
    refine hret' _ _ _ _ _ _ _ _ _ (by k_asm) (cb_drop (by assumption) (List.forall_mem_cons.mpr ⟨by k_mem, List.forall_mem_cons.mpr ⟨by k_mem, List.forall_mem_cons.mpr ⟨by k_mem, List.forall_mem_cons.mpr ⟨by k_mem, fun p hp => by repeat' (first | exact hp | apply List.Mem.tail)⟩⟩⟩⟩)) ?_ ?_
    · (rename _ < _ ∧ _ ∧ _ ∧ _ ∧ AllLt _ news => q); exact q.2.2.1
    · (rename _ < _ ∧ _ ∧ _ ∧ _ ∧ _ ∧ AllLt _ news => q); exact q.1

section
variable {prog : Program} {w : World} {A : Around} {E : Value → Shared → Prop} {s : Shared} {h₀ : Heap} {L : Addr} {news : Led}
theorem len_tup_ints {l : Addr} {vs : List Value} {ns : List Int} {n : Nat} {Q : Value → Shared → Prop} (N : News h₀ L s.heap news) (hm : (l, ({ cls := .type "tuple", data := .seq vs.toArray n } : Obj)) ∈ news) (hi : IntsAre vs ns) (hf : ns.length < 2 ^ 62)
    (h : ∀ t tk, Q (.int ns.length t) { s with toks := tk }) : wpAny (model prog w) A (call (.builtin "len") [.ref l]) Q E s := by
  refine PyProof.Rows.len_tuple (News.isTup N hm) ?_ ?_
  · rw [List.size_toArray, hi.length]; omega
  · rw [List.size_toArray, hi.length]; exact h _ _
end
--<M
local macro_rules | `(tactic| walk_at "call builtin:len") => `(tactic| (k_here; (with_reducible refine gdLen ?_); k_dflt (refine' len_tup_ints ?k1 ?k2 ?k3 ?k4 ?_; (case k1 => k_asm); (case k2 => k_mem); (case k3 => assumption); (case k4 => omega); k_whole; intro t' tk')))
--M>
/-- what indent_level reckons -/
noncomputable def ilOf (ns : List Int) (size : Int) (is : List Int) : Int := (is.map fun i => i.fdiv size * ns.getD i.toNat 0).sum
noncomputable def indOf (st : WS) (size : Int) : Int := st.b + size * (ilOf st.ns size (rangeKs size (st.ns.length - size.toNat)) + st.nt)
theorem il_bound {ns : List Int} {size : Int} (is : List Int) (h0 : 0 < size) (hi : ∀ i ∈ is, 0 ≤ i ∧ i < 1000) (hn : ∀ z ∈ ns, 0 ≤ z ∧ z ≤ 1000) : 0 ≤ ilOf ns size is ∧ ilOf ns size is ≤ 1000000 * is.length := by
  induction is with
  | nil => simp [ilOf]
  | cons i r ih =>
    have h1 := ih fun j hj => hi j (.tail _ hj)
    have h2 := hi i (.head _)
    have h3 : 0 ≤ ns.getD i.toNat 0 ∧ ns.getD i.toNat 0 ≤ 1000 := by
      rw [List.getD_eq_getElem?_getD]
      cases hq : ns[i.toNat]? with
      | none => simp
      | some y => exact hn y (List.mem_of_getElem? hq)
    have h4 : 0 ≤ i.fdiv size ∧ i.fdiv size ≤ 1000 := by
      rw [Int.fdiv_eq_ediv_of_nonneg _ (by omega)]
      exact ⟨Int.ediv_nonneg (by omega) (by omega), Int.le_trans (Int.ediv_le_self _ (by omega)) (by omega)⟩
    have h5 : 0 ≤ i.fdiv size * ns.getD i.toNat 0 := Int.mul_nonneg h4.1 h3.1
    have h6 : i.fdiv size * ns.getD i.toNat 0 ≤ 1000 * 1000 := Int.mul_le_mul h4.2 h3.2 h3.1 (by decide)
    simp only [ilOf, List.map_cons, List.sum_cons, List.length_cons] at h1 ⊢
    omega
theorem rangeKs_snoc (a : Int) (i : Nat) : rangeKs a (i + 1) = rangeKs a i ++ [a + (i : Int)] := by
  unfold rangeKs; rw [List.range_succ, List.map_append]; rfl
theorem il_snoc (ns : List Int) (size i : Int) (pre : List Int) : ilOf ns size (pre ++ [i]) = ilOf ns size pre + i.fdiv size * ns.getD i.toNat 0 := by
  unfold ilOf; rw [List.map_append, List.sum_append]; simp
set_option maxHeartbeats 8000000 in
theorem ind_claim (w : World) (mean : ExcName → Option Value) (mg mb : Str → Option Value) (news : Led) (x dx p cc : Addr) (raw : Value) (vs : List Value) (st : WS) (tb tn tt k1 k2 k3 k4 k5 : Tok) (hi : IntsAre vs st.ns) (size : Int) (tsz : Tok)
    (h0 : 0 < size) (h1 : size < 1000) (hl : st.ns.length < 1000) (hnt : 0 ≤ st.nt ∧ st.nt < 1000) (htr : 0 ≤ st.b ∧ st.b < 1000) (hns : ∀ z ∈ st.ns, 0 ≤ z ∧ z ≤ 1000) :
   Claim w mean mg mb 52 (wsLed w x dx p cc raw vs st tb tn tt k1 k2 k3 k4 k5 ++ news) [.ref x, .int size tsz] 3 (fun v news' => ∃ t, v = .int (indOf st size) t ∧ news' = wsLed w x dx p cc raw vs st tb tn tt k1 k2 k3 k4 k5 ++ news) := by
  unfold Claim
  w_top off
  k_fill
  have mine_on : MineOn := True.intro
  have eps_on : EpsOn := True.intro
  haveI := neSh; haveI := neAr; haveI := neWo; haveI := neWS
  revert w mean mg mb news x dx p cc raw vs st tb tn tt k1 k2 k3 k4 k5 size tsz
  intro w mean mg mb news x dx p cc raw vs st tb tn tt k1 k2 k3 k4 k5 hi size tsz h0 h1 hl hnt htr hns
  intro dp un gd cn cs a ccd cl outer A₀ base h₀ L m s Q E B F X N T hk hd hu hret
  simp only [List.cons_append, List.nil_append] at N
  k_steps
  rename_i g L1 _ FG B1 X1 T1 _ _ _ _ _ _ _ _ _ _ _ _ _ it h1 F1 N1 l1
  have hne : Apart it (wsLed w x dx p cc raw vs st tb tn tt k1 k2 k3 k4 k5 ++ news) := fun q hq => Nat.ne_of_lt (allLt_mem (l := wsLed w x dx p cc raw vs st tb tn tt k1 k2 k3 k4 k5 ++ news) l1 q hq)
  have e0 : ((st.ns.length : Int) - size).toNat = st.ns.length - size.toNat := by omega
  rw [e0] at N1
  refine Loop.iter (σ := Int × Tok) (iter_of_range it size (st.ns.length - size.toNat)) rfl (fun i c => c.1 = ilOf st.ns size (rangeKs size i))
    (fun c => [(Str.ofString "self", .ref x), (Str.ofString "tabsize", .int size tsz), (Str.ofString "count", .ref cc), (Str.ofString "trailing", .int st.b tb), (Str.ofString "il", .int c.1 c.2)])
    (fun _ => wsLed w x dx p cc raw vs st tb tn tt k1 k2 k3 k4 k5 ++ news) (0, _) rfl (by simp) (At.intro F1 N1 ⟨rfl, rfl, rfl, rfl, rfl, True.intro⟩ fun q hq => hq) (fun _ _ _ => hne) (fun _ _ _ _ hq => nomatch hq) ?_ ?_
  · intro i
    refine pr_all ?_
    intro il tl hi' hP v o h tk mm
    refine ex_imp ?_
    intro tv
    rintro rfl
    intro ho F N
    dsimp only [kstB] at hP F
    simp only [List.cons_append, List.nil_append] at N
    have hb := il_bound (ns := st.ns) (size := size) (rangeKs size i) h0 (fun j hj => by have := mem_rangeKs hj; omega) hns
    rw [← hP, rangeKs_length] at hb
    have hd : 0 ≤ (size + (i : Int)).fdiv size ∧ (size + (i : Int)).fdiv size ≤ 1000 := by
      rw [Int.fdiv_eq_ediv_of_nonneg _ (by omega)]
      exact ⟨Int.ediv_nonneg (by omega) (by omega), Int.le_trans (Int.ediv_le_self _ (by omega)) (by omega)⟩
    k_steps
    exact TurnI.next (il + (size + (i : Int)).fdiv size * st.ns.getD (size + (i : Int)).toNat 0, _) (by k_asm) (by k_asm) (by dsimp only; rw [rangeKs_snoc, il_snoc, hP]) ⟨rfl, rfl, rfl, rfl, rfl, True.intro⟩ ho fun q hq => hq
  · refine pr_all ?_
    intro il tl hP h tk mm F N
    dsimp only [kstB] at hP F
    simp only [List.cons_append, List.nil_append] at N
    have hb := il_bound (ns := st.ns) (size := size) (rangeKs size (st.ns.length - size.toNat)) h0 (fun j hj => by have := mem_rangeKs hj; omega) hns
    rw [← hP, rangeKs_length] at hb
    k_steps
    refine hret _ _ _ _ (by k_asm) (by k_asm) ⟨_, by unfold indOf; rw [hP], rfl⟩

/-- a Whitespace's numbers are small -/
structure WsOk (st : WS) : Prop where
  len : st.ns.length < 500
  nt : 0 ≤ st.nt ∧ st.nt < 500
  b : 0 ≤ st.b ∧ st.b < 500
  ns : ∀ z ∈ st.ns, 0 ≤ z ∧ z ≤ 1000
section
variable {w : World} {mean : ExcName → Option Value} {mg mb : Str → Option Value} {dp un : Nat} {gd : Option (List Code)} {cn : Str} {cs : Scope} {a : Addr} {ccd : Value} {cl : List (Str × Addr)} {outer : List Env} {A₀ : Around} {base h₀ : Heap} {L : Addr} {m : Str → Option Value} {s : Shared} {Q E : Value → Shared → Prop} {news : Led}
theorem ind_use {x dx p cc : Addr} {raw : Value} {vs : List Value} {st : WS} {tb tn tt k1 k2 k3 k4 k5 : Tok} {size : Int} {tsz : Tok}
    (B : Below A₀ base outer h₀) (F : Fr h₀ L s.heap m) (X : (Mine.hd.heap_39 w.params).In h₀) (N : News h₀ L s.heap news) (T : Top topProg looseT mean mg mb h₀) (hk : cs.kind = .function)
    (m3 : (x, instObj 83 dx) ∈ news) (m4 : (dx, wsDict w raw (.int st.n tn) (.int st.nt tt) (.ref p) (.bool (decide ((st.ns.length : Int) ≤ 1))) k1 k2 k3 k4 k5) ∈ news) (m1 : (p, tupOf [.ref cc, .int st.b tb] 0) ∈ news) (m2 : (cc, tupOf vs 0) ∈ news)
    (hi : IntsAre vs st.ns) (ok : WsOk st) (h0 : 0 < size) (h1 : size < 1000) (hd : dp + 3 < recursionLimit) (hu : un + 8 * 3 < cLine)
    (hret : ∀ (t : Tok) (h' : Heap) (tk' : Nat), Fr h₀ L h' m → News h₀ L h' news → Q (.int (indOf st size) t) { s with heap := h', toks := tk' }) :
    wpAny (model PySem.Challenge.rw_pg0243_02.row.prog w) (ktrTop dp un gd cn cs L a ccd cl outer) (call (.ref 52) [.ref x, .int size tsz]) Q E s :=
  ind_claim w mean mg mb news x dx p cc raw vs st tb tn tt k1 k2 k3 k4 k5 hi size tsz h0 h1 (by have := ok.len; omega) (by have := ok.nt; omega) (by have := ok.b; omega) ok.ns dp un gd cn cs a ccd cl outer A₀ base h₀ L m s Q E B F X
    (fun q hq => by
      rcases List.mem_append.mp hq with hq | hq
      · simp only [List.mem_cons, List.not_mem_nil, or_false] at hq
        rcases hq with rfl | rfl | rfl | rfl <;> exact N _ (by assumption)
      · exact N q hq) T hk hd hu (by
    rintro v news' h' tk' F' N' ⟨t, rfl, rfl⟩
    exact hret t h' tk' F' (cb_drop N' fun q hq => List.mem_append.mpr (.inr hq)))
end
--<M
local macro_rules | `(tactic| walk_at "call ref") => `(tactic| (k_here; (with_reducible refine gdr 52 ?_); k_dflt (refine' ind_use ?k1 ?k2 ?k3 ?k4 ?k5 ?kK ?m3 ?m4 ?m1 ?m2 ?hi ?ok ?h0 ?h1 ?kd ?ku ?_; (case k1 | k2 | k3 | k4 | k5 => k_asm); (case kK => first | exact rfl | assumption); (case m3 | m4 | m1 | m2 => k_mem); (case hi | ok => assumption); (case h0 | h1 => omega); (case kd => ktr_room); (case ku => ktr_units); k_whole; intro t' h' tk' F' N'; (try dsimp only); (try k_fold))))
--M>

@[reducible] noncomputable def dots : Str := Str.ofString "..."
/-- what _ellipsis_match's loop answers -/
noncomputable def ellRun (got : Str) : List Str → Nat → Bool
  | [], _ => true
  | w :: r, p => match Builtin.Str.occurrences got w p got.length 1 with
    | [] => false
    | i :: _ => ellRun got r (i + w.length)
/-- got.find(w, p, len(got)) -/
noncomputable def fnd (x y : Str) (lo : Nat) : Int := match Builtin.Str.occurrences x y lo x.length 1 with | k :: _ => (k : Int) | [] => -1
theorem fnd_cases (got w : Str) (r : List Str) (p : Nat) : (fnd got w p = -1 ∧ ellRun got (w :: r) p = false) ∨ (0 ≤ fnd got w p ∧ fnd got w p + w.length ≤ got.length ∧ ellRun got (w :: r) p = ellRun got r (fnd got w p + w.length).toNat) := by
  rcases StrLaws.occ_head_from got w p 1 (Nat.le_refl _) with ⟨h, _⟩ | ⟨i, q, h, _, h2, _⟩
  · refine .inl ⟨by unfold fnd; rw [h], ?_⟩
    show (match Builtin.Str.occurrences got w p got.length 1 with | [] => false | i :: _ => ellRun got r (i + w.length)) = false
    rw [h]
  · refine .inr ⟨by unfold fnd; rw [h]; exact Int.natCast_nonneg _, by unfold fnd; rw [h]; have := h2.1; show (i : Int) + w.length ≤ got.length; omega, ?_⟩
    show (match Builtin.Str.occurrences got w p got.length 1 with | [] => false | i :: _ => ellRun got r (i + w.length)) = ellRun got r (fnd got w p + w.length).toNat
    unfold fnd
    rw [h]
    show ellRun got r (i + w.length) = ellRun got r ((i : Int) + w.length).toNat
    rw [show ((i : Int) + w.length).toNat = i + w.length by omega]
theorem strs_get {vs : List Value} {ys : List Str} (h : StrsAre vs ys) : ∀ {i : Nat} {v : Value}, vs[i]? = some v → ∃ y t, ys[i]? = some y ∧ v = .str y t := by
  induction h with
  | nil => intro i v e; simp at e
  | cons y t _ ih =>
    intro i v e
    cases i with
    | zero => exact ⟨y, t, rfl, by simpa using e.symm⟩
    | succ i => exact ih (by simpa using e)
theorem strs_snoc {vs : List Value} {ys : List Str} (h : StrsAre vs ys) (y : Str) (t : Tok) : StrsAre (vs ++ [.str y t]) (ys ++ [y]) := by
  induction h with
  | nil => exact .cons y t .nil
  | cons z u _ ih => exact .cons z u ih
section
variable {prog : Program} {w : World} {A : Around} {E : Value → Shared → Prop} {s : Shared} {Q : Value → Shared → Prop}
theorem find4 {x y : Str} {lo : Int} {t u v z : Tok} (h0 : 0 ≤ lo) (h : Q (.int (fnd x y lo.toNat) s.toks) { s with toks := s.toks + 1 }) :
    wpAny (model prog w) A (call (.builtin "str.find") [.str x t, .str y u, .int lo v, .int (x.length : Int) z]) Q E s := by
  have e1 : fromIndex x.length lo = lo.toNat := by unfold fromIndex; rw [if_neg (by omega)]; omega
  have e2 : fromIndex x.length (x.length : Int) = x.length := by unfold fromIndex; rw [if_neg (by omega)]; omega
  have g : Gives (Builtin.«str.find» ⟨[.str x t, .str y u, .int lo v, .int (x.length : Int) z], []⟩) (.int (fnd x y lo.toNat)) := by
    unfold fnd
    show Gives (match Builtin.Str.occurrences x y (fromIndex x.length lo) (min (fromIndex x.length (x.length : Int)) x.length) 1 with | k :: _ => retInt k | [] => (do rule "str.find.not-found"; retInt (-1))) _
    rw [e1, e2, Nat.min_self]
    cases Builtin.Str.occurrences x y lo.toNat x.length 1 with
    | nil => exact .rule (.of_eq rfl)
    | cons k _ => exact .of_eq rfl
  exact call_gives F.slot_str_find (typeIs_str _ _ _) F.entry_str_find (F.args_str_find_4 _ _ _ _) g h
theorem split_known {h₀ : Heap} {L : Addr} {m : Env1} {news : Led} {x y : Str} {t u : Tok} {ss : List Str} (F : Fr h₀ L s.heap m) (N : News h₀ L s.heap news) (hsp : Txt.split x y = Str.empty :: (ss ++ [Str.empty])) (hy : (y.length == 0) = false) (hx : x.length < 1000)
    (h : ∀ D t0 t1 vs h' k, StrsAre vs ss → Fr h₀ L h' m → News h₀ L h' ((D, W.listOf (.str Str.empty t0 :: (vs ++ [.str Str.empty t1])).toArray 0) :: news) → (∀ p ∈ news, p.1 < D) → Q (.ref D) { s with heap := h', toks := k }) :
    wpAny (model prog w) A (call (.builtin "str.split") [.str x t, .str y u]) Q E s := by
  refine KSpl.split1 F N hy (fun D l h' k e ha F' N' hl => ?_) (by rw [sizeLine_eq]; omega)
  rw [hsp] at e
  obtain ⟨t0, l', rfl, e'⟩ := KSpl.cons_of e
  obtain ⟨l1, l2, rfl, e1, e2⟩ := List.map_eq_append_iff.mp e'
  obtain ⟨t1, l3, rfl, e3⟩ := KSpl.cons_of e2
  have := KSpl.nil_of e3
  subst this
  refine h D t0 t1 (strValues l1) h' k (e1 ▸ strsAre_of_values l1) F' ?_ hl
  simpa [strValues] using N'
theorem len_list_any {h₀ : Heap} {L : Addr} {news : Led} {l : Addr} {vs : List Value} {ep : Nat} (N : News h₀ L s.heap news) (hm : (l, W.listOf vs.toArray ep) ∈ news) (hf : vs.length < 2 ^ 62) (h : ∀ t tk, Q (.int vs.length t) { s with toks := tk }) :
    wpAny (model prog w) A (call (.builtin "len") [.ref l]) Q E s :=
  PyProof.Rows.len_list (News.isList N hm) (by rw [List.size_toArray]; omega) (by rw [List.size_toArray]; exact h _ _)
theorem item_last {h₀ : Heap} {L : Addr} {news : Led} {value slice : PySem.Expr} {l : Addr} {a b : Value} {vs : List Value} {ep : Nat} {u : Tok} (N : News h₀ L s.heap news) (hm : (l, W.listOf (a :: (vs ++ [b])).toArray ep) ∈ news) (hf : vs.length < 2 ^ 60) (h : Q b s)
    (hs : subscripted slice false (.ref l) (.int (-1) u) = operate [.ref l, .int (-1) u] (getItem (.ref l) (.int (-1) u)) := by with_unfolding_all rfl) :
    wpAny (model prog w) A (subscriptTail value slice (.ref l) (.int (-1) u)) Q E s := by
  have hl := News.isList N hm
  have hz : (a :: (vs ++ [b])).toArray.size = vs.length + 2 := by simp
  refine tail_any hl.typeIs slot_list_getitem.lookup (wpAny_getItem_list_neg hl (by decide) (by rw [hz]; omega) (by decide) (x := b) ?_ h) hs
  rw [hz, show ((-1 : Int) + ((vs.length + 2 : Nat) : Int)).toNat = vs.length + 1 by omega]
  simp
end
--<M
local macro_rules | `(tactic| walk_at "call builtin:str.split") => `(tactic| (k_here; (with_reducible refine gdSplit ?_); k_dflt (refine' split_known ?k1 ?k2 ?k3 ?k4 ?k5 ?_; (case k1 | k2 => k_asm); (case k3 => assumption); (case k4 => decide); (case k5 => assumption); k_whole); intro D' t0' t1' vs' h' k' ha' F' N' l1; (have hlv' := PyProof.Rows.StrsAre.length ha'); (try k_lt l1)))
local macro_rules | `(tactic| walk_at "call builtin:str.find") => `(tactic| (k_here; (with_reducible show wpAny _ _ (call (Value.builtin "str.find") [Value.str _ _, Value.str _ _, Value.int _ _, Value.int _ _]) _ _ _); k_dflt (refine' find4 ?h0 ?_; (case h0 => omega); k_whole)))
local macro_rules | `(tactic| walk_at "call builtin:len") => `(tactic| (k_here; (with_reducible refine gdLen ?_); k_dflt (refine' len_list_any ?k1 ?k2 ?k3 ?_; (case k1 => k_asm); (case k2 => k_mem); (case k3 => (simp only [List.length_cons, List.length_append, List.length_nil]; omega)); k_whole); intro t' tk'; (simp only [List.length_cons, List.length_append, List.length_nil])))
local macro_rules | `(tactic| walk_at "subscriptTail") => `(tactic| (k_here; (with_reducible show wpAny _ _ (subscriptTail _ _ (Value.ref _) (Value.int (-1) _)) _ _ _); (with_unfolding_all refine' item_last ?k1 ?k2 ?k3 ?_ ?k5; (case k1 => k_asm); (case k2 => k_mem); (case k3 => omega); (case k5 => with_unfolding_all rfl); k_whole)))
--M>
set_option maxHeartbeats 8000000 in
theorem ell_claim (w : World) (mean : ExcName → Option Value) (mg mb : Str → Option Value) (news : Led) (want got : Str) (t u : Tok) (ss : List Str) (hin : (!(Builtin.Str.occurrences want dots 0 want.length 1).isEmpty) = true)
    (hsp : Txt.split want dots = Str.empty :: (ss ++ [Str.empty])) (hss : ss.length < 1000) (hsl : ∀ w ∈ ss, w.length < 1000) (hw : want.length < 1000) (hg : got.length < 1000) :
   Claim w mean mg mb 94 news [.str want t, .str got u] 3 (fun v news' => v = .bool (ellRun got (Str.empty :: (ss ++ [Str.empty])) 0) ∧ news' = news) := by
  unfold Claim
  w_top off
  k_fill
  have mine_on : MineOn := True.intro
  have eps_on : EpsOn := True.intro
  haveI := neSh; haveI := neAr; haveI := neWo
  revert w mean mg mb news want got t u ss
  intro w mean mg mb news want got t u ss hin hsp hss hsl hw hg
  intro dp un gd cn cs a ccd cl outer A₀ base h₀ L m s Q E B F X N T hk hd hu hret
  have hin' : (!!(Builtin.Str.occurrences want dots 0 want.length 1).isEmpty) = false := by rw [hin]; rfl
  k_steps
  rename_i g L1 _ FG B1 X1 T1 _ D t0 t1 vs _ _ hvs la hlv _ _ _ _ _ D2 _ lb _ _ _ _ _ _ _ it o h1 F1 N1 ho l9
  have hall : StrsAre (.str Str.empty t0 :: (vs ++ [.str Str.empty t1])) (Str.empty :: (ss ++ [Str.empty])) := .cons _ _ (strs_snoc hvs _ _)
  have hsl' : ∀ w ∈ Str.empty :: (ss ++ [Str.empty]), w.length < 1000 := by
    intro w hw
    rcases List.mem_cons.mp hw with rfl | hw
    · decide
    · rcases List.mem_append.mp hw with hw | hw
      · exact hsl w hw
      · rw [List.mem_singleton.mp hw]; decide
  have hn : (.str Str.empty t0 :: (vs ++ [.str Str.empty t1]) : List Value).length = (Str.empty :: (ss ++ [Str.empty])).length := hall.length
  refine Loop.iter (σ := Int × Tok) (iter_of_list it D _ 0) rfl (fun i c => 0 ≤ c.1 ∧ c.1 ≤ got.length ∧ ellRun got (Str.empty :: (ss ++ [Str.empty])) 0 = ellRun got ((Str.empty :: (ss ++ [Str.empty])).drop i) c.1.toNat)
    (fun c => [(Str.ofString "got", .str got u), (Str.ofString "startpos", .int c.1 c.2), (Str.ofString "endpos", .int (got.length : Int) _)])
    (fun _ => (D, W.listOf (.str Str.empty t0 :: (vs ++ [.str Str.empty t1])).toArray 0) :: news) (0, _) ⟨Int.le_refl _, Int.natCast_nonneg _, rfl⟩ ho
    (At.intro F1 N1 ⟨rfl, rfl, rfl, True.intro⟩ (List.forall_mem_cons.mpr ⟨.head _, List.forall_mem_cons.mpr ⟨.tail _ (.tail _ (.head _)), fun q hq => .tail _ (.tail _ (.tail _ hq))⟩⟩))
    (fun _ _ _ => fun q hq => by
      rcases List.mem_cons.mp hq with rfl | hq
      · exact Nat.ne_of_lt l9.2.1
      · exact Nat.ne_of_lt (allLt_mem l9.2.2 q hq)) (fun _ _ _ q hq => by rw [List.mem_singleton.mp hq]; exact .head _) ?_ ?_
  · intro i
    refine pr_all ?_
    intro p tp hi'
    rintro ⟨h0, h1, h2⟩
    intro v o h tk mm hv ho F N
    (have hx9 := strs_get hall hv; revert hx9; refine ex_imp ?_; intro y; refine ex_imp ?_; intro ty; rintro ⟨hy, rfl⟩)
    have hyl := hsl' y (List.mem_of_getElem? hy)
    have hdr : (Str.empty :: (ss ++ [Str.empty])).drop i = y :: (Str.empty :: (ss ++ [Str.empty])).drop (i + 1) := by
      obtain ⟨hl, he⟩ := List.getElem?_eq_some_iff.mp hy
      rw [List.drop_eq_getElem_cons hl, he]
    dsimp only [kstB] at h0 h1 h2 F
    rw [hdr] at h2
    rcases fnd_cases got y ((Str.empty :: (ss ++ [Str.empty])).drop (i + 1)) p.toNat with ⟨hf, he⟩ | ⟨hf, hf2, he⟩
    · k_steps
      try dsimp only [TurnI]
      k_steps
      exact hret _ _ _ _ (by k_asm) (cb_drop (by assumption) fun q hq => List.Mem.tail _ (List.Mem.tail _ hq)) ⟨by rw [h2, he], rfl⟩
    · k_steps
      exact TurnI.next (fnd got y p.toNat + y.length, _) (by k_asm) (by k_asm) ⟨by dsimp only; omega, hf2, by rw [h2, he]⟩ ⟨rfl, rfl, rfl, True.intro⟩ ho fun q hq => hq
  · refine pr_all ?_
    intro p tp
    rintro ⟨h0, h1, h2⟩
    intro h tk mm F N
    dsimp only [kstB] at h0 h1 h2 F
    k_steps
    refine hret _ _ _ _ (by k_asm) (cb_drop (by assumption) fun q hq => List.Mem.tail _ hq) ⟨?_, rfl⟩
    rw [h2, hn, List.drop_length]
    rfl

section
open PySem.Builtin
theorem owner_callit : Manifest.owners.lookup (String.ofList ['r', 'o', 't', 'a', 'r', 'e', 't', 'i', '_', 'e', 'l', 'b', 'a', 'l', 'l', 'a', 'c'].reverse) = some Manifest.sig_callable_iterator := by kernel_rfl
theorem slot_callit_next : Slot "callable_iterator" "__next__" "callable_iterator.__next__" :=
  .of (owner := "callable_iterator") (n := "__next__") (by rw [typeLookup_type, builtinLookup_eq_fast]; kernel_rfl) (by decide +kernel) (by decide +kernel) (by decide +kernel)
    (by first | exact .inl (by decide +kernel) | exact .inr (by decide +kernel)) (by rw [isSubtype_type]; kernel_rfl)
theorem entry_callit_next : entryFor table "callable_iterator.__next__" = some Builtin.«callable_iterator.__next__» := entryFor_of_tree (by kernel_rfl)
theorem args_callit_next (a : Value) : argsOk "callable_iterator.__next__" ⟨[a], []⟩ := by
  unfold argsOk; rw [signature?_of (id := "callable_iterator.__next__") (n := ['_', '_', 't', 'x', 'e', 'n', '_', '_']) (o := ['r', 'o', 't', 'a', 'r', 'e', 't', 'i', '_', 'e', 'l', 'b', 'a', 'l', 'l', 'a', 'c']) (by kernel_rfl) owner_callit]; kernel_rfl
theorem slot_callit_iter : Slot "callable_iterator" "__iter__" "callable_iterator.__iter__" :=
  .of (owner := "callable_iterator") (n := "__iter__") (by rw [typeLookup_type, builtinLookup_eq_fast]; kernel_rfl) (by decide +kernel) (by decide +kernel) (by decide +kernel)
    (by first | exact .inl (by decide +kernel) | exact .inr (by decide +kernel)) (by rw [isSubtype_type]; kernel_rfl)
theorem entry_callit_iter : entryFor table "callable_iterator.__iter__" = some Builtin.«dict_keyiterator.__iter__» :=
  entryFor_alias (id' := "dict_keyiterator.__iter__") (by rw [fastTable_eq_tree]; kernel_rfl) rfl (by decide +kernel) (by rw [fastTable_eq_tree]; kernel_rfl)
theorem args_callit_iter (a : Value) : argsOk "callable_iterator.__iter__" ⟨[a], []⟩ := by unfold argsOk; kernel_rfl
/-- iter(f, '') -/
@[reducible] noncomputable def callIt (q : Addr) (ts : Tok) : Obj := { cls := .type "callable_iterator", data := .fields #[.ref q, .str Str.empty ts, .bool false] }
@[reducible] noncomputable def callEnd : Obj := { cls := .type "callable_iterator", data := .fields #[.none, .none, .bool true] }
section
variable {prog : Program} {w : World} {A : Around} {E : Value → Shared → Prop} {s : Shared}
theorem wpAny_callBorrowed {f : Value} {pos : List Value} {Q : Value → Shared → Prop} (h : wpAny (model prog w) A (call f pos) Q E s) : wpAny (model prog w) A (callBorrowed f pos) Q E s := by
  intro Γ p hΓ
  have h' := h Γ p hΓ
  unfold callBorrowed
  unfold call runValue run at h'
  rw [Sem.wp_bind', Sem.wp_call] at h'
  rw [Sem.wp_call]
  refine wpCode_mono (fun r s' hr => ?_) h'
  cases r with
  | error e => exact hr
  | ok f => cases f <;> exact hr
theorem borrows_meth {q fi : Addr} {x : Value} {od : Option Addr} {oc : Value} {fd : FuncData} {sl : Array (Option Value)} {Q : Bool → Shared → Prop} (hq : s.heap.get? q = some (methodObj (.ref fi) x)) (hf : s.heap.get? fi = some ⟨oc, od, .func fd, sl⟩) (h : Q true s) :
    wpAny (model prog w) A (borrowsExactly (.ref q)) Q E s := by
  unfold borrowsExactly
  refine wpAny_bind (wpAny_load hq ?_)
  show wpAny _ _ (do match (← load fi).data with | .func _ => pure true | _ => pure false) _ _ s
  exact wpAny_bind (wpAny_load hf (wpAny_pure h))
/-- StopIteration, as pyNext takes it -/
theorem stop_raised {α : Type} {Q : Option Value → Shared → Prop} {Q1 : α → Shared → Prop} (hh : A.handled = none) (h : ∀ h', (∀ b o, s.heap.get? b = some o → h'.get? b = some o) → Q none { s with heap := h' }) :
    wpAny (model prog w) A.in1 (SmallTypes.stopIteration : Sem α) Q1 (fun e s' => wpAny (model prog w) A (do if ← isInstance e (.type "StopIteration") then pure none else throw e) Q E s') s := by
  show wpAny _ _ (newExc (.type "StopIteration") [] >>= _) _ _ _
  refine wpAny_bind ?_
  simp only [newExc, newTuple]
  refine wpAny_bind (wpAny_newObj_type ?_ (by size_fits))
  refine wpAny_bind (m := firstArgMember _ _) (wpAny_of_eq (a := Value.none) (by first | rfl | (simp only [firstArgMember]; rfl)) ?_)
  refine wpAny_newObj_type ?_ (by size_fits)
  simp only [raiseNew]
  refine wpAny_bind (wpAny_handled ?_)
  rw [show A.in1.handled = none from hh]
  refine wpAny_bind (wpAny_pure (wpAny_throw ?_))
  refine wpAny_bind (wpAny_isInstance (T := "StopIteration") (b := true) ⟨_, Heap.get?_push_size _ rfl, rfl⟩ isSubtype_stop ?_)
  exact wpAny_pure (h _ fun b o e => Heap.get?_push_of_some _ (Heap.get?_push_of_some _ e))
theorem next_ended {it : Addr} {Q : Option Value → Shared → Prop} (hh : A.handled = none) (hit : s.heap.get? it = some callEnd) (h : ∀ h', (∀ b o, s.heap.get? b = some o → h'.get? b = some o) → Q none { s with heap := h' }) :
    wpAny (model prog w) A (pyNext (.ref it)) Q E s := by
  have hT : s.TypeIs (.ref it) "callable_iterator" := ⟨_, hit, rfl⟩
  unfold pyNext
  refine wpAny_bind (wpAny_attempt (wpAny_callSpecial?_slot (name := Str.ofString "__next__") hT slot_callit_next
    (wpAny_call_entry slot_callit_next hT entry_callit_next ?_ (args_callit_next _))))
  show wpAny _ _ (field (.ref it) 2 >>= _) _ _ s
  refine wpAny_bind (wpAny_field hit rfl (x := .bool true) rfl ?_)
  refine wpAny_bind (wpAny_rule ?_)
  first | exact stop_raised hh h | exact wpAny_bind (stop_raised hh h)
theorem next_call {it q fi : Addr} {x : Value} {ts : Tok} {od : Option Addr} {oc : Value} {fd : FuncData} {sl : Array (Option Value)} {Q : Option Value → Shared → Prop} (hh : A.handled = none) (hit : s.heap.get? it = some (callIt q ts)) (hq : s.heap.get? q = some (methodObj (.ref fi) x)) (hf : s.heap.get? fi = some ⟨oc, od, .func fd, sl⟩)
    (hc : wpAny (model prog w) A.in1 (call (.ref q) []) (fun v s' => ∃ y t, v = .str y t ∧ s'.heap.get? it = some (callIt q ts) ∧ s'.heap.get? q = some (methodObj (.ref fi) x) ∧ s'.heap.get? fi = some ⟨oc, od, .func fd, sl⟩ ∧
      (if y = Str.empty then ∀ h', Heap.ExtBut it s'.heap h' → h'.get? it = some callEnd → Q none { s' with heap := h' } else Q (some v) s')) (fun _ _ => False) s) :
    wpAny (model prog w) A (pyNext (.ref it)) Q E s := by
  have hT : s.TypeIs (.ref it) "callable_iterator" := ⟨_, hit, rfl⟩
  unfold pyNext
  refine wpAny_bind (wpAny_attempt (wpAny_callSpecial?_slot (name := Str.ofString "__next__") hT slot_callit_next
    (wpAny_call_entry slot_callit_next hT entry_callit_next ?_ (args_callit_next _))))
  show wpAny _ _ (field (.ref it) 2 >>= _) _ _ s
  refine wpAny_bind (wpAny_field hit rfl (x := .bool false) rfl ?_)
  show wpAny _ _ (field (.ref it) 0 >>= fun f => (callOutOfASlot f).attempt >>= _) _ _ s
  refine wpAny_bind (wpAny_field hit rfl (x := .ref q) rfl ?_)
  refine wpAny_bind (wpAny_attempt ?_)
  unfold callOutOfASlot
  refine wpAny_bind (borrows_meth hq hf ?_)
  rw [if_pos rfl]
  refine wpAny_mono (wpAny_callBorrowed hc) (fun v s' hv => ?_) fun e s' he => ?_
  · obtain ⟨y, t, rfl, hit', hq', hf', hQ⟩ := hv
    show wpAny _ _ (field (.ref it) 2 >>= _) _ _ s'
    refine wpAny_bind (wpAny_field hit' rfl (x := .bool false) rfl ?_)
    show wpAny _ _ (field (.ref it) 1 >>= fun x => holding [.str y t] (eqBool x (.str y t)) >>= _) _ _ s'
    refine wpAny_bind (wpAny_field hit' rfl (x := .str Str.empty ts) rfl ?_)
    refine wpAny_bind (wpAny_holding (wpAny_eqBool_str ?_))
    by_cases hy : y = Str.empty
    · rw [if_pos hy] at hQ
      subst hy
      rw [decide_eq_true rfl]
      refine wpAny_bind (wpAny_rule ?_)
      show wpAny _ _ ((field (.ref it) 0 >>= fun o => slotLetsGo _ o _ >>= fun _ => setField (.ref it) 0 .none >>= fun _ => setField (.ref it) 1 .none >>= fun _ => setField (.ref it) 2 (.bool true)) >>= _) _ _ s'
      refine wpAny_bind (wpAny_bind (wpAny_field hit' rfl (x := .ref q) rfl ?_))
      refine wpAny_bind ?_
      unfold slotLetsGo
      refine wpAny_bind (borrows_meth hq' hf' ?_)
      rw [if_pos rfl]
      refine wpAny_pure ?_
      have g1 : (s'.heap.update it (Obj.mapFields (·.setIfInBounds 0 .none))).get? it = some { cls := .type "callable_iterator", data := .fields #[.none, .str Str.empty ts, .bool false] } := Heap.get?_update_self _ hit' rfl
      refine wpAny_bind (wpAny_setField hit' rfl (by simp) ?_)
      have g2 : ((s'.heap.update it (Obj.mapFields (·.setIfInBounds 0 .none))).update it (Obj.mapFields (·.setIfInBounds 1 .none))).get? it = some { cls := .type "callable_iterator", data := .fields #[.none, .none, .bool false] } := Heap.get?_update_self _ g1 rfl
      refine wpAny_bind (wpAny_setField g1 rfl (by simp) ?_)
      have g3 : (((s'.heap.update it (Obj.mapFields (·.setIfInBounds 0 .none))).update it (Obj.mapFields (·.setIfInBounds 1 .none))).update it (Obj.mapFields (·.setIfInBounds 2 (.bool true)))).get? it = some callEnd := Heap.get?_update_self _ g2 rfl
      refine wpAny_setField g2 rfl (by simp) ?_
      have hs : Heap.ExtBut it s'.heap (((s'.heap.update it (Obj.mapFields (·.setIfInBounds 0 .none))).update it (Obj.mapFields (·.setIfInBounds 1 .none))).update it (Obj.mapFields (·.setIfInBounds 2 (.bool true)))) :=
        (((Heap.SameBut.update ..).trans (Heap.SameBut.update ..)).trans (Heap.SameBut.update ..)).extBut
      generalize (((s'.heap.update it (Obj.mapFields (·.setIfInBounds 0 .none))).update it (Obj.mapFields (·.setIfInBounds 1 .none))).update it (Obj.mapFields (·.setIfInBounds 2 (.bool true)))) = h3 at g3 hs
      exact stop_raised hh fun h' hk => hQ h' (fun b o hb e => hk b o (hs b o hb e)) (hk _ _ g3)
    · rw [if_neg hy] at hQ
      rw [decide_eq_false (fun e => hy e.symm)]
      exact wpAny_pure ⟨_, rfl, wpAny_pure hQ⟩
  · exact he.elim
theorem pyIter_callit {it : Addr} {vs : Array Value} {Q : Value → Shared → Prop} (hit : s.heap.get? it = some { cls := .type "callable_iterator", data := .fields vs }) (h : Q (.ref it) s) : wpAny (model prog w) A (pyIter (.ref it)) Q E s := by
  have hT : s.TypeIs (.ref it) "callable_iterator" := ⟨_, hit, rfl⟩
  refine wpAny_pyIter_slot hT slot_callit_iter (wpAny_call_entry slot_callit_iter hT entry_callit_iter ?_ (args_callit_iter _))
  show wpAny _ _ (ret (.ref it)) _ _ s
  exact wpAny_pure ⟨_, rfl, "callable_iterator", _, hT, slot_callit_next.lookup, h⟩
theorem entry_iter2 : entryFor table "iter" = some Builtin.«iter» := entryFor_of_tree (by kernel_rfl)
theorem args_iter2 (a b : Value) : argsOk "iter" ⟨[a, b], []⟩ := by unfold argsOk; kernel_rfl
theorem call_of_method : typeLookup (.type "method") "__call__" = pure (some (.builtin "method.__call__")) := by rw [typeLookup_type, builtinLookup_eq_fast]; kernel_rfl
theorem iter2 {h₀ : Heap} {L : Addr} {m : Env1} {news : Led} {q fi : Addr} {x : Value} {ts : Tok} {Q : Value → Shared → Prop} (F : Fr h₀ L s.heap m) (N : News h₀ L s.heap news) (hq : (q, methodObj (.ref fi) x) ∈ news)
    (h : ∀ it h', Fr h₀ L h' m → News h₀ L h' ((it, callIt q ts) :: news) → (∀ p ∈ news, p.1 < it) → Q (.ref it) { s with heap := h' }) :
    wpAny (model prog w) A (call (.builtin "iter") [.ref q, .str Str.empty ts]) Q E s := by
  refine call_function_entry (by decide +kernel) (by decide +kernel) entry_iter2 (args_iter2 _ _) ?_
  show wpAny _ _ (specialOf (.ref q) "__call__" >>= _) _ _ s
  refine wpAny_bind (wpAny_specialOf (T := "method") ⟨_, (N _ hq).1, rfl⟩ call_of_method ?_)
  refine wpAny_bind (wpAny_rule ?_)
  refine wpAny_bind (wpAny_newObj_type (wpAny_pure ⟨_, rfl, h _ _ (F.push _) (N.push F _) fun p hp => Heap.lt_size (N p hp).1⟩) (by size_fits))
end
end

--<M
local macro_rules | `(tactic| walk_at "call builtin:iter") => `(tactic| (k_here; (with_reducible refine gdIter ?_); k_dflt (refine' iter2 ?F ?N ?q ?_; (case F | N => k_asm); (case q => k_mem); k_whole); intro it' h' F' N' l1; (try k_lt l1)))
local macro_rules | `(tactic| walk_at "pyIter ref") => `(tactic| (k_here; (with_reducible refine gdItR ?_); k_dflt (refine' pyIter_callit ?N ?_; (case N => exact (News.get (by k_asm) (by k_mem))); k_whole)))
--M>

/-- the signs of a text, each a text -/
@[reducible] noncomputable def chars (cs : List Nat) : List Str := cs.map fun c => ⟨#[c]⟩
theorem strs_of : ∀ {vs : List Value} {ys : List Str}, vs.length = ys.length → (∀ (i : Nat) (v : Value), vs[i]? = some v → ∃ (y : Str) (t : Tok), ys[i]? = some y ∧ v = Value.str y t) → StrsAre vs ys
  | [], [], _, _ => .nil
  | v :: vs, y :: ys, hl, h => by
    obtain ⟨y', t, e, rfl⟩ := h 0 v rfl
    have e' : y = y' := by simpa using e
    subst e'
    exact .cons y t (strs_of (by simpa using hl) fun i w hw => h (i + 1) w (by simpa using hw))
section
variable {prog : Program} {w : World} {A : Around} {E : Value → Shared → Prop} {s : Shared} {Q : Value → Shared → Prop} {h₀ : Heap} {L : Addr} {m : Env1} {news : Led}
theorem list_str {x : Str} {t : Tok} (hh : A.handled = none) (F : Fr h₀ L s.heap m) (N : News h₀ L s.heap news) (hx : x.length < 1000)
    (h : ∀ D vs k h' tk, StrsAre vs (chars x.cps.toList) → Fr h₀ L h' m → News h₀ L h' ((D, W.listOf vs.toArray k) :: news) → (∀ p ∈ news, p.1 < D) → Q (.ref D) { s with heap := h', toks := tk }) :
    wpAny (model prog w) A (call (.type "list") [.str x t]) Q E s := by
  refine call_list_str hh x t (fun h' tk acc' c' hk hg hi => ?_) (by rw [sizeLine_eq]; show x.length ≤ _; omega)
  refine h _ acc'.toList c' h' tk ?_ (F.keeps hk) ?_ fun p hp => Heap.lt_size (N p hp).1
  · obtain ⟨e1, e2⟩ := hi
    refine strs_of (by simp [e1]) fun i v hv => ?_
    obtain ⟨c, u, hc, rfl⟩ := e2 i v (by simpa using hv)
    exact ⟨_, u, by simp [hc], rfl⟩
  · intro p hp
    rcases List.mem_cons.mp hp with rfl | hp
    · refine ⟨by simpa using hg, Nat.ne_of_gt F.ns.lt, ?_⟩
      cases hq : h₀.get? s.heap.objs.size with
      | none => rfl
      | some o' => exact absurd (Heap.lt_size (F.keep _ _ hq)) (Nat.lt_irrefl _)
    · exact ⟨hk _ _ (N p hp).1, (N p hp).2⟩
end
--<M
local macro_rules | `(tactic| walk_at "call type:list") => `(tactic| (k_here; (with_reducible refine gdListStr ?_); k_dflt (refine' list_str ?k0 ?k1 ?k2 ?k3 ?_; (case k0 => exact rfl); (case k1 | k2 => k_asm); (case k3 => assumption); k_whole); intro D' vs' k' h' tk' ha' F' N' l1; (try k_lt l1)))
--M>
section
variable {prog : Program} {w : World} {A : Around} {E : Value → Shared → Prop} {s : Shared} {h₀ : Heap} {L : Addr} {m : Env1} {news news' : Led}
theorem pop0 {D : Addr} {y : Value} {vs : List Value} {n : Nat} {u : Tok} {Q : Value → Shared → Prop} (F : Fr h₀ L s.heap m) (N : News h₀ L s.heap news) (U : Upd D (W.listOf (y :: vs).toArray n) (W.listOf vs.toArray (n + 1)) news news') (hz : vs.length < 100000)
    (h : ∀ h', Fr h₀ L h' m → News h₀ L h' news' → Q y { s with heap := h' }) : wpAny (model prog w) A (call (.builtin "list.pop") [.ref D, .int 0 u]) Q E s :=
  kl_popAt (k := 0) (p := []) (q := vs) F N rfl (by unfold seqIndex?; simp) rfl U (by rw [sizeLine_eq]; simp only [List.length_cons]; omega) h
theorem truthy_cons {D : Addr} {y : Value} {vs : List Value} {n : Nat} {Q : Bool → Shared → Prop} (N : News h₀ L s.heap news) (hm : (D, W.listOf (y :: vs).toArray n) ∈ news) (hz : vs.length < 100000) (h : ∀ tk, Q true { s with toks := tk }) :
    wpAny (model prog w) A (truthy (.ref D)) Q E s := by
  refine wpAny_truthy_list (News.isList N hm) (by rw [List.size_toArray]; simp only [List.length_cons]; omega) ?_
  have e : (!(y :: vs).toArray.isEmpty) = true := by simp
  rw [e]; exact h _
theorem truthy_nil {D : Addr} {n : Nat} {Q : Bool → Shared → Prop} (N : News h₀ L s.heap news) (hm : (D, W.listOf #[] n) ∈ news) (h : ∀ tk, Q false { s with toks := tk }) :
    wpAny (model prog w) A (truthy (.ref D)) Q E s := wpAny_truthy_list (News.isList N hm) (by decide) (h _)
end
theorem cellNe {L : Addr} {news : Led} (h : AllLt L news) : ∀ p ∈ news, p.1 ≠ L + 1 := fun p hp => Nat.ne_of_lt (Nat.lt_succ_of_lt (allLt_mem h p hp))
--<M
local macro_rules | `(tactic| k_all) => `(tactic| first | assumption | exact cellNe (by assumption))
local macro_rules | `(tactic| walk_at "call builtin:list.pop") => `(tactic| (k_here; (with_reducible refine gdPop ?_); k_dflt (refine' pop0 ?F ?N ?U ?z ?_; (case F | N => k_asm); (case U => k_upd); (case z => omega); k_whole); intro h' F' N'; (try dsimp only at N')))
local macro_rules | `(tactic| walk_at "truthy ref") => `(tactic| (k_here; (with_reducible refine gdTruthy ?_); k_dflt (first | (refine' truthy_cons ?N ?m ?z ?_; (case N => k_asm); (case m => k_mem); (case z => omega); k_whole) | (refine' truthy_nil ?N ?m ?_; (case N => k_asm); (case m => k_mem); k_whole)); intro tk'))
--M>
@[reducible] noncomputable def lexDict (w : World) (ln ins ws pb : Value) (k1 k2 k3 k4 : Tok) : Obj := dictOf [
  { hash := PyData.keyHash w.params (Str.ofString "lineno"), key := .str (Str.ofString "lineno") k1, val := ln },
  { hash := PyData.keyHash w.params (Str.ofString "instream"), key := .str (Str.ofString "instream") k2, val := ins },
  { hash := PyData.keyHash w.params (Str.ofString "whitespace"), key := .str (Str.ofString "whitespace") k3, val := ws },
  { hash := PyData.keyHash w.params (Str.ofString "pushback"), key := .str (Str.ofString "pushback") k4, val := pb }] 4
noncomputable def hdS : List Nat → Str
  | [] => Str.empty
  | c :: _ => ⟨#[c]⟩
/-- a lexer's parameters that no read changes -/
structure LX where
  x : Addr
  d : Addr
  Dl : Addr
  pb : Addr
  x1 : Addr
  tw : Tok
  k1 : Tok
  k2 : Tok
  k3 : Tok
  k4 : Tok
theorem neLX : Nonempty LX := ⟨⟨0, 0, 0, 0, 0, 0, 0, 0, 0, 0⟩⟩
@[reducible] noncomputable def LX.led (X : LX) (w : World) (ln : Int) (tl : Tok) (vs : List Value) (k : Nat) : Led :=
  [(X.d, lexDict w (.int ln tl) (.ref X.x1) (.str (Str.ofString "\n\t\r ") X.tw) (.ref X.pb) X.k1 X.k2 X.k3 X.k4), (X.Dl, W.listOf vs.toArray k), (X.x, instObj 132 X.d)]
/-- what a call of _read_char does -/
noncomputable def RdOk (w : World) (mean : ExcName → Option Value) (mg mb : Str → Option Value) (X : LX) (fixed : Led) : Prop :=
  ∀ (dp un : Nat) (gd : Option (List Code)) (cn : Str) (cs : Scope) (a : Addr) (ccd : Value) (cl : List (Str × Addr)) (outer : List Env) (A₀ : Around) (base h₀ : Heap) (L : Addr) (m : Str → Option Value) (s : Shared) (R : Result → Shared → Prop) (news : Led)
    (chs : List Nat) (vs : List Value) (k : Nat) (ln : Int) (tl : Tok),
    Below A₀ base outer h₀ → Fr h₀ L s.heap m → (Mine.hd.heap_39 w.params).In h₀ → News h₀ L s.heap (X.led w ln tl vs k ++ (fixed ++ news)) → Top topProg looseT mean mg mb h₀ → CodeHd base 142 138 → cs.kind = .function →
    dp + 3 < recursionLimit → un + 8 * 3 < cLine → StrsAre vs (chars chs) → (∀ p ∈ news, p.1 ≠ X.d) → (∀ p ∈ news, p.1 ≠ X.Dl) → 0 ≤ ln → ln + chs.length < 1000000 → chs.length < 10000 →
    (∀ t vs' k' ln' tl' h' tk', Fr h₀ L h' m → News h₀ L h' (X.led w ln' tl' vs' k' ++ (fixed ++ news)) → StrsAre vs' (chars chs.tail) → 0 ≤ ln' → ln' + chs.tail.length < 1000000 → R (.ok (.ret (.str (hdS chs) t))) { s with heap := h', toks := tk' }) →
    codeAny (model PySem.Challenge.rw_pg0243_02.row.prog w) (ktrTop dp un gd cn cs L a ccd cl outer) (.call (.ref 115) ⟨[.ref X.x], []⟩) R s
set_option maxHeartbeats 8000000 in
theorem lex_claim (w : World) (mean : ExcName → Option Value) (mg mb : Str → Option Value) (text : Str) (t : Tok) (hb : text.length < 1000) :
  ∀ (dp un : Nat) (gd : Option (List Code)) (cn : Str) (cs : Scope) (a : Addr) (ccd : Value) (cl : List (Str × Addr)) (outer : List Env) (A₀ : Around) (base h₀ : Heap) (L : Addr) (m : Str → Option Value) (s : Shared) (Q E : Value → Shared → Prop) (news : Led),
    (Mine.hd.heap_39 w.params).In h₀ → CodeHd base 142 138 → Below A₀ base outer h₀ → Fr h₀ L s.heap m → News h₀ L s.heap ((138, tabObj #[]) :: news) → (∀ p ∈ news, p.1 ≠ 138) → Top topProg looseT mean mg mb h₀ → cs.kind = .function →
    dp + 5 < recursionLimit → un + 8 * 5 < cLine →
    (∀ (X : LX) (vs : List Value) (k : Nat) (tl : Tok) (fixed : Led) (ps : Array Value) (h' : Heap) (tk' : Nat), Fr h₀ L h' m → News h₀ L h' (X.led w 1 tl vs k ++ ((X.pb, W.listOf #[] 0) :: (fixed ++ ((138, tabObj ps) :: news)))) → RdOk w mean mg mb X fixed → StrsAre vs (chars text.cps.toList) →
      (∀ p ∈ (138, tabObj ps) :: news, p.1 < X.Dl) → X.Dl < X.d → X.d < X.x → X.x < X.pb → (∀ p ∈ fixed, p.1 < X.d ∧ p.1 ≠ X.Dl ∧ ∀ q ∈ (138, tabObj ps) :: news, @LT.lt Nat _ q.1 p.1) → Q (.ref X.x) { s with heap := h', toks := tk' }) →
      wpAny (model PySem.Challenge.rw_pg0243_02.row.prog w) (ktrTop dp un gd cn cs L a ccd cl outer) (call (.ref 143) [.str text t]) Q E s := by
  w_top off
  k_fill
  have mine_on : MineOn := True.intro
  have eps_on : EpsOn := True.intro
  haveI := neSh; haveI := neAr; haveI := neWo
  revert w mean mg mb text t
  intro w mean mg mb text t hb
  intro dp un gd cn cs a ccd cl outer A₀ base h₀ L m s Q E news X codeHd B F N h138 T hk hd hu hret
  k_steps
  rename_i g0 Lf z1 z2 z3 z4 X1 z5 la o1 z6 zq1 zq2 Dl vs k z7 z8 ha lb z9 oc1 hcell z10 x1 d1 z11 lc ld z12 z13 z14 z15 z16 z17 z18 z19 z20 z21 z22 z23 pb1 z24 le z25 z26 z27 z28 z29 z30 z31 z32 f c oc vs2 tq ct dc z33 z34 hoc hoc2 lf lg z35 z36 x d z37 z38 z39 lh li z40 z41 z42 z43 z44 z45 z46 z47 z48 z49 z50 pb z51 lj z52 z53 z54 z55 z56 z57 z58 kF kN z59 z60
  refine hret ⟨x, d, Dl, pb, x1, _, _, _, _, _⟩ vs k _ [(f, _), (c, oc), (pb1, W.listOf #[] 0), (x1, instObj 132 d1), (d1, _), (Lf + 1, oc1)] _ _ _ kF (cb_drop kN (by
    dsimp only [List.cons_append, List.nil_append]
    refine List.forall_mem_cons.mpr ⟨by k_mem, List.forall_mem_cons.mpr ⟨by k_mem, List.forall_mem_cons.mpr ⟨by k_mem, List.forall_mem_cons.mpr ⟨by k_mem, List.forall_mem_cons.mpr ⟨by k_mem, List.forall_mem_cons.mpr ⟨by k_mem, List.forall_mem_cons.mpr ⟨by k_mem, List.forall_mem_cons.mpr ⟨by k_mem, List.forall_mem_cons.mpr ⟨by k_mem, List.forall_mem_cons.mpr ⟨by k_mem, List.forall_mem_cons.mpr ⟨by k_mem, fun p hp => by repeat' (first | exact hp | apply List.Mem.tail)⟩⟩⟩⟩⟩⟩⟩⟩⟩⟩⟩)) ?_ ha ?_ ?_ ?_ ?_ ?_
  · clear hret kF kN
    try clear hqk qk
    try clear z60
    try clear z59
    try clear z58
    try clear z57
    try clear z56
    try clear z55
    try clear z54
    try clear z53
    try clear z52
    try clear z51
    try clear z50
    try clear z49
    try clear z48
    try clear z47
    try clear z46
    try clear z45
    try clear z44
    try clear z43
    try clear z42
    try clear z41
    try clear z40
    try clear z39
    try clear z38
    try clear z37
    try clear z36
    try clear z35
    try clear z34
    try clear z33
    try clear z32
    try clear z31
    try clear z30
    try clear z29
    try clear z28
    try clear z27
    try clear z26
    try clear z25
    try clear z24
    try clear z23
    try clear z22
    try clear z21
    try clear z20
    try clear z19
    try clear z18
    try clear z17
    try clear z16
    try clear z15
    try clear z14
    try clear z13
    try clear z12
    try clear z11
    try clear z10
    try clear z9
    try clear z8
    try clear z7
    try clear z6
    try clear zq2
    try clear zq1
    try clear z5
    try clear z4
    try clear z3
    try clear z2
    try clear z1
    clear N codeHd h138
    unfold RdOk
    intro dp un gd cn cs a ccd cl outer A₀ base h₀ L m s R news chs vs k ln tl B F X N T codeHd hk hd hu hvs hn1 hn2 hl0 hl1 hl2 hR
    dsimp only [LX.led, List.cons_append, List.nil_append] at N hn1 hn2 hR
    have hch : chs = [] ∨ ∃ ch, ∃ r, chs = ch :: r := by
      cases chs with
      | nil => exact .inl rfl
      | cons ch r => exact .inr ⟨ch, r, rfl⟩
    rcases hch with rfl | hch
    · cases hvs
      k_dflt cell_enter
      k_steps
      exact hR _ [] k ln tl _ _ (by k_asm) (by k_asm) .nil hl0 hl1
    · revert hch
      refine ex_imp ?_
      intro ch
      refine ex_imp ?_
      intro r
      rintro rfl
      have hv1 : ∃ vs1, ∃ t1, vs = .str ⟨#[ch]⟩ t1 :: vs1 ∧ StrsAre vs1 (chars r) := by cases hvs with | cons y t h => exact ⟨_, _, rfl, h⟩
      revert hv1
      refine ex_imp ?_
      intro vs1
      refine ex_imp ?_
      intro t1
      rintro ⟨rfl, hvs1⟩
      have hvl := hvs1.length
      simp only [List.length_map, List.length_cons] at hvl hl1 hl2
      clear hvs
      k_dflt cell_enter
      k_steps
      · exact hR t1 vs1 (k + 1) (ln + 1) _ _ _ (by k_asm) (by k_asm) hvs1 (by omega) (by show ln + 1 + (r.length : Int) < 1000000; omega)
      · exact hR t1 vs1 (k + 1) ln _ _ _ (by k_asm) (by k_asm) hvs1 hl0 (by show ln + (r.length : Int) < 1000000; omega)
  · intro p hp
    rcases List.mem_cons.mp hp with rfl | hp
    · exact lb.2.1
    · exact allLt_mem lb.2.2 p hp
  · exact lh.2.2.2.2.2.1
  · exact li
  · exact lj.1
  · obtain ⟨a1, a2, a3, a4, a5, a6, a7, -⟩ := lh
    obtain ⟨b1, b2, b3, b4, b5, -⟩ := lf
    obtain ⟨c1, c2, c3, c4, -⟩ := le
    have hL : ∀ (o : Obj), ∀ q ∈ (138, o) :: news, @LT.lt Nat _ (q.1 + 1) (Lf + 1) := fun o q hq => Nat.succ_lt_succ (by
      rcases List.mem_cons.mp hq with rfl | hq
      · exact la.1
      · exact allLt_mem la.2 q hq)
    have up : ∀ z : Nat, @LT.lt Nat _ (Lf + 1) z → ∀ (o : Obj), ∀ q ∈ (138, o) :: news, @LT.lt Nat _ q.1 z := fun z hz o q hq => Nat.lt_trans (Nat.lt_succ_self _) (Nat.lt_trans (hL o q hq) hz)
    intro p hp
    simp only [List.mem_cons, List.not_mem_nil, or_false] at hp
    rcases hp with rfl | rfl | rfl | rfl | rfl | rfl
    · exact ⟨a1, Nat.ne_of_gt (Nat.lt_trans b4 lg), up _ (Nat.lt_trans b5 lg) _⟩
    · exact ⟨a2, Nat.ne_of_gt b4, up _ b5 _⟩
    · exact ⟨a3, Nat.ne_of_gt c3, up _ c4 _⟩
    · exact ⟨a4, Nat.ne_of_gt (Nat.lt_trans lc.1 ld), up _ (Nat.lt_trans lc.2.1 ld) _⟩
    · exact ⟨a5, Nat.ne_of_gt lc.1, up _ lc.2.1 _⟩
    · exact ⟨a7, Nat.ne_of_lt lb.1, fun q hq => Nat.lt_of_succ_lt (hL _ q hq)⟩

theorem led_end {h₀ h h' : Heap} {L it : Addr} {m : Env1} {o o' : Obj} {l1 l2 : Led} (F : Fr h₀ L h m) (N : News h₀ L h (l1 ++ (it, o) :: l2)) (h1 : Apart it l1) (h2 : Apart it l2) (hs : Heap.ExtBut it h h') (ho : h'.get? it = some o') :
    Fr h₀ L h' m ∧ News h₀ L h' (l1 ++ (it, o') :: l2) := by
  have hi := N (it, o) (List.mem_append_right _ (.head _))
  obtain ⟨oL, es, ep, hL, r⟩ := F.ns
  refine ⟨⟨⟨oL, es, ep, hs _ _ (Ne.symm hi.2.1) hL, r⟩, fun b x q => hs _ _ (fun z => ?_) (F.keep b x q), F.above⟩, fun p hp => ?_⟩
  · have := hi.2.2; rw [← z, q] at this; cases this
  · rcases List.mem_append.mp hp with hp | hp
    · have := N p (List.mem_append_left _ hp)
      exact ⟨hs _ _ (h1 p hp) this.1, this.2⟩
    · rcases List.mem_cons.mp hp with rfl | hp
      · exact ⟨ho, hi.2⟩
      · have := N p (List.mem_append_right _ (.tail _ hp))
        exact ⟨hs _ _ (h2 p hp) this.1, this.2⟩
noncomputable def isWs (c : Nat) : Bool := c == 10 || c == 9 || c == 13 || c == 32
section
variable {w : World} {mean : ExcName → Option Value} {mg mb : Str → Option Value} {dp un : Nat} {gd : Option (List Code)} {cn : Str} {cs : Scope} {a : Addr} {ccd : Value} {cl : List (Str × Addr)} {outer : List Env} {A₀ : Around} {base h₀ : Heap} {L : Addr} {m : Str → Option Value} {s : Shared} {news : Led} {X : LX} {fixed : Led} {E : Value → Shared → Prop}
theorem rd_fn (h : (Mine.hd.heap_39 w.params).In h₀) : ∃ oc od fd sl, h₀.get? 115 = some ⟨oc, od, .func fd, sl⟩ := ⟨_, _, _, _, h 115 _ rfl⟩
/-- a turn of iter(self._read_char, '') -/
theorem next_lex {q it : Addr} {ts : Tok} {chs : List Nat} {vs : List Value} {k : Nat} {ln : Int} {tl : Tok} {Q : Option Value → Shared → Prop} (rd : RdOk w mean mg mb X fixed)
    (B : Below A₀ base outer h₀) (F : Fr h₀ L s.heap m) (XK : (Mine.hd.heap_39 w.params).In h₀) (N : News h₀ L s.heap (X.led w ln tl vs k ++ (fixed ++ ((it, callIt q ts) :: (q, methodObj (.ref 115) (.ref X.x)) :: news)))) (T : Top topProg looseT mean mg mb h₀) (codeHd : CodeHd base 142 138) (hk : cs.kind = .function)
    (hd : dp + 3 < recursionLimit) (hu : un + 8 * 4 < cLine) (hvs : StrsAre vs (chars chs)) (hn1 : ∀ p ∈ (it, callIt q ts) :: (q, methodObj (.ref 115) (.ref X.x)) :: news, p.1 ≠ X.d) (hn2 : ∀ p ∈ (it, callIt q ts) :: (q, methodObj (.ref 115) (.ref X.x)) :: news, p.1 ≠ X.Dl) (hne : Apart it (fixed ++ ((q, methodObj (.ref 115) (.ref X.x)) :: news))) (hnx : X.x ≠ it)
    (hl0 : 0 ≤ ln) (hl1 : ln + chs.length < 1000000) (hl2 : chs.length < 10000)
    (hitem : ∀ c r t vs' k' ln' tl' h' tk', chs = c :: r → Fr h₀ L h' m → News h₀ L h' (X.led w ln' tl' vs' k' ++ (fixed ++ ((it, callIt q ts) :: (q, methodObj (.ref 115) (.ref X.x)) :: news))) → StrsAre vs' (chars r) → 0 ≤ ln' → ln' + r.length < 1000000 → Q (some (.str ⟨#[c]⟩ t)) { s with heap := h', toks := tk' })
    (hend : ∀ vs' k' ln' tl' h' tk', chs = [] → Fr h₀ L h' m → News h₀ L h' (X.led w ln' tl' vs' k' ++ (fixed ++ ((it, callEnd) :: (q, methodObj (.ref 115) (.ref X.x)) :: news))) → StrsAre vs' (chars []) → 0 ≤ ln' → ln' < 1000000 → Q none { s with heap := h', toks := tk' }) :
    wpAny (model PySem.Challenge.rw_pg0243_02.row.prog w) (ktrTop dp un gd cn cs L a ccd cl outer) (pyNext (.ref it)) Q E s := by
  have m1 : (it, callIt q ts) ∈ X.led w ln tl vs k ++ (fixed ++ ((it, callIt q ts) :: (q, methodObj (.ref 115) (.ref X.x)) :: news)) := List.mem_append_right _ (List.mem_append_right _ (.head _))
  have m2 : (q, methodObj (.ref 115) (.ref X.x)) ∈ X.led w ln tl vs k ++ (fixed ++ ((it, callIt q ts) :: (q, methodObj (.ref 115) (.ref X.x)) :: news)) := List.mem_append_right _ (List.mem_append_right _ (.tail _ (.head _)))
  obtain ⟨oc, od, fd, sl, hf⟩ := rd_fn XK
  refine next_call rfl (N _ m1).1 (N _ m2).1 (F.keep _ _ hf) (wpAny_call (method_call (N _ m2).1 ?_))
  refine rd _ _ _ _ _ _ _ _ _ _ _ _ _ _ _ _ _ chs vs k ln tl B F XK N T codeHd hk ?_ ?_ hvs hn1 hn2 hl0 hl1 hl2 ?_
  · exact hd
  · show un + _ + 8 * 3 < cLine; omega
  · intro t vs' k' ln' tl' h' tk' F' N' hvs' hl0' hl1'
    have m1' : (it, callIt q ts) ∈ X.led w ln' tl' vs' k' ++ (fixed ++ ((it, callIt q ts) :: (q, methodObj (.ref 115) (.ref X.x)) :: news)) := List.mem_append_right _ (List.mem_append_right _ (.head _))
    have m2' : (q, methodObj (.ref 115) (.ref X.x)) ∈ X.led w ln' tl' vs' k' ++ (fixed ++ ((it, callIt q ts) :: (q, methodObj (.ref 115) (.ref X.x)) :: news)) := List.mem_append_right _ (List.mem_append_right _ (.tail _ (.head _)))
    refine ⟨_, t, rfl, (N' _ m1').1, (N' _ m2').1, F'.keep _ _ hf, ?_⟩
    cases chs with
    | nil =>
      rw [if_pos (show hdS [] = Str.empty from rfl)]
      intro h2 hx he
      have N2 : News h₀ L h' ((X.led w ln' tl' vs' k' ++ fixed) ++ (it, callIt q ts) :: (q, methodObj (.ref 115) (.ref X.x)) :: news) := by rw [List.append_assoc]; exact N'
      have e := led_end F' N2 (fun p hp => by
        rcases List.mem_append.mp hp with hp | hp
        · simp only [List.mem_cons, List.not_mem_nil, or_false] at hp
          rcases hp with rfl | rfl | rfl
          · exact (hn1 _ (.head _)).symm
          · exact (hn2 _ (.head _)).symm
          · exact hnx
        · exact hne p (List.mem_append_left _ hp)) (fun p hp => hne p (List.mem_append_right _ hp)) hx he
      have N3 := e.2
      rw [List.append_assoc] at N3
      exact hend vs' k' ln' tl' h2 tk' rfl e.1 N3 hvs' hl0' (by simpa using hl1')
    | cons c r =>
      rw [if_neg (show hdS (c :: r) ≠ Str.empty from fun e => by have := congrArg (fun x : Str => x.cps.size) e; simp [hdS, Str.empty] at this)]
      exact hitem c r t vs' k' ln' tl' h' tk' rfl F' N' hvs' hl0' hl1'
end

section
variable {w : World} {mean : ExcName → Option Value} {mg mb : Str → Option Value} {dp un : Nat} {gd : Option (List Code)} {cn : Str} {cs : Scope} {a : Addr} {ccd : Value} {cl : List (Str × Addr)} {outer : List Env} {A₀ : Around} {base h₀ : Heap} {L : Addr} {m : Str → Option Value} {s : Shared} {news : Led} {X : LX} {fixed : Led} {Q E : Value → Shared → Prop}
theorem read_use {chs : List Nat} {vs : List Value} {k : Nat} {ln : Int} {tl : Tok} (rd : RdOk w mean mg mb X fixed)
    (B : Below A₀ base outer h₀) (F : Fr h₀ L s.heap m) (XK : (Mine.hd.heap_39 w.params).In h₀) (N : News h₀ L s.heap (X.led w ln tl vs k ++ (fixed ++ news))) (T : Top topProg looseT mean mg mb h₀) (codeHd : CodeHd base 142 138) (hk : cs.kind = .function)
    (hd : dp + 3 < recursionLimit) (hu : un + 8 * 3 < cLine) (hvs : StrsAre vs (chars chs)) (hn1 : ∀ p ∈ news, p.1 ≠ X.d) (hn2 : ∀ p ∈ news, p.1 ≠ X.Dl)
    (hl0 : 0 ≤ ln) (hl1 : ln + chs.length < 1000000) (hl2 : chs.length < 10000)
    (h : ∀ t vs' k' ln' tl' h' tk', Fr h₀ L h' m → News h₀ L h' (X.led w ln' tl' vs' k' ++ (fixed ++ news)) → StrsAre vs' (chars chs.tail) → 0 ≤ ln' → ln' + chs.tail.length < 1000000 → Q (.str (hdS chs) t) { s with heap := h', toks := tk' }) :
    wpAny (model PySem.Challenge.rw_pg0243_02.row.prog w) (ktrTop dp un gd cn cs L a ccd cl outer) (call (.ref 115) [.ref X.x]) Q E s :=
  wpAny_call (rd _ _ _ _ _ _ _ _ _ _ _ _ _ _ _ _ _ chs vs k ln tl B F XK N T codeHd hk hd hu hvs hn1 hn2 hl0 hl1 hl2 h)
end
theorem isWs_eq (c : Nat) : decide (c ∈ (Str.ofString "\n\t\r ").cps.toList) = isWs c := by
  have e : (Str.ofString "\n\t\r ").cps.toList = [10, 9, 13, 32] := by decide +kernel
  rw [e]; unfold isWs
  simp only [List.mem_cons, List.not_mem_nil, or_false, Bool.decide_or]
  simp only [Bool.or_assoc]
  rfl
section
variable {prog : Program} {w : World} {A : Around} {E : Value → Shared → Prop} {s : Shared} {Q : Value → Shared → Prop}
theorem in_ws {c : Nat} {t u : Tok} (h : Q (.bool (isWs c)) s) : wpAny (model prog w) A (compareOp .In (.str ⟨#[c]⟩ t) (.str (Str.ofString "\n\t\r ") u)) Q E s := by
  refine PyProof.Rows.in_str ?_
  rw [StrLaws.found_one, isWs_eq]; exact h
theorem eq_one {c n : Nat} {y : Str} {t u : Tok} (e : y = ⟨#[n]⟩) (h : Q (.bool (decide (c = n))) s) : wpAny (model prog w) A (compareOp .Eq (.str ⟨#[c]⟩ t) (.str y u)) Q E s := by
  refine PyProof.Rows.eq_str ?_
  subst e
  have : ((⟨#[c]⟩ : Str) == ⟨#[n]⟩) = decide (c = n) := by
    by_cases h : c = n
    · subst h; simp
    · rw [decide_eq_false h]; exact beq_eq_false_iff_ne.mpr fun e => h (by injection e with e; injection e with e; injection e with e)
  rw [this]; exact h
end
theorem app_empty (x : Str) : x ++ Str.empty = x := by
  show Str.append x Str.empty = x
  unfold Str.append Str.empty
  simp
theorem len_one (x : Str) (c : Nat) : (x ++ (⟨#[c]⟩ : Str)).length = x.length + 1 := by
  show (Str.append x ⟨#[c]⟩).cps.size = _
  unfold Str.append
  simp [Str.length]
theorem str34 : Str.ofString "\"" = ⟨#[34]⟩ := by decide +kernel
theorem str92 : Str.ofString "\\" = ⟨#[92]⟩ := by decide +kernel
inductive Md where | out | quo | bare | quoE | bareE
/-- what get_token makes of the signs that are left -/
noncomputable def lexRun : Md → Str → List Nat → Str × List Nat
  | _, tok, [] => (tok, [])
  | .out, tok, c :: r => if isWs c then lexRun .out tok r else if c = 34 then lexRun .quo tok r else if c = 92 then lexRun .bareE tok r else lexRun .bare (tok ++ ⟨#[c]⟩) r
  | .quo, tok, c :: r => if c = 34 then (tok, r) else if c = 92 then lexRun .quoE tok r else lexRun .quo (tok ++ ⟨#[c]⟩) r
  | .quoE, tok, c :: r => lexRun .quo (tok ++ ⟨#[c]⟩) r
  | .bare, tok, c :: r => if isWs c then (tok, r) else if c = 92 then lexRun .bareE tok r else lexRun .bare (tok ++ ⟨#[c]⟩) r
  | .bareE, tok, c :: r => lexRun .bare (tok ++ ⟨#[c]⟩) r
theorem lex_quoE {tok : Str} {r : List Nat} {res : Str × List Nat} (e : lexRun Md.quoE tok r = res) : lexRun Md.quo (tok ++ hdS r) r.tail = res := by
  rw [← e]
  cases r with
  | nil => rw [show hdS [] = Str.empty from rfl, app_empty]; rfl
  | cons c r => rfl
theorem lex_bareE {tok : Str} {r : List Nat} {res : Str × List Nat} (e : lexRun Md.bareE tok r = res) : lexRun Md.bare (tok ++ hdS r) r.tail = res := by
  rw [← e]
  cases r with
  | nil => rw [show hdS [] = Str.empty from rfl, app_empty]; rfl
  | cons c r => rfl
theorem hd_bd {tok : Str} {r : List Nat} (h : tok.length + r.length < 19999) : (tok ++ hdS r).length + r.tail.length < 20000 := by
  cases r with
  | nil => rw [show hdS [] = Str.empty from rfl, app_empty]; simp only [List.tail_nil, List.length_nil] at h ⊢; omega
  | cons c r => rw [show hdS (c :: r) = (⟨#[c]⟩ : Str) from rfl, len_one]; simp only [List.tail_cons, List.length_cons] at h ⊢; omega
theorem tail_le (r : List Nat) : r.tail.length ≤ r.length := by cases r <;> simp
theorem hdS_len (r : List Nat) : (hdS r).length ≤ 1 := by cases r <;> simp [hdS, Str.empty, Str.length]
structure TC where
  tok : Str
  tt : Tok
  cs : List Nat
  vs : List Value
  k : Nat
  ln : Int
  tl : Tok
  fin : Bool
theorem TC.all {P : TC → Prop} (h : ∀ tok tt cs vs k ln tl fin, P ⟨tok, tt, cs, vs, k, ln, tl, fin⟩) : ∀ c, P c := fun ⟨_, _, _, _, _, _, _, _⟩ => h _ _ _ _ _ _ _ _
theorem sub2 {a b : Addr × Obj} {l1 l2 l3 : Led} : ∀ p ∈ l1 ++ (l2 ++ l3), p ∈ l1 ++ (l2 ++ (a :: b :: l3)) := fun p hp => by
  simp only [List.mem_append, List.mem_cons] at hp ⊢
  rcases hp with h | h | h <;> simp only [h, true_or, or_true]
abbrev TC.Ok (c : TC) (md : Md) (res : Str × List Nat) : Prop := StrsAre c.vs (chars c.cs) ∧ 0 ≤ c.ln ∧ c.ln + c.cs.length < 1000000 ∧ c.cs.length < 10000 ∧ c.tok.length + c.cs.length < 20000 ∧ lexRun md c.tok c.cs = res ∧ (c.fin = true → c.cs = [])
@[reducible] noncomputable def TC.led (X : LX) (w : World) (fixed : Led) (it q : Addr) (ts : Tok) (rest : Led) (c : TC) : Led := X.led w c.ln c.tl c.vs c.k ++ (fixed ++ ((it, if c.fin then callEnd else callIt q ts) :: (q, methodObj (.ref 115) (.ref X.x)) :: rest))
--<M
local macro_rules | `(tactic| walk_at "call ref") => `(tactic| (k_here; (with_reducible refine gdr 115 ?_); k_dflt (refine' read_use ?rd ?B ?F ?X ?N ?T ?C ?hk ?hd ?hu ?hvs ?h1 ?h2 ?l0 ?l1 ?l2 ?_; (case rd => assumption); (case B | F | X | N | T => k_asm); (case C => with_reducible assumption); (case hk => first | exact rfl | assumption); (case hd => ktr_room); (case hu => ktr_units); (case hvs | h1 | h2 | l0 | l1 => assumption); (case l2 => omega); k_whole; intro t' vs' k' ln' tl' h' tk' F' N' hv' h0' h1'; (try dsimp only [LX.led, List.cons_append, List.nil_append] at N'); (try k_fold))))
local macro_rules | `(tactic| walk_at "compareOp In str str") => `(tactic| (k_here; k_dflt (refine' in_ws ?_; k_whole)))
local macro_rules | `(tactic| walk_at "compareOp Eq str str") => `(tactic| (k_here; (with_reducible refine gdEq1 ?_); k_dflt (refine' eq_one ?e ?_; (case e => first | with_reducible exact str34 | with_reducible exact str92); k_whole)))
--M>
set_option maxHeartbeats 8000000 in
theorem tok_claim (w : World) (mean : ExcName → Option Value) (mg mb : Str → Option Value) (X : LX) (fixed : Led) (rd : RdOk w mean mg mb X fixed) (chs : List Nat) (vs : List Value) (k : Nat) (ln : Int) (tl : Tok) (ep : Nat)
    (hvs : StrsAre vs (chars chs)) (hl0 : 0 ≤ ln) (hl1 : ln + chs.length < 1000000) (hl2 : chs.length < 10000) :
  ∀ (dp un : Nat) (gd : Option (List Code)) (cn : Str) (cs : Scope) (a : Addr) (ccd : Value) (cl : List (Str × Addr)) (outer : List Env) (A₀ : Around) (base h₀ : Heap) (L : Addr) (m : Str → Option Value) (s : Shared) (Q E : Value → Shared → Prop) (news : Led),
    (Mine.hd.heap_39 w.params).In h₀ → CodeHd base 142 138 → Below A₀ base outer h₀ → Fr h₀ L s.heap m → News h₀ L s.heap (X.led w ln tl vs k ++ (fixed ++ ((X.pb, W.listOf #[] ep) :: news))) → Top topProg looseT mean mg mb h₀ → cs.kind = .function →
    (∀ p ∈ (X.pb, W.listOf #[] ep) :: news, p.1 ≠ X.d ∧ p.1 ≠ X.Dl) → dp + 6 < recursionLimit → un + 8 * 7 < cLine →
    (∀ t vs' k' ln' tl' h' tk', Fr h₀ L h' m → News h₀ L h' (X.led w ln' tl' vs' k' ++ (fixed ++ ((X.pb, W.listOf #[] ep) :: news))) → StrsAre vs' (chars (lexRun .out Str.empty chs).2) → 0 ≤ ln' → ln' + (lexRun .out Str.empty chs).2.length < 1000000 → Q (.str (lexRun .out Str.empty chs).1 t) { s with heap := h', toks := tk' }) →
      wpAny (model PySem.Challenge.rw_pg0243_02.row.prog w) (ktrTop dp un gd cn cs L a ccd cl outer) (call (.ref 122) [.ref X.x]) Q E s := by
  w_top off
  k_fill
  have mine_on : MineOn := True.intro
  have eps_on : EpsOn := True.intro
  haveI := neSh; haveI := neAr; haveI := neWo; haveI := neLX
  revert w mean mg mb X fixed chs vs k ln tl ep
  intro w mean mg mb X fixed rd chs vs k ln tl ep hvs hl0 hl1 hl2
  intro dp un gd cn cs a ccd cl outer A₀ base h₀ L m s Q E news XK codeHd B F N T hk hne hd hu hret
  dsimp only [LX.led, List.cons_append, List.nil_append] at N
  k_steps
  rename_i g L1 z1 FG B1 X1 T1 z2 z3 z4 q z5 lq it z6 lit h1 F1 N1
  have hap : Apart it (X.led w 0 0 [] 0 ++ (fixed ++ ((q, methodObj (.ref 115) (.ref X.x)) :: (X.pb, W.listOf #[] ep) :: news))) := by
    obtain ⟨e1, e2, e3, e4, e5⟩ := lit
    intro p hp
    simp only [List.cons_append, List.nil_append, List.mem_cons, List.mem_append] at hp
    rcases hp with rfl | rfl | rfl | hp | rfl | hp
    · exact Nat.ne_of_lt e2
    · exact Nat.ne_of_lt e3
    · exact Nat.ne_of_lt e4
    · exact Nat.ne_of_lt (allLt_mem e5 p (List.mem_append_left _ hp))
    · exact Nat.ne_of_lt e1
    · exact Nat.ne_of_lt (allLt_mem e5 p (List.mem_append_right _ (List.mem_cons.mpr hp)))
  have hnd : ∀ o, ∀ p ∈ (it, o) :: (q, methodObj (.ref 115) (.ref X.x)) :: (X.pb, W.listOf #[] ep) :: news, p.1 ≠ X.d := by
    intro o p hp
    simp only [List.mem_cons] at hp
    rcases hp with rfl | rfl | hp
    · exact Nat.ne_of_gt lit.2.1
    · exact Nat.ne_of_gt lq.1
    · exact (hne p (List.mem_cons.mpr hp)).1
  have hnl : ∀ o, ∀ p ∈ (it, o) :: (q, methodObj (.ref 115) (.ref X.x)) :: (X.pb, W.listOf #[] ep) :: news, p.1 ≠ X.Dl := by
    intro o p hp
    simp only [List.mem_cons] at hp
    rcases hp with rfl | rfl | hp
    · exact Nat.ne_of_gt lit.2.2.1
    · exact Nat.ne_of_gt lq.2.1
    · exact (hne p (List.mem_cons.mpr hp)).2
  generalize hres : lexRun Md.out Str.empty chs = res at hret
  refine Loop.rule (σ := TC) (fun c => c.Ok Md.out res) (fun c => [(Str.ofString "self", .ref X.x), (Str.ofString "token", .str c.tok c.tt), (Str.ofString "fiter", .ref it)])
    (TC.led X w fixed it q (z3 + 1 + 1 + 1) ((X.pb, W.listOf #[] ep) :: news)) (fun c => 2 * c.cs.length + (if c.fin then 0 else 1))
    ⟨Str.empty, _, chs, vs, k, ln, tl, false⟩ ⟨hvs, hl0, hl1, hl2, (by show 0 + chs.length < 20000; omega), hres, fun e => nomatch e⟩ (At.intro F1 N1 ⟨rfl, rfl, rfl, True.intro⟩ (fun p hp => by
      simp only [TC.led, LX.led, List.cons_append, List.nil_append, List.mem_cons, List.mem_append] at hp ⊢
      simp only [Bool.false_eq_true, if_false] at hp
      rcases hp with h | h | h | h | h | h | h | h <;> simp only [h, true_or, or_true])) ?_
  refine TC.all ?_
  intro tok tt cs1 vs1 k1 ln1 tl1 fin
  rintro ⟨p1, p2, p3, p4, p5, p6, p7⟩
  intro h tk mm F N
  dsimp only at p1 p2 p3 p4 p5 p6 p7
  dsimp only [kstB] at F
  cases fin with
  | true =>
    have hcs := p7 rfl
    subst hcs
    have N' : News g L1 h (X.led w ln1 tl1 vs1 k1 ++ (fixed ++ ((it, callEnd) :: (q, methodObj (.ref 115) (.ref X.x)) :: (X.pb, W.listOf #[] ep) :: news))) := N
    have mi : (it, callEnd) ∈ X.led w ln1 tl1 vs1 k1 ++ (fixed ++ ((it, callEnd) :: (q, methodObj (.ref 115) (.ref X.x)) :: (X.pb, W.listOf #[] ep) :: news)) := List.mem_append_right _ (List.mem_append_right _ (.head _))
    refine next_ended rfl (N' _ mi).1 fun h2 hkp => ?_
    have F2 := F.keeps hkp
    have N2 : News g L1 h2 (X.led w ln1 tl1 vs1 k1 ++ (fixed ++ ((it, callEnd) :: (q, methodObj (.ref 115) (.ref X.x)) :: (X.pb, W.listOf #[] ep) :: news))) := fun p hp => ⟨hkp _ _ (N' p hp).1, (N' p hp).2⟩
    clear N N' F
    dsimp only
    k_steps
    obtain rfl : (tok, []) = res := p6
    exact hret tt vs1 k1 ln1 tl1 _ _ (by k_asm) (cb_drop (by assumption) sub2) p1 p2 (by simpa using p3)
  | false =>
    have N' : News g L1 h (X.led w ln1 tl1 vs1 k1 ++ (fixed ++ ((it, callIt q (z3 + 1 + 1 + 1)) :: (q, methodObj (.ref 115) (.ref X.x)) :: (X.pb, W.listOf #[] ep) :: news))) := N
    clear N
    k_dflt (refine' next_lex rd B1 F X1 N' T1 codeHd rfl ?hd ?hu p1 (hnd _) (hnl _) ?hne ?hnx p2 p3 p4 ?_ ?_)
    case hd => ktr_room
    case hu => ktr_units
    case hne => exact fun p hp => hap p (List.mem_append_right _ hp)
    case hnx => exact hap (X.x, instObj 132 X.d) (.tail _ (.tail _ (.head _)))
    · intro c r t vs2 k2 ln2 tl2 h2 tk2 hcs F2 N2 hvs2 hl02 hl12
      subst hcs
      clear F N'
      have hnd' := hnd (callIt q (z3 + 1 + 1 + 1))
      have hnl' := hnl (callIt q (z3 + 1 + 1 + 1))
      have hlen2 : r.length < 10000 := by simp only [List.length_cons] at p4; omega
      have htok2 : tok.length + r.length < 19999 := by simp only [List.length_cons] at p5; omega
      dsimp only [LX.led, List.cons_append, List.nil_append] at N2
      by_cases hws : isWs c = true
      · have e0 : lexRun Md.out tok r = res := by rw [← p6]; conv => rhs; unfold lexRun
                                                  rw [if_pos hws]
        k_steps
        exact ⟨⟨tok, tt, r, vs2, k2, ln2, tl2, false⟩, ⟨hvs2, hl02, hl12, hlen2, by show tok.length + r.length < 20000; omega, e0, fun e => nomatch e⟩, by simp,
          At.intro (by k_asm) (by k_asm) ⟨rfl, rfl, rfl, True.intro⟩ fun p hp => hp⟩
      · by_cases h34 : c = 34
        · have e0 : lexRun Md.quo tok r = res := by rw [← p6]; conv => rhs; unfold lexRun
                                                    rw [if_neg hws, if_pos h34]
          k_steps
          refine Loop.rule (σ := TC) (fun c => c.Ok Md.quo res ∧ c.fin = false) (fun c => [(Str.ofString "self", .ref X.x), (Str.ofString "token", .str c.tok c.tt), (Str.ofString "fiter", .ref it)])
            (TC.led X w fixed it q (z3 + 1 + 1 + 1) ((X.pb, W.listOf #[] ep) :: news)) (fun c => c.cs.length)
            ⟨tok, tt, r, vs2, k2, ln2, tl2, false⟩ ⟨⟨hvs2, hl02, hl12, hlen2, (by show tok.length + r.length < 20000; omega), e0, fun e => nomatch e⟩, rfl⟩ (At.intro (by k_asm) (by k_asm) ⟨rfl, rfl, rfl, True.intro⟩ fun p hp => hp) ?_
          refine TC.all ?_
          intro tok tt cs1 vs1 k1 ln1 tl1 fin
          rintro ⟨⟨p1, p2, p3, p4, p5, p6, p7⟩, hfin⟩
          intro h tk mm F N
          dsimp only at p1 p2 p3 p4 p5 p6 p7 hfin
          dsimp only [kstB] at F
          subst hfin
          have N' : News g L1 h (X.led w ln1 tl1 vs1 k1 ++ (fixed ++ ((it, callIt q (z3 + 1 + 1 + 1)) :: (q, methodObj (.ref 115) (.ref X.x)) :: (X.pb, W.listOf #[] ep) :: news))) := N
          clear N
          k_dflt (refine' next_lex rd B1 F X1 N' T1 codeHd rfl ?hd ?hu p1 (hnd _) (hnl _) ?hne ?hnx p2 p3 p4 ?_ ?_)
          case hd => ktr_room
          case hu => ktr_units
          case hne => exact fun p hp => hap p (List.mem_append_right _ hp)
          case hnx => exact hap (X.x, instObj 132 X.d) (.tail _ (.tail _ (.head _)))
          · intro c r t vs2 k2 ln2 tl2 h2 tk2 hcs F2 N2 hvs2 hl02 hl12
            subst hcs
            clear F N'
            have hlen2 : r.length < 10000 := by simp only [List.length_cons] at p4; omega
            have htok2 : tok.length + r.length < 19999 := by simp only [List.length_cons] at p5; omega
            dsimp only [LX.led, List.cons_append, List.nil_append] at N2
            by_cases h34 : c = 34
            · k_steps
              try dsimp only [TurnE]
              k_steps
              have e : (tok, r) = res := by rw [← p6]; unfold lexRun; rw [if_pos h34]
              subst e
              exact hret tt vs2 k2 ln2 tl2 _ _ (by k_asm) (cb_drop (by assumption) sub2) hvs2 hl02 hl12
            · by_cases h92 : c = 92
              · have e : lexRun Md.quoE tok r = res := by rw [← p6]; conv => rhs; unfold lexRun
                                                          rw [if_neg h34, if_pos h92]
                have hz0 := hdS_len r
                have hzt := tail_le r
                have hz1 : r.tail.length < 10000 := by omega
                have hz2 := hd_bd htok2
                k_steps
                exact ⟨⟨tok ++ hdS r, _, r.tail, _, _, _, _, false⟩, ⟨⟨by assumption, by assumption, by assumption, hz1, hz2, lex_quoE e, fun e => nomatch e⟩, rfl⟩, (by show r.tail.length < r.length + 1; omega),
                  At.intro (by k_asm) (by k_asm) ⟨rfl, rfl, rfl, True.intro⟩ fun p hp => hp⟩
              · have e : lexRun Md.quo (tok ++ ⟨#[c]⟩) r = res := by rw [← p6]; conv => rhs; unfold lexRun
                                                                     rw [if_neg h34, if_neg h92]
                have hz2 : (tok ++ ⟨#[c]⟩ : Str).length + r.length < 20000 := by rw [len_one]; omega
                k_steps
                exact ⟨⟨tok ++ ⟨#[c]⟩, _, r, vs2, k2, ln2, tl2, false⟩, ⟨⟨hvs2, hl02, hl12, hlen2, hz2, e, fun e => nomatch e⟩, rfl⟩, by simp,
                  At.intro (by k_asm) (by k_asm) ⟨rfl, rfl, rfl, True.intro⟩ fun p hp => hp⟩
          · intro vs2 k2 ln2 tl2 h2 tk2 hcs F2 N2 hvs2 hl02 hl12
            subst hcs
            clear F N'
            have hz9 : ([] : List Nat).length < 10000 := by decide
            dsimp only
            k_steps
            exact ⟨⟨tok, tt, [], vs2, k2, ln2, tl2, true⟩, ⟨hvs2, hl02, (by simpa using hl12), hz9, p5, p6, fun _ => rfl⟩, by simp,
              At.intro (by k_asm) (by k_asm) ⟨rfl, rfl, rfl, True.intro⟩ fun p hp => hp⟩

        · by_cases h92 : c = 92
          · have e0 : lexRun Md.bareE tok r = res := by rw [← p6]; conv => rhs; unfold lexRun
                                                        rw [if_neg hws, if_neg h34, if_pos h92]
            have hz0 := hdS_len r
            have hzt := tail_le r
            have hz1 : r.tail.length < 10000 := by omega
            have hz2 := hd_bd htok2
            k_steps
            refine Loop.rule (σ := TC) (fun c => c.Ok Md.bare res ∧ c.fin = false) (fun c => [(Str.ofString "self", .ref X.x), (Str.ofString "token", .str c.tok c.tt), (Str.ofString "fiter", .ref it)])
              (TC.led X w fixed it q (z3 + 1 + 1 + 1) ((X.pb, W.listOf #[] ep) :: news)) (fun c => c.cs.length)
              ⟨tok ++ hdS r, _, r.tail, _, _, _, _, false⟩ ⟨⟨by assumption, by assumption, by assumption, hz1, hz2, lex_bareE e0, fun e => nomatch e⟩, rfl⟩ (At.intro (by k_asm) (by k_asm) ⟨rfl, rfl, rfl, True.intro⟩ fun p hp => hp) ?_
            refine TC.all ?_
            intro tok tt cs1 vs1 k1 ln1 tl1 fin
            rintro ⟨⟨p1, p2, p3, p4, p5, p6, p7⟩, hfin⟩
            intro h tk mm F N
            dsimp only at p1 p2 p3 p4 p5 p6 p7 hfin
            dsimp only [kstB] at F
            subst hfin
            have N' : News g L1 h (X.led w ln1 tl1 vs1 k1 ++ (fixed ++ ((it, callIt q (z3 + 1 + 1 + 1)) :: (q, methodObj (.ref 115) (.ref X.x)) :: (X.pb, W.listOf #[] ep) :: news))) := N
            clear N
            k_dflt (refine' next_lex rd B1 F X1 N' T1 codeHd rfl ?hd ?hu p1 (hnd _) (hnl _) ?hne ?hnx p2 p3 p4 ?_ ?_)
            case hd => ktr_room
            case hu => ktr_units
            case hne => exact fun p hp => hap p (List.mem_append_right _ hp)
            case hnx => exact hap (X.x, instObj 132 X.d) (.tail _ (.tail _ (.head _)))
            · intro c r t vs2 k2 ln2 tl2 h2 tk2 hcs F2 N2 hvs2 hl02 hl12
              subst hcs
              clear F N'
              have hlen2 : r.length < 10000 := by simp only [List.length_cons] at p4; omega
              have htok2 : tok.length + r.length < 19999 := by simp only [List.length_cons] at p5; omega
              dsimp only [LX.led, List.cons_append, List.nil_append] at N2
              by_cases hws : isWs c = true
              · k_steps
                try dsimp only [TurnE]
                k_steps
                have e : (tok, r) = res := by rw [← p6]; unfold lexRun; rw [if_pos hws]
                subst e
                exact hret tt vs2 k2 ln2 tl2 _ _ (by k_asm) (cb_drop (by assumption) sub2) hvs2 hl02 hl12
              · by_cases h92 : c = 92
                · have e : lexRun Md.bareE tok r = res := by rw [← p6]; conv => rhs; unfold lexRun
                                                             rw [if_neg hws, if_pos h92]
                  have hz0 := hdS_len r
                  have hzt := tail_le r
                  have hz1 : r.tail.length < 10000 := by omega
                  have hz2 := hd_bd htok2
                  k_steps
                  exact ⟨⟨tok ++ hdS r, _, r.tail, _, _, _, _, false⟩, ⟨⟨by assumption, by assumption, by assumption, hz1, hz2, lex_bareE e, fun e => nomatch e⟩, rfl⟩, (by show r.tail.length < r.length + 1; omega),
                    At.intro (by k_asm) (by k_asm) ⟨rfl, rfl, rfl, True.intro⟩ fun p hp => hp⟩
                · have e : lexRun Md.bare (tok ++ ⟨#[c]⟩) r = res := by rw [← p6]; conv => rhs; unfold lexRun
                                                                        rw [if_neg hws, if_neg h92]
                  have hz2 : (tok ++ ⟨#[c]⟩ : Str).length + r.length < 20000 := by rw [len_one]; omega
                  k_steps
                  exact ⟨⟨tok ++ ⟨#[c]⟩, _, r, vs2, k2, ln2, tl2, false⟩, ⟨⟨hvs2, hl02, hl12, hlen2, hz2, e, fun e => nomatch e⟩, rfl⟩, by simp,
                    At.intro (by k_asm) (by k_asm) ⟨rfl, rfl, rfl, True.intro⟩ fun p hp => hp⟩
            · intro vs2 k2 ln2 tl2 h2 tk2 hcs F2 N2 hvs2 hl02 hl12
              subst hcs
              clear F N'
              have hz9 : ([] : List Nat).length < 10000 := by decide
              dsimp only
              k_steps
              exact ⟨⟨tok, tt, [], vs2, k2, ln2, tl2, true⟩, ⟨hvs2, hl02, (by simpa using hl12), hz9, p5, p6, fun _ => rfl⟩, by simp,
                At.intro (by k_asm) (by k_asm) ⟨rfl, rfl, rfl, True.intro⟩ fun p hp => hp⟩

          · have e0 : lexRun Md.bare (tok ++ ⟨#[c]⟩) r = res := by rw [← p6]; conv => rhs; unfold lexRun
                                                                   rw [if_neg hws, if_neg h34, if_neg h92]
            have hz2 : (tok ++ ⟨#[c]⟩ : Str).length + r.length < 20000 := by rw [len_one]; omega
            k_steps
            refine Loop.rule (σ := TC) (fun c => c.Ok Md.bare res ∧ c.fin = false) (fun c => [(Str.ofString "self", .ref X.x), (Str.ofString "token", .str c.tok c.tt), (Str.ofString "fiter", .ref it)])
              (TC.led X w fixed it q (z3 + 1 + 1 + 1) ((X.pb, W.listOf #[] ep) :: news)) (fun c => c.cs.length)
              ⟨tok ++ ⟨#[c]⟩, _, r, vs2, k2, ln2, tl2, false⟩ ⟨⟨hvs2, hl02, hl12, hlen2, hz2, e0, fun e => nomatch e⟩, rfl⟩ (At.intro (by k_asm) (by k_asm) ⟨rfl, rfl, rfl, True.intro⟩ fun p hp => hp) ?_
            refine TC.all ?_
            intro tok tt cs1 vs1 k1 ln1 tl1 fin
            rintro ⟨⟨p1, p2, p3, p4, p5, p6, p7⟩, hfin⟩
            intro h tk mm F N
            dsimp only at p1 p2 p3 p4 p5 p6 p7 hfin
            dsimp only [kstB] at F
            subst hfin
            have N' : News g L1 h (X.led w ln1 tl1 vs1 k1 ++ (fixed ++ ((it, callIt q (z3 + 1 + 1 + 1)) :: (q, methodObj (.ref 115) (.ref X.x)) :: (X.pb, W.listOf #[] ep) :: news))) := N
            clear N
            k_dflt (refine' next_lex rd B1 F X1 N' T1 codeHd rfl ?hd ?hu p1 (hnd _) (hnl _) ?hne ?hnx p2 p3 p4 ?_ ?_)
            case hd => ktr_room
            case hu => ktr_units
            case hne => exact fun p hp => hap p (List.mem_append_right _ hp)
            case hnx => exact hap (X.x, instObj 132 X.d) (.tail _ (.tail _ (.head _)))
            · intro c r t vs2 k2 ln2 tl2 h2 tk2 hcs F2 N2 hvs2 hl02 hl12
              subst hcs
              clear F N'
              have hlen2 : r.length < 10000 := by simp only [List.length_cons] at p4; omega
              have htok2 : tok.length + r.length < 19999 := by simp only [List.length_cons] at p5; omega
              dsimp only [LX.led, List.cons_append, List.nil_append] at N2
              by_cases hws : isWs c = true
              · k_steps
                try dsimp only [TurnE]
                k_steps
                have e : (tok, r) = res := by rw [← p6]; unfold lexRun; rw [if_pos hws]
                subst e
                exact hret tt vs2 k2 ln2 tl2 _ _ (by k_asm) (cb_drop (by assumption) sub2) hvs2 hl02 hl12
              · by_cases h92 : c = 92
                · have e : lexRun Md.bareE tok r = res := by rw [← p6]; conv => rhs; unfold lexRun
                                                             rw [if_neg hws, if_pos h92]
                  have hz0 := hdS_len r
                  have hzt := tail_le r
                  have hz1 : r.tail.length < 10000 := by omega
                  have hz2 := hd_bd htok2
                  k_steps
                  exact ⟨⟨tok ++ hdS r, _, r.tail, _, _, _, _, false⟩, ⟨⟨by assumption, by assumption, by assumption, hz1, hz2, lex_bareE e, fun e => nomatch e⟩, rfl⟩, (by show r.tail.length < r.length + 1; omega),
                    At.intro (by k_asm) (by k_asm) ⟨rfl, rfl, rfl, True.intro⟩ fun p hp => hp⟩
                · have e : lexRun Md.bare (tok ++ ⟨#[c]⟩) r = res := by rw [← p6]; conv => rhs; unfold lexRun
                                                                        rw [if_neg hws, if_neg h92]
                  have hz2 : (tok ++ ⟨#[c]⟩ : Str).length + r.length < 20000 := by rw [len_one]; omega
                  k_steps
                  exact ⟨⟨tok ++ ⟨#[c]⟩, _, r, vs2, k2, ln2, tl2, false⟩, ⟨⟨hvs2, hl02, hl12, hlen2, hz2, e, fun e => nomatch e⟩, rfl⟩, by simp,
                    At.intro (by k_asm) (by k_asm) ⟨rfl, rfl, rfl, True.intro⟩ fun p hp => hp⟩
            · intro vs2 k2 ln2 tl2 h2 tk2 hcs F2 N2 hvs2 hl02 hl12
              subst hcs
              clear F N'
              have hz9 : ([] : List Nat).length < 10000 := by decide
              dsimp only
              k_steps
              exact ⟨⟨tok, tt, [], vs2, k2, ln2, tl2, true⟩, ⟨hvs2, hl02, (by simpa using hl12), hz9, p5, p6, fun _ => rfl⟩, by simp,
                At.intro (by k_asm) (by k_asm) ⟨rfl, rfl, rfl, True.intro⟩ fun p hp => hp⟩

    · intro vs2 k2 ln2 tl2 h2 tk2 hcs F2 N2 hvs2 hl02 hl12
      subst hcs
      clear F N'
      dsimp only
      k_steps
      obtain rfl : (tok, []) = res := p6
      exact hret tt vs2 k2 ln2 tl2 _ _ (by k_asm) (cb_drop (by assumption) sub2) hvs2 hl02 (by simpa using hl12)

set_option maxHeartbeats 8000000 in
/-- push_token -/
theorem push_claim (w : World) (mean : ExcName → Option Value) (mg mb : Str → Option Value) (news : Led) (x d pb : Addr) (ln ins wv : Value) (k1 k2 k3 k4 : Tok) (vs : List Value) (ep : Nat) (v : Value) (hp : ∀ p ∈ news, p.1 ≠ pb) (hx : @Ne Nat x pb) (hd' : @Ne Nat d pb) (hl : vs.length < 1000) :
   Claim w mean mg mb 129 ((x, instObj 132 d) :: (d, lexDict w ln ins wv (.ref pb) k1 k2 k3 k4) :: (pb, W.listOf vs.toArray ep) :: news) [.ref x, v] 3 (fun r news' => r = .none ∧ news' = (x, instObj 132 d) :: (d, lexDict w ln ins wv (.ref pb) k1 k2 k3 k4) :: (pb, W.listOf (vs ++ [v]).toArray (ep + 1)) :: news) := by
  unfold Claim
  w_top off
  k_fill
  have mine_on : MineOn := True.intro
  intro dp un gd cn cs a ccd cl outer A₀ base h₀ L m s Q E B F X N T hk hd hu hret
  k_steps
  (rename News _ _ _ _ => N9)
  rw [List.push_toArray] at N9
  exact hret _ _ _ _ (by k_asm) N9 ⟨rfl, rfl⟩
set_option maxHeartbeats 8000000 in
/-- get_token, when a text was pushed back -/
theorem popped_claim (w : World) (mean : ExcName → Option Value) (mg mb : Str → Option Value) (news : Led) (x d pb : Addr) (ln ins wv : Value) (k1 k2 k3 k4 : Tok) (vs : List Value) (ep : Nat) (v : Value) (hp : ∀ p ∈ news, p.1 ≠ pb) (hx : @Ne Nat x pb) (hd' : @Ne Nat d pb) (hl : vs.length < 1000) :
   Claim w mean mg mb 122 ((x, instObj 132 d) :: (d, lexDict w ln ins wv (.ref pb) k1 k2 k3 k4) :: (pb, W.listOf (v :: vs).toArray ep) :: news) [.ref x] 3 (fun r news' => r = v ∧ news' = (x, instObj 132 d) :: (d, lexDict w ln ins wv (.ref pb) k1 k2 k3 k4) :: (pb, W.listOf vs.toArray (ep + 1)) :: news) := by
  unfold Claim
  w_top off
  k_fill
  have mine_on : MineOn := True.intro
  intro dp un gd cn cs a ccd cl outer A₀ base h₀ L m s Q E B F X N T hk hd hu hret
  k_steps
  exact hret _ _ _ _ (by k_asm) (by k_asm) ⟨rfl, rfl⟩
section
variable {w : World} {mean : ExcName → Option Value} {mg mb : Str → Option Value} {dp un : Nat} {gd : Option (List Code)} {cn : Str} {cs : Scope} {a : Addr} {ccd : Value} {cl : List (Str × Addr)} {outer : List Env} {A₀ : Around} {base h₀ : Heap} {L : Addr} {m : Str → Option Value} {s : Shared} {Q E : Value → Shared → Prop} {news : Led}
theorem push_use {x d pb : Addr} {ln ins wv : Value} {k1 k2 k3 k4 : Tok} {vs : List Value} {ep : Nat} {v : Value} (B : Below A₀ base outer h₀) (F : Fr h₀ L s.heap m) (X : (Mine.hd.heap_39 w.params).In h₀)
    (N : News h₀ L s.heap ((x, instObj 132 d) :: (d, lexDict w ln ins wv (.ref pb) k1 k2 k3 k4) :: (pb, W.listOf vs.toArray ep) :: news)) (T : Top topProg looseT mean mg mb h₀) (hk : cs.kind = .function) (hp : ∀ p ∈ news, p.1 ≠ pb) (hx : @Ne Nat x pb) (hd' : @Ne Nat d pb) (hl : vs.length < 1000)
    (hd : dp + 3 < recursionLimit) (hu : un + 8 * 3 < cLine)
    (hret : ∀ (h' : Heap) (tk' : Nat), Fr h₀ L h' m → News h₀ L h' ((x, instObj 132 d) :: (d, lexDict w ln ins wv (.ref pb) k1 k2 k3 k4) :: (pb, W.listOf (vs ++ [v]).toArray (ep + 1)) :: news) → Q .none { s with heap := h', toks := tk' }) :
    wpAny (model PySem.Challenge.rw_pg0243_02.row.prog w) (ktrTop dp un gd cn cs L a ccd cl outer) (call (.ref 129) [.ref x, v]) Q E s :=
  push_claim w mean mg mb news x d pb ln ins wv k1 k2 k3 k4 vs ep v hp hx hd' hl dp un gd cn cs a ccd cl outer A₀ base h₀ L m s Q E B F X N T hk hd hu (by
    rintro r news' h' tk' F' N' ⟨rfl, rfl⟩
    exact hret h' tk' F' N')
theorem popped_use {x d pb : Addr} {ln ins wv : Value} {k1 k2 k3 k4 : Tok} {vs : List Value} {ep : Nat} {v : Value} (B : Below A₀ base outer h₀) (F : Fr h₀ L s.heap m) (X : (Mine.hd.heap_39 w.params).In h₀)
    (N : News h₀ L s.heap ((x, instObj 132 d) :: (d, lexDict w ln ins wv (.ref pb) k1 k2 k3 k4) :: (pb, W.listOf (v :: vs).toArray ep) :: news)) (T : Top topProg looseT mean mg mb h₀) (hk : cs.kind = .function) (hp : ∀ p ∈ news, p.1 ≠ pb) (hx : @Ne Nat x pb) (hd' : @Ne Nat d pb) (hl : vs.length < 1000)
    (hd : dp + 3 < recursionLimit) (hu : un + 8 * 3 < cLine)
    (hret : ∀ (h' : Heap) (tk' : Nat), Fr h₀ L h' m → News h₀ L h' ((x, instObj 132 d) :: (d, lexDict w ln ins wv (.ref pb) k1 k2 k3 k4) :: (pb, W.listOf vs.toArray (ep + 1)) :: news) → Q v { s with heap := h', toks := tk' }) :
    wpAny (model PySem.Challenge.rw_pg0243_02.row.prog w) (ktrTop dp un gd cn cs L a ccd cl outer) (call (.ref 122) [.ref x]) Q E s :=
  popped_claim w mean mg mb news x d pb ln ins wv k1 k2 k3 k4 vs ep v hp hx hd' hl dp un gd cn cs a ccd cl outer A₀ base h₀ L m s Q E B F X N T hk hd hu (by
    rintro r news' h' tk' F' N' ⟨rfl, rfl⟩
    exact hret h' tk' F' N')
end

/-- a text's signs -/
@[reducible] noncomputable def sg (x : Str) : List Nat := x.cps.toList
theorem sg_append (x y : Str) : sg (x ++ y) = sg x ++ sg y := by
  show (x.cps ++ y.cps).toList = _
  simp
theorem sg_length (x : Str) : (sg x).length = x.length := by simp [sg, Str.length]
theorem str_ext {x y : Str} (h : sg x = sg y) : x = y := by
  cases x; cases y
  congr 1
  exact Array.toList_inj.mp h
theorem glue_fold (g : Array Nat) : ∀ (l : List Str) (a : Array Nat), (l.foldl (fun (acc : Array Nat) (p : Str) => acc ++ g ++ p.cps) a).toList = a.toList ++ l.flatMap fun p => g.toList ++ sg p
  | [], a => by simp
  | p :: r, a => by
    rw [List.foldl_cons, glue_fold g r]
    simp [List.append_assoc]
theorem sg_join (sep : Str) (x : Str) (l : List Str) : sg (Txt.join sep (x :: l)) = sg x ++ l.flatMap fun p => sg sep ++ sg p := by
  show (List.foldl _ _ _ : Array Nat).toList = _
  exact glue_fold sep.cps l x.cps
theorem sg_join0 (l : List Str) : sg (Txt.join (Str.ofString "") l) = l.flatMap sg := by
  have e : sg (Str.ofString "") = [] := by decide
  cases l with
  | nil => decide
  | cons x l =>
    rw [sg_join, e]
    simp
theorem sg_mul_one {y : Str} {c : Nat} (hy : y = ⟨#[c]⟩) (n : Int) : sg (Txt.mul y n) = List.replicate n.toNat c := by
  subst hy
  exact mul_one_list ..
theorem sg_blank (n : Int) : sg (Txt.mul (Str.ofString " ") n) = List.replicate n.toNat 32 := sg_mul_one (by decide) n

theorem store_cell {M : Model} {A : Around} {E : Value → Shared → Prop} {s : Shared} {env : Env} {x : Str} {v : Value} {h₀ : Heap} {L c : Addr} {m : Env1} {o : Obj} {rest : Led} {v₀ : Option Value} {Q : Unit → Shared → Prop} (F : Fr h₀ L s.heap m) (N : News h₀ L s.heap ((c, o) :: rest)) (hap : ∀ p ∈ rest, p.1 ≠ c)
    (hc : env.cells.lookup x = some c) (hd : o.data = .cell v₀) (hk : env.scope.kind = .function) (hx : env.kindOf x = some .cell)
    (h : ∀ h' o', Fr h₀ L h' m → News h₀ L h' ((c, o') :: rest) → o'.data = .cell (some v) → Q () { s with heap := h' }) : wpAny M A (storeName env x v) Q E s :=
  wpAny_storeName_cell hk hx hc ⟨o, (N _ (.head _)).1, hd⟩ fun h' hv hs => by
    obtain ⟨o', ho', hd'⟩ := hv
    have q := led_upd F N hap hs ho'
    exact h h' o' q.1 q.2 hd'

section
variable {w : World} {mean : ExcName → Option Value} {mg mb : Str → Option Value} {dp un : Nat} {gd : Option (List Code)} {cn : Str} {cs : Scope} {a : Addr} {ccd : Value} {cl : List (Str × Addr)} {outer : List Env} {A₀ : Around} {base h₀ : Heap} {L : Addr} {m : Str → Option Value} {s : Shared} {rest : Led} {X : LX} {fixed : Led} {Q E : Value → Shared → Prop}
theorem tok_turn {chs cs' : List Nat} {y : Str} {vs : List Value} {k : Nat} {ln : Int} {tl : Tok} {I C D : Addr} {oI oC oD : Obj} (rd : RdOk w mean mg mb X fixed)
    (B : Below A₀ base outer h₀) (F : Fr h₀ L s.heap m) (XK : (Mine.hd.heap_39 w.params).In h₀) (N : News h₀ L s.heap ((I, oI) :: (C, oC) :: (D, oD) :: (X.led w ln tl vs k ++ (fixed ++ ((X.pb, W.listOf #[] 0) :: rest))))) (T : Top topProg looseT mean mg mb h₀) (codeHd : CodeHd base 142 138) (hk : cs.kind = .function)
    (hd : dp + 6 < recursionLimit) (hu : un + 8 * 7 < cLine) (hvs : StrsAre vs (chars chs)) (off : LCg.Off3 I C D (X.led w ln tl vs k ++ (fixed ++ ((X.pb, W.listOf #[] 0) :: rest)))) (hne : ∀ p ∈ (X.pb, W.listOf #[] 0) :: rest, p.1 ≠ X.d ∧ p.1 ≠ X.Dl)
    (hl0 : 0 ≤ ln) (hl1 : ln + chs.length < 1000000) (hl2 : chs.length < 10000) (e : lexRun .out Str.empty chs = (y, cs'))
    (h : ∀ t vs' k' ln' tl' h' tk', Fr h₀ L h' m → News h₀ L h' ((I, oI) :: (C, oC) :: (D, oD) :: (X.led w ln' tl' vs' k' ++ (fixed ++ ((X.pb, W.listOf #[] 0) :: rest)))) → StrsAre vs' (chars cs') → 0 ≤ ln' → ln' + cs'.length < 1000000 → Q (.str y t) { s with heap := h', toks := tk' }) :
    wpAny (model PySem.Challenge.rw_pg0243_02.row.prog w) (ktrTop dp un gd cn cs L a ccd cl outer) (call (.ref 122) [.ref X.x]) Q E s := by
  have o1 := off.mem (X.d, _) (.head _)
  have o2 := off.mem (X.Dl, _) (.tail _ (.head _))
  refine tok_claim w mean mg mb X fixed rd chs vs k ln tl 0 hvs hl0 hl1 hl2 dp un gd cn cs a ccd cl outer A₀ base h₀ L m s Q E ((I, oI) :: (C, oC) :: (D, oD) :: rest) XK codeHd B F (cb_drop N fun p hp => ?_) T hk (fun p hp => ?_) hd hu fun t vs' k' ln' tl' h' tk' F' N' hvs' q1 q2 => ?_
  · simp only [List.mem_append, List.mem_cons] at hp ⊢
    rcases hp with h | h | h | h | h | h | h <;> simp only [h, true_or, or_true]
  · rcases List.mem_cons.mp hp with rfl | hp
    · exact hne _ (.head _)
    rcases List.mem_cons.mp hp with rfl | hp
    · exact ⟨Ne.symm o1.1, Ne.symm o2.1⟩
    rcases List.mem_cons.mp hp with rfl | hp
    · exact ⟨Ne.symm o1.2.1, Ne.symm o2.2.1⟩
    rcases List.mem_cons.mp hp with rfl | hp
    · exact ⟨Ne.symm o1.2.2, Ne.symm o2.2.2⟩
    · exact hne p (.tail _ hp)
  · rw [e] at hvs' q2 ⊢
    refine h t vs' k' ln' tl' h' tk' F' (cb_drop N' fun p hp => ?_) hvs' q1 q2
    simp only [List.mem_append, List.mem_cons] at hp ⊢
    rcases hp with h | h | h | h | h | h | h <;> simp only [h, true_or, or_true]
end

section
variable {w : World} {mean : ExcName → Option Value} {mg mb : Str → Option Value} {dp un : Nat} {gd : Option (List Code)} {cn : Str} {cs : Scope} {a : Addr} {ccd : Value} {cl : List (Str × Addr)} {outer : List Env} {A₀ : Around} {base h₀ : Heap} {L : Addr} {m : Str → Option Value} {s : Shared} {Q E : Value → Shared → Prop} {news : Led}
theorem ws_use {ws : Str} {t : Tok} (B : Below A₀ base outer h₀) (F : Fr h₀ L s.heap m) (X : (Mine.hd.heap_39 w.params).In h₀) (N : News h₀ L s.heap news) (T : Top topProg looseT mean mg mb h₀) (hk : cs.kind = .function)
    (hb : ws.length < 1000) (hws : ∀ c ∈ sg ws, c = 32 ∨ c = 9) (hd : dp + 3 < recursionLimit) (hu : un + 8 * 3 < cLine)
    (hret : ∀ x dx p c vs tb tn tt k1 k2 k3 k4 k5 (h' : Heap) (tk' : Nat), Fr h₀ L h' m → News h₀ L h' (wsLed w x dx p c (.str ws t) vs (wsRun (sg ws)) tb tn tt k1 k2 k3 k4 k5 ++ news) → IntsAre vs (wsRun (sg ws)).ns → (∀ q ∈ news, q.1 < dx) → dx < x → x < c → c < p → Q (.ref x) { s with heap := h', toks := tk' }) :
    wpAny (model PySem.Challenge.rw_pg0243_02.row.prog w) (ktrTop dp un gd cn cs L a ccd cl outer) (call (.ref 83) [.str ws t]) Q E s :=
  ws_claim w mean mg mb news ws t hb (by
    rw [Array.all_eq_true']
    intro c hc
    rcases hws c (Array.mem_toList_iff.mpr hc) with rfl | rfl <;> decide) hws dp un gd cn cs a ccd cl outer A₀ base h₀ L m s Q E B F X N T hk hd hu (by
    rintro v news' h' tk' F' N' ⟨x, dx, p, c, vs, tb, tn, tt, k1, k2, k3, k4, k5, rfl, rfl, hi, q1, q2, q3, q4⟩
    exact hret x dx p c vs tb tn tt k1 k2 k3 k4 k5 h' tk' F' N' hi q1 q2 q3 q4)
/-- what is asked of a pattern -/
structure PatOk (want : Str) (ss : List Str) : Prop where
  hin : (!(Builtin.Str.occurrences want dots 0 want.length 1).isEmpty) = true
  hsp : Txt.split want dots = Str.empty :: (ss ++ [Str.empty])
  hss : ss.length < 1000
  hsl : ∀ w ∈ ss, w.length < 1000
  hw : want.length < 1000
theorem ell_use {want got : Str} {t u : Tok} {ss : List Str} {r : Bool} (B : Below A₀ base outer h₀) (F : Fr h₀ L s.heap m) (X : (Mine.hd.heap_39 w.params).In h₀) (N : News h₀ L s.heap news) (T : Top topProg looseT mean mg mb h₀) (hk : cs.kind = .function)
    (ok : PatOk want ss) (hr : ellRun got (Str.empty :: (ss ++ [Str.empty])) 0 = r) (hg : got.length < 1000) (hd : dp + 3 < recursionLimit) (hu : un + 8 * 3 < cLine)
    (hret : ∀ (h' : Heap) (tk' : Nat), Fr h₀ L h' m → News h₀ L h' news → Q (.bool r) { s with heap := h', toks := tk' }) :
    wpAny (model PySem.Challenge.rw_pg0243_02.row.prog w) (ktrTop dp un gd cn cs L a ccd cl outer) (call (.ref 94) [.str want t, .str got u]) Q E s :=
  ell_claim w mean mg mb news want got t u ss ok.hin ok.hsp ok.hss ok.hsl ok.hw hg dp un gd cn cs a ccd cl outer A₀ base h₀ L m s Q E B F X N T hk hd hu (by
    rintro v news' h' tk' F' N' ⟨rfl, rfl⟩
    rw [hr]
    exact hret h' tk' F' N')
end
section
variable {prog : Program} {w : World} {A : Around} {E : Value → Shared → Prop} {s : Shared} {h₀ : Heap} {L : Addr} {m : Env1} {news : Led}
theorem lists_add {l b : Addr} {xs ys : List Value} {n1 n2 : Nat} {Q : Value → Shared → Prop} (F : Fr h₀ L s.heap m) (N : News h₀ L s.heap news) (hm1 : (l, W.listOf xs.toArray n1) ∈ news) (hm2 : (b, W.listOf ys.toArray n2) ∈ news) (hz : xs.length + ys.length ≤ 10000)
    (h : ∀ D h', Fr h₀ L h' m → News h₀ L h' ((D, W.listOf (xs ++ ys).toArray 0) :: news) → (∀ p ∈ news, p.1 < D) → Q (.ref D) { s with heap := h' }) : wpAny (model prog w) A (binaryOp .Add (.ref l) (.ref b)) Q E s :=
  PyProof.Rows.add_lists (vs := xs) (ws := ys) (hsz := by rw [sizeLine_eq]; omega) F N (News.isList N hm1) (News.isList N hm2) fun h' F' N' => h _ h' F' N' fun p hp => Heap.lt_size (N p hp).1
end
theorem list_app {prog : Program} {w : World} {A : Around} {E : Value → Shared → Prop} {s : Shared} {h₀ : Heap} {L D : Addr} {m : Env1} {rest : Led} {xs : List Value} {n : Nat} {y : Value} {Q : Value → Shared → Prop} (F : Fr h₀ L s.heap m) (N : News h₀ L s.heap ((D, W.listOf xs.toArray n) :: rest)) (hap : ∀ p ∈ rest, p.1 ≠ D) (hz : xs.length < 10000)
    (h : ∀ h', Fr h₀ L h' m → News h₀ L h' ((D, W.listOf (xs ++ [y]).toArray (n + 1)) :: rest) → Q .none { s with heap := h' }) : wpAny (model prog w) A (call (.builtin "list.append") [.ref D, y]) Q E s := by
  refine PyProof.Rows.append_at (N _ (.head _)).1 (fun h' hs ho => ?_) (by rw [sizeLine_eq, List.size_toArray]; omega)
  have e : ({ cls := .type "list", data := .seq (xs.toArray.push y) (n + 1) } : Obj) = W.listOf (xs ++ [y]).toArray (n + 1) := by
    rw [List.push_toArray]
  rw [e] at ho
  have q := led_upd F N hap hs ho
  exact h h' q.1 q.2

/-- what _law_rests reckons of rows of so many blanks -/
noncomputable def restStep (p : Nat) (acc : List Int) (c : Nat) : List Int := if acc.any (· == ((c % p : Nat) : Int)) then acc else acc ++ [((c % p : Nat) : Int)]
noncomputable def restsOf (p : Nat) (cs : List Nat) : List Int := cs.foldl (restStep p) []
/-- rows of blanks -/
inductive RowsAre : List Str → List Nat → Prop
  | nil : RowsAre [] []
  | cons {y : Str} {c : Nat} {ys : List Str} {cs : List Nat} : sg y = List.replicate c 32 → c ≤ 60 → RowsAre ys cs → RowsAre (y :: ys) (c :: cs)
theorem RowsAre.at {ys : List Str} {cs : List Nat} (h : RowsAre ys cs) : ∀ {i : Nat} {y : Str}, ys[i]? = some y → ∃ c, cs[i]? = some c ∧ sg y = List.replicate c 32 ∧ c ≤ 60 := by
  induction h with
  | nil => intro i y e; simp at e
  | cons h1 h2 _ ih =>
    intro i y e
    cases i with
    | zero => exact ⟨_, rfl, by simpa using (Option.some.inj e ▸ h1), h2⟩
    | succ i => exact ih (by simpa using e)
theorem RowsAre.len {ys : List Str} {cs : List Nat} (h : RowsAre ys cs) : ys.length = cs.length := by
  induction h with
  | nil => rfl
  | cons _ _ _ ih => simp [ih]
noncomputable def rowWS (c : Nat) : WS := wsRun (List.replicate c 32 ++ [9])
noncomputable def rowChk2 (c p : Nat) : Bool := decide ((rowWS c).n = (c : Int) + 1) && decide ((rowWS c).n - 1 + (p : Int) - indOf (rowWS c) (p : Int) = ((c % p : Nat) : Int)) && decide (0 ≤ indOf (rowWS c) (p : Int)) && decide (indOf (rowWS c) (p : Int) ≤ 1000)
set_option maxRecDepth 1000000 in
theorem all_rowChk : ((List.range 61).all fun c => rowChk2 c 7 && rowChk2 c 11) = true := by decide +kernel
theorem rowWS_ok {c : Nat} (h : c ≤ 60) : WsOk (rowWS c) := by
  have hl : (List.replicate c 32 ++ [9]).length ≤ 61 := by simp; omega
  obtain ⟨h1, h2, h3, h4, h5, h6, h7, h8, h9⟩ := wsRun_bd (List.replicate c 32 ++ [9])
  exact ⟨by unfold rowWS; omega, ⟨by unfold rowWS; omega, by unfold rowWS; omega⟩, ⟨by unfold rowWS; omega, by unfold rowWS; omega⟩, fun z hz => by have := h9 z hz; omega⟩
theorem row_facts {c p : Nat} (h : c ≤ 60) (hp : p = 7 ∨ p = 11) : (rowWS c).n = (c : Int) + 1 ∧ (rowWS c).n - 1 + (p : Int) - indOf (rowWS c) (p : Int) = ((c % p : Nat) : Int) ∧ 0 ≤ indOf (rowWS c) (p : Int) ∧ indOf (rowWS c) (p : Int) ≤ 1000 := by
  have := List.all_eq_true.mp all_rowChk c (List.mem_range.mpr (by omega))
  rw [Bool.and_eq_true] at this
  rcases hp with rfl | rfl
  · have h := this.1
    unfold rowChk2 at h
    simp only [Bool.and_eq_true, decide_eq_true_eq] at h
    exact ⟨h.1.1.1, h.1.1.2, h.1.2, h.2⟩
  · have h := this.2
    unfold rowChk2 at h
    simp only [Bool.and_eq_true, decide_eq_true_eq] at h
    exact ⟨h.1.1.1, h.1.1.2, h.1.2, h.2⟩
theorem restStep_len (p : Nat) (acc : List Int) (c : Nat) : (restStep p acc c).length ≤ acc.length + 1 := by
  unfold restStep; split
  · omega
  · simp
theorem restsOf_len (p : Nat) (cs : List Nat) : (restsOf p cs).length ≤ cs.length := by
  have key : ∀ (cs : List Nat) (acc : List Int), (cs.foldl (restStep p) acc).length ≤ acc.length + cs.length := by
    intro cs
    induction cs with
    | nil => intro acc; simp
    | cons c r ih =>
      intro acc
      have h1 := ih (restStep p acc c)
      have h2 := restStep_len p acc c
      simp only [List.foldl_cons, List.length_cons]
      omega
  have := key cs []
  simp only [List.length_nil, Nat.zero_add] at this
  exact this
theorem restsOf_snoc (p : Nat) (cs : List Nat) (c : Nat) : restsOf p (cs ++ [c]) = restStep p (restsOf p cs) c := by
  unfold restsOf; rw [List.foldl_append]; rfl
structure RC where
  rs : List Value
  ns : List Int
  ep : Nat
--<M
local macro_rules | `(tactic| walk_at "call ref") => `(tactic| (k_here; (with_reducible refine gdr 83 ?_); (with_reducible refine Halt.mk ?_)))
local macro_rules | `(tactic| walk_at "compareOp NotIn int ref") => `(tactic| (k_here; (with_reducible refine Halt.mk ?_)))
local macro_rules | `(tactic| walk_at "call builtin:list.append") => `(tactic| (k_here; (with_reducible refine Halt.mk ?_)))
--M>
set_option maxHeartbeats 8000000 in
theorem rests_claim (w : World) (mean : ExcName → Option Value) (mg mb : Str → Option Value) (news : Led) (l : Addr) (vs : List Value) (ys : List Str) (cs2 : List Nat) (ep : Nat) (hi : StrsAre vs ys) (hr : RowsAre ys cs2) (hlen : cs2.length ≤ 50) (p : Nat) (tp : Tok) (hp : p = 7 ∨ p = 11) :
   Claim w mean mg mb 150 ((l, W.listOf vs.toArray ep) :: news) [.ref l, .int (p : Int) tp] 6 (fun v news' => ∃ R rs ep2, v = .ref R ∧ IntsAre rs (restsOf p cs2) ∧ news' = (R, W.listOf rs.toArray ep2) :: (l, W.listOf vs.toArray ep) :: news ∧ ∀ q ∈ (l, W.listOf vs.toArray ep) :: news, q.1 < R) := by
  unfold Claim
  w_top off
  k_fill
  have mine_on : MineOn := True.intro
  intro dp un gd cn cs a ccd cl outer A₀ base h₀ L m s Q E B F X N T hk hd hu hret
  k_steps
  rename_i g L1 _ FG B1 X1 T1 R _ lc _ it o h1 F1 N1 ho le
  have hvl : vs.length = cs2.length := by rw [hi.length, hr.len]
  refine Loop.iter (σ := RC) (iter_of_list it l vs ep) rfl (fun i c => IntsAre c.rs c.ns ∧ c.ns = restsOf p (cs2.take i)) (fun _ => [(Str.ofString "rests", .ref R), (Str.ofString "size", .int (p : Int) tp)])
    (fun c => (R, W.listOf c.rs.toArray c.ep) :: (l, W.listOf vs.toArray ep) :: news) ⟨[], [], 0⟩ ⟨.nil, rfl⟩ ho (At.intro F1 N1 ⟨rfl, rfl, True.intro⟩ fun q hq => hq) (fun _ _ _ q hq => by
      rcases List.mem_cons.mp hq with rfl | hq
      · exact Nat.ne_of_lt le.1
      rcases List.mem_cons.mp hq with rfl | hq
      · exact Nat.ne_of_lt le.2.1
      · exact Nat.ne_of_lt (allLt_mem le.2.2 q hq)) (fun _ _ _ q hq => by rw [List.mem_singleton.mp hq]; exact .tail _ (.head _)) ?_ ?_
  · rintro i ⟨rs, ns, ep2⟩ hi' ⟨hI, hns⟩ v o h tk mm hv ho F N
    dsimp only at hI hns F N
    obtain ⟨y, ty, hy, rfl⟩ := strs_get hi hv
    obtain ⟨c, hc, hsg, hc60⟩ := hr.at hy
    have hyl : y.length ≤ 60 := by rw [← sg_length, hsg, List.length_replicate]; exact hc60
    have hst : wsRun (sg (y ++ Str.ofString "\t")) = rowWS c := by rw [sg_append, hsg]; rfl
    have hwl : (y ++ Str.ofString "\t").length < 1000 := by
      rw [← sg_length, sg_append, hsg, List.length_append, List.length_replicate]
      have e : (sg (Str.ofString "\t")).length = 1 := by decide
      omega
    have hws : ∀ d ∈ sg (y ++ Str.ofString "\t"), d = 32 ∨ d = 9 := by
      intro d hd
      rw [sg_append, hsg] at hd
      rcases List.mem_append.mp hd with hd | hd
      · exact .inl (List.mem_replicate.mp hd).2
      · have e : sg (Str.ofString "\t") = [9] := by decide
        rw [e] at hd
        exact .inr (List.mem_singleton.mp hd)
    have ok := rowWS_ok hc60
    obtain ⟨f1, f2, f3, f4⟩ := row_facts hc60 hp
    have hlr : ns.length ≤ 50 := by
      have := restsOf_len p (cs2.take i)
      rw [← hns, List.length_take] at this
      omega
    have hrl : rs.length ≤ 50 := by rw [hI.length]; exact hlr
    k_steps
    unfold Halt
    (rename Fr _ _ _ _ => F5)
    (rename News _ _ _ _ => N5)
    k_dflt (refine' ws_use ?k1 F5 ?kX N5 ?kT ?kK hwl hws ?kd ?ku ?_)
    case k1 => k_asm
    case kX => k_asm
    case kT => k_asm
    case kK => rfl
    case kd => ktr_room
    case ku => ktr_units
    k_whole
    clear F5 N5
    intro wx dx wp wc vs0 tb0 tn0 tt0 a1 a2 a3 a4 a5 h2 tk2 F5 N5 hi0 q0 q1 q2 q3
    rw [hst] at N5 hi0
    clear hst
    generalize rowWS c = S0 at *
    simp only [List.cons_append, List.nil_append] at N5
    k_steps
    unfold Halt
    rename_i _ _ tq _ _ _
    dsimp only
    rw [f2]
    refine PyProof.Rows.notin_list_ints (News.isList (by k_asm) (by k_mem)) hI ?_
    have hsn : cs2.take (i + 1) = cs2.take i ++ [c] := by rw [List.take_add_one, hc]; rfl
    cases hb : ns.any (· == ((c % p : Nat) : Int)) with
    | true =>
      rw [Bool.not_true]
      k_steps
      (rename Fr _ _ _ _ => F20)
      (rename News _ _ _ _ => N20)
      refine TurnI.next ⟨rs, ns, ep2⟩ F20 N20 ⟨hI, ?_⟩ ⟨rfl, rfl, True.intro⟩ ho fun q hq => .tail _ (.tail _ (.tail _ (.tail _ hq)))
      dsimp only
      rw [hsn, restsOf_snoc, ← hns]
      unfold restStep
      rw [if_pos hb]
    | false =>
      rw [Bool.not_false]
      k_steps
      unfold Halt
      (rename Fr _ _ _ _ => F20)
      (rename News _ _ _ _ => N20)
      have N21 := cb_drop (news := (R, W.listOf rs.toArray ep2) :: (it, o) :: (l, W.listOf vs.toArray ep) :: news) N20 (fun q hq => by
        simp only [List.mem_cons] at hq ⊢
        rcases hq with h | h | h | h <;> simp only [h, true_or, or_true])
      refine list_app F20 N21 (fun q hq => ?_) (by omega) ?_
      · rcases List.mem_cons.mp hq with rfl | hq
        · exact Nat.ne_of_gt le.1
        rcases List.mem_cons.mp hq with rfl | hq
        · exact Nat.ne_of_lt lc.1
        · exact Nat.ne_of_lt (allLt_mem lc.2 q hq)
      intro h22 F22 N22
      dsimp only
      k_steps
      refine TurnI.next ⟨rs ++ [.int ((c % p : Nat) : Int) tq], ns ++ [((c % p : Nat) : Int)], ep2 + 1⟩ F22 (f2 ▸ N22) ⟨?_, ?_⟩ ⟨rfl, rfl, True.intro⟩ ho ?_
      · exact hI.append (.cons _ _ .nil)
      · dsimp only
        rw [hsn, restsOf_snoc, ← hns]
        unfold restStep
        rw [hb, if_neg Bool.false_ne_true]
      · intro q hq
        simp only [List.mem_cons] at hq ⊢
        rcases hq with h | h | h | h <;> simp only [h, true_or, or_true]
  · rintro ⟨rs, ns, ep2⟩ ⟨hI, hns⟩ h tk mm F N
    dsimp only at hI hns F N
    rw [hvl, List.take_length] at hns
    subst hns
    k_steps
    (rename News _ _ _ _ => N20)
    (rename Fr _ _ _ _ => F20)
    refine hret _ _ _ _ F20 N20 ⟨R, rs, ep2, rfl, hI, rfl, fun q hq => ?_⟩
    rcases List.mem_cons.mp hq with rfl | hq
    · exact lc.1
    · exact allLt_mem lc.2 q hq

theorem sum_le_of {α : Type} (f : α → Nat) (k : Nat) : ∀ l : List α, (∀ a ∈ l, f a ≤ k) → (l.map f).sum ≤ k * l.length
  | [], _ => Nat.zero_le _
  | a :: r, h => by
    have h1 := h a (.head _)
    have h2 := sum_le_of f k r fun b hb => h b (.tail _ hb)
    simp only [List.map_cons, List.sum_cons, List.length_cons, Nat.mul_add, Nat.mul_one]
    omega

section
open LCg
variable {prog : Program} {w : World} {A : Around} {s : Shared} {h₀ : Heap} {L : Addr} {m : Str → Option Value} {env : Env}
/-- a comprehension over a range whose elements are texts -/
theorem restR_key {elt : PySem.Expr} {x : Str} {scope : Scope} {cl : List (Str × Addr)} {Fin : List Value → Led → Prop} {news : Led} {n : Nat} {a : Int} (g : Nat → Str)
    (turn : ∀ i, i < n → ∀ t I oI C oC D m₂ vs h tk (E' : Value → Shared → Prop), NsObj oC m₂ → m₂ x = some (.int (a + (i : Int)) t) → Fr h₀ L h m → News h₀ L h ((I, oI) :: (C, oC) :: (D, lst vs) :: news) → Off3 I C D news → ((@Ne Nat I C) ∧ (@Ne Nat I D) ∧ (@Ne Nat C D)) →
      wpAny (model prog w) A (eval elt (compEnvC scope cl C env)) (CompEnd h₀ L m { s with heap := h, toks := tk } I oI C oC D (lst vs) (fun _ => True) (fun v news' => news' = news ∧ ∃ t, v = .str (g i) t)) E' { s with heap := h, toks := tk })
    (fin : ∀ vs, StrsAre vs ((List.range n).map g) → Fin vs news) :
    CompRest prog w A h₀ L m env elt x scope cl s (fun _ => True) (fun i v => ∃ t, v = .int (a + (i : Int)) t) Fin n 0 [] news := by
  have key : ∀ (j i : Nat) (ys : List Value), i + j = n → StrsAre ys ((List.range i).map g) → CompRest prog w A h₀ L m env elt x scope cl s (fun _ => True) (fun i v => ∃ t, v = .int (a + (i : Int)) t) Fin j i ys news := by
    intro j
    induction j with
    | zero =>
      intro i ys hi hy
      have e : i = n := by omega
      subst e
      exact CompRest.zero (fin ys hy)
    | succ j ih =>
      intro i ys hi hy
      refine CompRest.succ ?_
      intro v I oI C oC D m₂ h tk E' hv hC hx F N off ne
      obtain ⟨t, rfl⟩ := hv
      refine wpAny_mono (turn i (by omega) t I oI C oC D m₂ ys h tk E' hC hx F N off ne) (fun y s₂ hq => ?_) fun _ _ e => e
      obtain ⟨h', tk', nw, e, F', N', off', hS, rfl, t', rfl⟩ := hq
      refine ⟨h', tk', _, e, F', N', off', hS, ih (i + 1) _ (by omega) ?_⟩
      rw [List.range_succ, List.map_append]
      exact strs_snoc hy _ _
  exact key n 0 [] (Nat.zero_add _) .nil
end
/-- the ring's marks -/
noncomputable def markOf (ns : List Int) (p step k : Nat) : Str := if ns.any (· == ((k * step % p : Nat) : Int)) then Str.ofString "x" else Str.ofString "-"
noncomputable def marksOf (ns : List Int) (p step : Nat) : Str := Txt.join (Str.ofString "") ((List.range p).map (markOf ns p step))
noncomputable def wantOf (n : Nat) : Str := (Str.ofString "..." ++ Txt.mul (Str.ofString "x") (n : Int)) ++ Str.ofString "..."
noncomputable def besideOf (ns : List Int) (p step : Nat) : Bool := ellRun (marksOf ns p step ++ marksOf ns p step) (Str.empty :: ([Txt.mul (Str.ofString "x") (ns.length : Int)] ++ [Str.empty])) 0
--<M
local macro_rules | `(tactic| walk_at "CompSrc") => `(tactic| (k_here; (with_reducible refine Halt.mk ?_)))
local macro_rules | `(tactic| walk_at "eval ListComp") => `(tactic| (k_here; k_dflt (refine LCg.ListComp_U (F₀ := by k_asm) (by with_unfolding_all rfl) (by decide) (by rfl) (by decide) (by rfl) ?_)))
local macro_rules | `(tactic| walk_at "compareOp In int ref") => `(tactic| (k_here; (with_reducible refine Halt.mk ?_)))
local macro_rules | `(tactic| walk_at "call builtin:str.join") => `(tactic| (k_here; (with_reducible refine gdJoin ?_); k_dflt (refine join_list (News.isList (by k_asm) (by k_mem)) (by assumption) (by assumption) ?_); intro t' tk'))
local macro_rules | `(tactic| walk_at "binaryOp Mult str int") => `(tactic| ((walk_at "my_on"); k_here; refine SB.mul (by assumption) ?_; intro _ _))
local macro_rules | `(tactic| walk_at "call ref") => `(tactic| (k_here; (with_reducible refine gdr 94 ?_); k_dflt (refine' ell_use ?k1 ?k2 ?k3 ?k4 ?k5 ?kK ?ok ?hr ?hg ?kd ?ku ?_; (case k1 | k2 | k3 | k4 | k5 => k_asm); (case kK => first | exact rfl | assumption); (case ok | hr | hg => assumption); (case kd => ktr_room); (case ku => ktr_units); k_whole; intro h' tk' F' N'; (try dsimp only); (try k_fold))))
--M>
theorem want_ok : ∀ n : Nat, 1 ≤ n → n ≤ 3 → PatOk (wantOf n) [Txt.mul (Str.ofString "x") (n : Int)]
  | 1, _, _ => ⟨by decide +kernel, by decide +kernel, by decide, fun w hw => by rw [List.mem_singleton.mp hw]; decide +kernel, by decide +kernel⟩
  | 2, _, _ => ⟨by decide +kernel, by decide +kernel, by decide, fun w hw => by rw [List.mem_singleton.mp hw]; decide +kernel, by decide +kernel⟩
  | 3, _, _ => ⟨by decide +kernel, by decide +kernel, by decide, fun w hw => by rw [List.mem_singleton.mp hw]; decide +kernel, by decide +kernel⟩
  | 0, h, _ => by omega
  | n + 4, _, h => by omega
theorem mark_len (ns : List Int) (p step k : Nat) : (markOf ns p step k).length = 1 := by
  unfold markOf; split <;> decide
theorem marks_bd (ns : List Int) (p step : Nat) (hp : p ≤ 11) : (((List.range p).map (markOf ns p step)).map (·.length)).sum + ((List.range p).map (markOf ns p step)).length * (Str.ofString "").length ≤ 16777216 := by
  have h1 := sum_le_of (fun x : Str => x.length) 1 ((List.range p).map (markOf ns p step)) (fun a ha => by
    obtain ⟨k, _, rfl⟩ := List.mem_map.mp ha
    exact Nat.le_of_eq (mark_len ns p step k))
  rw [List.length_map, List.length_range] at h1 ⊢
  rw [show (Str.ofString "").length = 0 by decide]
  omega
theorem marks_len (ns : List Int) (p step : Nat) : (marksOf ns p step).length = p := by
  unfold marksOf
  rw [← sg_length, sg_join0, List.flatMap_map]
  have : ∀ l : List Nat, (l.flatMap fun k => sg (markOf ns p step k)).length = l.length := by
    intro l
    induction l with
    | nil => rfl
    | cons k r ih => rw [List.flatMap_cons, List.length_append, ih, sg_length, mark_len, List.length_cons]; omega
  rw [this, List.length_range]
set_option maxHeartbeats 8000000 in
theorem beside_claim (w : World) (mean : ExcName → Option Value) (mg mb : Str → Option Value) (news : Led) (R : Addr) (rs : List Value) (ns : List Int) (ep : Nat) (hi : IntsAre rs ns) (hlen : ns.length ≤ 3) (hlen0 : 1 ≤ ns.length) (p : Nat) (tp : Tok) (hp : p = 7 ∨ p = 11) (step : Nat) (ts : Tok) (hs : 1 ≤ step ∧ step ≤ 5) :
   Claim w mean mg mb 155 ((R, W.listOf rs.toArray ep) :: news) [.ref R, .int (p : Int) tp, .int (step : Int) ts] 6 (fun v news' => v = .bool (besideOf ns p step) ∧ news' = (R, W.listOf rs.toArray ep) :: news) := by
  unfold Claim
  w_top off
  k_fill
  have mine_on : MineOn := True.intro
  intro dp un gd cn cs a ccd cl outer A₀ base h₀ L m s Q E B F X N T hk hd hu hret
  have hp2 : 7 ≤ p ∧ p ≤ 11 := by omega
  have hrl : rs.length = ns.length := hi.length
  have hok := want_ok ns.length hlen0 hlen
  unfold wantOf at hok
  have hmul : MulOk (Str.ofString "x") (ns.length : Int) := mulOk_of 16 1048576 (by decide) (by omega) (by omega) (by decide) (by decide)
  have hml : (Txt.mul (Str.ofString "x") (ns.length : Int)).length ≤ 3 := by
    have d := len_mul (Str.ofString "x") (ns.length : Int)
    rw [show (Str.ofString "x").length = 1 by decide] at d
    split at d <;> omega
  have hbd := marks_bd ns p step hp2.2
  have hkl : (marksOf ns p step).length ≤ 11 := by rw [marks_len]; exact hp2.2
  have hgl : (marksOf ns p step ++ marksOf ns p step).length < 1000 := by rw [← sg_length, sg_append, List.length_append, sg_length]; omega
  have hrr : ellRun (marksOf ns p step ++ marksOf ns p step) (Str.empty :: ([Txt.mul (Str.ofString "x") (ns.length : Int)] ++ [Str.empty])) 0 = besideOf ns p step := rfl
  unfold marksOf at hkl hgl hrr
  k_steps
  unfold Halt
  refine LCg.CompSrc.range (n := p) (by rfl) (by k_asm) (by k_asm) (by assumption) (by rcases hp with rfl | rfl <;> decide) (by rcases hp with rfl | rfl <;> rfl) (by rcases hp with rfl | rfl <;> exact Nat.le_of_ble_eq_true rfl) ?_
  intro g1
  refine restR_key (markOf ns p step) ?_ ?_
  · intro i hi' t I oI C oC D m₂ vs h tk E' hC hx F N off ne
    rw [Int.zero_add] at hx
    dsimp only at *
    have hm : 0 ≤ (i : Int) * (step : Int) ∧ (i : Int) * (step : Int) ≤ 11 * 5 := ⟨Int.mul_nonneg (by omega) (by omega), Int.mul_le_mul (by omega) (by omega) (by omega) (by omega)⟩
    k_steps
    unfold Halt
    dsimp only
    have e : ((i : Int) * (step : Int)).fmod (p : Int) = ((i * step % p : Nat) : Int) := by
      rw [Int.fmod_eq_emod_of_nonneg _ (Int.natCast_nonneg p), ← Int.natCast_mul, ← Int.natCast_emod]
    rw [e]
    refine PyProof.Rows.in_list_ints (News.isList (by k_asm) (by k_mem)) hi ?_
    cases hb : ns.any (· == ((i * step % p : Nat) : Int)) with
    | true =>
      k_steps
      exact LCg.CompEnd.intro (by k_asm) (by k_asm) _ (fun p hp => hp) off True.intro ⟨rfl, _, by unfold markOf; rw [hb]; rfl⟩
    | false =>
      k_steps
      exact LCg.CompEnd.intro (by k_asm) (by k_asm) _ (fun p hp => hp) off True.intro ⟨rfl, _, by unfold markOf; rw [hb]; rfl⟩
  · intro vs hvs D h tk F N o1
    dsimp only
    k_steps
    refine hret _ _ _ _ (by k_asm) (cb_drop (by assumption) (fun q hq => .tail _ (.tail _ (.tail _ (.tail _ hq))))) ⟨rfl, rfl⟩

/-- rising -/
noncomputable def Rise (xs : List Nat) : Prop := xs.Pairwise (· < ·)
theorem below_go (xs : List Nat) (j : Nat) (hr : Rise xs) : ∀ (fuel lo hi : Nat), lo ≤ hi → hi ≤ xs.length → hi - lo ≤ fuel → (∀ i, i < lo → ∀ y, xs[i]? = some y → y < j) → (∀ i, hi ≤ i → ∀ y, xs[i]? = some y → j ≤ y) →
    ∃ b, SetTable.below.go xs.toArray j fuel lo hi = b ∧ b ≤ xs.length ∧ (∀ i, i < b → ∀ y, xs[i]? = some y → y < j) ∧ (∀ i, b ≤ i → ∀ y, xs[i]? = some y → j ≤ y)
  | 0, lo, hi, h1, h2, h3, h4, h5 => ⟨lo, rfl, by omega, h4, fun i hi' => h5 i (by omega)⟩
  | fuel + 1, lo, hi, h1, h2, h3, h4, h5 => by
    unfold SetTable.below.go
    by_cases hl : lo < hi
    · rw [if_pos hl]
      dsimp only
      have hm : (lo + hi) / 2 < xs.length := by omega
      have e : xs.toArray.getD ((lo + hi) / 2) j = xs[(lo + hi) / 2] := by simp [hm]
      rw [e]
      by_cases hq : xs[(lo + hi) / 2] < j
      · rw [if_pos hq]
        refine below_go xs j hr fuel _ hi (by omega) h2 (by omega) (fun i hi' y hy => ?_) h5
        obtain ⟨hil, rfl⟩ := List.getElem?_eq_some_iff.mp hy
        rcases Nat.lt_or_ge i ((lo + hi) / 2) with q | q
        · exact Nat.lt_trans (List.pairwise_iff_getElem.mp hr _ _ hil hm q) hq
        · have : i = (lo + hi) / 2 := by omega
          subst this; exact hq
      · rw [if_neg hq]
        refine below_go xs j hr fuel lo _ (by omega) (by omega) (by omega) h4 (fun i hi' y hy => ?_)
        obtain ⟨hil, rfl⟩ := List.getElem?_eq_some_iff.mp hy
        rcases Nat.lt_or_ge ((lo + hi) / 2) i with q | q
        · exact Nat.le_trans (Nat.not_lt.mp hq) (Nat.le_of_lt (List.pairwise_iff_getElem.mp hr _ _ hm hil q))
        · have : i = (lo + hi) / 2 := by omega
          subst this; exact Nat.not_lt.mp hq
    · rw [if_neg hl]
      exact ⟨lo, rfl, by omega, h4, fun i hi' => h5 i (by omega)⟩
theorem below_spec (xs : List Nat) (j : Nat) (hr : Rise xs) : ∃ b, SetTable.below xs.toArray j = b ∧ b ≤ xs.length ∧ (∀ i, i < b → ∀ y, xs[i]? = some y → y < j) ∧ (∀ i, b ≤ i → ∀ y, xs[i]? = some y → j ≤ y) := by
  unfold SetTable.below
  rw [List.size_toArray]
  exact below_go xs j hr _ 0 _ (Nat.zero_le _) (Nat.le_refl _) (by omega) (fun i h => by omega) (fun i h y hy => by
    obtain ⟨hil, _⟩ := List.getElem?_eq_some_iff.mp hy; omega)
/-- behind the i-th place comes the next one -/
theorem below_next (xs : List Nat) (hr : Rise xs) (i x : Nat) (h : xs[i]? = some x) : SetTable.below xs.toArray (x + 1) = i + 1 := by
  obtain ⟨b, e, h1, h2, h3⟩ := below_spec xs (x + 1) hr
  rw [e]
  have a : i < b := by
    rcases Nat.lt_or_ge i b with q | q
    · exact q
    · have := h3 i q x h; omega
  obtain ⟨hil, rfl⟩ := List.getElem?_eq_some_iff.mp h
  rcases Nat.lt_or_ge (i + 1) b with q | q
  · have hl : i + 1 < xs.length := by omega
    have p := List.pairwise_iff_getElem.mp hr i (i + 1) hil hl (by omega)
    have := h2 (i + 1) q _ (List.getElem?_eq_getElem hl)
    omega
  · omega
theorem below_zero (xs : List Nat) (hr : Rise xs) : SetTable.below xs.toArray 0 = 0 := by
  obtain ⟨b, e, h1, h2, h3⟩ := below_spec xs 0 hr
  rw [e]
  rcases Nat.eq_zero_or_pos b with q | q
  · exact q
  · have := h2 0 q _ (List.getElem?_eq_getElem (by omega)); omega
/-- a new one laid in at its place -/
theorem rise_insert (xs : List Nat) (j : Nat) (hr : Rise xs) (hj : j ∉ xs) : Rise (xs.take (SetTable.below xs.toArray j) ++ j :: xs.drop (SetTable.below xs.toArray j)) := by
  obtain ⟨b, e, h1, h2, h3⟩ := below_spec xs j hr
  rw [e]
  have hd : ∀ y ∈ xs.drop b, j < y := fun y hy => by
    obtain ⟨i, hi⟩ := List.mem_iff_getElem?.mp hy
    rw [List.getElem?_drop] at hi
    have := h3 (b + i) (by omega) y hi
    rcases Nat.lt_or_eq_of_le this with q | q
    · exact q
    · exact absurd (List.mem_of_getElem? hi) (q ▸ hj)
  have ht : ∀ y ∈ xs.take b, y < j := fun y hy => by
    obtain ⟨i, hi⟩ := List.mem_iff_getElem?.mp hy
    rw [List.getElem?_take] at hi
    split at hi
    · exact h2 i (by assumption) y hi
    · cases hi
  refine List.pairwise_append.mpr ⟨hr.sublist (List.take_sublist ..), List.pairwise_cons.mpr ⟨hd, hr.sublist (List.drop_sublist ..)⟩, fun x hx y hy => ?_⟩
  rcases List.mem_cons.mp hy with rfl | hy
  · exact ht x hx
  · exact Nat.lt_trans (ht x hx) (hd y hy)
/-- a small table with these places -/
noncomputable def tab7 (pl : List Nat) : SetTable := ⟨7, pl.toArray, #[], 0, true, 0, true⟩
/-- the next size -/
noncomputable def tab31 (pl : List Nat) : SetTable := ⟨31, pl.toArray, #[], 0, true, 1, true⟩
noncomputable def decM (m : Nat) : List Nat := (List.range 8).filter fun i => m.testBit i
noncomputable def few7 (m : Nat) : Bool := Nat.ble (decM m).length 4
noncomputable def slotChk (m h : Nat) : Bool := match (tab7 (decM m)).freeSlot (h : Int) with
  | some (slot, false) => Nat.blt slot 8 && !m.testBit slot
  | _ => false
noncomputable def insChk (m slot : Nat) : Bool := (SetTable.insertAt (decM m).toArray (SetTable.below (decM m).toArray slot) slot).toList == decM (m ||| 1 <<< slot)
set_option maxRecDepth 1000000 in
theorem all_free7 : ((List.range 256).all fun m => !few7 m || (List.range 11).all fun h => slotChk m h) = true := by decide +kernel
set_option maxRecDepth 1000000 in
theorem all_ins7 : ((List.range 256).all fun m => !few7 m || (List.range 8).all fun s => m.testBit s || insChk m s) = true := by decide +kernel
theorem all_rise7 : ((List.range 256).all fun m => decide ((decM m).Pairwise (· < ·))) = true := by decide +kernel
theorem or_lt {m s : Nat} (hm : m < 256) (hs : s ≤ 7) : m ||| 1 <<< s < 256 := by
  have h : 1 <<< s < 2 ^ 8 := by
    rw [Nat.one_shiftLeft]
    exact Nat.pow_lt_pow_right (by decide) (by omega)
  exact Nat.or_lt_two_pow (n := 8) hm h
theorem free7 {m h : Nat} (hm : m < 256) (hl : (decM m).length ≤ 4) (hh : h < 11) : ∃ slot, (tab7 (decM m)).freeSlot (h : Int) = some (slot, false) ∧ slot ≤ 7 ∧ slot ∉ decM m ∧
    (SetTable.insertAt (decM m).toArray (SetTable.below (decM m).toArray slot) slot).toList = decM (m ||| 1 <<< slot) := by
  have f : few7 m = true := Nat.ble_eq_true_of_le hl
  have a := List.all_eq_true.mp all_free7 m (List.mem_range.mpr hm)
  have c := List.all_eq_true.mp all_ins7 m (List.mem_range.mpr hm)
  rw [f, Bool.not_true, Bool.false_or] at a c
  have b := List.all_eq_true.mp a h (List.mem_range.mpr hh)
  unfold slotChk at b
  split at b
  · rename_i slot e
    rw [Bool.and_eq_true, Bool.not_eq_true'] at b
    have l : slot < 8 := Nat.le_of_ble_eq_true b.1
    have d := List.all_eq_true.mp c slot (List.mem_range.mpr l)
    rw [b.2, Bool.false_or] at d
    refine ⟨slot, e, Nat.le_of_lt_succ l, fun q => ?_, beq_iff_eq.mp d⟩
    have := (List.mem_filter.mp q).2
    rw [b.2] at this
    cases this
  · cases b
theorem rise7 {m : Nat} (hm : m < 256) : Rise (decM m) := by
  have := List.all_eq_true.mp all_rise7 m (List.mem_range.mpr hm)
  exact (of_decide_eq_true this : (decM m).Pairwise (· < ·))
/-- in the next size each stands at its own place -/
theorem free31 (pl : List Nat) (hr : Rise pl) (h : Nat) (hh : h < 11) (hn : h ∉ pl) : (tab31 pl).freeSlot (h : Int) = some (h, false) := by
  have e0 : SetTable.bits (h : Int) = h := by
    unfold SetTable.bits
    rw [Int.emod_eq_of_lt (by omega) (by have : (2 : Int) ^ 64 = 18446744073709551616 := by decide
                                         rw [this]; omega)]
    rfl
  have e1 : (tab31 pl).slot h = .empty := by
    unfold SetTable.slot tab31
    dsimp only
    rw [if_neg]
    · rfl
    · intro q
      have q' := beq_iff_eq.mp q
      rw [List.getElem?_toArray] at q'
      exact hn (List.mem_of_getElem? q')
  have e2 : (tab31 pl).probe (fun _ => (h : Int) + 1) (h : Int) ((tab31 pl).probeStart (h : Int)) = some (.empty h none) := by
    unfold SetTable.probe
    show SetTable.probe.go _ _ _ (459 + 1) _ = _
    unfold SetTable.probe.go
    have e3 : ((tab31 pl).probeStart (h : Int)).j = h := by
      unfold SetTable.probeStart
      dsimp only
      rw [e0]
      show h % 32 = h
      omega
    rw [e3, e1]
    rfl
  unfold SetTable.freeSlot
  rw [e2]
  rfl
theorem put31 (pl : List Nat) (h : Nat) : (tab31 pl).put h = (tab31 (pl.take (SetTable.below pl.toArray h) ++ h :: pl.drop (SetTable.below pl.toArray h)), SetTable.below pl.toArray h) := by
  unfold SetTable.put tab31
  dsimp only
  have e : SetTable.has #[] h = false := rfl
  rw [e]
  have e2 := SetTable.toList_insertAt pl.toArray (SetTable.below pl.toArray h) h
  have e3 : SetTable.insertAt pl.toArray (SetTable.below pl.toArray h) h = (pl.take (SetTable.below pl.toArray h) ++ h :: pl.drop (SetTable.below pl.toArray h)).toArray := by
    rw [← e2, Array.toArray_toList]
  rw [e3]
  rfl
theorem put7 {m : Nat} (h slot : Nat) (e : (SetTable.insertAt (decM m).toArray (SetTable.below (decM m).toArray slot) slot).toList = decM (m ||| 1 <<< slot)) :
    (tab7 (decM m)).put slot = (tab7 (decM (m ||| 1 <<< slot)), SetTable.below (decM m).toArray slot) := by
  unfold SetTable.put tab7
  dsimp only
  have e1 : SetTable.has #[] slot = false := rfl
  rw [e1]
  have e3 : SetTable.insertAt (decM m).toArray (SetTable.below (decM m).toArray slot) slot = (decM (m ||| 1 <<< slot)).toArray := by
    rw [← e, Array.toArray_toList]
  rw [e3]
  rfl

theorem fm_congr {α β : Type} {f g : α → Option β} : ∀ l : List α, (∀ x ∈ l, f x = g x) → l.filterMap f = l.filterMap g
  | [], _ => rfl
  | a :: r, h => by
    rw [List.filterMap_cons, List.filterMap_cons, h a List.mem_cons_self, fm_congr r fun x hx => h x (List.mem_cons_of_mem _ hx)]
theorem idx_snoc (h j : Nat) : ∀ done : List Nat, (done ++ [h]).idxOf? j = (done.idxOf? j).orElse fun _ => if h = j then some done.length else none
  | [] => by
    rw [List.nil_append, List.idxOf?_cons]
    by_cases q : h = j
    · subst q; simp
    · simp [q]
  | x :: r => by
    rw [List.cons_append, List.idxOf?_cons, List.idxOf?_cons, idx_snoc h j r]
    by_cases q : x = j
    · subst q; simp
    · simp only [beq_iff_eq, q, if_false]
      cases List.idxOf? j r with
      | some i => rfl
      | none =>
        by_cases z : h = j
        · simp [z]
        · simp [z]
/-- the places of the elements, laid anew -/
theorem clean_go (hs : List Nat) (hb : ∀ h ∈ hs, h < 11) (hnd : hs.Nodup) : ∀ (done rest : List Nat) (owner : Array (Option Nat)), hs = done ++ rest → owner.size = 32 →
    (∀ j, j < 32 → owner.getD j none = done.idxOf? j) →
    ∃ o2, (rest.map fun h : Nat => (h : Int)).foldl (init := some (owner, done.length)) (fun acc h => do
      let (owner, k) ← acc
      let j ← SetTable.layClean.free 31 owner (SetTable.turns 31) (SetTable.bits h % (31 + 1)) (SetTable.bits h)
      pure (owner.setIfInBounds j (some k), k + 1)) = some (o2, hs.length) ∧ o2.size = 32 ∧ ∀ j, j < 32 → o2.getD j none = hs.idxOf? j := by
  intro done rest
  induction rest generalizing done with
  | nil => intro owner e h1 h2; rw [List.append_nil] at e; subst e; exact ⟨owner, rfl, h1, h2⟩
  | cons h rest ih =>
    intro owner e h1 h2
    have hm : h ∈ hs := by rw [e]; simp
    have hb' := hb h hm
    have hnd' : h ∉ done := by
      rw [e] at hnd
      intro q
      exact (List.nodup_append.mp hnd).2.2 h q h List.mem_cons_self rfl
    have e0 : SetTable.bits (h : Int) = h := by
      unfold SetTable.bits
      rw [Int.emod_eq_of_lt (by omega) (by have : (2 : Int) ^ 64 = 18446744073709551616 := by decide
                                           rw [this]; omega)]
      rfl
    have e1 : owner.getD h none = none := by
      rw [h2 h (by omega)]
      exact List.idxOf?_eq_none_iff.mpr hnd'
    have e2 : SetTable.layClean.free 31 owner (SetTable.turns 31) (SetTable.bits (h : Int) % (31 + 1)) (SetTable.bits (h : Int)) = some h := by
      rw [e0, show h % (31 + 1) = h by omega]
      show SetTable.layClean.free 31 owner (45 + 1) h h = _
      unfold SetTable.layClean.free
      have e3 : SetTable.runEnd 31 h + 1 - h = 9 + 1 := by unfold SetTable.runEnd; rw [if_pos (by omega)]; omega
      rw [e3, List.range_succ_eq_map, List.find?_cons_of_pos]
      · rfl
      · rw [Nat.add_zero]
        have : owner.getD h (some 0) = owner.getD h none := by
          rw [Array.getD_eq_getD_getElem?, Array.getD_eq_getD_getElem?, Array.getElem?_eq_getElem (by omega)]
          rfl
        rw [this, e1]; rfl
    rw [List.map_cons, List.foldl_cons]
    simp only [bind, Option.bind, e2, pure]
    have := ih (done ++ [h]) (owner.setIfInBounds h (some done.length)) (by rw [e]; simp) (by simp [h1]) (fun j hj => by
      rw [Array.getD_eq_getD_getElem?, Array.getElem?_setIfInBounds]
      by_cases q : h = j
      · subst q
        rw [if_pos rfl, if_pos (by omega)]
        rw [idx_snoc, List.idxOf?_eq_none_iff.mpr hnd']
        simp
      · rw [if_neg q, ← Array.getD_eq_getD_getElem?, h2 j hj]
        rw [idx_snoc]
        cases z : List.idxOf? j done with
        | some i => rfl
        | none => simp [q])
    rw [List.length_append, List.length_singleton] at this
    exact this
theorem lay31 (hs : List Nat) (hb : ∀ h ∈ hs, h < 11) (hnd : hs.Nodup) : ∃ owner, SetTable.layClean 31 (hs.map fun h : Nat => (h : Int)).toArray = some owner ∧ ∀ j, j < 32 → owner.getD j none = hs.idxOf? j := by
  obtain ⟨o2, h1, h2, h3⟩ := clean_go hs hb hnd [] hs (Array.replicate 32 none) rfl (by simp) (fun j hj => by
    rw [Array.getD_eq_getD_getElem?]
    simp [Array.getElem?_replicate, hj])
  refine ⟨o2, ?_, h3⟩
  unfold SetTable.layClean
  rw [List.foldl_toArray]
  have := congrArg (fun x : Option (Array (Option Nat) × Nat) => x.map (·.1)) h1
  exact this
/-- the elements in the order of their places -/
noncomputable def ordOf (hs : List Nat) : List Nat := (List.range 32).filterMap fun j => hs.idxOf? j
noncomputable def plOf (hs : List Nat) : List Nat := (List.range 32).filter fun j => (hs.idxOf? j).isSome
theorem laid31 (hs : List Nat) (hb : ∀ h ∈ hs, h < 11) (hnd : hs.Nodup) : SetTable.laid 31 0 1 true true (hs.map fun h : Nat => (h : Int)).toArray = some (tab31 (plOf hs), (ordOf hs).toArray) := by
  obtain ⟨owner, h1, h2⟩ := lay31 hs hb hnd
  unfold SetTable.laid
  rw [h1]
  simp only [bind, Option.bind, pure]
  have e : (List.range (31 + 1)).filterMap (fun j => (owner.getD j none).map (j, ·)) = (List.range 32).filterMap (fun j => (hs.idxOf? j).map (j, ·)) := by
    refine fm_congr _ fun j hj => ?_
    rw [h2 j (List.mem_range.mp hj)]
  rw [e]
  unfold tab31 plOf ordOf
  rw [List.map_filterMap, List.map_filterMap]
  have e1 : ∀ l : List Nat, l.filterMap (fun x => Option.map (fun x : Nat × Nat => x.1) (Option.map (fun x_1 => (x, x_1)) (hs.idxOf? x))) = l.filter fun j => (hs.idxOf? j).isSome := by
    intro l
    induction l with
    | nil => rfl
    | cons x r ih =>
      rw [List.filterMap_cons, List.filter_cons, ← ih]
      cases hs.idxOf? x <;> rfl
  have e2 : ∀ l : List Nat, l.filterMap (fun x => Option.map (fun x : Nat × Nat => x.2) (Option.map (fun x_1 => (x, x_1)) (hs.idxOf? x))) = l.filterMap fun j => hs.idxOf? j := by
    intro l
    refine fm_congr _ fun j _ => ?_
    cases hs.idxOf? j <;> rfl
  rw [e1, e2]
theorem plOf_rise (hs : List Nat) : Rise (plOf hs) := (List.pairwise_lt_range).filter _
theorem plOf_mem (hs : List Nat) (hb : ∀ h ∈ hs, h < 11) (j : Nat) : j ∈ plOf hs ↔ j ∈ hs := by
  unfold plOf
  rw [List.mem_filter, List.mem_range, List.isSome_idxOf?]
  constructor
  · rintro ⟨_, h⟩; simpa using h
  · intro h; exact ⟨by have := hb j h; omega, by simpa using h⟩
theorem ordOf_get (hs : List Nat) : (ordOf hs).filterMap (hs[·]?) = plOf hs := by
  unfold ordOf plOf
  rw [List.filterMap_filterMap]
  have : ∀ l : List Nat, l.filterMap (fun x => (hs.idxOf? x).bind (hs[·]?)) = l.filter fun j => (hs.idxOf? j).isSome := by
    intro l
    induction l with
    | nil => rfl
    | cons x r ih =>
      rw [List.filterMap_cons, List.filter_cons, ← ih]
      cases z : hs.idxOf? x with
      | none => rfl
      | some i =>
        obtain ⟨hi, hx, _⟩ := List.idxOf?_eq_some_iff.mp z
        simp [hi, hx]
  exact this _
theorem ordOf_perm (hs : List Nat) (hb : ∀ h ∈ hs, h < 11) (hnd : hs.Nodup) : (ordOf hs).Perm (List.range hs.length) := by
  refine (List.perm_ext_iff_of_nodup ?_ List.nodup_range).mpr fun i => ?_
  · unfold ordOf
    refine List.Pairwise.filterMap _ ?_ (List.nodup_range (n := 32))
    intro a a' ha b hb b' hb' e
    subst e
    obtain ⟨h1, h2, _⟩ := List.idxOf?_eq_some_iff.mp hb
    obtain ⟨h3, h4, _⟩ := List.idxOf?_eq_some_iff.mp hb'
    exact ha (h2.symm.trans h4)
  · unfold ordOf
    rw [List.mem_filterMap, List.mem_range]
    constructor
    · rintro ⟨j, _, h⟩
      obtain ⟨h1, _⟩ := List.idxOf?_eq_some_iff.mp h
      exact h1
    · intro h
      refine ⟨hs[i], List.mem_range.mpr (by have := hb _ (List.getElem_mem h); omega), List.idxOf?_eq_some_iff.mpr ⟨h, rfl, fun j hj e => ?_⟩⟩
      exact List.pairwise_iff_getElem.mp hnd j i (Nat.lt_trans hj h) h hj e

/-- the table of a set of small numbers, that were added one after another -/
structure SetI (hs : List Nat) (t : SetTable) : Prop where
  lt : ∀ h ∈ hs, h < 11
  nd : hs.Nodup
  tab : (∃ m, m < 256 ∧ t = tab7 (decM m) ∧ (decM m).length = hs.length ∧ hs.length ≤ 4) ∨ (t = tab31 hs ∧ Rise hs)
theorem SetI.nil : SetI [] (.fresh 0 0 true) := ⟨fun h hh => (nomatch hh), List.nodup_nil, .inl ⟨0, by decide, by decide +kernel, by decide +kernel, by decide⟩⟩
noncomputable def HashAre (es : Array (Int × Value)) (hs : List Nat) : Prop := es.toList.map (·.1) = hs.map fun h : Nat => (h : Int)
theorem HashAre.size {es : Array (Int × Value)} {hs : List Nat} (h : HashAre es hs) : es.size = hs.length := by
  have := congrArg List.length h
  rw [List.length_map, List.length_map, Array.length_toList] at this
  exact this
theorem HashAre.insert {es : Array (Int × Value)} {hs : List Nat} (h : HashAre es hs) (p k : Nat) (x : Value) : HashAre (SetTable.insertAt es p ((k : Int), x)) (hs.take p ++ k :: hs.drop p) := by
  unfold HashAre at *
  rw [SetTable.toList_insertAt, List.map_append, List.map_cons, List.map_take, List.map_drop, h, List.map_append, List.map_cons, List.map_take, List.map_drop]
theorem ins_perm (hs : List Nat) (p k : Nat) : (hs.take p ++ k :: hs.drop p).Perm (hs ++ [k]) := by
  have e : hs = hs.take p ++ hs.drop p := (List.take_append_drop p hs).symm
  have a : (hs.take p ++ k :: hs.drop p).Perm (k :: (hs.take p ++ hs.drop p)) := List.perm_middle
  rw [← e] at a
  exact a.trans (List.perm_append_singleton k hs).symm
theorem ins_small {hs : List Nat} {p k : Nat} (hb : ∀ h ∈ hs, h < 11) (hk : k < 11) : ∀ h ∈ hs.take p ++ k :: hs.drop p, h < 11 := fun h hh => by
  rcases List.mem_append.mp ((ins_perm hs p k).mem_iff.mp hh) with q | q
  · exact hb h q
  · rw [List.mem_singleton.mp q]; exact hk
theorem ins_nd {hs : List Nat} {p k : Nat} (hn : hs.Nodup) (hk : k ∉ hs) : (hs.take p ++ k :: hs.drop p).Nodup := by
  refine (ins_perm hs p k).nodup_iff.mpr (List.nodup_append.mpr ⟨hn, by simp, fun a ha b hb => ?_⟩)
  rw [List.mem_singleton.mp hb]
  exact fun e => hk (e ▸ ha)
/-- what adding a new number does to elements and table -/
theorem add_pure {es : Array (Int × Value)} {t : SetTable} {hs : List Nat} (he : HashAre es hs) (I : SetI hs t) (hl : hs.length ≤ 9) {k : Nat} (hk : k < 11) (hn : k ∉ hs) (x : Value) :
    ∃ es1 t1, layNew t es (k : Int) x = (es1, t1, false, false) ∧ t1.plain = true ∧ ∃ es2 t2 hs2,
      (((t1.tooFull = true ∧ relayAll t1 es1 (SetTable.grown es1.size) = (es2, t2, false)) ∨ (t1.tooFull = false ∧ es2 = es1 ∧ t2 = t1)) ∧ HashAre es2 hs2 ∧ SetI hs2 t2 ∧ es2.toList.Perm (es.toList ++ [((k : Int), x)])) := by
  have hp := layNew_perm t es (k : Int) x
  rw [Array.toList_push] at hp
  rcases I.tab with ⟨m, hm, rfl, hml, hh4⟩ | ⟨rfl, hr⟩
  · obtain ⟨slot, f1, f2, f3, f4⟩ := free7 hm (by omega) hk
    have hlen : (decM (m ||| 1 <<< slot)).length = hs.length + 1 := by
      rw [← f4, SetTable.toList_insertAt]
      have := List.length_take_le (SetTable.below (decM m).toArray slot) (decM m)
      simp only [List.length_append, List.length_cons, List.length_take, List.length_drop, List.toList_toArray]
      omega
    have hi := he.insert (SetTable.below (decM m).toArray slot) k x
    have hsz : (SetTable.insertAt es (SetTable.below (decM m).toArray slot) ((k : Int), x)).size = hs.length + 1 := by
      rw [hi.size, (ins_perm hs _ k).length_eq, List.length_append]; rfl
    have hfit : (tab7 (decM (m ||| 1 <<< slot))).fits (hs.length + 1) = true := by
      unfold SetTable.fits SetTable.fill tab7
      simp only [List.size_toArray, hlen, beq_self_eq_true, Bool.true_and, decide_eq_true_eq]
      show hs.length + 1 + 0 ≤ 7
      omega
    have hL : layNew (tab7 (decM m)) es (k : Int) x = (SetTable.insertAt es (SetTable.below (decM m).toArray slot) ((k : Int), x), tab7 (decM (m ||| 1 <<< slot)), false, false) := by
      unfold layNew
      rw [f1]
      dsimp only
      rw [put7 k slot f4]
      dsimp only
      rw [hsz]
      unfold SetTable.orStandIn
      rw [hfit]
      rfl
    rw [hL] at hp
    refine ⟨_, _, hL, rfl, ?_⟩
    have hfull : (tab7 (decM (m ||| 1 <<< slot))).tooFull = decide (21 ≤ (hs.length + 1) * 5) := by
      unfold SetTable.tooFull SetTable.fill tab7
      rw [List.size_toArray, hlen]
      rfl
    generalize SetTable.below (decM m).toArray slot = p at *
    by_cases hf : hs.length = 4
    · have hr := laid31 (hs.take p ++ k :: hs.drop p) (ins_small I.lt hk) (ins_nd I.nd hn)
      have hod := ordOf_perm (hs.take p ++ k :: hs.drop p) (ins_small I.lt hk) (ins_nd I.nd hn)
      have hog := ordOf_get (hs.take p ++ k :: hs.drop p)
      have hpm := plOf_mem (hs.take p ++ k :: hs.drop p) (ins_small I.lt hk)
      have hpr := plOf_rise (hs.take p ++ k :: hs.drop p)
      have hpn : (plOf (hs.take p ++ k :: hs.drop p)).Perm (hs.take p ++ k :: hs.drop p) := (List.perm_ext_iff_of_nodup (hpr.imp fun h => Nat.ne_of_lt h) (ins_nd I.nd hn)).mpr hpm
      have hpl : (plOf (hs.take p ++ k :: hs.drop p)).length = 5 := by
        rw [hpn.length_eq, (ins_perm hs p k).length_eq, List.length_append, hf]; rfl
      have hll : (hs.take p ++ k :: hs.drop p).length = 5 := by rw [← hpn.length_eq]; exact hpl
      generalize hH : hs.take p ++ k :: hs.drop p = hs1 at *
      generalize SetTable.insertAt es p ((k : Int), x) = es1 at *
      have hrel : SetTable.relaid (tab7 (decM (m ||| 1 <<< slot))) (es1.map (·.1)) (SetTable.grown es1.size) = some (tab31 (plOf hs1), (ordOf hs1).toArray) := by
        have e1 : (es1.map (·.1)) = (hs1.map fun h : Nat => (h : Int)).toArray := by
          have := hi
          unfold HashAre at this
          rw [← this, ← Array.toArray_toList (xs := es1.map (·.1)), Array.toList_map]
        unfold SetTable.relaid
        rw [e1, hsz, hf]
        exact hr
      have hes : HashAre ((ordOf hs1).toArray.filterMap (es1[·]?)) (plOf hs1) := by
        unfold HashAre
        rw [Array.toList_filterMap, List.toList_toArray, ← hog, List.map_filterMap, List.map_filterMap]
        refine fm_congr _ fun i _ => ?_
        have q := congrArg (fun l : List Int => l[i]?) hi
        simp only [List.getElem?_map, Array.getElem?_toList] at q
        exact q
      have hcov : coversAll (ordOf hs1).toArray es1.size = true := by
        unfold coversAll
        rw [List.toList_toArray]
        exact List.isPerm_iff.mpr (by rw [hi.size]; exact hod)
      have hfit2 : (tab31 (plOf hs1)).fits ((ordOf hs1).toArray.filterMap (es1[·]?)).size = true := by
        rw [hes.size]
        unfold SetTable.fits SetTable.fill tab31
        simp only [List.size_toArray, beq_self_eq_true, Bool.true_and, decide_eq_true_eq]
        rw [hpl]
        decide
      have hR : relayAll (tab7 (decM (m ||| 1 <<< slot))) es1 (SetTable.grown es1.size) = ((ordOf hs1).toArray.filterMap (es1[·]?), tab31 (plOf hs1), false) := by
        unfold relayAll
        rw [hrel]
        dsimp only
        rw [hcov, hfit2]
        rfl
      have hp2 := relayAll_perm (tab7 (decM (m ||| 1 <<< slot))) es1 (SetTable.grown es1.size)
      rw [hR] at hp2
      exact ⟨_, _, _, .inl ⟨by rw [hfull, hf]; rfl, hR⟩, hes, ⟨fun h hh => by
        have hs := (hpm h).mp hh
        rw [← hH] at hs
        exact ins_small I.lt hk h hs, hpr.imp fun h => Nat.ne_of_lt h, .inr ⟨rfl, hpr⟩⟩, hp2.trans hp⟩
    · refine ⟨_, _, _, .inr ⟨by rw [hfull]; exact decide_eq_false (by omega), rfl, rfl⟩, hi, ⟨ins_small I.lt hk, ins_nd I.nd hn, .inl ⟨_, or_lt hm f2, rfl, ?_, ?_⟩⟩, hp⟩
      · rw [hlen, (ins_perm hs p k).length_eq, List.length_append]; rfl
      · rw [(ins_perm hs p k).length_eq, List.length_append, List.length_singleton]; omega
  · have f1 := free31 hs hr k hk hn
    have hi := he.insert (SetTable.below hs.toArray k) k x
    have hlen : (hs.take (SetTable.below hs.toArray k) ++ k :: hs.drop (SetTable.below hs.toArray k)).length = hs.length + 1 := by
      rw [(ins_perm hs _ k).length_eq, List.length_append]; rfl
    have hri := rise_insert hs k hr hn
    have hfit : (tab31 (hs.take (SetTable.below hs.toArray k) ++ k :: hs.drop (SetTable.below hs.toArray k))).fits (hs.length + 1) = true := by
      unfold SetTable.fits SetTable.fill tab31
      simp only [List.size_toArray, hlen, beq_self_eq_true, Bool.true_and, decide_eq_true_eq]
      show hs.length + 1 + 0 ≤ 31
      omega
    have hL : layNew (tab31 hs) es (k : Int) x = (SetTable.insertAt es (SetTable.below hs.toArray k) ((k : Int), x), tab31 (hs.take (SetTable.below hs.toArray k) ++ k :: hs.drop (SetTable.below hs.toArray k)), false, false) := by
      unfold layNew
      rw [f1]
      dsimp only
      rw [put31]
      dsimp only
      rw [hi.size, hlen]
      unfold SetTable.orStandIn
      rw [hfit]
      rfl
    rw [hL] at hp
    refine ⟨_, _, hL, rfl, _, _, _, .inr ⟨?_, rfl, rfl⟩, hi, ⟨ins_small I.lt hk, ins_nd I.nd hn, .inr ⟨rfl, hri⟩⟩, hp⟩
    unfold SetTable.tooFull SetTable.fill tab31
    rw [List.size_toArray, hlen]
    refine decide_eq_false ?_
    show ¬ 93 ≤ (hs.length + 1 + 0) * 5
    omega

theorem hash_small : ∀ k : Nat, k < 11 → hashInt (k : Int) = (k : Int) := by
  intro k hk
  have : (List.range 11).all (fun k : Nat => hashInt (k : Int) == (k : Int)) = true := by decide +kernel
  exact beq_iff_eq.mp (List.all_eq_true.mp this k (List.mem_range.mpr hk))
section
variable {prog : Program} {w : World} {A : Around} {E : Value → Shared → Prop} {s : Shared}
/-- elements that are small numbers -/
noncomputable def ElS (l : List (Int × Value)) : Prop := ∀ e ∈ l, ∃ (k : Nat) (tk : Tok), k < 11 ∧ e = ((k : Int), .int (k : Int) tk)
theorem ElS.elems {l : List (Int × Value)} (h : ElS l) : ElemsOf (intKind prog w) l := fun e he => by
  obtain ⟨k, tk, hk, rfl⟩ := h e he
  exact ⟨⟨(k : Int), intKind_is _ _ _ _, (hash_small k hk).symm⟩, rfl⟩
theorem ElS.perm {l l' : List (Int × Value)} (h : ElS l) (p : l'.Perm l) : ElS l' := fun e he => h e (p.mem_iff.mp he)
theorem ElS.snoc {l : List (Int × Value)} (h : ElS l) {k : Nat} (hk : k < 11) (tk : Tok) : ElS (l ++ [((k : Int), .int (k : Int) tk)]) := fun e he => by
  rcases List.mem_append.mp he with he | he
  · exact h e he
  · rw [List.mem_singleton.mp he]; exact ⟨k, tk, hk, rfl⟩
/-- the numbers -/
noncomputable def numsOf (l : List (Int × Value)) : List Nat := l.map fun e => e.1.toNat
theorem numsOf_mem {l : List (Int × Value)} (h : ElS l) (k : Nat) : k ∈ numsOf l ↔ ∃ tk, ((k : Int), Value.int (k : Int) tk) ∈ l := by
  unfold numsOf
  rw [List.mem_map]
  constructor
  · rintro ⟨e, he, rfl⟩
    obtain ⟨j, tk, _, rfl⟩ := h e he
    exact ⟨tk, he⟩
  · rintro ⟨tk, he⟩; exact ⟨_, he, rfl⟩
theorem ElS.hash {es : Array (Int × Value)} (h : ElS es.toList) : HashAre es (numsOf es.toList) := by
  unfold HashAre numsOf
  rw [List.map_map]
  refine List.map_congr_left fun e he => ?_
  obtain ⟨j, tk, _, rfl⟩ := h e he
  rfl
theorem hash_nums {es : Array (Int × Value)} {hs : List Nat} (h : HashAre es hs) : numsOf es.toList = hs := by
  have := congrArg (List.map Int.toNat) h
  rw [List.map_map, List.map_map] at this
  unfold numsOf
  rw [show (Int.toNat ∘ fun h : Nat => (h : Int)) = id from rfl, List.map_id] at this
  exact this
/-- an object that is a set of just these small numbers, and of no more than n -/
noncomputable def SetO (w : World) (o : Obj) (ks : List Nat) (n : Nat) : Prop :=
  o.ExactSet ∧ ∃ es ep t, o.data = .set es ep t ∧ ElS es.toList ∧ t.fits es.size = true ∧ (numsOf es.toList).Nodup ∧ (∀ k, k ∈ numsOf es.toList ↔ k ∈ ks) ∧ es.size ≤ n ∧ (w.params.followText "set-order" = false → SetI (numsOf es.toList) t)
/-- adding a small number -/
theorem add_hashed {a : Addr} {o : Obj} {ks : List Nat} {n k : Nat} {tk : Tok} {Q : Bool → Shared → Prop} (hk : k < 11) (ho : s.heap.get? a = some o) (S : SetO w o ks n) (hn : n ≤ 9)
    (h : ∀ h' o' b, Heap.SameBut a s.heap h' → h'.get? a = some o' → SetO w o' (ks ++ [k]) (n + 1) → Q b { s with heap := h' }) :
    wpAny (model prog w) A (setAddHashed a (.int (k : Int) tk) ((intKind prog w).hash (k : Int))) Q E s := by
  obtain ⟨hex, es, ep, t, hd, hel, hf, hnd, hm, hsz, hI⟩ := S
  have hkey : (intKind prog w).is (k : Int) (.int (k : Int) tk) = true := intKind_is _ _ _ _
  have hb : es.size < scanBound := by unfold scanBound; omega
  unfold setAddHashed setAddHashedIn
  refine wpAny_holding (wpAny_bind (wpAny_setState_of ho hd hf ?_))
  dsimp only
  rw [byScan_of rfl hb (hel.elems (prog := prog) (w := w)), if_pos rfl]
  unfold setAddByScan
  refine wpAny_bind (wpAny_bind (wpAny_rule (wpAny_bind (wpAny_setScan_of hkey ho hd hf hel.elems ?_))))
  cases hr : List.findIdx? (fun e => (intKind prog w).is (k : Int) e.2) es.toList with
  | some j =>
    dsimp only
    obtain ⟨hj, hpj, _⟩ := List.findIdx?_eq_some_iff_getElem.mp hr
    have hkm : k ∈ numsOf es.toList := by
      obtain ⟨i, ti, hi, e⟩ := hel _ (List.getElem_mem hj)
      rw [e] at hpj
      obtain ⟨u, hu⟩ := Value.isInt_shape (show Value.isInt (k : Int) (Value.int (i : Int) ti) = true from hpj)
      have e2 : (i : Int) = (k : Int) := by injection hu
      have e3 : i = k := Int.ofNat_inj.mp e2
      subst e3
      exact (numsOf_mem hel i).mpr ⟨ti, e ▸ List.getElem_mem hj⟩
    refine wpAny_pure (wpAny_pure ?_)
    have e : s = { s with heap := s.heap } := by cases s; rfl
    rw [e]
    refine h s.heap o _ (Heap.SameBut.refl a s.heap) ho ⟨hex, es, ep, t, hd, hel, hf, hnd, fun i => ?_, by omega, hI⟩
    rw [List.mem_append, ← hm i, List.mem_singleton]
    exact ⟨.inl, fun q => q.elim id fun e => e ▸ hkm⟩
  | none =>
    dsimp only
    have hkn : k ∉ numsOf es.toList := fun q => by
      obtain ⟨ti, hti⟩ := (numsOf_mem hel k).mp q
      have := List.findIdx?_eq_none_iff.mp hr _ hti
      rw [show (intKind prog w).is (k : Int) (Value.int (k : Int) ti) = true from intKind_is _ _ _ _] at this
      cases this
    have hh : (intKind prog w).hash (k : Int) = (k : Int) := hash_small k hk
    rw [hh]
    have hp := layNew_perm t es (k : Int) (.int (k : Int) tk)
    have hf1 := layNew_fits t es (k : Int) (.int (k : Int) tk)
    rw [Array.toList_push] at hp
    have hpure := fun q => add_pure hel.hash (hI q) (by rw [← hel.hash.size]; omega) hk hkn (.int (k : Int) tk)
    generalize layNew t es (k : Int) (.int (k : Int) tk) = R at hp hf1 hpure ⊢
    obtain ⟨es1, t1, wd, gave⟩ := R
    dsimp only at hp hf1 hpure ⊢
    have hs1 : es1.size = es.size + 1 := by rw [← Array.length_toList, hp.length_eq, List.length_append, Array.length_toList]; rfl
    have hz1 : es1.size ≤ sizeLine := fits_of_scanBound (by unfold scanBound; omega)
    have hel1 : ElS es1.toList := (hel.snoc hk tk).perm hp
    have gw : ∀ (b : Bool) {s₁ : Shared} {Q' : Unit → Shared → Prop}, Q' () s₁ → wpAny (model prog w) A (match b with | true => rule "set.scan.the-table-gave-way" | false => pure ()) Q' E s₁ :=
      fun b s₁ Q' q => by cases b <;> first | exact wpAny_pure q | exact wpAny_rule q
    refine wpAny_bind (gw _ ?_)
    have fin : ∀ (es2 : Array (Int × Value)) (t2 : SetTable) (ep2 : Nat) (h' : Heap), Heap.SameBut a s.heap h' → h'.get? a = some { o with data := .set es2 ep2 t2 } → es2.toList.Perm es1.toList → t2.fits es2.size = true →
        (w.params.followText "set-order" = false → SetI (numsOf es2.toList) t2) → Q true { s with heap := h' } := by
      intro es2 t2 ep2 h' hsb hg hp2 hf2 hI2
      have hel2 : ElS es2.toList := hel1.perm hp2
      have hnp : (numsOf es2.toList).Perm (numsOf es.toList ++ [k]) := by
        have := (hp2.trans hp).map fun e : Int × Value => e.1.toNat
        rw [List.map_append] at this
        exact this
      refine h h' _ true hsb hg ⟨hex, es2, ep2, t2, rfl, hel2, hf2, ?_, fun i => ?_, ?_, hI2⟩
      · refine hnp.nodup_iff.mpr (List.nodup_append.mpr ⟨hnd, by simp, fun a ha b hb e => ?_⟩)
        rw [List.mem_singleton.mp hb] at e
        exact hkn (e ▸ ha)
      · rw [hnp.mem_iff, List.mem_append, List.mem_append, hm i]
      · rw [← Array.length_toList, hp2.length_eq, Array.length_toList, hs1]; omega
    rw [hashByValue_scannable 8 rfl]
    simp only [pure_bind, plainKind, ↓reduceIte, ite_self]
    have hex1 : (Obj.putSet es1 t1 o) = { o with data := .set es1 (ep + 1) t1 } := putSet_of es1 t1 hd
    have hg1 : (s.heap.update a (Obj.putSet es1 t1)).get? a = some { o with data := .set es1 (ep + 1) t1 } := by
      have := Heap.get?_update_self (Obj.putSet es1 t1) ho (by rw [hex1]; rfl)
      rw [hex1] at this
      exact this
    have hsb1 := Heap.SameBut.update s.heap a (Obj.putSet es1 t1)
    refine wpAny_bind (wpAny_storeSet_of ho hd ?_ hz1)
    have hp2 := relayAll_perm t1 es1 (SetTable.grown es1.size)
    have hf2 := relayAll_fits t1 es1 (SetTable.grown es1.size)
    split
    · rename_i hw
      generalize hR : relayAll t1 es1 (SetTable.grown es1.size) = R at hp2 hf2 hpure ⊢
      obtain ⟨es2, t2, gave2⟩ := R
      dsimp only at hp2 hf2 hpure ⊢
      have hz2 : es2.size ≤ sizeLine := by rw [← Array.length_toList, hp2.length_eq, Array.length_toList]; exact hz1
      refine wpAny_bind (gw _ ?_)
      refine wpAny_bind (wpAny_storeSet_of hg1 rfl ?_ hz2)
      have hex2 : (Obj.putSet es2 t2 { o with data := .set es1 (ep + 1) t1 }) = { o with data := .set es2 (ep + 1 + 1) t2 } := putSet_of es2 t2 rfl
      have hg2 : ((s.heap.update a (Obj.putSet es1 t1)).update a (Obj.putSet es2 t2)).get? a = some { o with data := .set es2 (ep + 1 + 1) t2 } := by
        have := Heap.get?_update_self (Obj.putSet es2 t2) hg1 (by rw [hex2]; rfl)
        rw [hex2] at this
        exact this
      refine wpAny_pure (wpAny_pure ?_)
      refine fin es2 t2 _ _ (hsb1.trans (Heap.SameBut.update _ a _)) hg2 hp2 hf2 fun q => ?_
      obtain ⟨e1, t1', h1, hpl, e2, t2', hs2, h2, h3, h4, h5⟩ := hpure q
      simp only [Prod.mk.injEq] at h1
      obtain ⟨rfl, rfl, rfl, rfl⟩ := h1
      rcases h2 with ⟨h6, h7⟩ | ⟨h6, rfl, rfl⟩
      · rw [hR] at h7
        simp only [Prod.mk.injEq] at h7
        obtain ⟨rfl, rfl, rfl⟩ := h7
        rw [hash_nums h3]
        exact h4
      · rw [h6] at hw
        exact absurd hw Bool.false_ne_true
    · rename_i hw
      refine wpAny_pure (wpAny_pure ?_)
      refine fin es1 t1 _ _ hsb1 hg1 .rfl hf1 fun q => ?_
      obtain ⟨e1, t1', h1, hpl, e2, t2', hs2, h2, h3, h4, h5⟩ := hpure q
      simp only [Prod.mk.injEq] at h1
      obtain ⟨rfl, rfl, rfl, rfl⟩ := h1
      rcases h2 with ⟨h6, h7⟩ | ⟨h6, rfl, rfl⟩
      · rw [h6] at hw
        exact absurd rfl hw
      · rw [hash_nums h3]
        exact h4
end

section
open PySem.Builtin
theorem owner_setit : Manifest.owners.lookup (String.ofList ['r', 'o', 't', 'a', 'r', 'e', 't', 'i', '_', 't', 'e', 's'].reverse) = some Manifest.sig_set_iterator := by kernel_rfl
theorem slot_setit_next : Slot "set_iterator" "__next__" "set_iterator.__next__" :=
  .of (owner := "set_iterator") (n := "__next__") (by rw [typeLookup_type, builtinLookup_eq_fast]; kernel_rfl) (by decide +kernel) (by decide +kernel) (by decide +kernel)
    (by first | exact .inl (by decide +kernel) | exact .inr (by decide +kernel)) (by rw [isSubtype_type]; kernel_rfl)
theorem entry_setit_next : entryFor table "set_iterator.__next__" = some Builtin.«set_iterator.__next__» := entryFor_of_tree (by kernel_rfl)
theorem args_setit_next (a : Value) : argsOk "set_iterator.__next__" ⟨[a], []⟩ := by
  unfold argsOk; rw [signature?_of (id := "set_iterator.__next__") (n := ['_', '_', 't', 'x', 'e', 'n', '_', '_']) (o := ['r', 'o', 't', 'a', 'r', 'e', 't', 'i', '_', 't', 'e', 's']) (by kernel_rfl) owner_setit]; kernel_rfl
theorem slot_setit_iter : Slot "set_iterator" "__iter__" "set_iterator.__iter__" :=
  .of (owner := "set_iterator") (n := "__iter__") (by rw [typeLookup_type, builtinLookup_eq_fast]; kernel_rfl) (by decide +kernel) (by decide +kernel) (by decide +kernel)
    (by first | exact .inl (by decide +kernel) | exact .inr (by decide +kernel)) (by rw [isSubtype_type]; kernel_rfl)
theorem entry_setit_iter : entryFor table "set_iterator.__iter__" = some Builtin.«dict_keyiterator.__iter__» :=
  entryFor_alias (id' := "dict_keyiterator.__iter__") (by rw [fastTable_eq_tree]; kernel_rfl) rfl (by decide +kernel) (by rw [fastTable_eq_tree]; kernel_rfl)
theorem args_setit_iter (a : Value) : argsOk "set_iterator.__iter__" ⟨[a], []⟩ := by unfold argsOk; kernel_rfl
theorem entry_set_it : entryFor table "set.__iter__" = some Builtin.«frozenset.__iter__» :=
  entryFor_alias (id' := "frozenset.__iter__") (by rw [fastTable_eq_tree]; kernel_rfl) rfl (by decide +kernel) (by rw [fastTable_eq_tree]; kernel_rfl)
end

section
open PySem.Builtin
/-- a set's iterator -/
abbrev setIt (a : Addr) (n ep slot i : Nat) : Obj := { cls := .type "set_iterator", data := .fields #[.int (slot : Int) 0, .int (i : Int) 0, .ref a, .int (n : Int) 0, .int (ep : Int) 0] }
/-- the order in which a set's elements come -/
noncomputable def walkOrd (w : World) (a : Addr) (ep : Nat) (es : Array (Int × Value)) : Array (Int × Value) := if w.params.followText "set-order" then pickOrder (w.params.setOrder a ep) es else es
theorem pick_perm {α : Type} (next : Nat → Nat) : ∀ (fuel k : Nat) (left : List α) (out : Array α), fuel = left.length → (pickOrder.go next fuel k left out).toList.Perm (out.toList ++ left)
  | 0, k, left, out, h => by
    have : left = [] := List.eq_nil_of_length_eq_zero h.symm
    subst this
    unfold pickOrder.go
    simp
  | fuel + 1, k, left, out, h => by
    unfold pickOrder.go
    have hl : next k % left.length < left.length := Nat.mod_lt _ (by omega)
    rw [List.getElem?_eq_getElem hl]
    dsimp only
    refine (pick_perm next fuel (k + 1) _ _ (by rw [List.length_eraseIdx_of_lt hl]; omega)).trans ?_
    rw [Array.toList_push, List.append_assoc, List.singleton_append]
    refine List.Perm.append_left _ ?_
    have e : left.take (next k % left.length) ++ left[next k % left.length] :: left.drop (next k % left.length + 1) = left := by
      rw [List.getElem_cons_drop, List.take_append_drop]
    rw [List.eraseIdx_eq_take_drop_succ]
    have q : (left[next k % left.length] :: (left.take (next k % left.length) ++ left.drop (next k % left.length + 1))).Perm (left.take (next k % left.length) ++ left[next k % left.length] :: left.drop (next k % left.length + 1)) := List.perm_middle.symm
    rw [e] at q
    exact q
theorem walkOrd_perm (w : World) (a : Addr) (ep : Nat) (es : Array (Int × Value)) : (walkOrd w a ep es).toList.Perm es.toList := by
  unfold walkOrd
  split
  · unfold pickOrder
    have := pick_perm (w.params.setOrder a ep) es.size 0 es.toList #[] (by simp)
    simpa using this
  · exact .rfl
section
variable {prog : Program} {w : World} {A : Around} {E : Value → Shared → Prop} {s : Shared}
/-- a set whose elements can be gone through -/
structure SetG (w : World) (o : Obj) (es : Array (Int × Value)) (ep : Nat) (t : SetTable) : Prop where
  ex : o.ExactSet
  data : o.data = .set es ep t
  fit : t.fits es.size = true
  tab : w.params.followText "set-order" = false → t.plain = true ∧ t.led = true ∧ ∃ pl, t.place = pl.toArray ∧ Rise pl
theorem SetI.go {hs : List Nat} {t : SetTable} (h : SetI hs t) : t.plain = true ∧ t.led = true ∧ ∃ pl, t.place = pl.toArray ∧ Rise pl := by
  rcases h.tab with ⟨m, hm, rfl, _⟩ | ⟨rfl, hr⟩
  · exact ⟨rfl, rfl, _, rfl, rise7 hm⟩
  · exact ⟨rfl, rfl, _, rfl, hr⟩
theorem pyIter_set {a : Addr} {o : Obj} {es : Array (Int × Value)} {ep : Nat} {t : SetTable} {Q : Value → Shared → Prop} (ho : s.heap.get? a = some o) (G : SetG w o es ep t)
    (h : Q (.ref s.heap.objs.size) { s with heap := s.heap.push (setIt a es.size ep 0 0) }) : wpAny (model prog w) A (pyIter (.ref a)) Q E s := by
  have hT : s.TypeIs (.ref a) "set" := ⟨o, ho, G.ex.1⟩
  refine wpAny_pyIter_slot hT PySem.F.slot_set_iter (wpAny_call_entry PySem.F.slot_set_iter hT entry_set_it ?_ (PySem.F.args_set_iter_1 _))
  unfold Builtin.«frozenset.__iter__» Builtin.Frozenset.slot0 slotArgs
  simp only [List.isEmpty_nil, Bool.not_true, Bool.false_eq_true, ↓reduceIte, bind_assoc, List.length_nil, bne_self_eq_false]
  unfold Builtin.Frozenset.addrOf Builtin.Frozenset.sizeOf
  refine wpAny_bind (wpAny_pure ?_)
  try dsimp only
  refine wpAny_bind (wpAny_pure ?_)
  try dsimp only
  refine wpAny_bind (wpAny_bind (wpAny_setEntries_of ho G.data G.fit (wpAny_pure ?_)))
  unfold setDrawn
  refine wpAny_bind (wpAny_bind (wpAny_setState_of ho G.data G.fit ?_))
  dsimp only
  unfold setsByText
  refine wpAny_bind (wpAny_bind (wpAny_askSetting (wpAny_pure ?_)))
  refine wpAny_pure ?_
  have hd : (!w.params.followText "set-order" && (!t.plain && decide (es.size > 1))) = false := by
    cases hb : w.params.followText "set-order" with
    | true => rfl
    | false => rw [(G.tab hb).1]; rfl
  refine wpAny_ite_split (fun q => absurd (hd.symm.trans q) Bool.false_ne_true) (fun _ => ?_)
  refine wpAny_bind (wpAny_pure ?_)
  refine wpAny_bind (wpAny_setEpoch_of ho G.data G.fit ?_)
  refine wpAny_bind (wpAny_newObj_type (wpAny_pure ⟨_, rfl, "set_iterator", _, ⟨_, Heap.get?_push_size _ rfl, rfl⟩, slot_setit_next.lookup, ?_⟩))
  exact h
/-- where the iterator stands -/
noncomputable def SetAt (w : World) (I a : Addr) (o : Obj) (es : Array (Int × Value)) (ep : Nat) (t : SetTable) (i : Nat) (h : Heap) : Prop :=
  ∃ slot, h.get? I = some (setIt a es.size ep slot i) ∧ (w.params.followText "set-order" = false → SetTable.below t.place slot = i) ∧ h.get? a = some o
theorem set_pick {a : Addr} {o : Obj} {es : Array (Int × Value)} {ep : Nat} {t : SetTable} {slot i : Nat} {Q : Option (Value × Nat) → Shared → Prop} (G : SetG w o es ep t) (ho : s.heap.get? a = some o)
    (hs : w.params.followText "set-order" = false → SetTable.below t.place slot = i)
    (h0 : (walkOrd w a ep es)[i]? = none → Q none s)
    (h1 : ∀ e sl, (walkOrd w a ep es)[i]? = some e → (w.params.followText "set-order" = false → SetTable.below t.place sl = i + 1) → Q (some (e.2, sl)) s) :
    wpAny (model prog w) A (setNext a slot i ep) Q E s := by
  unfold setNext
  refine wpAny_bind (wpAny_setState_of ho G.data G.fit ?_)
  dsimp only
  unfold setsByText
  refine wpAny_bind (wpAny_bind (wpAny_askSetting (wpAny_pure ?_)))
  unfold walkOrd at h0 h1
  cases hb : w.params.followText "set-order" with
  | true =>
    rw [hb, if_pos rfl] at h0 h1
    refine wpAny_ite_split (fun _ => ?_) (fun q => absurd hb q)
    refine wpAny_ite_split (fun q => absurd q (by simp)) (fun _ => ?_)
    refine wpAny_bind ?_
    unfold setWalk
    refine wpAny_bind (wpAny_setState_of ho G.data G.fit ?_)
    dsimp only
    unfold setsByText
    refine wpAny_bind (wpAny_bind (wpAny_askSetting (wpAny_pure ?_)))
    refine wpAny_ite_split (fun _ => ?_) (fun q => absurd hb q)
    refine wpAny_bind (wpAny_askSetting (wpAny_pure ?_))
    refine wpAny_pure ?_
    cases hw : (pickOrder (w.params.setOrder a ep) es)[i]? with
    | none =>
      have := h0 hw
      show Q (((pickOrder (w.params.setOrder a ep) es)[i]?).map fun e => (e.2, slot)) s
      rw [hw]; exact this
    | some e =>
      have := h1 e slot hw (fun q => nomatch q)
      show Q (((pickOrder (w.params.setOrder a ep) es)[i]?).map fun e => (e.2, slot)) s
      rw [hw]; exact this
  | false =>
    rw [hb, if_neg Bool.false_ne_true] at h0 h1
    obtain ⟨t1, t2, pl, t3, t4⟩ := G.tab hb
    have hfs : t.place.size = es.size := by
      have := G.fit
      unfold SetTable.fits at this
      rw [Bool.and_eq_true, beq_iff_eq] at this
      exact this.1
    refine wpAny_ite_split (fun q => absurd (hb.symm.trans q) Bool.false_ne_true) (fun _ => ?_)
    refine wpAny_ite_split (fun q => absurd (show (!t.plain && decide (es.size > 1)) = true from q) (by rw [t1]; simp)) (fun _ => ?_)
    refine wpAny_bind ?_
    show wpAny _ _ (if (!t.led && !es.isEmpty) = true then _ else _) _ _ _
    rw [t2, if_neg (by simp)]
    refine wpAny_pure ?_
    refine wpAny_pure ?_
    rw [hs hb]
    cases hw : es[i]? with
    | none => exact h0 hw
    | some e =>
      have hi : i < pl.length := by
        obtain ⟨q, _⟩ := Array.getElem?_eq_some_iff.mp hw
        rw [t3, List.size_toArray] at hfs
        omega
      have hp : t.place[i]? = some pl[i] := by rw [t3, List.getElem?_toArray]; exact List.getElem?_eq_getElem hi
      rw [hp]
      refine h1 e (pl[i] + 1) hw fun _ => ?_
      rw [t3]
      exact below_next pl t4 i _ (List.getElem?_eq_getElem hi)
theorem set_next {I a : Addr} {o : Obj} {es : Array (Int × Value)} {ep : Nat} {t : SetTable} {i : Nat} {Q : Option Value → Shared → Prop} (hh : A.handled = none) (G : SetG w o es ep t) (hne : a ≠ I) (st : SetAt w I a o es ep t i s.heap)
    (h0 : (walkOrd w a ep es)[i]? = none → ∀ h', Heap.ExtBut I s.heap h' → Q none { s with heap := h' })
    (h1 : ∀ e h', (walkOrd w a ep es)[i]? = some e → SetAt w I a o es ep t (i + 1) h' → Heap.SameBut I s.heap h' → Q (some e.2) { s with heap := h' }) :
    wpAny (model prog w) A (pyNext (.ref I)) Q E s := by
  obtain ⟨slot, hI, hs, ho⟩ := st
  have hT : s.TypeIs (.ref I) "set_iterator" := ⟨_, hI, rfl⟩
  unfold pyNext
  refine wpAny_bind (wpAny_attempt (wpAny_callSpecial?_slot (name := Str.ofString "__next__") hT slot_setit_next
    (wpAny_call_entry slot_setit_next hT entry_setit_next ?_ (args_setit_next _))))
  unfold Builtin.«set_iterator.__next__»
  refine wpAny_bind (wpAny_pure ?_)
  dsimp only
  refine wpAny_bind (wpAny_fieldsOf hI rfl ?_)
  dsimp only
  refine wpAny_bind (wpAny_setEntries_of ho G.data G.fit ?_)
  refine wpAny_ite_split (fun q => absurd q (by simp)) (fun _ => ?_)
  refine wpAny_bind ?_
  rw [Int.toNat_natCast, Int.toNat_natCast, Int.toNat_natCast]
  refine set_pick G ho hs (fun q => ?_) fun e sl q hsl => ?_
  · dsimp only
    have g2 : (s.heap.update I (Obj.mapFields (·.setIfInBounds 2 .none))).get? I = some { cls := .type "set_iterator", data := .fields #[.int (slot : Int) 0, .int (i : Int) 0, .none, .int (es.size : Int) 0, .int (ep : Int) 0] } := Heap.get?_update_self _ hI rfl
    refine wpAny_bind (wpAny_setField hI rfl (by simp) ?_)
    have hs : Heap.ExtBut I s.heap (s.heap.update I (Obj.mapFields (·.setIfInBounds 2 .none))) := (Heap.SameBut.update ..).extBut
    generalize s.heap.update I (Obj.mapFields (·.setIfInBounds 2 .none)) = h3 at hs
    exact stop_raised hh fun h' hk => h0 q h' (fun b o hb e => hk b o (hs b o hb e))
  · dsimp only
    have g1 : (s.heap.update I (Obj.mapFields (·.setIfInBounds 0 (rawInt sl)))).get? I = some (setIt a es.size ep sl i) := Heap.get?_update_self _ hI rfl
    refine wpAny_bind (wpAny_setField hI rfl (by simp) ?_)
    have g2 : ((s.heap.update I (Obj.mapFields (·.setIfInBounds 0 (rawInt sl)))).update I (Obj.mapFields (·.setIfInBounds 1 (rawInt ((i : Int) + 1))))).get? I = some (setIt a es.size ep sl (i + 1)) := Heap.get?_update_self _ g1 rfl
    refine wpAny_bind (wpAny_setField g1 rfl (by simp) ?_)
    have hsb := (Heap.SameBut.update s.heap I (Obj.mapFields (·.setIfInBounds 0 (rawInt sl)))).trans (Heap.SameBut.update _ I (Obj.mapFields (·.setIfInBounds 1 (rawInt ((i : Int) + 1)))))
    exact wpAny_pure ⟨_, rfl, wpAny_pure (h1 e _ q ⟨sl, g2, hsl, (hsb.2 a hne).trans ho⟩ hsb)⟩
theorem setIt_iter {I a : Addr} {n ep slot i : Nat} {Q : Value → Shared → Prop} (hI : s.heap.get? I = some (setIt a n ep slot i)) (h : Q (.ref I) s) : wpAny (model prog w) A (pyIter (.ref I)) Q E s := by
  have hT : s.TypeIs (.ref I) "set_iterator" := ⟨_, hI, rfl⟩
  refine wpAny_pyIter_slot hT slot_setit_iter (wpAny_call_entry slot_setit_iter hT entry_setit_iter ?_ (args_setit_iter _))
  show wpAny _ _ (ret (.ref I)) _ _ s
  exact wpAny_pure ⟨_, rfl, "set_iterator", _, hT, slot_setit_next.lookup, h⟩
theorem set_walks (hh : A.handled = none) (I a : Addr) (hne : a ≠ I) {o : Obj} {es : Array (Int × Value)} {ep : Nat} {t : SetTable} (G : SetG w o es ep t) :
    Walks prog w A I [I, a] [I] es.size (fun i v => ∃ e, (walkOrd w a ep es)[i]? = some e ∧ v = e.2) (SetAt w I a o es ep t) where
  sub := fun b hb => by simp at hb; simp [hb]
  frame := fun _ _ _ st hk => by
    obtain ⟨slot, h1, h2, h3⟩ := st
    exact ⟨slot, hk I (by simp) _ h1, h2, hk a (by simp) _ h3⟩
  item := fun i s Q E hi st hQ => by
    refine set_next hh G hne st (fun q => ?_) fun e h' he st' hs' => ?_
    · have hl := (walkOrd_perm w a ep es).length_eq
      rw [Array.length_toList, Array.length_toList] at hl
      have := Array.getElem?_eq_none_iff.mp q
      omega
    · exact hQ _ h' s.toks ⟨e, he, rfl⟩ st' fun b o hb e => hs'.extBut b o (fun h => hb (by simp [h])) e
  done := fun s Q E st hQ => by
    refine set_next hh G hne st (fun q h' he' => hQ h' s.toks fun b o hb e => he' b o (fun h => hb (by simp [h])) e) fun e h' he st' hs' => ?_
    have hl := (walkOrd_perm w a ep es).length_eq
    rw [Array.length_toList, Array.length_toList] at hl
    obtain ⟨q, _⟩ := Array.getElem?_eq_some_iff.mp he
    omega
  self := fun _ _ _ _ st hQ => by
    obtain ⟨slot, h1, _⟩ := st
    exact setIt_iter h1 hQ
theorem set_hint {r : Addr} {Q : Bool → Shared → Prop} (hT : s.TypeIs (.ref r) "set") (h : Q false s) : wpAny (model prog w) A (Builtin.List.listLengthHint (.ref r)) Q E s := by
  unfold Builtin.List.listLengthHint
  refine wpAny_bind (wpAny_specialOf hT PySem.F.slot_set_len.lookup ?_)
  generalize hid : ("set.__len__" : String) = id0
  wp_delta
  rw [show splitId id0 = some ("set", "__len__") from by subst hid; decide +kernel]
  subst hid
  refine wpAny_bind (wpAny_isInstance (T := "set") (b := true) hT (by rw [isSubtype_type]; kernel_rfl) ?_)
  refine wpAny_ite_split (fun hab => absurd hab (by decide)) (fun _ => ?_)
  refine wpAny_ite_split (fun _ => ?_) (fun hab => absurd (by decide +kernel) hab)
  refine wpAny_bind (wpAny_typeOf hT ?_)
  exact wpAny_pure h
theorem set_src {a : Addr} {o : Obj} {es : Array (Int × Value)} {ep : Nat} {t : SetTable} (G : SetG w o es ep t) :
    KdlSrc prog w "set" a a es.size (fun i v => ∃ e, (walkOrd w a ep es)[i]? = some e ∧ v = e.2) (fun h => h.get? a = some o) where
  type := fun _ hm => ⟨o, hm, G.ex.1⟩
  there := fun _ hm => ⟨Heap.lt_size hm, Heap.lt_size hm⟩
  keep := fun _ _ hm hk => hk a (.inl rfl) _ hm
  notList := by decide
  notTuple := by decide
  hint := fun _ _ s _ hm hq => set_hint ⟨o, hm, G.ex.1⟩ hq
  iter := fun A s hh hm => ⟨_, _, (fun _ _ hq => pyIter_set hm G hq), set_walks hh _ a (Nat.ne_of_lt (Heap.lt_size hm)) G, ⟨0, Heap.get?_push_size _ rfl, fun q => by
    obtain ⟨_, _, pl, t3, t4⟩ := G.tab q
    rw [t3]; exact below_zero pl t4, Heap.get?_push_of_some _ hm⟩⟩
end
end

/-- small numbers in their order, each once -/
noncomputable def canonS (ks : List Nat) : List Int := ((List.range 11).filter fun k => ks.contains k).map fun k : Nat => (k : Int)
theorem canon_perm {l ks : List Nat} (hn : l.Nodup) (hb : ∀ h ∈ l, h < 11) (hm : ∀ k, k ∈ l ↔ k ∈ ks) : (l.map fun k : Nat => (k : Int)).Perm (canonS ks) := by
  unfold canonS
  refine List.Perm.map _ ((List.perm_ext_iff_of_nodup hn (List.nodup_range.filter _)).mpr fun k => ?_)
  rw [List.mem_filter, List.mem_range, List.contains_iff_mem, hm k]
  constructor
  · intro h; exact ⟨hb k ((hm k).mpr h), h⟩
  · exact fun h => h.2
theorem canon_asc (ks : List Nat) : (canonS ks).Pairwise (· ≤ ·) := by
  unfold canonS
  refine List.Pairwise.map _ (fun a b h => ?_) (List.pairwise_lt_range.filter _)
  exact Int.ofNat_le.mpr (Nat.le_of_lt h)
theorem asc_back : ∀ {l : List Int}, l.Pairwise (· ≤ ·) → lks_asc l = true
  | [], _ => rfl
  | a :: r, h => by
    rw [lks_asc, Bool.and_eq_true]
    exact ⟨List.all_eq_true.mpr fun b hb => decide_eq_true ((List.pairwise_cons.mp h).1 b hb), asc_back (List.pairwise_cons.mp h).2⟩
theorem ints_back : ∀ {vs : List Value} {ns : List Int}, IntsAre vs ns → kf_ints vs = true ∧ lks_nums vs = ns
  | _, _, .nil => ⟨rfl, rfl⟩
  | _, _, .cons a u r => by
    obtain ⟨h1, h2⟩ := ints_back r
    exact ⟨h1, by rw [lks_nums, h2]⟩
theorem vals_are (t : Nat → Tok) : ∀ (ns : List Int) (i : Nat), IntsAre (lks_vals ns i t) ns
  | [], _ => .nil
  | a :: r, i => .cons a _ (vals_are t r (i + 1))
theorem els_ints : ∀ {l : List (Int × Value)}, ElS l → IntsAre (l.map (·.2)) (l.map (·.1))
  | [], _ => .nil
  | e :: r, h => by
    obtain ⟨k, tk, _, rfl⟩ := h e List.mem_cons_self
    exact .cons _ _ (els_ints fun x hx => h x (List.mem_cons_of_mem _ hx))
section
variable {prog : Program} {w : World} {A : Around} {E : Value → Shared → Prop} {s : Shared} {h₀ : Heap} {L : Addr} {m : Str → Option Value} {news : List (Addr × Obj)}
theorem sorted_set {sa : Addr} {o : Obj} {ks : List Nat} {n : Nat} {Q : Value → Shared → Prop} (hh : A.handled = none) (F : Fr h₀ L s.heap m) (N : News h₀ L s.heap news) (hm : (sa, o) ∈ news) (S : SetO w o ks n) (hn : n ≤ 10) (h1 : ks ≠ [])
    (h : ∀ D h' tk t, Fr h₀ L h' m → News h₀ L h' ((D, listOf (lks_vals (canonS ks) 0 t).toArray 2) :: news) → (∀ q ∈ news, q.1 < D) → Q (.ref D) { s with heap := h', toks := tk }) :
    wpAny (model prog w) A (call (.builtin "sorted") [.ref sa]) Q E s := by
  obtain ⟨hex, es, ep, t, hd, hel, hf, hnd, hmem, hsz, hI⟩ := S
  have G : SetG w o es ep t := ⟨hex, hd, hf, fun q => (hI q).go⟩
  refine kdu_sorted (set_src G) hh F N (N _ hm).1 (fits_of_scanBound (by unfold scanBound; omega)) ?_
  intro D h' tk vs F' N' hlt hl hP
  have hwp := walkOrd_perm w sa ep es
  have hvs : vs = (walkOrd w sa ep es).toList.map (·.2) := by
    refine List.ext_getElem? fun i => ?_
    rw [List.getElem?_map, Array.getElem?_toList (xs := walkOrd w sa ep es)]
    cases hv : vs[i]? with
    | some v =>
      obtain ⟨e, he, rfl⟩ := hP i v hv
      rw [he]; rfl
    | none =>
      have := List.getElem?_eq_none_iff.mp hv
      have hz := hwp.length_eq
      rw [Array.length_toList, Array.length_toList] at hz
      rw [Array.getElem?_eq_none (by omega)]; rfl
  have hew : ElS (walkOrd w sa ep es).toList := hel.perm hwp
  have hi := els_ints hew
  rw [← hvs] at hi
  obtain ⟨b1, b2⟩ := ints_back hi
  have hlt11 : ∀ h ∈ numsOf es.toList, h < 11 := fun k hk => by
    obtain ⟨ti, hti⟩ := (numsOf_mem hel k).mp hk
    obtain ⟨j, tj, hj, e⟩ := hel _ hti
    have : (k : Int) = (j : Int) := congrArg Prod.fst e
    omega
  have hcp : ((walkOrd w sa ep es).toList.map (·.1)).Perm (canonS ks) := by
    refine (hwp.map _).trans ?_
    rw [show es.toList.map (·.1) = (numsOf es.toList).map fun k : Nat => (k : Int) from hel.hash]
    exact canon_perm hnd hlt11 hmem
  have hne : vs.isEmpty = false := by
    cases vs with
    | cons => rfl
    | nil =>
      exfalso
      obtain ⟨k, hk⟩ := List.exists_mem_of_ne_nil ks h1
      have hk' := (hmem k).mpr hk
      have : es.size = 0 := hl.symm
      have e : es.toList = [] := List.eq_nil_of_length_eq_zero (by rw [Array.length_toList]; exact this)
      rw [e] at hk'
      cases hk'
  refine lks_sort (D := D) (its := vs.toArray) (n := 0) (q := canonS ks) (news' := fun t => (D, listOf (lks_vals (canonS ks) 0 t).toArray 2) :: news) F' N' (fun t => Upd.head fun p hp => Nat.ne_of_lt (hlt p hp)) ?_ ?_ ?_ ?_ ?_
  · rw [List.toList_toArray]; exact b1
  · rw [List.toList_toArray]
    unfold lks_ok
    rw [b2, Bool.and_eq_true]
    exact ⟨List.isPerm_iff.mpr hcp, asc_back (canon_asc ks)⟩
  · rw [List.toList_toArray]; exact hne
  · rw [List.toList_toArray, hl]; omega
  · intro t h2 F2 N2
    exact h D h2 tk t F2 N2 hlt
end

section
variable {prog : Program} {w : World} {A : Around} {R : Result → Shared → Prop} {s : Shared}
theorem set_turn0 (elt t0 i0 t1 i1 : PySem.Expr) (scope : Scope) (pos : Pos) (it acc : Value) (env : Env) :
    compTurn (.SetComp elt [⟨t0, i0, [], 0⟩, ⟨t1, i1, [], 0⟩] scope pos) 0 it acc env = (standAt i0.pos >>= fun _ => pyNext it >>= fun r => match r with
      | none => pure (.done .next)
      | some v => letOwnedTupleGo t0 it v >>= fun _ => assign t0 env v >>= fun _ =>
        eval i1 env >>= fun x => standAt i1.pos >>= fun _ => foldedSetIterable i1 env x >>= fun x => holding [x] (pyIter x) >>= fun it2 =>
          runOwn (.compStart (.SetComp elt [⟨t0, i0, [], 0⟩, ⟨t1, i1, [], 0⟩] scope pos) 1 it2 acc env) env >>= fun _ =>
          again (.compLoop (.SetComp elt [⟨t0, i0, [], 0⟩, ⟨t1, i1, [], 0⟩] scope pos) 0 it acc env)) := by
  rfl
theorem set_turn1 (elt t0 i0 t1 i1 : PySem.Expr) (scope : Scope) (pos : Pos) (it acc : Value) (env : Env) :
    compTurn (.SetComp elt [⟨t0, i0, [], 0⟩, ⟨t1, i1, [], 0⟩] scope pos) 1 it acc env = (standAt i1.pos >>= fun _ => pyNext it >>= fun r => match r with
      | none => pure (.done .next)
      | some v => letOwnedTupleGo t1 it v >>= fun _ => assign t1 env v >>= fun _ =>
        (eval elt env >>= fun x => standAt elt.pos >>= fun _ => call (.builtin "set.add") [acc, x] >>= fun _ => pure ()) >>= fun _ =>
          again (.compLoop (.SetComp elt [⟨t0, i0, [], 0⟩, ⟨t1, i1, [], 0⟩] scope pos) 1 it acc env)) := by
  rfl
/-- set.add of a small number, in a ledger -/
theorem add_led {A : Around} {E : Value → Shared → Prop} {h₀ : Heap} {L sa : Addr} {m : Str → Option Value} {so : Obj} {rest : List (Addr × Obj)} {ks : List Nat} {n k : Nat} {tk : Tok} {Q : Value → Shared → Prop} (F : Fr h₀ L s.heap m) (N : News h₀ L s.heap ((sa, so) :: rest)) (hap : ∀ p ∈ rest, p.1 ≠ sa)
    (hk : k < 11) (S : SetO w so ks n) (hn : n ≤ 9)
    (h : ∀ h' so', Heap.SameBut sa s.heap h' → Fr h₀ L h' m → News h₀ L h' ((sa, so') :: rest) → SetO w so' (ks ++ [k]) (n + 1) → Q .none { s with heap := h', toks := s.toks + 1 }) :
    wpAny (model prog w) A (call (.builtin "set.add") [.ref sa, .int (k : Int) tk]) Q E s := by
  have hm := N _ (.head _)
  have hT : s.TypeIs (.ref sa) "set" := ⟨_, hm.1, S.1.1⟩
  refine wpAny_call_entry PySem.F.slot_set_add hT PySem.F.entry_set_add ?_ (PySem.F.args_set_add_2 _ _)
  unfold Builtin.«set.add» Builtin.Frozenset.oneOther
  simp only [List.isEmpty_nil, bind_assoc]
  unfold Builtin.Frozenset.addrOf setAdd
  refine wpAny_bind (wpAny_pure ?_)
  try dsimp only
  refine wpAny_bind (wpAny_pure ?_)
  try dsimp only
  refine wpAny_bind (wpAny_holding (wpAny_bind ((intKind prog w).pyHash (intKind_is _ _ _ _) ?_)))
  refine add_hashed (s := { s with toks := s.toks + 1 }) hk hm.1 S hn fun h' o' b hsb ho' hS' => ?_
  refine wpAny_pure ⟨_, rfl, h h' o' hsb (F.change hsb hm.2.1 hm.2.2) (fun p hp => ?_) hS'⟩
  rcases List.mem_cons.mp hp with rfl | hp
  · exact ⟨ho', hm.2⟩
  · have z := N p (.tail _ hp)
    exact ⟨(hsb.2 _ (hap p hp)).trans z.1, z.2⟩
open LCg
/-- the inner generator, gone through -/
theorem set_inner {elt i0 i1 : PySem.Expr} {x y : Str} {px py : Pos} {scope : Scope} {cl : List (Str × Addr)} {pos : Pos} {env : Env} {h₀ : Heap} {L I C D J bx : Addr} {m : Str → Option Value} {news : List (Addr × Obj)} {oI : Obj} {its : Array Value} {nb : Nat} {v : Value} {f : Nat → Nat} {ks : List Nat} {n : Nat}
    (hh : A.handled = none) (hkind : scope.kind = .function) (hy : scope.names.lookup y = some .local) (hyx : y ≠ x)
    (hb : (bx, ({ cls := .type "list", data := .seq its nb } : Obj)) ∈ news)
    (hJL : J ≠ L) (hJ₀ : h₀.get? J = none) (hJC : J ≠ C) (hJD : J ≠ D) (hJI : J ≠ I) (hJn : ∀ p ∈ news, p.1 ≠ J)
    (hCL : C ≠ L) (hC₀ : h₀.get? C = none) (hCD : C ≠ D) (hCI : C ≠ I) (hCn : ∀ p ∈ news, p.1 ≠ C) (hDI : D ≠ I) (hDn : ∀ p ∈ news, p.1 ≠ D)
    (helt : ∀ j u m₂ oJ oC oD h tk (E' : Value → Shared → Prop), its[j]? = some u → NsObj oC m₂ → m₂ x = some v → m₂ y = some u → Fr h₀ L h m → News h₀ L h ((J, oJ) :: (I, oI) :: (C, oC) :: (D, oD) :: news) →
      wpAny (model prog w) A (eval elt (compEnvC scope cl C env)) (fun r s' => ∃ tk' t', r = .int (f j : Int) t' ∧ s' = { s with heap := h, toks := tk' }) E' { s with heap := h, toks := tk })
    (hf : ∀ j, j < its.size → f j < 11) (hn : n + its.size ≤ 10)
    (hR : ∀ h' tk m' oD', Fr h₀ L h' m → h'.Ns C m' → News h₀ L h' ((D, oD') :: (I, oI) :: news) → SetO w oD' (ks ++ (List.range its.size).map f) (n + its.size) → R (.ok .next) { s with heap := h', toks := tk })
    {hs : Heap} {tks : Nat} {ms : Str → Option Value} {oD : Obj} (F : Fr h₀ L hs m) (hns : hs.Ns C ms) (hmx : ms x = some v) (N : News h₀ L hs ((D, oD) :: (I, oI) :: news)) (hit : hs.IsListIter J bx 0) (S : SetO w oD ks n) :
    codeAny (model prog w) A (.compLoop (.SetComp elt [⟨.Name x px, i0, [], 0⟩, ⟨.Name y py, i1, [], 0⟩] scope pos) 1 (.ref J) (.ref D) (compEnvC scope cl C env)) R { s with heap := hs, toks := tks } := by
  have hbJ : bx ≠ J := hJn _ hb
  have W := Walks.list (prog := prog) (w := w) hh J bx hbJ its
  have isl : ∀ {h : Heap}, News h₀ L h news → h.IsList bx its := fun N => ⟨_, (N _ hb).1, rfl, _, rfl⟩
  refine codeAny_loop rfl (fun k s' => ∃ h' tk j m' oD', s' = { s with heap := h', toks := tk } ∧ j ≤ its.size ∧ k = its.size + 1 - j ∧ h'.IsListIter J bx j ∧ Fr h₀ L h' m ∧ h'.Ns C m' ∧ m' x = some v ∧ News h₀ L h' ((D, oD') :: (I, oI) :: news) ∧
    SetO w oD' (ks ++ (List.range j).map f) (n + j)) ?_ (its.size + 1) ⟨hs, tks, 0, ms, oD, rfl, Nat.zero_le _, rfl, hit, F, hns, hmx, N, by simpa using S⟩
  rintro k s' ⟨h', tk, j, m', oD', rfl, hj, rfl, hit', F', hn', hmx', N', S'⟩
  show wpAny _ A ((compTurn (.SetComp elt [⟨.Name x px, i0, [], 0⟩, ⟨.Name y py, i1, [], 0⟩] scope pos) 1 (.ref J) (.ref D) (compEnvC scope cl C env)).onRaise (fun x => do noteFrame x (compEnvC scope cl C env); theTreesLotGoes x)) _ _ _
  refine wpAny_noted ?_
  rw [set_turn1]
  have Nn : News h₀ L h' news := fun p hp => N' p (.tail _ (.tail _ hp))
  refine wpAny_bind (wpAny_standAt (wpAny_bind ?_))
  by_cases hlt : j < its.size
  · refine W.item j _ _ _ hlt ⟨hit', isl Nn⟩ fun u h₂ tk₂ hu hst₂ hk₂ => ?_
    dsimp only
    have N₂ : News h₀ L h₂ ((D, oD') :: (I, oI) :: news) := news_but N' hk₂ fun p hp => by
      rcases List.mem_cons.mp hp with rfl | hp
      · exact Ne.symm hJD
      rcases List.mem_cons.mp hp with rfl | hp
      · exact Ne.symm hJI
      · exact hJn p hp
    have F₂ : Fr h₀ L h₂ m := fr_but F' hk₂ (Ne.symm hJL) hJ₀
    refine wpAny_bind (wpAny_of_eq (a := ()) rfl ?_)
    refine wpAny_bind (wpAny_assign_Name (wpAny_storeName_local (lookup_relabel_local hy) (hn'.at' fun o e => hk₂ _ o (by simpa using Ne.symm hJC) e) (fun h₃ hn₃ hs₃ => ?_) (by simp [compEnvC, relabel, hkind])))
    have hit₃ : h₃.IsListIter J bx (j + 1) := hst₂.1.at fun o e => hs₃.extBut J o hJC e
    obtain ⟨oJ, heJ, _⟩ := id hit₃
    obtain ⟨oC, heC, hoC⟩ := ns_obj hn₃
    have F₃ : Fr h₀ L h₃ m := F₂.change hs₃ hCL hC₀
    have N₃ : News h₀ L h₃ ((D, oD') :: (I, oI) :: news) := fun p hp => by
      have z := N₂ p hp
      refine ⟨hs₃.extBut _ _ ?_ z.1, z.2⟩
      rcases List.mem_cons.mp hp with rfl | hp
      · exact Ne.symm hCD
      rcases List.mem_cons.mp hp with rfl | hp
      · exact Ne.symm hCI
      · exact hCn p hp
    have N₄ : News h₀ L h₃ ((J, oJ) :: (I, oI) :: (C, oC) :: (D, oD') :: news) := fun p hp => by
      rcases List.mem_cons.mp hp with rfl | hp
      · exact ⟨heJ, hJL, hJ₀⟩
      rcases List.mem_cons.mp hp with rfl | hp
      · exact N₃ _ (.tail _ (.head _))
      rcases List.mem_cons.mp hp with rfl | hp
      · exact ⟨heC, hCL, hC₀⟩
      rcases List.mem_cons.mp hp with rfl | hp
      · exact N₃ _ (.head _)
      · exact N₃ _ (.tail _ (.tail _ hp))
    refine wpAny_bind (wpAny_bind (wpAny_mono (helt j u _ oJ oC oD' h₃ _ _ hu hoC ?_ ?_ F₃ N₄) (fun r s₄ h₄ => ?_) fun _ _ e => e))
    · rw [if_neg (Ne.symm hyx)]; exact hmx'
    · rw [if_pos rfl]
    obtain ⟨tk₄, t', rfl, rfl⟩ := h₄
    refine wpAny_bind (wpAny_standAt ?_)
    refine wpAny_bind (add_led F₃ N₃ (fun p hp => ?_) (hf j hlt) S' (by omega) fun h₅ so' hsb F₅ N₅ S₅ => ?_)
    · rcases List.mem_cons.mp hp with rfl | hp
      · exact Ne.symm hDI
      · exact hDn p hp
    refine wpAny_pure (wpAny_pure ⟨rfl, its.size + 1 - (j + 1), by omega, h₅, _, j + 1, _, so', rfl, hlt, rfl, hit₃.at fun o e => hsb.extBut J o hJD e, F₅, hn₃.sameBut hsb hCD, ?_, N₅, ?_⟩)
    · rw [if_neg (Ne.symm hyx)]; exact hmx'
    · rw [List.range_succ, List.map_append, ← List.append_assoc]
      exact S₅
  · obtain rfl : j = its.size := Nat.le_antisymm hj (Nat.not_lt.mp hlt)
    refine W.done _ _ _ ⟨hit', isl Nn⟩ fun h₂ tk₂ hk₂ => ?_
    refine wpAny_pure (hR h₂ tk₂ m' oD' (fr_but F' hk₂ (Ne.symm hJL) hJ₀) (hn'.at' fun o e => hk₂ _ o (by simpa using Ne.symm hJC) e) (news_but N' hk₂ fun p hp => ?_) S')
    rcases List.mem_cons.mp hp with rfl | hp
    · exact Ne.symm hJD
    rcases List.mem_cons.mp hp with rfl | hp
    · exact Ne.symm hJI
    · exact hJn p hp
end

section
open LCg
variable {prog : Program} {w : World} {A : Around} {R : Result → Shared → Prop} {s : Shared} {E : Value → Shared → Prop}
theorem set_start {elt t0 i0 t1 i1 : PySem.Expr} {scope : Scope} {pos : Pos} {it acc : Value} {env : Env} (d : Nat) (hd : d = 0 ∨ d = 1)
    (h0 : codeAny (model prog w) A (.compLoop (.SetComp elt [⟨t0, i0, [], 0⟩, ⟨t1, i1, [], 0⟩] scope pos) d it acc env) R s)
    (h : wpAny (model prog w) A (pyIter it) (fun it' s' => codeAny (model prog w) A (.compLoop (.SetComp elt [⟨t0, i0, [], 0⟩, ⟨t1, i1, [], 0⟩] scope pos) d it' acc env) R s')
      (notedBy (model prog w) A env fun x s' => R (.error x) s') s) :
    codeAny (model prog w) A (.compStart (.SetComp elt [⟨t0, i0, [], 0⟩, ⟨t1, i1, [], 0⟩] scope pos) d it acc env) R s := by
  rcases hd with rfl | rfl
  · refine codeAny_of_tree ?_
    show wpAny _ A ((compStart (.SetComp elt [⟨t0, i0, [], 0⟩, ⟨t1, i1, [], 0⟩] scope pos) 0 it acc env).onRaise (fun x => do noteFrame x env; standAt theWindowsPlace)) _ _ s
    refine wpAny_notedAt ?_
    unfold compStart
    show wpAny _ _ (ask >>= _) _ _ s
    refine wpAny_bind (wpAny_askSetting (wpAny_ite ?_))
    split
    · exact wpAny_pure (And.intro rfl h0)
    · refine wpAny_bind (wpAny_rule ?_)
      show wpAny _ _ (standAt i0.pos >>= _) _ _ s
      exact wpAny_bind (wpAny_standAt (wpAny_bind (wpAny_mono h (fun it' s' h' => wpAny_pure (And.intro rfl h')) fun _ _ x => x)))
  · refine codeAny_of_tree ?_
    show wpAny _ A ((compStart (.SetComp elt [⟨t0, i0, [], 0⟩, ⟨t1, i1, [], 0⟩] scope pos) 1 it acc env).onRaise (fun x => do noteFrame x env; standAt theWindowsPlace)) _ _ s
    refine wpAny_notedAt ?_
    unfold compStart
    show wpAny _ _ (ask >>= _) _ _ s
    refine wpAny_bind (wpAny_askSetting (wpAny_ite ?_))
    split
    · exact wpAny_pure (And.intro rfl h0)
    · refine wpAny_bind (wpAny_rule ?_)
      show wpAny _ _ (standAt i1.pos >>= _) _ _ s
      exact wpAny_bind (wpAny_standAt (wpAny_bind (wpAny_mono h (fun it' s' h' => wpAny_pure (And.intro rfl h')) fun _ _ x => x)))
theorem new_set {Q : Value → Shared → Prop}
    (h : ∀ o : Obj, SetO w o [] 0 → (s.heap.push o).get? s.heap.objs.size = some o → Q (.ref s.heap.objs.size) { s with heap := s.heap.push o }) :
    wpAny (model prog w) A (newSet (.type "set")) Q E s := by
  unfold newSet setsByText
  refine wpAny_bind (wpAny_bind (wpAny_askSetting (wpAny_pure ?_)))
  dsimp only
  simp only [newObj]
  refine wpAny_bind (wpAny_alloc (wpAny_pure (h _ ⟨⟨rfl, rfl, rfl⟩, #[], 0, _, rfl, fun e he => by simp at he, by rfl, by simp [numsOf], fun k => by simp [numsOf], Nat.le_refl _, fun q => ?_⟩ (Heap.get?_push_size _ rfl))))
  have q' : ({ program := (model prog w).prog, params := (model prog w).w.params } : PySem.Setting).params.followText "set-order" = false := q
  rw [q']
  exact SetI.nil
theorem off1_ofL {D : Addr} : ∀ {l : List (Addr × Obj)}, (∀ p ∈ l, p.1 ≠ D) → Off1 D l
  | [], _ => trivial
  | _ :: _, h => ⟨h _ List.mem_cons_self, off1_ofL fun p hp => h p (List.mem_cons_of_mem _ hp)⟩
/-- all of one row of numbers by another -/
noncomputable def allOf (n k : Nat) (f : Nat → Nat → Nat) : List Nat := (List.range n).flatMap fun i => (List.range k).map (f i)
theorem allOf_succ (n k : Nat) (f : Nat → Nat → Nat) : allOf (n + 1) k f = allOf n k f ++ (List.range k).map (f n) := by
  unfold allOf
  rw [List.range_succ, List.flatMap_append]
  simp
/-- what is to be shown where the outer list stands -/
noncomputable def SrcS (prog : Program) (w : World) (A : Around) (h₀ : Heap) (L : Addr) (m : Str → Option Value) (env : Env) (elt i1 : PySem.Expr) (x y : Str) (scope : Scope) (cl : List (Str × Addr)) (Q : Value → Shared → Prop) (xv : Value) (s₁ : Shared) : Prop :=
  ∃ (ax : Addr) (its0 : Array Value) (na : Nat) (bx : Addr) (its : Array Value) (nb : Nat) (news : List (Addr × Obj)) (f : Nat → Nat → Nat), xv = .ref ax ∧ A.handled = none ∧ Fr h₀ L s₁.heap m ∧ News h₀ L s₁.heap news ∧
    (ax, ({ cls := .type "list", data := .seq its0 na } : Obj)) ∈ news ∧ (bx, ({ cls := .type "list", data := .seq its nb } : Obj)) ∈ news ∧ its0.size * its.size ≤ 9 ∧ (∀ i j, i < its0.size → j < its.size → f i j < 11) ∧
    (∀ (i : Nat) (v : Value) (I : Addr) (oI : Obj) (C : Addr) (oC : Obj) (D : Addr) (oD : Obj) (m₂ : Str → Option Value) (h : Heap) (tk : Nat) (E' : Value → Shared → Prop), its0[i]? = some v → NsObj oC m₂ → m₂ x = some v → Fr h₀ L h m → News h₀ L h ((I, oI) :: (C, oC) :: (D, oD) :: news) →
      wpAny (model prog w) A (eval i1 (compEnvC scope cl C env)) (fun r s' => ∃ tk', r = .ref bx ∧ s' = { s₁ with heap := h, toks := tk' }) E' { s₁ with heap := h, toks := tk }) ∧
    (∀ (i j : Nat) (v u : Value) (I : Addr) (oI : Obj) (J : Addr) (oJ : Obj) (C : Addr) (oC : Obj) (D : Addr) (oD : Obj) (m₂ : Str → Option Value) (h : Heap) (tk : Nat) (E' : Value → Shared → Prop), its0[i]? = some v → its[j]? = some u → NsObj oC m₂ → m₂ x = some v → m₂ y = some u → Fr h₀ L h m → News h₀ L h ((J, oJ) :: (I, oI) :: (C, oC) :: (D, oD) :: news) →
      wpAny (model prog w) A (eval elt (compEnvC scope cl C env)) (fun r s' => ∃ tk' t', r = .int (f i j : Int) t' ∧ s' = { s₁ with heap := h, toks := tk' }) E' { s₁ with heap := h, toks := tk }) ∧
    (∀ D oD h tk, Fr h₀ L h m → News h₀ L h ((D, oD) :: news) → Off1 D news → SetO w oD (allOf its0.size its.size f) (its0.size * its.size) → Q (.ref D) { s₁ with heap := h, toks := tk })
theorem SetComp_2 {elt i0 i1 : PySem.Expr} {x y : Str} {px py : Pos} {scope : Scope} {cl : List (Str × Addr)} {pos : Pos} {env : Env} {h₀ : Heap} {L : Addr} {m : Str → Option Value} {Q : Value → Shared → Prop}
    (hclos : closureFor scope env = pure cl) (hcell : ∀ z ∈ scope.names, z.2 ≠ .cell) (hkind : scope.kind = .function)
    (hnames : ∀ z ∈ scope.names, z.2 = .local → scope.names.lookup z.1 = some .local) (hx : scope.names.lookup x = some .local) (hy : scope.names.lookup y = some .local) (hyx : y ≠ x)
    (h : wpAny (model prog w) A (eval i0 env) (SrcS prog w A h₀ L m env elt i1 x y scope cl Q) E s)
    (hs : ∀ z, foldedSetIterable i0 env z = pure z := by intro _; rfl) (hs1 : ∀ e z, foldedSetIterable i1 e z = pure z := by intro _ _; rfl) :
    wpAny (model prog w) A (eval (.SetComp elt [⟨.Name x px, i0, [], 0⟩, ⟨.Name y py, i1, [], 0⟩] scope pos) env) Q E s := by
  rw [show eval (.SetComp elt [⟨.Name x px, i0, [], 0⟩, ⟨.Name y py, i1, [], 0⟩] scope pos) env = comprehension (.SetComp elt [⟨.Name x px, i0, [], 0⟩, ⟨.Name y py, i1, [], 0⟩] scope pos) scope env (firstIterPos [⟨.Name x px, i0, [], 0⟩, ⟨.Name y py, i1, [], 0⟩] pos) (newSet (.type "set")) false (eval i0 env) none from by rw [eval]; rfl]
  refine wpAny_comprehension_free (use := none) rfl hs hclos hkind hnames (wpAny_mono h (fun xv s₁ h₁ => ?_) fun _ _ e => e)
  obtain ⟨ax, its0, na, bx, its, nb, news, f, rfl, hh, F, N, hma, hmb, hsz, hf, hi1, helt, hQ⟩ := h₁
  have hl : s₁.heap.IsList ax its0 := ⟨_, (N _ hma).1, rfl, _, rfl⟩
  refine wpAny_pyIter_list hl ?_
  have up : ∀ b o, s₁.heap.get? b = some o → (s₁.heap.push { cls := .type "list_iterator", data := .fields #[.ref ax, .int 0 0] }).get? b = some o := fun b o e => Heap.get?_push_of_some _ e
  have hitI : (s₁.heap.push { cls := .type "list_iterator", data := .fields #[.ref ax, .int 0 0] }).IsListIter s₁.heap.objs.size ax 0 := ⟨_, Heap.get?_push_size _ rfl, rfl, rfl⟩
  have szI : (s₁.heap.push { cls := .type "list_iterator", data := .fields #[.ref ax, .int 0 0] }).objs.size = s₁.heap.objs.size + 1 := Heap.size_push ..
  have F1 := F.keeps up
  have N1 : News h₀ L _ news := N.grown up
  have hIn : ∀ p ∈ news, p.1 ≠ s₁.heap.objs.size := fun p hp => Nat.ne_of_lt (Heap.lt_size (N p hp).1)
  have hIL : s₁.heap.objs.size ≠ L := Nat.ne_of_gt F.ns.lt
  have hI₀ : h₀.get? s₁.heap.objs.size = none := next_is_new F
  have hIlt : s₁.heap.objs.size < s₁.heap.objs.size + 1 := Nat.lt_succ_self _
  generalize s₁.heap.push { cls := .type "list_iterator", data := .fields #[.ref ax, .int 0 0] } = H1 at *
  generalize s₁.heap.objs.size = I at *
  refine new_set fun oD SD gD => ?_
  dsimp only
  refine wpAny_newFunctionEnv hcell (by intro y hy; simp at hy) (fun h₁ hns₁ hsb₁ => ?_) hkind
  dsimp only at hns₁ hsb₁ ⊢
  have szD : (H1.push oD).objs.size = H1.objs.size + 1 := Heap.size_push ..
  have upD : ∀ b o, H1.get? b = some o → (H1.push oD).get? b = some o := fun b o e => Heap.get?_push_of_some _ e
  have hDlt : H1.objs.size < (H1.push oD).objs.size := by rw [szD]; exact Nat.lt_succ_self _
  have fresh : ∀ a, H1.objs.size ≤ a → h₀.get? a = none := fun a ha => by
    cases e : h₀.get? a with
    | none => rfl
    | some o' => exact absurd (Heap.lt_size (F1.keep a o' e)) (Nat.not_lt.mpr ha)
  have hC₀ : h₀.get? (H1.push oD).objs.size = none := fresh _ (by rw [szD]; exact Nat.le_succ _)
  have hD₀ : h₀.get? H1.objs.size = none := fresh _ (Nat.le_refl _)
  have hLlt : L < H1.objs.size := F1.ns.lt
  have hDL : H1.objs.size ≠ L := Nat.ne_of_gt hLlt
  have hCL : (H1.push oD).objs.size ≠ L := Nat.ne_of_gt (Nat.lt_trans hLlt hDlt)
  have hCD : (H1.push oD).objs.size ≠ H1.objs.size := Nat.ne_of_gt hDlt
  have hIlt : I < H1.objs.size := by rw [szI]; exact Nat.lt_succ_self _
  have hDI : H1.objs.size ≠ I := Nat.ne_of_gt hIlt
  have hCI : (H1.push oD).objs.size ≠ I := Nat.ne_of_gt (Nat.lt_trans hIlt hDlt)
  have hnlt : ∀ p ∈ news, p.1 < H1.objs.size := fun p hp => Heap.lt_size (N1 p hp).1
  have hDn : ∀ p ∈ news, p.1 ≠ H1.objs.size := fun p hp => Nat.ne_of_lt (hnlt p hp)
  have hCn : ∀ p ∈ news, p.1 ≠ (H1.push oD).objs.size := fun p hp => Nat.ne_of_lt (Nat.lt_trans (hnlt p hp) hDlt)
  have old : ∀ b o, (H1.push oD).get? b = some o → h₁.get? b = some o := fun b o e => hsb₁.extBut b o (Nat.ne_of_lt (Heap.lt_size e)) (Heap.get?_push_of_some _ e)
  have F2 : Fr h₀ L h₁ m := F1.keeps fun b o e => old b o (upD b o e)
  have N2 : News h₀ L h₁ ((H1.objs.size, oD) :: news) := fun p hp => by
    rcases List.mem_cons.mp hp with rfl | hp
    · exact ⟨old _ _ gD, hDL, hD₀⟩
    · exact ⟨old _ _ (upD _ _ (N1 p hp).1), (N1 p hp).2⟩
  have hit2 : h₁.IsListIter I ax 0 := hitI.at fun o e => old _ _ (upD _ _ e)
  have tk0 : s₁.toks + ([] : List (Str × Value)).length = s₁.toks := rfl
  rw [tk0]
  clear hsb₁ old upD gD up hitI N1 F1 hnlt szD szI fresh hl
  generalize (H1.push oD).objs.size = C at *
  generalize H1.objs.size = D at *
  have isl : ∀ {h : Heap}, News h₀ L h news → h.IsList ax its0 := fun N => ⟨_, (N _ hma).1, rfl, _, rfl⟩
  have isb : ∀ {h : Heap}, News h₀ L h news → h.IsList bx its := fun N => ⟨_, (N _ hmb).1, rfl, _, rfl⟩
  have W := Walks.list (prog := prog) (w := w) hh I ax (hIn _ hma) its0
  have loop : codeAny (model prog w) A (.compLoop (.SetComp elt [⟨.Name x px, i0, [], 0⟩, ⟨.Name y py, i1, [], 0⟩] scope pos) 0 (.ref I) (.ref D) (compEnvC scope cl C env)) (compPost (model prog w) A E none Q (.ref D) C) { s₁ with heap := h₁ } := by
    refine codeAny_loop rfl (fun k s' => ∃ h' tk i m' oD', s' = { s₁ with heap := h', toks := tk } ∧ i ≤ its0.size ∧ k = its0.size + 1 - i ∧ h'.IsListIter I ax i ∧ Fr h₀ L h' m ∧ h'.Ns C m' ∧ News h₀ L h' ((D, oD') :: news) ∧
      SetO w oD' (allOf i its.size f) (i * its.size)) ?_ (its0.size + 1) ⟨h₁, s₁.toks, 0, _, oD, rfl, Nat.zero_le _, rfl, hit2, F2, hns₁, N2, by rw [Nat.zero_mul]; exact SD⟩
    rintro k s' ⟨h', tk, i, m', oD', rfl, hi, rfl, hit', F', hn', N', S'⟩
    show wpAny _ A ((compTurn (.SetComp elt [⟨.Name x px, i0, [], 0⟩, ⟨.Name y py, i1, [], 0⟩] scope pos) 0 (.ref I) (.ref D) (compEnvC scope cl C env)).onRaise (fun x => do noteFrame x (compEnvC scope cl C env); theTreesLotGoes x)) _ _ _
    refine wpAny_noted ?_
    rw [set_turn0]
    have Nn : News h₀ L h' news := fun p hp => N' p (.tail _ hp)
    refine wpAny_bind (wpAny_standAt (wpAny_bind ?_))
    by_cases hlt : i < its0.size
    · refine W.item i _ _ _ hlt ⟨hit', isl Nn⟩ fun v h₂ tk₂ hv hst₂ hk₂ => ?_
      dsimp only
      have N₂ : News h₀ L h₂ ((D, oD') :: news) := news_but N' hk₂ fun p hp => by
        rcases List.mem_cons.mp hp with rfl | hp
        · exact hDI
        · exact hIn p hp
      have F₂ : Fr h₀ L h₂ m := fr_but F' hk₂ (Ne.symm hIL) hI₀
      refine wpAny_bind (wpAny_of_eq (a := ()) rfl ?_)
      refine wpAny_bind (wpAny_assign_Name (wpAny_storeName_local (lookup_relabel_local hx) (hn'.at' fun o e => hk₂ _ o (by simpa using hCI) e) (fun h₃ hn₃ hs₃ => ?_) (by simp [compEnvC, relabel, hkind])))
      have hit₃ : h₃.IsListIter I ax (i + 1) := hst₂.1.at fun o e => hs₃.extBut I o (Ne.symm hCI) e
      obtain ⟨oI, heI, hoI⟩ := id hit₃
      obtain ⟨oC, heC, hoC⟩ := ns_obj hn₃
      have F₃ : Fr h₀ L h₃ m := F₂.change hs₃ hCL hC₀
      have N₃ : News h₀ L h₃ ((D, oD') :: (I, oI) :: news) := fun p hp => by
        rcases List.mem_cons.mp hp with rfl | hp
        · have z := N₂ _ (.head _)
          exact ⟨hs₃.extBut _ _ (Ne.symm hCD) z.1, z.2⟩
        rcases List.mem_cons.mp hp with rfl | hp
        · exact ⟨heI, hIL, hI₀⟩
        · have z := N₂ p (.tail _ hp)
          exact ⟨hs₃.extBut _ _ (hCn p hp) z.1, z.2⟩
      have N₄ : News h₀ L h₃ ((I, oI) :: (C, oC) :: (D, oD') :: news) := fun p hp => by
        rcases List.mem_cons.mp hp with rfl | hp
        · exact ⟨heI, hIL, hI₀⟩
        rcases List.mem_cons.mp hp with rfl | hp
        · exact ⟨heC, hCL, hC₀⟩
        rcases List.mem_cons.mp hp with rfl | hp
        · exact N₃ _ (.head _)
        · exact N₃ _ (.tail _ (.tail _ hp))
      refine wpAny_bind (wpAny_mono (hi1 i v I oI C oC D oD' _ h₃ _ _ hv hoC (by rw [if_pos rfl]) F₃ N₄) (fun r s₄ h₄ => ?_) fun _ _ e => e)
      obtain ⟨tk₄, rfl, rfl⟩ := h₄
      refine wpAny_bind (wpAny_standAt (wpAny_bind (wpAny_of_eq (hs1 _ _) (wpAny_bind (wpAny_holding ?_)))))
      have N₅ : News h₀ L h₃ news := fun p hp => N₃ p (.tail _ (.tail _ hp))
      refine wpAny_pyIter_list (isb N₅) ?_
      dsimp only
      have upJ : ∀ b o, h₃.get? b = some o → (h₃.push { cls := .type "list_iterator", data := .fields #[.ref bx, .int 0 0] }).get? b = some o := fun b o e => Heap.get?_push_of_some _ e
      have hitJ : (h₃.push { cls := .type "list_iterator", data := .fields #[.ref bx, .int 0 0] }).IsListIter h₃.objs.size bx 0 := ⟨_, Heap.get?_push_size _ rfl, rfl, rfl⟩
      have F₆ := F₃.keeps upJ
      have N₆ : News h₀ L _ ((D, oD') :: (I, oI) :: news) := N₃.grown upJ
      have hn₆ := hn₃.at' fun o e => upJ _ o e
      have jlt : ∀ {b o}, h₃.get? b = some o → h₃.objs.size ≠ b := fun e => Nat.ne_of_gt (Heap.lt_size e)
      have hJL : h₃.objs.size ≠ L := Nat.ne_of_gt F₃.ns.lt
      have hJ₀ : h₀.get? h₃.objs.size = none := next_is_new F₃
      have hJC : h₃.objs.size ≠ C := jlt heC
      have hJD : h₃.objs.size ≠ D := jlt (N₃ _ (.head _)).1
      have hJI : h₃.objs.size ≠ I := jlt heI
      have hJn : ∀ p ∈ news, p.1 ≠ h₃.objs.size := fun p hp => Ne.symm (jlt (N₅ p hp).1)
      generalize h₃.push { cls := .type "list_iterator", data := .fields #[.ref bx, .int 0 0] } = h₆ at *
      generalize h₃.objs.size = J at *
      refine wpAny_bind (wpAny_runOwn ?_)
      show codeAny _ A _ _ _
      have via : ∀ {R' : Result → Shared → Prop}, codeAny (model prog w) A (.compLoop (.SetComp elt [⟨.Name x px, i0, [], 0⟩, ⟨.Name y py, i1, [], 0⟩] scope pos) 1 (.ref J) (.ref D) (compEnvC scope cl C env)) R' { s₁ with heap := h₆, toks := tk₄ } →
          codeAny (model prog w) A (.compStart (.SetComp elt [⟨.Name x px, i0, [], 0⟩, ⟨.Name y py, i1, [], 0⟩] scope pos) 1 (.ref J) (.ref D) (compEnvC scope cl C env)) R' { s₁ with heap := h₆, toks := tk₄ } :=
        fun inner => set_start 1 (.inr rfl) inner (wpAny_pyIter_listiter hitJ inner)
      refine via (
        set_inner (s := s₁) (f := f i) hh hkind hy hyx hmb hJL hJ₀ hJC hJD hJI hJn hCL hC₀ hCD hCI hCn hDI hDn
          (fun j u m₂ oJ oC oD h tk E' hu h1 h2 h3 h4 h5 => helt i j v u I oI J oJ C oC D oD m₂ h tk E' hv hu h1 h2 h3 h4 h5)
          (fun j hj => hf i j hlt hj) (n := i * its.size) (by
            have : (i + 1) * its.size ≤ its0.size * its.size := Nat.mul_le_mul_right _ hlt
            rw [Nat.add_mul, Nat.one_mul] at this
            omega) (fun h₇ tk₇ m₇ oD₇ F₇ n₇ N₇ S₇ => ?_) F₆ hn₆ (by rw [if_pos rfl]) N₆ hitJ S')
      · refine wpAny_pure ⟨rfl, its0.size + 1 - (i + 1), by omega, h₇, tk₇, i + 1, m₇, oD₇, rfl, hlt, rfl, ⟨oI, (N₇ _ (.tail _ (.head _))).1, hoI⟩, F₇, n₇, fun p hp => ?_, ?_⟩
        · rcases List.mem_cons.mp hp with rfl | hp
          · exact N₇ _ (.head _)
          · exact N₇ p (.tail _ (.tail _ hp))
        · rw [allOf_succ, Nat.add_mul, Nat.one_mul]
          exact S₇
    · obtain rfl : i = its0.size := Nat.le_antisymm hi (Nat.not_lt.mp hlt)
      refine W.done _ _ _ ⟨hit', isl Nn⟩ fun h₂ tk₂ hk₂ => ?_
      refine wpAny_pure ?_
      have N₂ : News h₀ L h₂ ((D, oD') :: news) := news_but N' hk₂ fun p hp => by
        rcases List.mem_cons.mp hp with rfl | hp
        · exact hDI
        · exact hIn p hp
      have F₂ : Fr h₀ L h₂ m := fr_but F' hk₂ (Ne.symm hIL) hI₀
      refine ⟨m', hn'.at' fun o e => hk₂ _ o (by simpa using hCI) e, fun h'' hs'' => hQ D oD' h'' tk₂ (F₂.change hs'' hCL hC₀) (fun p hp => ?_) (off1_ofL hDn) S'⟩
      have z := N₂ p hp
      refine ⟨hs''.extBut _ _ ?_ z.1, z.2⟩
      rcases List.mem_cons.mp hp with rfl | hp
      · exact Ne.symm hCD
      · exact hCn p hp
  exact set_start 0 (.inl rfl) loop (W.self 0 _ _ _ ⟨hit2, isl fun p hp => N2 p (.tail _ hp)⟩ loop)
end

noncomputable def LawEnd (h₀ : Heap) (L : Addr) (s : Shared) (f : Flow) (s' : Shared) : Prop := ∃ h' tk' m' news' ps, f = .ret (.bool true) ∧ s' = { s with heap := h', toks := tk' } ∧ Fr h₀ L h' m' ∧ News h₀ L h' news' ∧ (138, tabObj ps) ∈ news'
theorem to_end {M : Model} {A : Around} {t : Sem Flow} {Q : Flow → Shared → Prop} {E : Value → Shared → Prop} {s : Shared} {h₀ : Heap} {L : Addr} {m : Str → Option Value} (_ : Fr h₀ L s.heap m)
  (h : wpAny M A t (LawEnd h₀ L s) (fun _ _ => False) s) (hf : ∀ f s', LawEnd h₀ L s f s' → Q f s') : wpAny M A t Q E s := wpAny_mono h hf (fun _ _ e => e.elim)
section
open PySem.W
theorem pick_drop (l : List Value) (n : Nat) : kms_pick l (some (n : Int)) none = l.drop n := by
  unfold kms_pick kms_lo kms_hi
  dsimp only
  rw [if_neg (by omega)]
  rw [Int.toNat_natCast]
  have e : ∀ k, k = min n l.length → (l.drop k).take (l.length - k) = l.drop n := by
    intro k hk
    rw [List.take_of_length_le (by rw [List.length_drop]; omega)]
    rcases Nat.lt_or_ge n l.length with h | h
    · rw [hk, Nat.min_eq_left (Nat.le_of_lt h)]
    · rw [hk, Nat.min_eq_right h, List.drop_eq_nil_of_le (Nat.le_refl _), List.drop_eq_nil_of_le h]
  exact e _ rfl
end

section
open PyProof.V
theorem ks_canLayAll0 : ∀ ns : List Str, (∀ x ∈ ns, PyData.strOk x = true) → PyData.canLayAll0 (ns.map PyData.str) = true
  | [], _ => rfl
  | x :: r, h => by simp [PyData.canLayAll0, PyData.canLay0, ks_canLayAll0 r (fun y hy => h y (.tail _ hy)), h x (.head _)]
theorem ks_depthAll : ∀ ns : List Str, PyData.depthAll (ns.map PyData.str) = 0
  | [] => rfl
  | _ :: r => by simp [PyData.depthAll, PyData.depth, ks_depthAll r]
theorem ks_shaped (ns : List Str) (h : ∀ x ∈ ns, PyData.strOk x = true) : SeqAt.shaped (.list (ns.map PyData.str)) = true := by
  simp [SeqAt.shaped, PyData.canLay0, PyData.depth, ks_canLayAll0 ns h, ks_depthAll]
theorem ks_sameAll : ∀ ns ms : List Str, PySem.Spec.sameAll (ns.map PyData.str) (ms.map PyData.str) = decide (ns = ms)
  | [], [] => by simp [PySem.Spec.sameAll]
  | [], _ :: _ => by simp [PySem.Spec.sameAll]
  | _ :: _, [] => by simp [PySem.Spec.sameAll]
  | a :: r, b :: t => by
    simp only [List.map_cons, PySem.Spec.sameAll, PySem.Spec.same, ks_sameAll r t]
    by_cases h : a = b <;> by_cases h' : r = t <;> simp [h, h']
theorem ks_same (ns ms : List Str) : PySem.Spec.same (.list (ns.map PyData.str)) (.list (ms.map PyData.str)) = decide (ns = ms) := by
  simp only [PySem.Spec.same]; exact ks_sameAll ns ms
theorem ks_carried : ∀ {vs : List Value} {ns : List Str}, StrsAre vs ns → CarriedAll vs (ns.map PyData.str)
  | _, _, .nil => .nil
  | _, _, .cons _ t r => .cons (.str _ t) (ks_carried r)
variable {prog : Program} {w : World} {A : Around} {E : Value → Shared → Prop} {s : Shared} {a b : Addr} {xs ys : List Value} {ns ms : List Str} {Q : Value → Shared → Prop}
theorem ne_strs (ha : s.heap.IsList a xs.toArray) (hb : s.heap.IsList b ys.toArray) (hi : StrsAre xs ns) (hj : StrsAre ys ms) (hu : A.units + 64 < cLine) (o1 : ∀ x ∈ ns, PyData.strOk x = true) (o2 : ∀ x ∈ ms, PyData.strOk x = true) (h : Q (.bool (!decide (ns = ms))) s) :
    wpAny (model prog w) A (compareOp .NotEq (.ref a) (.ref b)) Q E s :=
  ne_dataH_same (reads_newData ha (ks_carried hi)) (reads_newData hb (ks_carried hj)) (ks_shaped _ o1) (ks_shaped _ o2) hu (SeqAt.noMix_of_shape (.list .str) rfl _ _ (list_map_has fun _ => rfl) (list_map_has fun _ => rfl)) (by rw [ks_same]; exact h)
end

noncomputable def lawDef : List Stmt × Scope := match PySem.Challenge.pw_pg0243_02.main.body.getLast? with | some (.FunctionDef _ _ b _ _ _ sc _ _ _) => (b, sc) | _ => ([], PySem.Challenge.pw_pg0243_02.main.scope)
noncomputable def lawSt (k : Nat) : List Stmt := lawDef.1.drop k
noncomputable def lawSc : Scope := lawDef.2
theorem six_ints {ws : List Value} {ns : List Int} (h : IntsAre ws (ns.take 6 ++ ([1, 1, 5, 9, 3, 4] : List Int).drop ns.length)) : ∃ x0 x1 x2 x3 x4 x5 t0 t1 t2 t3 t4 t5, ws = [.int x0 t0, .int x1 t1, .int x2 t2, .int x3 t3, .int x4 t4, .int x5 t5] := by
  have hl : (ns.take 6 ++ ([1, 1, 5, 9, 3, 4] : List Int).drop ns.length).length = 6 := by
    rw [List.length_append, List.length_take, List.length_drop]
    show min 6 ns.length + (6 - ns.length) = 6
    omega
  generalize ns.take 6 ++ ([1, 1, 5, 9, 3, 4] : List Int).drop ns.length = zs at h hl
  have nx : ∀ {ws : List Value} {zs : List Int} {k : Nat}, IntsAre ws zs → zs.length = k + 1 → ∃ x t ws' zs', ws = .int x t :: ws' ∧ IntsAre ws' zs' ∧ zs'.length = k := by
    intro ws zs k h hl
    cases h with
    | nil => cases hl
    | cons x t h => exact ⟨x, t, _, _, rfl, h, by simpa using hl⟩
  obtain ⟨x0, t0, _, _, rfl, h, hl⟩ := nx h hl
  obtain ⟨x1, t1, _, _, rfl, h, hl⟩ := nx h hl
  obtain ⟨x2, t2, _, _, rfl, h, hl⟩ := nx h hl
  obtain ⟨x3, t3, _, _, rfl, h, hl⟩ := nx h hl
  obtain ⟨x4, t4, _, _, rfl, h, hl⟩ := nx h hl
  obtain ⟨x5, t5, _, _, rfl, h, hl⟩ := nx h hl
  cases h with
  | nil => exact ⟨_, _, _, _, _, _, _, _, _, _, _, _, rfl⟩
  | cons => cases hl
theorem ints_drop : ∀ {vs : List Value} {ns : List Int} (n : Nat), IntsAre vs ns → IntsAre (vs.drop n) (ns.drop n)
  | _, _, 0, h => h
  | _, _, n + 1, .nil => .nil
  | _, _, n + 1, .cons _ _ h => ints_drop n h
theorem pick6 (t0 t1 t2 t3 t4 t5 : Tok) (n : Nat) : IntsAre (kms_pick [.int 1 t0, .int 1 t1, .int 5 t2, .int 9 t3, .int 3 t4, .int 4 t5] (some (n : Int)) none) (([1, 1, 5, 9, 3, 4] : List Int).drop n) := by
  rw [pick_drop]
  exact ints_drop n (.cons _ _ (.cons _ _ (.cons _ _ (.cons _ _ (.cons _ _ (.cons _ _ .nil))))))
--<M
local macro_rules | `(tactic| walk_at "subscriptTail Name Slice ref ref") => `(tactic| (k_here; (with_reducible show wpAny _ _ (subscriptTail _ (PySem.Expr.Slice (some _) none none _) (Value.ref _) (Value.ref _)) _ _ _); k_dflt (refine' kms_slice_lit ?F ?N ?l ?p ?q ?e ?_ ?s ?t ?z; (case F | N => k_asm); (case l => kmk_list); (case p | q => kmk_part); (case e => exact rfl); (case s => with_unfolding_all rfl); (case t => kmk_pure); (case z => kmk_size)); intro D' h' F' N' l1; (try k_lt l1)))
local macro_rules | `(tactic| walk_at "binaryOp Add ref ref") => `(tactic| (k_here; (with_reducible refine Halt.mk ?_)))
--M>
set_option maxHeartbeats 8000000 in
theorem stage2A (w : World) (mean : ExcName → Option Value) (mg mb : Str → Option Value) (g : Heap) (L fa : Addr) (cd : Value) (st : List Stmt) (sc : Scope) (hst : st = lawSt 1) (hsc : sc = lawSc) (s : Shared) (Q : Flow → Shared → Prop) (E : Value → Shared → Prop)
    (X : (Mine.hd.heap_39 w.params).In g) (B : Below callerA g [] g) (T : Top topProg looseT mean mg mb g) (m : Env1) (ls : Addr) (vs : List Value) (ns : List Int) (hI : IntsAre vs ns) (h63 : ns.length ≤ 63) (lifted : g.IsList ls vs.toArray)
    (w0 w1 w2 w3 w4 : Obj)
    (F : Fr g L s.heap (kstB m [(Str.ofString "script", .ref ls)]))
    (N : News g L s.heap [(L + 1 + 1 + 1 + 1 + 1, w4), (L + 1 + 1 + 1 + 1, w3), (L + 1 + 1 + 1, w2), (L + 1 + 1, w1), (L + 1, w0), (138, tabObj #[])]) (l0 : @LT.lt Nat _ 138 L)
    (hnext : ∀ (h : Heap) (tk : Nat) (m : Env1) (D : Addr) (x0 x1 x2 x3 x4 x5 : Int) (t0 t1 t2 t3 t4 t5 : Tok), Fr g L h (kstB m [(Str.ofString "numbers", .ref D)]) →
      News g L h [(D, W.listOf [.int x0 t0, .int x1 t1, .int x2 t2, .int x3 t3, .int x4 t4, .int x5 t5].toArray 0), (L + 1 + 1 + 1 + 1 + 1, w4), (L + 1 + 1 + 1 + 1, w3), (L + 1 + 1 + 1, w2), (L + 1 + 1, w1), (L + 1, w0), (138, tabObj #[])] →
      AllLt D [(L + 1 + 1 + 1 + 1 + 1, w4), (L + 1 + 1 + 1 + 1, w3), (L + 1 + 1 + 1, w2), (L + 1 + 1, w1), (L + 1, w0), (138, tabObj #[])] →
      wpAny (model PySem.Challenge.rw_pg0243_02.row.prog w) (callerA.deeper (envOfC (Str.ofString "law") sc L fa cd)) (execs (lawSt 2) (envOfC (Str.ofString "law") sc L fa cd)) Q E { s with heap := h, toks := tk }) :
    wpAny (model PySem.Challenge.rw_pg0243_02.row.prog w) (callerA.deeper (envOfC (Str.ofString "law") sc L fa cd)) (execs st (envOfC (Str.ofString "law") sc L fa cd)) Q E s := by
  conv at hst => rhs; whnf
  conv at hsc => rhs; whnf
  subst hst hsc
  w_top off
  revert X; k_fill; intro X
  have mine_on : MineOn := True.intro
  k_steps
  unfold Halt
  (rename IntsAre _ (List.take 6 _) => hI1)
  (rename Fr _ _ _ _ => F1)
  (rename News _ _ _ _ => N1)
  have hpk := pick6 (s.toks + 1) (s.toks + 1 + 1) (s.toks + 1 + 1 + 1) (s.toks + 1 + 1 + 1 + 1) (s.toks + 1 + 1 + 1 + 1 + 1) (s.toks + 1 + 1 + 1 + 1 + 1 + 1) ns.length
  have hI2 := PyProof.Rows.IntsAre.append hI1 hpk
  have z1 := hI1.length
  have z2 := hpk.length
  rw [List.length_take] at z1
  rw [List.length_drop] at z2
  have z3 : ([1, 1, 5, 9, 3, 4] : List Int).length = 6 := rfl
  obtain ⟨x0, x1, x2, x3, x4, x5, t0, t1, t2, t3, t4, t5, e0⟩ := six_ints hI2
  refine lists_add F1 N1 (by k_mem) (.head _) (by
    show _ + (kms_pick [.int 1 (s.toks + 1), .int 1 (s.toks + 1 + 1), .int 5 (s.toks + 1 + 1 + 1), .int 9 (s.toks + 1 + 1 + 1 + 1), .int 3 (s.toks + 1 + 1 + 1 + 1 + 1), .int 4 (s.toks + 1 + 1 + 1 + 1 + 1 + 1)] (some (ns.length : Int)) none).length ≤ 10000
    omega) ?_
  intro D1 h2 F2 N2 l2
  dsimp only
  have N3 : News g L h2 [(D1, W.listOf [.int x0 t0, .int x1 t1, .int x2 t2, .int x3 t3, .int x4 t4, .int x5 t5].toArray 0), (L + 1 + 1 + 1 + 1 + 1, w4), (L + 1 + 1 + 1 + 1, w3), (L + 1 + 1 + 1, w2), (L + 1 + 1, w1), (L + 1, w0), (138, tabObj #[])] := by
    rw [← e0]
    exact cb_drop N2 (List.forall_mem_cons.mpr ⟨.head _, List.forall_mem_cons.mpr ⟨by k_mem, List.forall_mem_cons.mpr ⟨by k_mem, List.forall_mem_cons.mpr ⟨by k_mem, List.forall_mem_cons.mpr ⟨by k_mem, List.forall_mem_cons.mpr ⟨by k_mem, List.forall_mem_cons.mpr ⟨by k_mem, List.forall_mem_nil _⟩⟩⟩⟩⟩⟩⟩)
  have l3 := allLt_of l2
  obtain ⟨-, -, -, l4⟩ := l3
  clear N2 N1 F1 hI1 hpk hI2 e0 l2
  (iterate 1 (walk_at "my_step"))
  try dsimp only
  (rename Fr _ _ _ _ => F9)
  exact hnext _ _ _ D1 x0 x1 x2 x3 x4 x5 t0 t1 t2 t3 t4 t5 (Has.fr ⟨rfl, True.intro⟩ F9) (by k_asm) l4

--<M
local macro_rules | `(tactic| walk_at "exec For Name List cons nil") => `(tactic| (k_here; (with_reducible refine for_loop ?_ ?_); rotate_left; (with_unfolding_all (intro _; rfl))))
local macro_rules | `(tactic| walk_at "Loop") => `(tactic| (with_reducible refine Halt.mk ?_))
local macro_rules | `(tactic| walk_at "call builtin:list.append") => `(tactic| (k_here; (with_reducible show wpAny _ _ (call (Value.builtin _) [Value.ref _, _]) _ _ _); k_dflt (refine' append_K ?k1 ?k2 ?k3 ?_ ?z; (case k1 | k2 => k_asm); (case k3 => k_upd); (case z => size_fits); k_whole); intro h' F' N'; (try k_sweep)))
--M>
/-- a row of three counts -/
abbrev row3 (a r b : Nat) (t u v : Tok) : Obj := W.listOf [.int (a : Int) t, .int ((a + 1 + r : Nat) : Int) u, .int (b : Int) v].toArray 0
structure BC where
  refs : List Value
  n : Nat
  led : Led
noncomputable def PB (p : Nat) (it : Addr) : Nat → BC → Prop
  | 0, c => c = ⟨[], 0, []⟩
  | 1, c => ∃ A0 a0 r0 a2 t0 t1 t2, a0 < p ∧ r0 < p - 1 ∧ a2 < p ∧ c = ⟨[.ref A0], 1, [(A0, row3 a0 r0 a2 t0 t1 t2)]⟩ ∧ @LT.lt Nat _ it A0
  | _, c => ∃ A0 A1 a0 r0 a2 b0 r1 b2 t0 t1 t2 t3 t4 t5, a0 < p ∧ r0 < p - 1 ∧ a2 < p ∧ b0 < p ∧ r1 < p - 1 ∧ b2 < p ∧ c = ⟨[.ref A0, .ref A1], 2, [(A1, row3 b0 r1 b2 t3 t4 t5), (A0, row3 a0 r0 a2 t0 t1 t2)]⟩ ∧ @LT.lt Nat _ it A0 ∧ @LT.lt Nat _ it A1
theorem mod_nat (x : Int) (p : Nat) (hp : 0 < p) : ∃ a : Nat, x.fmod (p : Int) = (a : Int) ∧ a < p := by
  rw [Int.fmod_eq_emod_of_nonneg _ (Int.natCast_nonneg p)]
  have h1 := Int.emod_nonneg x (show (p : Int) ≠ 0 by omega)
  have h2 := Int.emod_lt_of_pos x (show (0 : Int) < p by omega)
  exact ⟨(x % (p : Int)).toNat, by omega, by omega⟩
theorem row_eq {x y z : Int} {p a r b : Nat} (h0 : x.fmod (p : Int) = (a : Int)) (h1 : y.fmod ((p : Int) - 1) = (r : Int)) (h2 : z.fmod (p : Int) = (b : Int)) {t u v : Tok} :
    W.listOf [.int (x.fmod (p : Int)) t, .int (x.fmod (p : Int) + 1 + y.fmod ((p : Int) - 1)) u, .int (z.fmod (p : Int)) v].toArray 0 = row3 a r b t u v := by
  rw [h0, h1, h2]
  rfl
set_option maxHeartbeats 8000000 in
theorem stage2B (w : World) (mean : ExcName → Option Value) (mg mb : Str → Option Value) (g : Heap) (L fa : Addr) (cd : Value) (st : List Stmt) (sc : Scope) (hst : st = lawSt 2) (hsc : sc = lawSc) (s : Shared) (Q : Flow → Shared → Prop) (E : Value → Shared → Prop) (hE : PassesOwn (model PySem.Challenge.rw_pg0243_02.row.prog w) (callerA.deeper (envOfC (Str.ofString "law") sc L fa cd)) (envOfC (Str.ofString "law") sc L fa cd) E)
    (X : (Mine.hd.heap_39 w.params).In g) (B : Below callerA g [] g) (T : Top topProg looseT mean mg mb g) (m : Env1) (D : Addr) (x0 x1 x2 x3 x4 x5 : Int) (t0 t1 t2 t3 t4 t5 : Tok)
    (w0 w1 w2 w3 w4 : Obj) (p : Nat) (tp : Tok) (hp : p = 7 ∨ p = 11) (e0 : w0.data = .cell (some (.int (p : Int) tp))) (e1 : w1.data = .cell none)
    (F : Fr g L s.heap (kstB m [(Str.ofString "numbers", .ref D)]))
    (N : News g L s.heap [(D, W.listOf [.int x0 t0, .int x1 t1, .int x2 t2, .int x3 t3, .int x4 t4, .int x5 t5].toArray 0), (L + 1 + 1 + 1 + 1 + 1, w4), (L + 1 + 1 + 1 + 1, w3), (L + 1 + 1 + 1, w2), (L + 1 + 1, w1), (L + 1, w0), (138, tabObj #[])]) (l0 : @LT.lt Nat _ 138 L)
    (lD : AllLt D [(L + 1 + 1 + 1 + 1 + 1, w4), (L + 1 + 1 + 1 + 1, w3), (L + 1 + 1 + 1, w2), (L + 1 + 1, w1), (L + 1, w0), (138, tabObj #[])])
    (hnext : ∀ (h : Heap) (tk : Nat) (m : Env1) (CL A0 A1 : Addr) (w1 : Obj) (a0 r0 a2 b0 r1 b2 : Nat) (t0 t1 t2 t3 t4 t5 : Tok), a0 < p → r0 < p - 1 → a2 < p → b0 < p → r1 < p - 1 → b2 < p → Fr g L h m → w1.data = .cell (some (.ref CL)) →
      News g L h [(CL, W.listOf [.ref A0, .ref A1].toArray 2), (A1, row3 b0 r1 b2 t3 t4 t5), (A0, row3 a0 r0 a2 t0 t1 t2), (L + 1 + 1 + 1 + 1 + 1, w4), (L + 1 + 1 + 1 + 1, w3), (L + 1 + 1 + 1, w2), (L + 1 + 1, w1), (L + 1, w0), (138, tabObj #[])] →
      wpAny (model PySem.Challenge.rw_pg0243_02.row.prog w) (callerA.deeper (envOfC (Str.ofString "law") sc L fa cd)) (execs (lawSt 4) (envOfC (Str.ofString "law") sc L fa cd)) Q E { s with heap := h, toks := tk }) :
    wpAny (model PySem.Challenge.rw_pg0243_02.row.prog w) (callerA.deeper (envOfC (Str.ofString "law") sc L fa cd)) (execs st (envOfC (Str.ofString "law") sc L fa cd)) Q E s := by
  conv at hst => rhs; whnf
  conv at hsc => rhs; whnf
  subst hst hsc
  w_top off
  revert X; k_fill; intro X
  have mine_on : MineOn := True.intro
  have hp2 : 7 ≤ p ∧ p ≤ 11 := by omega
  (simp only [AllLt, and_true] at lD)
  k_steps
  unfold Halt
  (rename Fr _ _ _ _ => F1)
  (rename News _ _ _ _ => N1)
  (rename ListIt _ _ _ => ho1)
  rename_i CL _ _ _ wc dc LL _ _ it o1 _ _
  (rename _ ∧ _ ∧ _ ∧ _ ∧ _ ∧ _ ∧ _ ∧ _ ∧ _ => q1)
  obtain ⟨b0, f0, g0⟩ := mod_nat x0 p (by omega)
  obtain ⟨b2, f2, g2⟩ := mod_nat x2 p (by omega)
  obtain ⟨b3, f3, g3⟩ := mod_nat x3 p (by omega)
  obtain ⟨b5, f5, g5⟩ := mod_nat x5 p (by omega)
  obtain ⟨b1, f1, g1⟩ := mod_nat x1 (p - 1) (by omega)
  obtain ⟨b4, f4, g4⟩ := mod_nat x4 (p - 1) (by omega)
  have ep : ((p - 1 : Nat) : Int) = (p : Int) - 1 := by omega
  rw [ep] at f1 f4
  have l9 : ∀ (o2 o3 : Obj), AllLt it [(LL, o2), (CL, o3), (D, w0), (L + 1 + 1 + 1 + 1 + 1, w4), (L + 1 + 1 + 1 + 1, w3), (L + 1 + 1 + 1, w2), (L + 1 + 1, wc), (L + 1, w0), (138, tabObj #[])] := fun _ _ => by
    (simp only [AllLt, and_true]); exact q1
  have kk : ∀ (i : Nat) (c : BC), PB p it i c → ∀ q ∈ c.led, q.1 ≠ it := by
    intro i c hc q hq
    match i, hc with
    | 0, hc => obtain rfl : c = _ := hc; cases hq
    | 1, hc =>
      obtain ⟨A0, _, _, _, _, _, _, _, _, _, rfl, hlt⟩ := hc
      rw [List.mem_singleton.mp hq]; exact Nat.ne_of_gt hlt
    | _ + 2, hc =>
      obtain ⟨A0, A1, _, _, _, _, _, _, _, _, _, _, _, _, _, _, _, _, _, _, rfl, hlt, hlt2⟩ := hc
      rcases List.mem_cons.mp hq with rfl | hq
      · exact Nat.ne_of_gt hlt2
      · rw [List.mem_singleton.mp hq]; exact Nat.ne_of_gt hlt
  refine Loop.iter (σ := BC) (iter_of_list it LL [.int 0 tk, .int 3 (tk + 1)] 0) rfl (PB p it) (fun _ => [(Str.ofString "numbers", .ref D)])
    (fun c => c.led ++ [(LL, W.listOf [.int 0 tk, .int 3 (tk + 1)].toArray 0), (CL, W.listOf c.refs.toArray c.n), (D, W.listOf [.int x0 t0, .int x1 t1, .int x2 t2, .int x3 t3, .int x4 t4, .int x5 t5].toArray 0), (L + 1 + 1 + 1 + 1 + 1, w4), (L + 1 + 1 + 1 + 1, w3), (L + 1 + 1 + 1, w2), (L + 1 + 1, wc), (L + 1, w0), (138, tabObj #[])])
    ⟨[], 0, []⟩ rfl ho1 (At.intro F1 N1 ⟨rfl, True.intro⟩ fun q hq => hq) (fun i c hc q hq => ?_) (fun _ _ _ q hq => by rw [List.mem_singleton.mp hq]; exact List.mem_append_right _ (.head _)) ?_ ?_ hE
  · rcases List.mem_append.mp hq with hq | hq
    · exact kk i c hc q hq
    · have := List.mem_map_of_mem (f := Prod.fst) hq
      simp only [List.map_cons, List.map_nil, List.mem_cons, List.not_mem_nil, or_false] at this
      obtain ⟨z1, z2, z3, z4, z5, z6, z7, z8, z9⟩ := q1
      rcases this with h | h | h | h | h | h | h | h | h <;> rw [h]
      · exact Nat.ne_of_lt z1
      · exact Nat.ne_of_lt z2
      · exact Nat.ne_of_lt z3
      · exact Nat.ne_of_lt z4
      · exact Nat.ne_of_lt z5
      · exact Nat.ne_of_lt z6
      · exact Nat.ne_of_lt z7
      · exact Nat.ne_of_lt z8
      · exact Nat.ne_of_lt z9
  · intro i c hi hc v o h tk2 mm hv ho F N
    clear F1 N1 kk l9
    match i, hi, hc, hv with
    | 0, _, hc, hv =>
      obtain rfl : c = _ := hc
      obtain rfl : Value.int 0 tk = v := by simpa using hv
      dsimp only [List.nil_append] at F N
      k_steps
      (rename News _ _ _ _ => N5)
      (rename Fr _ _ _ _ => F5)
      (rename _ ∧ _ ∧ _ ∧ _ ∧ _ => l5)
      have N6 : News g L _ ((_, W.listOf [.int (x0.fmod (p : Int)) _, .int (x0.fmod (p : Int) + 1 + x1.fmod ((p : Int) - 1)) _, .int (x2.fmod (p : Int)) _].toArray 0) :: _) := N5
      rw [row_eq f0 f1 f2] at N6
      refine TurnI.next ⟨[.ref _], 1, [(_, row3 b0 b1 b2 _ _ _)]⟩ F5 N6 ?P ⟨rfl, True.intro⟩ ho (List.forall_mem_cons.mpr ⟨.tail _ (.head _), List.forall_mem_cons.mpr ⟨.head _, List.forall_mem_cons.mpr ⟨by k_mem, List.forall_mem_cons.mpr ⟨by k_mem, List.forall_mem_cons.mpr ⟨by k_mem, List.forall_mem_cons.mpr ⟨by k_mem, List.forall_mem_cons.mpr ⟨by k_mem, List.forall_mem_cons.mpr ⟨by k_mem, List.forall_mem_cons.mpr ⟨by k_mem, List.forall_mem_cons.mpr ⟨by k_mem, List.forall_mem_cons.mpr ⟨by k_mem, List.forall_mem_nil _⟩⟩⟩⟩⟩⟩⟩⟩⟩⟩⟩)
      exact ⟨_, b0, b1, b2, _, _, _, g0, g1, g2, rfl, l5.1⟩
    | 1, _, hc, hv =>
      obtain ⟨A0, a0, r0, a2, u0, u1, u2, y0, y1, y2, rfl, hlt⟩ := hc
      obtain rfl : Value.int 3 (tk + 1) = v := by simpa using hv
      dsimp only [List.nil_append, List.cons_append] at F N
      have hcl : @LT.lt Nat _ CL A0 := Nat.lt_trans q1.2.1 hlt
      k_steps
      (rename News _ _ _ _ => N5)
      (rename Fr _ _ _ _ => F5)
      (rename _ ∧ _ ∧ _ ∧ _ ∧ _ => l5)
      have N6 : News g L _ ((_, W.listOf [.int (x3.fmod (p : Int)) _, .int (x3.fmod (p : Int) + 1 + x4.fmod ((p : Int) - 1)) _, .int (x5.fmod (p : Int)) _].toArray 0) :: _) := N5
      rw [row_eq f3 f4 f5] at N6
      refine TurnI.next ⟨[.ref A0, .ref _], 2, [(_, row3 b3 b4 b5 _ _ _), (A0, row3 a0 r0 a2 u0 u1 u2)]⟩ F5 N6 ?P2 ⟨rfl, True.intro⟩ ho (List.forall_mem_cons.mpr ⟨.tail _ (.head _), List.forall_mem_cons.mpr ⟨.head _, List.forall_mem_cons.mpr ⟨.tail _ (.tail _ (.head _)), List.forall_mem_cons.mpr ⟨by k_mem, List.forall_mem_cons.mpr ⟨by k_mem, List.forall_mem_cons.mpr ⟨by k_mem, List.forall_mem_cons.mpr ⟨by k_mem, List.forall_mem_cons.mpr ⟨by k_mem, List.forall_mem_cons.mpr ⟨by k_mem, List.forall_mem_cons.mpr ⟨by k_mem, List.forall_mem_cons.mpr ⟨by k_mem, List.forall_mem_cons.mpr ⟨by k_mem, List.forall_mem_nil _⟩⟩⟩⟩⟩⟩⟩⟩⟩⟩⟩⟩)
      exact ⟨A0, _, a0, r0, a2, b3, b4, b5, _, _, _, _, _, _, y0, y1, y2, g3, g4, g5, rfl, hlt, l5.1⟩
    | i + 2, hi, _, _ => exact absurd hi (by simp)
  · intro c hc h tk2 mm F N
    obtain ⟨A0, A1, a0, r0, a2, c0, r1, c2, u0, u1, u2, u3, u4, u5, y0, y1, y2, y3, y4, y5, rfl, hlt, hlt2⟩ := hc
    dsimp only [List.nil_append, List.cons_append] at F N
    refine wpAny_execs_nil ?_
    dsimp only
    refine hnext h tk2 _ CL A0 A1 wc a0 r0 a2 c0 r1 c2 u0 u1 u2 u3 u4 u5 y0 y1 y2 y3 y4 y5 F dc (cb_drop N ?_)
    intro q hq
    simp only [List.mem_append, List.mem_cons, List.not_mem_nil, or_false] at hq ⊢
    rcases hq with h | h | h | h | h | h | h | h | h <;> simp only [h, true_or, or_true]

--<M
local macro_rules | `(tactic| walk_at "exec Assign cons ListComp") => `(tactic| (k_here; k_dflt (refine LCg.Assign_ListComp_U (F₀ := by k_asm) (by rfl) (by with_unfolding_all rfl) (by with_unfolding_all rfl) (by decide) (by rfl) (by decide) (by rfl) (by rfl) (by rfl) ?_)))
local macro_rules | `(tactic| walk_at "CompRest") => `(tactic| (with_reducible refine Halt.mk ?_))
--M>
theorem keep1 {a b : Addr × Obj} {r : Led} : ∀ p ∈ a :: r, p ∈ a :: b :: r := fun p hp => by
  simp only [List.mem_cons] at hp ⊢
  rcases hp with h | h <;> simp only [h, true_or, or_true]
/-- a row of blanks -/
noncomputable def bl (n : Nat) : Str := Txt.mul (Str.ofString " ") (n : Int)
theorem bl_ok {n : Nat} (h : n ≤ 60) : MulOk (Str.ofString " ") (n : Int) := mulOk_of 16 1048576 (by decide) (by omega) (by omega) (by decide) (by decide)
set_option maxHeartbeats 8000000 in
theorem stage2C (w : World) (mean : ExcName → Option Value) (mg mb : Str → Option Value) (g : Heap) (L fa : Addr) (cd : Value) (st : List Stmt) (sc : Scope) (hst : st = lawSt 4) (hsc : sc = lawSc) (s : Shared) (Q : Flow → Shared → Prop) (E : Value → Shared → Prop)
    (X : (Mine.hd.heap_39 w.params).In g) (B : Below callerA g [] g) (T : Top topProg looseT mean mg mb g) (m : Env1) (CL A0 A1 : Addr) (a0 a1 a2 b0 b1 b2 : Nat) (t0 t1 t2 t3 t4 t5 : Tok)
    (w0 w1 w2 w3 w4 : Obj) (e1 : w1.data = .cell (some (.ref CL))) (h0 : a0 ≤ 60) (h1 : a1 ≤ 60) (h2 : a2 ≤ 60) (h3 : b0 ≤ 60) (h4 : b1 ≤ 60) (h5 : b2 ≤ 60)
    (F : Fr g L s.heap m)
    (N : News g L s.heap [(CL, W.listOf [.ref A0, .ref A1].toArray 2), (A1, W.listOf [.int (b0 : Int) t3, .int (b1 : Int) t4, .int (b2 : Int) t5].toArray 0), (A0, W.listOf [.int (a0 : Int) t0, .int (a1 : Int) t1, .int (a2 : Int) t2].toArray 0), (L + 1 + 1 + 1 + 1 + 1, w4), (L + 1 + 1 + 1 + 1, w3), (L + 1 + 1 + 1, w2), (L + 1 + 1, w1), (L + 1, w0), (138, tabObj #[])])
    (hnext : ∀ (h : Heap) (tk : Nat) (m : Env1) (RW : Addr) (u0 u1 u2 u3 u4 u5 : Tok), Fr g L h (kstB m [(Str.ofString "rows", .ref RW)]) →
      News g L h [(RW, W.listOf [.str (bl a0) u0, .str (bl a1) u1, .str (bl a2) u2, .str (bl b0) u3, .str (bl b1) u4, .str (bl b2) u5].toArray 6), (CL, W.listOf [.ref A0, .ref A1].toArray 2), (A1, W.listOf [.int (b0 : Int) t3, .int (b1 : Int) t4, .int (b2 : Int) t5].toArray 0), (A0, W.listOf [.int (a0 : Int) t0, .int (a1 : Int) t1, .int (a2 : Int) t2].toArray 0), (L + 1 + 1 + 1 + 1 + 1, w4), (L + 1 + 1 + 1 + 1, w3), (L + 1 + 1 + 1, w2), (L + 1 + 1, w1), (L + 1, w0), (138, tabObj #[])] →
      LCg.Off1 RW [(CL, W.listOf #[] 0), (A1, W.listOf #[] 0), (A0, W.listOf #[] 0), (L + 1 + 1 + 1 + 1 + 1, w4), (L + 1 + 1 + 1 + 1, w3), (L + 1 + 1 + 1, w2), (L + 1 + 1, w1), (L + 1, w0), (138, tabObj #[])] →
      wpAny (model PySem.Challenge.rw_pg0243_02.row.prog w) (callerA.deeper (envOfC (Str.ofString "law") sc L fa cd)) (execs (lawSt 5) (envOfC (Str.ofString "law") sc L fa cd)) Q E { s with heap := h, toks := tk }) :
    wpAny (model PySem.Challenge.rw_pg0243_02.row.prog w) (callerA.deeper (envOfC (Str.ofString "law") sc L fa cd)) (execs st (envOfC (Str.ofString "law") sc L fa cd)) Q E s := by
  conv at hst => rhs; whnf
  conv at hsc => rhs; whnf
  subst hst hsc
  w_top off
  revert X; k_fill; intro X
  have mine_on : MineOn := True.intro
  have k0 := bl_ok h0
  have k1 := bl_ok h1
  have k2 := bl_ok h2
  have k3 := bl_ok h3
  have k4 := bl_ok h4
  have k5 := bl_ok h5
  k_steps
  unfold Halt
  refine lists_add (by k_asm) (by k_asm) (by k_mem) (by k_mem) (by show 3 + 3 ≤ 10000; decide) ?_
  intro D1 h9 F1 N1 l1
  dsimp only
  refine LCg.CompSrc.ledger (by rfl) F1 N1 (.head _) (by exact Nat.le_of_ble_eq_true rfl) ?_
  intro g1
  iterate 6
    refine LCg.CompRest.succ ?_
    intro v I oI C oC DD m₂ h tk E' hv hC hx F N off ne
    simp only [List.cons_append, List.nil_append, List.getElem?_toArray, List.getElem?_cons_zero, List.getElem?_cons_succ, Option.some.injEq] at hv
    subst hv
    dsimp only at *
    (iterate 4 (walk_at "my_step"))
    dsimp only
    refine LCg.CompEnd.intro (by k_asm) (by k_asm) _ (fun p hp => hp) off (Or.inr ⟨_, .head _, rfl, _, rfl⟩) ?_
    clear N F off
  refine LCg.CompRest.zero ?_
  intro D9 h9 tk9 F9 N9 o9
  dsimp only [List.nil_append, List.cons_append] at N9 ⊢
  have N8 := cb_drop N9 keep1
  exact hnext h9 tk9 _ D9 _ _ _ _ _ _ (Has.fr ⟨rfl, True.intro⟩ F9) N8 o9.2

section
variable {h₀ h : Heap} {L a c : Addr} {news : Led}
theorem nl_cell {its : Array Value} {n : Nat} {o : Obj} {v : Option Value} (N : News h₀ L h news) (d : o.data = .cell v) (ha : (a, W.listOf its n) ∈ news) (hc : (c, o) ∈ news) : @Ne Nat a c := fun e => by
  have h1 := (N _ ha).1
  have h2 := (N _ hc).1
  dsimp only at h1 h2
  rw [e, h2] at h1
  have h3 := Option.some.inj h1
  rw [h3] at d
  cases d
theorem nl_tab {its ps : Array Value} {n : Nat} (N : News h₀ L h news) (ha : (a, W.listOf its n) ∈ news) (hc : (c, tabObj ps) ∈ news) : @Ne Nat a c := fun e => by
  have h1 := (N _ ha).1
  have h2 := (N _ hc).1
  dsimp only at h1 h2
  rw [e, h2] at h1
  have h3 := Option.some.inj h1
  cases h3
end
/-- a row between quotation marks -/
noncomputable def quo (n : Nat) : Str := (Str.ofString "\"" ++ bl n) ++ Str.ofString "\""
theorem bl_len {n : Nat} : (bl n).length = n := by
  have d := len_mul (Str.ofString " ") (n : Int)
  rw [show (Str.ofString " ").length = 1 by decide] at d
  unfold bl
  split at d
  · rename_i q; exact absurd (of_decide_eq_true q) (by omega)
  · omega
theorem quo_len (n : Nat) : (quo n).length = n + 2 := by
  unfold quo
  rw [← sg_length, sg_append, sg_append, List.length_append, List.length_append]
  have e : (sg (Str.ofString "\"")).length = 1 := by decide
  have q : (sg (bl n)).length = n := by rw [sg_length, bl_len]
  omega
theorem six_strs (a b c d e f : Str) (t u v w x y : Tok) : StrsAre [.str a t, .str b u, .str c v, .str d w, .str e x, .str f y] [a, b, c, d, e, f] := .cons _ _ (.cons _ _ (.cons _ _ (.cons _ _ (.cons _ _ (.cons _ _ .nil)))))
noncomputable def text6 (a0 a1 a2 b0 b1 b2 : Nat) : Str := Txt.join (Str.ofString " ") [quo a0, quo a1, quo a2, quo b0, quo b1, quo b2]
theorem six_ok {a0 a1 a2 b0 b1 b2 : Nat} (h0 : a0 ≤ 60) (h1 : a1 ≤ 60) (h2 : a2 ≤ 60) (h3 : b0 ≤ 60) (h4 : b1 ≤ 60) (h5 : b2 ≤ 60) :
    (([quo a0, quo a1, quo a2, quo b0, quo b1, quo b2] : List Str).map (·.length)).sum + ([quo a0, quo a1, quo a2, quo b0, quo b1, quo b2] : List Str).length * (Str.ofString " ").length ≤ 16777216 := by
  simp only [List.map_cons, List.map_nil, List.sum_cons, List.sum_nil, List.length_cons, List.length_nil, quo_len]
  rw [show (Str.ofString " ").length = 1 by decide]; omega
theorem text6_len {a0 a1 a2 b0 b1 b2 : Nat} (h0 : a0 ≤ 60) (h1 : a1 ≤ 60) (h2 : a2 ≤ 60) (h3 : b0 ≤ 60) (h4 : b1 ≤ 60) (h5 : b2 ≤ 60) : (text6 a0 a1 a2 b0 b1 b2).length < 1000 := by
  unfold text6
  rw [← sg_length, sg_join]
  have e : sg (Str.ofString " ") = [32] := by decide
  have q : ∀ n, (sg (quo n)).length = n + 2 := fun n => by rw [sg_length, quo_len]
  rw [e]
  simp only [List.flatMap_cons, List.flatMap_nil, List.length_append, List.length_cons, List.length_nil, q]; omega
theorem reord {X1 F R : Led} {a b c : Addr × Obj} : ∀ p ∈ c :: (X1 ++ (F ++ (a :: (R ++ [b])))), p ∈ X1 ++ a :: (F ++ b :: c :: R) := fun p hp => by
  simp only [List.mem_append, List.mem_cons, List.not_mem_nil, or_false] at hp ⊢
  rcases hp with h | h | h | h | h | h <;> simp only [h, true_or, or_true]
theorem reord2 {X1 F R : Led} {a c : Addr × Obj} : ∀ p ∈ X1 ++ (F ++ (a :: c :: R)), p ∈ c :: (X1 ++ (F ++ (a :: R))) := fun p hp => by
  simp only [List.mem_append, List.mem_cons] at hp ⊢
  rcases hp with h | h | h | h | h <;> simp only [h, true_or, or_true]
--<M
local macro_rules | `(tactic| walk_at "call builtin:str.join") => `(tactic| (k_here; (with_reducible refine gdJoin ?_); k_dflt (refine join_list (News.isList (by k_asm) (by k_mem)) (six_strs _ _ _ _ _ _ _ _ _ _ _ _) (by assumption) ?_); intro t' tk'))
local macro_rules | `(tactic| walk_at "call ref") => `(tactic| (k_here; (with_reducible refine gdr 143 ?_); (with_reducible refine Halt.mk ?_)))
--M>
set_option maxHeartbeats 8000000 in
theorem stage2D (w : World) (mean : ExcName → Option Value) (mg mb : Str → Option Value) (g : Heap) (L fa : Addr) (cd : Value) (st : List Stmt) (sc : Scope) (hst : st = lawSt 5) (hsc : sc = lawSc) (s : Shared) (Q : Flow → Shared → Prop) (E : Value → Shared → Prop)
    (X : (Mine.hd.heap_39 w.params).In g) (B : Below callerA g [] g) (T : Top topProg looseT mean mg mb g) (codeHd : CodeHd g 142 138) (m : Env1) (RW : Addr) (a0 a1 a2 b0 b1 b2 : Nat) (u0 u1 u2 u3 u4 u5 : Tok)
    (w2 : Obj) (h0 : a0 ≤ 60) (h1 : a1 ≤ 60) (h2 : a2 ≤ 60) (h3 : b0 ≤ 60) (h4 : b1 ≤ 60) (h5 : b2 ≤ 60) (d2 : ∃ v, w2.data = .cell v) (rest : Led)
    (F : Fr g L s.heap (kstB m [(Str.ofString "rows", .ref RW)]))
    (N : News g L s.heap ((RW, W.listOf [.str (bl a0) u0, .str (bl a1) u1, .str (bl a2) u2, .str (bl b0) u3, .str (bl b1) u4, .str (bl b2) u5].toArray 6) :: (138, tabObj #[]) :: (L + 1 + 1 + 1, w2) :: rest))
    (n138 : ∀ p ∈ (L + 1 + 1 + 1, w2) :: rest, p.1 ≠ 138) (nL : ∀ p ∈ rest, p.1 ≠ L + 1 + 1 + 1)
    (hnext : ∀ (h : Heap) (tk : Nat) (X2 : LX) (vs2 : List Value) (k2 : Nat) (tl2 : Tok) (fixed : Led) (w2 : Obj) (ps : Array Value), Fr g L h (kstB m [(Str.ofString "rows", .ref RW)]) →
      News g L h (X2.led w 1 tl2 vs2 k2 ++ (fixed ++ ((X2.pb, W.listOf #[] 0) :: (L + 1 + 1 + 1, w2) :: ((RW, W.listOf [.str (bl a0) u0, .str (bl a1) u1, .str (bl a2) u2, .str (bl b0) u3, .str (bl b1) u4, .str (bl b2) u5].toArray 6) :: rest ++ [(138, tabObj ps)])))) →
      RdOk w mean mg mb X2 fixed → StrsAre vs2 (chars (sg (text6 a0 a1 a2 b0 b1 b2))) → w2.data = .cell (some (.ref X2.x)) →
      (∀ p ∈ (X2.pb, W.listOf #[] 0) :: (L + 1 + 1 + 1, w2) :: ((RW, W.listOf [.str (bl a0) u0, .str (bl a1) u1, .str (bl a2) u2, .str (bl b0) u3, .str (bl b1) u4, .str (bl b2) u5].toArray 6) :: rest ++ [(138, tabObj ps)]), p.1 ≠ X2.d ∧ p.1 ≠ X2.Dl) →
      (∀ p ∈ (L + 1 + 1 + 1, w2) :: ((RW, W.listOf [.str (bl a0) u0, .str (bl a1) u1, .str (bl a2) u2, .str (bl b0) u3, .str (bl b1) u4, .str (bl b2) u5].toArray 6) :: rest ++ [(138, tabObj ps)]), @LT.lt Nat _ p.1 X2.pb) → @Ne Nat X2.x X2.pb → @Ne Nat X2.d X2.pb → @Ne Nat X2.Dl X2.pb → (∀ p ∈ fixed, p.1 ≠ X2.pb) →
      wpAny (model PySem.Challenge.rw_pg0243_02.row.prog w) (callerA.deeper (envOfC (Str.ofString "law") sc L fa cd)) (execs (lawSt 6) (envOfC (Str.ofString "law") sc L fa cd)) Q E { s with heap := h, toks := tk }) :
    wpAny (model PySem.Challenge.rw_pg0243_02.row.prog w) (callerA.deeper (envOfC (Str.ofString "law") sc L fa cd)) (execs st (envOfC (Str.ofString "law") sc L fa cd)) Q E s := by
  conv at hst => rhs; whnf
  conv at hsc => rhs; whnf
  subst hst hsc
  w_top off
  revert X; k_fill; intro X
  have mine_on : MineOn := True.intro
  have hj := six_ok h0 h1 h2 h3 h4 h5
  have ht := text6_len h0 h1 h2 h3 h4 h5
  unfold quo at hj
  have n0 : (bl a0).length ≤ 60 := by rw [bl_len]; exact h0
  have n1 : (bl a1).length ≤ 60 := by rw [bl_len]; exact h1
  have n2 : (bl a2).length ≤ 60 := by rw [bl_len]; exact h2
  have n3 : (bl b0).length ≤ 60 := by rw [bl_len]; exact h3
  have n4 : (bl b1).length ≤ 60 := by rw [bl_len]; exact h4
  have n5 : (bl b2).length ≤ 60 := by rw [bl_len]; exact h5
  have nRW : @Ne Nat RW 138 := nl_tab N (.head _) (.tail _ (.head _))
  obtain ⟨v2, d2⟩ := d2
  have nRL : @Ne Nat RW (L + 1 + 1 + 1) := nl_cell N d2 (.head _) (.tail _ (.tail _ (.head _)))
  k_steps
  unfold Halt
  refine LCg.CompSrc.ledger (by rfl) F N (.head _) (by exact Nat.le_of_ble_eq_true rfl) ?_
  intro g1
  iterate 6
    refine LCg.CompRest.succ ?_
    intro v I oI C oC DD m₂ h tk E' hv hC hx F N off ne
    simp only [List.getElem?_toArray, List.getElem?_cons_zero, List.getElem?_cons_succ, Option.some.injEq] at hv
    subst hv
    dsimp only at *
    (iterate 9 (walk_at "my_step"))
    dsimp only
    refine LCg.CompEnd.intro (by k_asm) (by k_asm) _ (fun p hp => hp) off (Or.inr ⟨_, .head _, rfl, _, rfl⟩) ?_
    clear N F off
  refine LCg.CompRest.zero ?_
  intro D9 h9 tk9 F9 N9 o9
  dsimp only [List.nil_append, List.cons_append] at N9 ⊢
  k_steps
  unfold Halt
  have N10 : News g L h9 ((138, tabObj #[]) :: (L + 1 + 1 + 1, w2) :: (RW, W.listOf [.str (bl a0) u0, .str (bl a1) u1, .str (bl a2) u2, .str (bl b0) u3, .str (bl b1) u4, .str (bl b2) u5].toArray 6) :: rest) := cb_drop N9 fun q hq => by
    rcases List.mem_cons.mp hq with rfl | hq
    · exact .tail _ (.tail _ (.head _))
    rcases List.mem_cons.mp hq with rfl | hq
    · exact .tail _ (.tail _ (.tail _ (.head _)))
    rcases List.mem_cons.mp hq with rfl | hq
    · exact .tail _ (.head _)
    · exact .tail _ (.tail _ (.tail _ (.tail _ hq)))
  have n138' : ∀ p ∈ (L + 1 + 1 + 1, w2) :: (RW, W.listOf [.str (bl a0) u0, .str (bl a1) u1, .str (bl a2) u2, .str (bl b0) u3, .str (bl b1) u4, .str (bl b2) u5].toArray 6) :: rest, p.1 ≠ 138 := fun q hq => by
    rcases List.mem_cons.mp hq with rfl | hq
    · exact n138 _ (.head _)
    rcases List.mem_cons.mp hq with rfl | hq
    · exact nRW
    · exact n138 _ (.tail _ hq)
  have n138L : @Ne Nat 138 (L + 1 + 1 + 1) := Ne.symm (n138 _ (.head _))
  clear N9
  k_dflt (refine' lex_claim w mean mg mb _ _ ?hb _ _ _ _ _ _ _ _ _ _ _ _ _ _ _ _ _ _ X codeHd B F9 N10 n138' T ?hk ?hd ?hu ?_)
  case hb => exact ht
  case hk => rfl
  case hd => ktr_room
  case hu => ktr_units
  k_whole
  intro X2 vs2 k2 tl2 fixed ps h11 tk11 F11 N11 rd hvs2 q1 q2 q3 q4 q5
  dsimp only
  have N12 := cb_drop N11 reord
  have z0 : @LT.lt Nat _ (L + 1 + 1 + 1) X2.Dl := q1 (L + 1 + 1 + 1, w2) (.tail _ (.head _))
  have zR : ∀ p ∈ (RW, W.listOf [.str (bl a0) u0, .str (bl a1) u1, .str (bl a2) u2, .str (bl b0) u3, .str (bl b1) u4, .str (bl b2) u5].toArray 6) :: rest ++ [(138, tabObj ps)], @LT.lt Nat _ p.1 X2.Dl ∧ p.1 ≠ L + 1 + 1 + 1 := fun q hq => by
    rcases List.mem_append.mp hq with hq | hq
    · refine ⟨q1 q (.tail _ (.tail _ hq)), ?_⟩
      rcases List.mem_cons.mp hq with rfl | hq
      · exact nRL
      · exact nL q hq
    · rw [List.mem_singleton.mp hq]
      exact ⟨q1 _ (.head _), n138L⟩
  refine store_cell F11 N12 ?_ rfl d2 rfl rfl ?_
  · intro p hp
    rcases List.mem_append.mp hp with hp | hp
    · simp only [List.mem_cons, List.not_mem_nil, or_false] at hp
      rcases hp with rfl | rfl | rfl
      · exact Nat.ne_of_gt (Nat.lt_trans z0 q2)
      · exact Nat.ne_of_gt z0
      · exact Nat.ne_of_gt (Nat.lt_trans z0 (Nat.lt_trans q2 q3))
    rcases List.mem_append.mp hp with hp | hp
    · exact Nat.ne_of_gt ((q5 p hp).2.2 (L + 1 + 1 + 1, w2) (.tail _ (.head _)))
    rcases List.mem_cons.mp hp with rfl | hp
    · exact Nat.ne_of_gt (Nat.lt_trans z0 (Nat.lt_trans q2 (Nat.lt_trans q3 q4)))
    · exact (zR p hp).2
  · intro h12 o' F12 N13 hd12
    have N14 := cb_drop N13 reord2
    dsimp only
    have pl : @LT.lt Nat _ X2.Dl X2.pb := Nat.lt_trans q2 (Nat.lt_trans q3 q4)
    have zl : ∀ p ∈ (L + 1 + 1 + 1, o') :: ((RW, W.listOf [.str (bl a0) u0, .str (bl a1) u1, .str (bl a2) u2, .str (bl b0) u3, .str (bl b1) u4, .str (bl b2) u5].toArray 6) :: rest ++ [(138, tabObj ps)]), @LT.lt Nat _ p.1 X2.Dl := fun q hq => by
      rcases List.mem_cons.mp hq with rfl | hq
      · exact z0
      · exact (zR q hq).1
    refine hnext h12 tk11 X2 vs2 k2 tl2 fixed o' ps F12 N14 rd hvs2 hd12 ?_ ?_ ?_ ?_ ?_ ?_
    · intro p hp
      rcases List.mem_cons.mp hp with rfl | hp
      · exact ⟨Nat.ne_of_gt (Nat.lt_trans q3 q4), Nat.ne_of_gt pl⟩
      · have z1 := zl p hp
        exact ⟨Nat.ne_of_lt (Nat.lt_trans z1 q2), Nat.ne_of_lt z1⟩
    · exact fun p hp => Nat.lt_trans (zl p hp) pl
    · exact Nat.ne_of_lt q4
    · exact Nat.ne_of_lt (Nat.lt_trans q3 q4)
    · exact Nat.ne_of_lt pl
    · exact fun p hp => Nat.ne_of_lt (Nat.lt_trans (q5 p hp).1 (Nat.lt_trans q3 q4))

--<M
local macro_rules | `(tactic| walk_at "compareOp NotEq ref ref") => `(tactic| (k_here; (with_reducible refine Halt.mk ?_)))
local macro_rules | `(tactic| walk_at "call ref") => `(tactic| (k_here; (with_reducible refine gdr 122 ?_); (with_reducible refine Halt.mk ?_)))
--M>
theorem bl_sg (n : Nat) : sg (bl n) = List.replicate n 32 := by
  unfold bl
  rw [sg_blank, Int.toNat_natCast]
theorem bl_strok (n : Nat) : PyData.strOk (bl n) = true := by
  unfold PyData.strOk
  rw [Array.all_eq_true']
  intro c hc
  have h : c ∈ sg (bl n) := Array.mem_toList_iff.mpr hc
  rw [bl_sg] at h
  rw [(List.mem_replicate.mp h).2]
  decide
theorem six_strok (a0 a1 a2 b0 b1 b2 : Nat) : ∀ x ∈ [bl a0, bl a1, bl a2, bl b0, bl b1, bl b2], PyData.strOk x = true := by
  intro x hx
  simp only [List.mem_cons, List.not_mem_nil, or_false] at hx
  rcases hx with rfl | rfl | rfl | rfl | rfl | rfl <;> exact bl_strok _
theorem six_drop {a b c d e f r8 : Addr × Obj} {fixed rest : Led} : ∀ p ∈ d :: b :: f :: a :: e :: rest, p ∈ a :: ([b, c, d] ++ (fixed ++ (f :: e :: r8 :: rest))) := fun p hp => by
  simp only [List.mem_append, List.mem_cons] at hp ⊢
  rcases hp with h | h | h | h | h | h <;> simp only [h, true_or, or_true]
theorem six_off {b c d e f r8 : Addr × Obj} {fixed rest : Led} : ∀ p ∈ d :: b :: f :: e :: rest, p ∈ ([b, c, d] ++ (fixed ++ (f :: e :: r8 :: rest))) := fun p hp => by
  simp only [List.mem_append, List.mem_cons] at hp ⊢
  rcases hp with h | h | h | h | h <;> simp only [h, true_or, or_true]
theorem off1_mem {D : Addr} : ∀ {l : Led}, LCg.Off1 D l → ∀ p ∈ l, p.1 ≠ D
  | [], _, _, h => nomatch h
  | _ :: _, x, p, h => by
    rcases List.mem_cons.mp h with rfl | h
    · exact x.1
    · exact off1_mem x.2 p h
/-- a lexer that has read all, with its pushed words -/
@[reducible] noncomputable def lxLed (X : LX) (w : World) (ln : Int) (tl : Tok) (vs : List Value) (ep : Nat) : Led :=
  [(X.x, instObj 132 X.d), (X.d, lexDict w (.int ln tl) (.ref X.x1) (.str (Str.ofString "\n\t\r ") X.tw) (.ref X.pb) X.k1 X.k2 X.k3 X.k4), (X.pb, W.listOf vs.toArray ep)]
set_option maxHeartbeats 16000000 in
theorem stage2E (w : World) (mean : ExcName → Option Value) (mg mb : Str → Option Value) (g : Heap) (L fa : Addr) (cd : Value) (st : List Stmt) (sc : Scope) (hst : st = lawSt 6) (hsc : sc = lawSc) (s : Shared) (Q : Flow → Shared → Prop) (E : Value → Shared → Prop)
    (X : (Mine.hd.heap_39 w.params).In g) (B : Below callerA g [] g) (T : Top topProg looseT mean mg mb g) (codeHd : CodeHd g 142 138) (m : Env1) (RW : Addr) (a0 a1 a2 b0 b1 b2 : Nat) (u0 u1 u2 u3 u4 u5 : Tok)
    (w2 : Obj) (rest : Led) (X2 : LX) (vs2 : List Value) (k2 : Nat) (tl2 : Tok) (fixed : Led) (chs c1 c2 c3 c4 c5 c6 : List Nat)
    (F : Fr g L s.heap (kstB m [(Str.ofString "rows", .ref RW)]))
    (N : News g L s.heap (X2.led w 1 tl2 vs2 k2 ++ (fixed ++ ((X2.pb, W.listOf #[] 0) :: (L + 1 + 1 + 1, w2) :: (RW, W.listOf [.str (bl a0) u0, .str (bl a1) u1, .str (bl a2) u2, .str (bl b0) u3, .str (bl b1) u4, .str (bl b2) u5].toArray 6) :: rest))))
    (rd : RdOk w mean mg mb X2 fixed) (hvs : StrsAre vs2 (chars chs)) (ho : w2.data = .cell (some (.ref X2.x)))
    (hne : ∀ p ∈ (X2.pb, W.listOf #[] 0) :: (L + 1 + 1 + 1, w2) :: (RW, W.listOf [.str (bl a0) u0, .str (bl a1) u1, .str (bl a2) u2, .str (bl b0) u3, .str (bl b1) u4, .str (bl b2) u5].toArray 6) :: rest, p.1 ≠ X2.d ∧ p.1 ≠ X2.Dl)
    (e1 : lexRun .out Str.empty chs = (bl a0, c1)) (e2 : lexRun .out Str.empty c1 = (bl a1, c2)) (e3 : lexRun .out Str.empty c2 = (bl a2, c3)) (e4 : lexRun .out Str.empty c3 = (bl b0, c4)) (e5 : lexRun .out Str.empty c4 = (bl b1, c5)) (e6 : lexRun .out Str.empty c5 = (bl b2, c6))
    (n0 : chs.length < 1000) (n1 : c1.length < 1000) (n2 : c2.length < 1000) (n3 : c3.length < 1000) (n4 : c4.length < 1000) (n5 : c5.length < 1000)
    (hnext : ∀ (h : Heap) (tk : Nat) (m : Env1) (WD : Addr) (v0 v1 v2 v3 v4 v5 : Tok) (ln : Int) (tl : Tok), Fr g L h (kstB m [(Str.ofString "words", .ref WD)]) →
      News g L h (lxLed X2 w ln tl [] 0 ++ ((WD, W.listOf [.str (bl a0) v0, .str (bl a1) v1, .str (bl a2) v2, .str (bl b0) v3, .str (bl b1) v4, .str (bl b2) v5].toArray 6) :: (L + 1 + 1 + 1, w2) :: rest)) →
      (∀ p ∈ lxLed X2 w ln tl [] 0 ++ ((L + 1 + 1 + 1, w2) :: rest), p.1 ≠ WD) →
      wpAny (model PySem.Challenge.rw_pg0243_02.row.prog w) (callerA.deeper (envOfC (Str.ofString "law") sc L fa cd)) (execs (lawSt 8) (envOfC (Str.ofString "law") sc L fa cd)) Q E { s with heap := h, toks := tk }) :
    wpAny (model PySem.Challenge.rw_pg0243_02.row.prog w) (callerA.deeper (envOfC (Str.ofString "law") sc L fa cd)) (execs st (envOfC (Str.ofString "law") sc L fa cd)) Q E s := by
  conv at hst => rhs; whnf
  conv at hsc => rhs; whnf
  subst hst hsc
  w_top off
  revert X; k_fill; intro X
  have mine_on : MineOn := True.intro
  (iterate 1 (walk_at "my_step"))
  k_dflt (refine LCg.Assign_ListComp_U (F₀ := F) (L := L) (by rfl) (by with_unfolding_all rfl) (by with_unfolding_all rfl) (by decide) (by rfl) (by decide) (by rfl) (by rfl) (by rfl) ?_)
  k_steps
  unfold Halt
  refine LCg.CompSrc.range (by rfl) (by k_asm) (by k_asm) (by assumption) (by decide) (by rfl) (by exact Nat.le_of_ble_eq_true rfl) ?_
  intro g1
  refine LCg.CompRest.succ ?_
  intro v I oI C oC DD m₂ h tk E' hv hC hx F N off ne
  have Na := N
  dsimp only [LX.led, List.cons_append, List.nil_append] at N
  k_steps
  unfold Halt
  dsimp only
  k_dflt (refine' tok_turn rd ?B F X Na T codeHd ?hk ?hd ?hu hvs off hne (by omega) (by omega) (by omega) e1 ?_)
  case B => k_asm
  case hk => rfl
  case hd => ktr_room
  case hu => ktr_units
  k_whole
  clear F N Na
  intro ta va ka la tla ha tka Fa Na hva1 p1 q1
  dsimp only
  refine LCg.CompEnd.intro Fa Na _ (fun p hp => hp) off True.intro ?_
  clear Fa Na off
  refine LCg.CompRest.succ ?_
  intro v I oI C oC DD m₂ h tk E' hv hC hx F N off ne
  have Na := N
  dsimp only [LX.led, List.cons_append, List.nil_append] at N
  k_steps
  unfold Halt
  dsimp only
  k_dflt (refine' tok_turn rd ?B F X Na T codeHd ?hk ?hd ?hu hva1 off hne p1 q1 (by omega) e2 ?_)
  case B => k_asm
  case hk => rfl
  case hd => ktr_room
  case hu => ktr_units
  k_whole
  clear F N Na
  intro ta va ka la tla ha tka Fa Na hva2 p2 q2
  dsimp only
  refine LCg.CompEnd.intro Fa Na _ (fun p hp => hp) off True.intro ?_
  clear Fa Na off
  refine LCg.CompRest.succ ?_
  intro v I oI C oC DD m₂ h tk E' hv hC hx F N off ne
  have Na := N
  dsimp only [LX.led, List.cons_append, List.nil_append] at N
  k_steps
  unfold Halt
  dsimp only
  k_dflt (refine' tok_turn rd ?B F X Na T codeHd ?hk ?hd ?hu hva2 off hne p2 q2 (by omega) e3 ?_)
  case B => k_asm
  case hk => rfl
  case hd => ktr_room
  case hu => ktr_units
  k_whole
  clear F N Na
  intro ta va ka la tla ha tka Fa Na hva3 p3 q3
  dsimp only
  refine LCg.CompEnd.intro Fa Na _ (fun p hp => hp) off True.intro ?_
  clear Fa Na off
  refine LCg.CompRest.succ ?_
  intro v I oI C oC DD m₂ h tk E' hv hC hx F N off ne
  have Na := N
  dsimp only [LX.led, List.cons_append, List.nil_append] at N
  k_steps
  unfold Halt
  dsimp only
  k_dflt (refine' tok_turn rd ?B F X Na T codeHd ?hk ?hd ?hu hva3 off hne p3 q3 (by omega) e4 ?_)
  case B => k_asm
  case hk => rfl
  case hd => ktr_room
  case hu => ktr_units
  k_whole
  clear F N Na
  intro ta va ka la tla ha tka Fa Na hva4 p4 q4
  dsimp only
  refine LCg.CompEnd.intro Fa Na _ (fun p hp => hp) off True.intro ?_
  clear Fa Na off
  refine LCg.CompRest.succ ?_
  intro v I oI C oC DD m₂ h tk E' hv hC hx F N off ne
  have Na := N
  dsimp only [LX.led, List.cons_append, List.nil_append] at N
  k_steps
  unfold Halt
  dsimp only
  k_dflt (refine' tok_turn rd ?B F X Na T codeHd ?hk ?hd ?hu hva4 off hne p4 q4 (by omega) e5 ?_)
  case B => k_asm
  case hk => rfl
  case hd => ktr_room
  case hu => ktr_units
  k_whole
  clear F N Na
  intro ta va ka la tla ha tka Fa Na hva5 p5 q5
  dsimp only
  refine LCg.CompEnd.intro Fa Na _ (fun p hp => hp) off True.intro ?_
  clear Fa Na off
  refine LCg.CompRest.succ ?_
  intro v I oI C oC DD m₂ h tk E' hv hC hx F N off ne
  have Na := N
  dsimp only [LX.led, List.cons_append, List.nil_append] at N
  k_steps
  unfold Halt
  dsimp only
  k_dflt (refine' tok_turn rd ?B F X Na T codeHd ?hk ?hd ?hu hva5 off hne p5 q5 (by omega) e6 ?_)
  case B => k_asm
  case hk => rfl
  case hd => ktr_room
  case hu => ktr_units
  k_whole
  clear F N Na
  intro ta va ka la tla ha tka Fa Na hva6 p6 q6
  dsimp only
  refine LCg.CompEnd.intro Fa Na _ (fun p hp => hp) off True.intro ?_
  clear Fa Na off
  refine LCg.CompRest.zero ?_
  intro D9 h9 tk9 F9 N9 o9
  have hs := six_strok a0 a1 a2 b0 b1 b2
  dsimp only [List.nil_append, List.cons_append] at N9 ⊢
  k_steps
  unfold Halt
  refine ne_strs (News.isList (by k_asm) (by k_mem)) (News.isList (by k_asm) (by k_mem)) (six_strs _ _ _ _ _ _ _ _ _ _ _ _) (six_strs _ _ _ _ _ _ _ _ _ _ _ _) (by ke_room) hs hs ?_
  rw [decide_eq_true rfl, Bool.not_true]
  (iterate 1 (walk_at "my_step"))
  rw [if_neg Bool.false_ne_true]
  refine wpAny_execs_nil ?_
  dsimp only
  (rename Fr _ _ _ _ => F20)
  refine hnext _ _ _ D9 _ _ _ _ _ _ _ _ (Has.fr ⟨rfl, True.intro⟩ F20) (cb_drop N9 six_drop) (fun q hq => off1_mem o9 q (six_off q hq))

--<M
local macro_rules | `(tactic| walk_at "exec For Name Subscript cons nil") => `(tactic| (k_here; (with_reducible refine for_loop ?_ ?_); rotate_left; (with_unfolding_all (intro _; rfl))))
local macro_rules | `(tactic| walk_at "call ref") => `(tactic| (k_here; (with_reducible refine gdr 129 ?_); (with_reducible refine Halt.mk ?_)))
--M>
set_option maxHeartbeats 8000000 in
theorem stage2F (w : World) (mean : ExcName → Option Value) (mg mb : Str → Option Value) (g : Heap) (L fa : Addr) (cd : Value) (st : List Stmt) (sc : Scope) (hst : st = lawSt 8) (hsc : sc = lawSc) (s : Shared) (Q : Flow → Shared → Prop) (E : Value → Shared → Prop) (hE : PassesOwn (model PySem.Challenge.rw_pg0243_02.row.prog w) (callerA.deeper (envOfC (Str.ofString "law") sc L fa cd)) (envOfC (Str.ofString "law") sc L fa cd) E)
    (X : (Mine.hd.heap_39 w.params).In g) (B : Below callerA g [] g) (T : Top topProg looseT mean mg mb g) (codeHd : CodeHd g 142 138) (m : Env1) (WD : Addr) (y0 y1 y2 z0 z1 z2 : Str) (v0 v1 v2 v3 v4 v5 : Tok)
    (w2 : Obj) (rest : Led) (X2 : LX) (ln : Int) (tl : Tok) (ho : w2.data = .cell (some (.ref X2.x)))
    (F : Fr g L s.heap (kstB m [(Str.ofString "words", .ref WD)]))
    (N : News g L s.heap (lxLed X2 w ln tl [] 0 ++ ((WD, W.listOf [.str y0 v0, .str y1 v1, .str y2 v2, .str z0 v3, .str z1 v4, .str z2 v5].toArray 6) :: (L + 1 + 1 + 1, w2) :: rest)))
    (np : ∀ p ∈ (WD, W.listOf #[] 6) :: (L + 1 + 1 + 1, w2) :: rest, p.1 ≠ X2.pb) (nx : @Ne Nat X2.x X2.pb) (nd : @Ne Nat X2.d X2.pb)
    (hnext : ∀ (h : Heap) (tk : Nat) (m : Env1) (JD : Addr), Fr g L h (kstB m [(Str.ofString "words", .ref WD), (Str.ofString "joined", .ref JD)]) →
      News g L h ((JD, W.listOf #[] 0) :: (lxLed X2 w ln tl [.str z0 v3, .str z1 v4, .str z2 v5] 3 ++ ((WD, W.listOf [.str y0 v0, .str y1 v1, .str y2 v2, .str z0 v3, .str z1 v4, .str z2 v5].toArray 6) :: (L + 1 + 1 + 1, w2) :: rest))) →
      AllLt JD (lxLed X2 w ln tl [.str z0 v3, .str z1 v4, .str z2 v5] 3 ++ ((WD, W.listOf #[] 0) :: (L + 1 + 1 + 1, w2) :: rest)) →
      wpAny (model PySem.Challenge.rw_pg0243_02.row.prog w) (callerA.deeper (envOfC (Str.ofString "law") sc L fa cd)) (execs (lawSt 10) (envOfC (Str.ofString "law") sc L fa cd)) Q E { s with heap := h, toks := tk }) :
    wpAny (model PySem.Challenge.rw_pg0243_02.row.prog w) (callerA.deeper (envOfC (Str.ofString "law") sc L fa cd)) (execs st (envOfC (Str.ofString "law") sc L fa cd)) Q E s := by
  conv at hst => rhs; whnf
  conv at hsc => rhs; whnf
  subst hst hsc
  w_top off
  revert X; k_fill; intro X
  have mine_on : MineOn := True.intro
  dsimp only [lxLed, List.cons_append, List.nil_append] at N
  k_steps
  unfold Halt
  (rename Fr _ _ _ _ => F1)
  (rename News _ _ _ _ => N1)
  (rename ListIt _ _ _ => ho1)
  (rename _ ∧ _ ∧ _ ∧ _ ∧ _ ∧ _ ∧ _ => q1)
  rename_i S1 _ q2 it o1 _
  obtain ⟨r1, r2, r3, r4, r5, r6, r7⟩ := q1
  obtain ⟨k1, k2, k3, k4, k5, k6⟩ := q2
  have npb : ∀ o : Obj, ∀ p ∈ (it, o) :: (S1, W.listOf [.str z0 v3, .str z1 v4, .str z2 v5].toArray 0) :: (WD, W.listOf [.str y0 v0, .str y1 v1, .str y2 v2, .str z0 v3, .str z1 v4, .str z2 v5].toArray 6) :: (L + 1 + 1 + 1, w2) :: rest, p.1 ≠ X2.pb := fun o p hp => by
    rcases List.mem_cons.mp hp with rfl | hp
    · exact Nat.ne_of_gt r4
    rcases List.mem_cons.mp hp with rfl | hp
    · exact Nat.ne_of_gt k3
    rcases List.mem_cons.mp hp with rfl | hp
    · exact np (WD, W.listOf #[] 6) (.head _)
    · exact np p (.tail _ hp)
  have nit : ∀ p ∈ (S1, W.listOf #[] 0) :: (X2.x, W.listOf #[] 0) :: (X2.d, W.listOf #[] 0) :: (X2.pb, W.listOf #[] 0) :: (WD, W.listOf #[] 0) :: (L + 1 + 1 + 1, w2) :: rest, p.1 ≠ it := fun p hp => Nat.ne_of_lt (allLt_mem (show AllLt it ((S1, W.listOf #[] 0) :: (X2.x, W.listOf #[] 0) :: (X2.d, W.listOf #[] 0) :: (X2.pb, W.listOf #[] 0) :: (WD, W.listOf #[] 0) :: (L + 1 + 1 + 1, w2) :: rest) from ⟨r1, r2, r3, r4, r5, r6, r7⟩) p hp)
  refine Loop.iter (σ := List Value) (iter_of_list it S1 [.str z0 v3, .str z1 v4, .str z2 v5] 0) rfl (fun i c => c = ([.str z0 v3, .str z1 v4, .str z2 v5] : List Value).take i) (fun _ => [(Str.ofString "words", .ref WD)])
    (fun c => [(S1, W.listOf [.str z0 v3, .str z1 v4, .str z2 v5].toArray 0), (X2.x, instObj 132 X2.d), (X2.d, lexDict w (.int ln tl) (.ref X2.x1) (.str (Str.ofString "\n\t\r ") X2.tw) (.ref X2.pb) X2.k1 X2.k2 X2.k3 X2.k4), (X2.pb, W.listOf c.toArray c.length), (WD, W.listOf [.str y0 v0, .str y1 v1, .str y2 v2, .str z0 v3, .str z1 v4, .str z2 v5].toArray 6), (L + 1 + 1 + 1, w2)] ++ rest)
    [] rfl ho1 (At.intro F1 N1 ⟨rfl, True.intro⟩ fun q hq => hq) (fun i c hc q hq => ?_) (fun _ _ _ q hq => by rw [List.mem_singleton.mp hq]; exact .head _) ?_ ?_ hE
  · simp only [List.cons_append, List.nil_append, List.mem_cons] at hq
    rcases hq with rfl | rfl | rfl | rfl | rfl | rfl | hq
    · exact nit (S1, W.listOf #[] 0) (by simp)
    · exact nit (X2.x, W.listOf #[] 0) (by simp)
    · exact nit (X2.d, W.listOf #[] 0) (by simp)
    · exact nit (X2.pb, W.listOf #[] 0) (by simp)
    · exact nit (WD, W.listOf #[] 0) (by simp)
    · exact nit (L + 1 + 1 + 1, w2) (by simp)
    · exact nit q (.tail _ (.tail _ (.tail _ (.tail _ (.tail _ (.tail _ hq))))))
  · intro i c hi hc v o h tk2 mm hv hot F N
    subst hc
    dsimp only [List.nil_append, List.cons_append] at F N
    have hi3 : i < 3 := hi
    have hlen : (([.str z0 v3, .str z1 v4, .str z2 v5] : List Value).take i).length = i := by rw [List.length_take]; show min i 3 = i; omega
    clear F1 N1
    k_steps
    unfold Halt
    (rename Fr _ _ _ _ => F5)
    (rename News _ _ _ _ => N5)
    try dsimp only
    have N6 := cb_drop (news := (X2.x, instObj 132 X2.d) :: (X2.d, lexDict w (.int ln tl) (.ref X2.x1) (.str (Str.ofString "\n\t\r ") X2.tw) (.ref X2.pb) X2.k1 X2.k2 X2.k3 X2.k4) :: (X2.pb, W.listOf (([.str z0 v3, .str z1 v4, .str z2 v5] : List Value).take i).toArray (([.str z0 v3, .str z1 v4, .str z2 v5] : List Value).take i).length) :: (it, o) :: (S1, W.listOf [.str z0 v3, .str z1 v4, .str z2 v5].toArray 0) :: (WD, W.listOf [.str y0 v0, .str y1 v1, .str y2 v2, .str z0 v3, .str z1 v4, .str z2 v5].toArray 6) :: (L + 1 + 1 + 1, w2) :: rest) N5 (fun q hq => by
      simp only [List.mem_cons] at hq ⊢
      rcases hq with h | h | h | h | h | h | h | h <;> simp only [h, true_or, or_true])
    k_dflt (refine' push_use ?B F5 X N6 T ?hk (npb o) nx nd (by omega) ?hd ?hu ?_)
    case B => k_asm
    case hk => rfl
    case hd => ktr_room
    case hu => ktr_units
    k_whole
    intro h7 tk7 F7 N7
    dsimp only
    k_steps
    refine TurnI.next (([.str z0 v3, .str z1 v4, .str z2 v5] : List Value).take (i + 1)) F7 N7 rfl ⟨rfl, True.intro⟩ hot ?_
    have e9 : ([.str z0 v3, .str z1 v4, .str z2 v5] : List Value).take (i + 1) = ([.str z0 v3, .str z1 v4, .str z2 v5] : List Value).take i ++ [v] := by rw [List.take_add_one, hv]; rfl
    have e10 : (([.str z0 v3, .str z1 v4, .str z2 v5] : List Value).take (i + 1)).length = (([.str z0 v3, .str z1 v4, .str z2 v5] : List Value).take i).length + 1 := by rw [e9, List.length_append]; rfl
    rw [e10, e9]
    intro q hq
    simp only [List.cons_append, List.nil_append, List.mem_cons] at hq ⊢
    rcases hq with h | h | h | h | h | h | h | h <;> simp only [h, true_or, or_true]
  · intro c hc h tk2 mm F N
    subst hc
    dsimp only [List.nil_append, List.cons_append] at F N
    refine wpAny_execs_nil ?_
    dsimp only
    have N6 := cb_drop (news := (X2.x, instObj 132 X2.d) :: (X2.d, lexDict w (.int ln tl) (.ref X2.x1) (.str (Str.ofString "\n\t\r ") X2.tw) (.ref X2.pb) X2.k1 X2.k2 X2.k3 X2.k4) :: (X2.pb, W.listOf [.str z0 v3, .str z1 v4, .str z2 v5].toArray 3) :: (WD, W.listOf [.str y0 v0, .str y1 v1, .str y2 v2, .str z0 v3, .str z1 v4, .str z2 v5].toArray 6) :: (L + 1 + 1 + 1, w2) :: rest) N (fun q hq => by
      simp only [List.mem_cons] at hq ⊢
      rcases hq with h | h | h | h | h | h <;> (subst_vars; first | simp only [h, true_or, or_true] | simp))
    clear N N1 F1
    (iterate 6 (walk_at "my_step"))
    (rename Fr _ _ _ _ => F8)
    (rename News _ _ _ _ => N8)
    (rename _ ∧ _ ∧ _ ∧ _ ∧ _ ∧ _ => l8)
    obtain ⟨s1, s2, s3, s4, s5, s6⟩ := l8
    try dsimp only
    exact hnext _ _ _ _ (Has.fr ⟨rfl, rfl, True.intro⟩ F8) N8 ⟨s1, s2, s3, s4, s5, s6⟩

--<M
local macro_rules | `(tactic| walk_at "call ref") => `(tactic| (k_here; (with_reducible refine gdr 122 ?_); (with_reducible refine Halt.mk ?_)))
--M>
noncomputable def loopG : List Stmt := match lawSt 10 with | .For _ _ b _ _ :: _ => b | _ => []
noncomputable def loopG0 : List Stmt := match loopG with | .For _ _ b _ _ :: _ => b | _ => []
set_option maxHeartbeats 8000000 in
theorem stage2G0 (w : World) (mean : ExcName → Option Value) (mg mb : Str → Option Value) (g : Heap) (L fa : Addr) (cd : Value) (st : List Stmt) (sc : Scope) (hst : st = loopG0) (hsc : sc = lawSc) (s : Shared) (Q : Flow → Shared → Prop) (E : Value → Shared → Prop)
    (X : (Mine.hd.heap_39 w.params).In g) (B : Below callerA g [] g) (T : Top topProg looseT mean mg mb g) (codeHd : CodeHd g 142 138) (m : Env1) (WD JD : Addr) (y z0 z1 z2 : Str) (vy v3 v4 v5 : Tok) (ny : y.length ≤ 60) (nz0 : z0.length ≤ 60)
    (w2 : Obj) (extra : Led) (X2 : LX) (ln : Int) (tl : Tok) (ho : w2.data = .cell (some (.ref X2.x))) (jv : List Value) (ej ep : Nat) (hjl : jv.length ≤ 60)
    (F : Fr g L s.heap (kstB m [(Str.ofString "word", .str y vy), (Str.ofString "words", .ref WD), (Str.ofString "joined", .ref JD)]))
    (N : News g L s.heap ((JD, W.listOf jv.toArray ej) :: (lxLed X2 w ln tl [.str z0 v3, .str z1 v4, .str z2 v5] ep ++ ((L + 1 + 1 + 1, w2) :: extra))))
    (hJ : ∀ p ∈ lxLed X2 w ln tl [] 0 ++ ((L + 1 + 1 + 1, w2) :: extra), p.1 ≠ JD) (np : ∀ p ∈ (L + 1 + 1 + 1, w2) :: extra, p.1 ≠ X2.pb) (nx : @Ne Nat X2.x X2.pb) (nd : @Ne Nat X2.d X2.pb)
    (hnext : ∀ (h : Heap) (tk : Nat) (m : Env1) (t : Tok), Fr g L h (kstB m [(Str.ofString "word", .str y vy), (Str.ofString "words", .ref WD), (Str.ofString "joined", .ref JD)]) →
      News g L h ((JD, W.listOf (jv ++ [Value.str (y ++ z0) t]).toArray (ej + 1)) :: (lxLed X2 w ln tl [.str z1 v4, .str z2 v5, .str z0 v3] (ep + 2) ++ ((L + 1 + 1 + 1, w2) :: extra))) → Q .next { s with heap := h, toks := tk }) :
    wpAny (model PySem.Challenge.rw_pg0243_02.row.prog w) (callerA.deeper (envOfC (Str.ofString "law") sc L fa cd)) (execs st (envOfC (Str.ofString "law") sc L fa cd)) Q E s := by
  conv at hst => rhs; whnf
  conv at hsc => rhs; whnf
  subst hst hsc
  w_top off
  revert X; k_fill; intro X
  have mine_on : MineOn := True.intro
  dsimp only [lxLed, List.cons_append, List.nil_append] at N hJ
  have njp : @Ne Nat JD X2.pb := Ne.symm (hJ (X2.pb, W.listOf #[] 0) (.tail _ (.tail _ (.head _))))
  have npb : ∀ o : Obj, ∀ p ∈ (JD, o) :: (L + 1 + 1 + 1, w2) :: extra, p.1 ≠ X2.pb := fun o p hp => by
    rcases List.mem_cons.mp hp with rfl | hp
    · exact njp
    · exact np p hp
  k_steps
  unfold Halt
  (rename Fr _ _ _ _ => F5)
  (rename News _ _ _ _ => N5)
  try dsimp only
  have N6 := cb_drop (news := (X2.x, instObj 132 X2.d) :: (X2.d, lexDict w (.int ln tl) (.ref X2.x1) (.str (Str.ofString "\n\t\r ") X2.tw) (.ref X2.pb) X2.k1 X2.k2 X2.k3 X2.k4) :: (X2.pb, W.listOf [.str z0 v3, .str z1 v4, .str z2 v5].toArray ep) :: (JD, W.listOf jv.toArray ej) :: (L + 1 + 1 + 1, w2) :: extra) N5 (fun q hq => by
    simp only [List.mem_cons] at hq ⊢
    rcases hq with h | h | h | h | h | h <;> simp only [h, true_or, or_true])
  k_dflt (refine' popped_use ?B F5 X N6 T ?hk (npb _) nx nd (by simp) ?hd ?hu ?_)
  case B => k_asm
  case hk => rfl
  case hd => ktr_room
  case hu => ktr_units
  k_whole
  intro h7 tk7 F7 N7
  clear N6 N5 F5
  try dsimp only
  k_steps
  unfold Halt
  (rename Fr _ _ _ _ => F5)
  (rename News _ _ _ _ => N5)
  try dsimp only
  have N6 := cb_drop (news := (X2.x, instObj 132 X2.d) :: (X2.d, lexDict w (.int ln tl) (.ref X2.x1) (.str (Str.ofString "\n\t\r ") X2.tw) (.ref X2.pb) X2.k1 X2.k2 X2.k3 X2.k4) :: (X2.pb, W.listOf [.str z1 v4, .str z2 v5].toArray (ep + 1)) :: (JD, W.listOf jv.toArray ej) :: (L + 1 + 1 + 1, w2) :: extra) N5 (fun q hq => by
    simp only [List.mem_cons] at hq ⊢
    rcases hq with h | h | h | h | h | h <;> simp only [h, true_or, or_true])
  k_dflt (refine' push_use ?B F5 X N6 T ?hk (npb _) nx nd (by simp) ?hd ?hu ?_)
  case B => k_asm
  case hk => rfl
  case hd => ktr_room
  case hu => ktr_units
  k_whole
  intro h8 tk8 F8 N8
  clear N6 N5 F5
  try dsimp only
  have hJ1 : @Ne Nat X2.x JD := hJ (X2.x, _) (.head _)
  have hJ2 : @Ne Nat X2.d JD := hJ (X2.d, _) (.tail _ (.head _))
  have N9 := cb_drop (news := (JD, W.listOf jv.toArray ej) :: (X2.x, instObj 132 X2.d) :: (X2.d, lexDict w (.int ln tl) (.ref X2.x1) (.str (Str.ofString "\n\t\r ") X2.tw) (.ref X2.pb) X2.k1 X2.k2 X2.k3 X2.k4) :: (X2.pb, W.listOf [.str z1 v4, .str z2 v5, .str z0 v3].toArray (ep + 2)) :: (L + 1 + 1 + 1, w2) :: extra) N8 (fun q hq => by
    simp only [List.mem_cons] at hq ⊢
    rcases hq with h | h | h | h | h | h <;> first | (simp only [h, true_or, or_true]; done) | (right; right; left; exact h))
  clear N8
  k_steps
  unfold Halt
  have hJ3 : ∀ p ∈ (X2.x, instObj 132 X2.d) :: (X2.d, lexDict w (.int ln tl) (.ref X2.x1) (.str (Str.ofString "\n\t\r ") X2.tw) (.ref X2.pb) X2.k1 X2.k2 X2.k3 X2.k4) :: (X2.pb, W.listOf [.str z1 v4, .str z2 v5, .str z0 v3].toArray (ep + 2)) :: (L + 1 + 1 + 1, w2) :: extra, p.1 ≠ JD := fun p hp => by
    rcases List.mem_cons.mp hp with rfl | hp
    · exact hJ1
    rcases List.mem_cons.mp hp with rfl | hp
    · exact hJ2
    rcases List.mem_cons.mp hp with rfl | hp
    · exact Ne.symm njp
    · exact hJ p (.tail _ (.tail _ (.tail _ hp)))
  refine list_app F8 N9 hJ3 (by omega) ?_
  intro h9 F9 N10
  clear N9
  k_steps
  exact hnext _ _ _ _ (Has.fr ⟨rfl, rfl, rfl, True.intro⟩ F9) N10
structure GC where
  jv : List Value
  q : List Value
  ej : Nat
  ep : Nat
noncomputable def rotG (a b c : Value) : Nat → List Value
  | 0 => [a, b, c]
  | 1 => [b, c, a]
  | 2 => [c, a, b]
  | _ => [a, b, c]
set_option maxHeartbeats 8000000 in
theorem stage2G1 (w : World) (mean : ExcName → Option Value) (mg mb : Str → Option Value) (g : Heap) (L fa : Addr) (cd : Value) (st : List Stmt) (sc : Scope) (hst : st = loopG) (hsc : sc = lawSc) (s : Shared) (Q : Flow → Shared → Prop) (E : Value → Shared → Prop) (hE : PassesOwn (model PySem.Challenge.rw_pg0243_02.row.prog w) (callerA.deeper (envOfC (Str.ofString "law") sc L fa cd)) (envOfC (Str.ofString "law") sc L fa cd) E)
    (X : (Mine.hd.heap_39 w.params).In g) (B : Below callerA g [] g) (T : Top topProg looseT mean mg mb g) (codeHd : CodeHd g 142 138) (m : Env1) (WD JD : Addr) (y z0 z1 z2 : Str) (vy v3 v4 v5 : Tok) (ny : y.length ≤ 60) (nz0 : z0.length ≤ 60) (nz1 : z1.length ≤ 60) (nz2 : z2.length ≤ 60)
    (w2 : Obj) (extra : Led) (X2 : LX) (ln : Int) (tl : Tok) (ho : w2.data = .cell (some (.ref X2.x))) (jv : List Value) (js : List Str) (ej ep : Nat) (hj : StrsAre jv js) (hjl : js.length ≤ 9)
    (F : Fr g L s.heap (kstB m [(Str.ofString "word", .str y vy), (Str.ofString "words", .ref WD), (Str.ofString "joined", .ref JD)]))
    (N : News g L s.heap ((JD, W.listOf jv.toArray ej) :: (lxLed X2 w ln tl [.str z0 v3, .str z1 v4, .str z2 v5] ep ++ ((L + 1 + 1 + 1, w2) :: extra))))
    (hJ : ∀ p ∈ lxLed X2 w ln tl [] 0 ++ ((L + 1 + 1 + 1, w2) :: extra), p.1 ≠ JD) (np : ∀ p ∈ (L + 1 + 1 + 1, w2) :: extra, p.1 ≠ X2.pb) (nx : @Ne Nat X2.x X2.pb) (nd : @Ne Nat X2.d X2.pb)
    (hnext : ∀ (h : Heap) (tk : Nat) (m : Env1) (jv : List Value), StrsAre jv (js ++ [y ++ z0, y ++ z1, y ++ z2]) → Fr g L h (kstB m [(Str.ofString "words", .ref WD), (Str.ofString "joined", .ref JD)]) →
      News g L h ((JD, W.listOf jv.toArray (ej + 3)) :: (lxLed X2 w ln tl [.str z0 v3, .str z1 v4, .str z2 v5] (ep + 6) ++ ((L + 1 + 1 + 1, w2) :: extra))) → Q .next { s with heap := h, toks := tk }) :
    wpAny (model PySem.Challenge.rw_pg0243_02.row.prog w) (callerA.deeper (envOfC (Str.ofString "law") sc L fa cd)) (execs st (envOfC (Str.ofString "law") sc L fa cd)) Q E s := by
  conv at hst => rhs; whnf
  have hsc' := hsc
  conv at hsc => rhs; whnf
  subst hst hsc
  w_top off
  revert X; k_fill; intro X
  have mine_on : MineOn := True.intro
  dsimp only [lxLed, List.cons_append, List.nil_append] at N hJ
  k_steps
  unfold Halt
  (rename Fr _ _ _ _ => F1)
  (rename News _ _ _ _ => N1)
  (rename _ ∧ _ ∧ _ ∧ _ ∧ _ ∧ _ => l1)
  obtain ⟨r1, r2, r3, r4, r5, r6⟩ := l1
  rename_i it _
  rw [show ((3 : Int) - 0).toNat = 3 from rfl] at N1
  have nit : ∀ p ∈ (JD, W.listOf #[] 0) :: (X2.x, W.listOf #[] 0) :: (X2.d, W.listOf #[] 0) :: (X2.pb, W.listOf #[] 0) :: (L + 1 + 1 + 1, w2) :: extra, p.1 ≠ it := fun p hp => Nat.ne_of_lt (allLt_mem (show AllLt it ((JD, W.listOf #[] 0) :: (X2.x, W.listOf #[] 0) :: (X2.d, W.listOf #[] 0) :: (X2.pb, W.listOf #[] 0) :: (L + 1 + 1 + 1, w2) :: extra) from ⟨r1, r2, r3, r4, r5, r6⟩) p hp)
  refine Loop.iter (σ := GC) (iter_of_range it 0 3) rfl (fun j c => c.q = rotG (.str z0 v3) (.str z1 v4) (.str z2 v5) j ∧ c.ej = ej + j ∧ c.ep = ep + 2 * j ∧ StrsAre c.jv (js ++ ([y ++ z0, y ++ z1, y ++ z2] : List Str).take j))
    (fun _ => [(Str.ofString "word", .str y vy), (Str.ofString "words", .ref WD), (Str.ofString "joined", .ref JD)])
    (fun c => [(JD, W.listOf c.jv.toArray c.ej), (X2.x, instObj 132 X2.d), (X2.d, lexDict w (.int ln tl) (.ref X2.x1) (.str (Str.ofString "\n\t\r ") X2.tw) (.ref X2.pb) X2.k1 X2.k2 X2.k3 X2.k4), (X2.pb, W.listOf c.q.toArray c.ep), (L + 1 + 1 + 1, w2)] ++ extra)
    ⟨jv, [.str z0 v3, .str z1 v4, .str z2 v5], ej, ep⟩ ⟨rfl, rfl, rfl, by rw [List.take_zero, List.append_nil]; exact hj⟩ (rng0 (a := 0) (n := 3)) (At.intro F1 N1 ⟨rfl, rfl, rfl, True.intro⟩ fun q hq => hq) (fun i c hc q hq => ?_) (fun _ _ _ _ hq => nomatch hq) ?_ ?_ hE
  · simp only [List.cons_append, List.nil_append, List.mem_cons] at hq
    rcases hq with rfl | rfl | rfl | rfl | rfl | hq
    · exact nit (JD, W.listOf #[] 0) (by simp)
    · exact nit (X2.x, W.listOf #[] 0) (by simp)
    · exact nit (X2.d, W.listOf #[] 0) (by simp)
    · exact nit (X2.pb, W.listOf #[] 0) (by simp)
    · exact nit (L + 1 + 1 + 1, w2) (by simp)
    · exact nit q (.tail _ (.tail _ (.tail _ (.tail _ (.tail _ hq)))))
  · rintro j ⟨cj, cq, ce, cp⟩ hi ⟨hq, he, hp, hs⟩ v o h tk2 mm ⟨tv, rfl⟩ hot F N
    dsimp only at hq he hp hs F N
    subst hq he hp
    have hcl : cj.length ≤ 60 := by
      have := hs.length
      rw [List.length_append, List.length_take] at this
      omega
    have hx : ∀ p ∈ (it, o) :: extra, p.1 ≠ X2.pb := fun p hp => by
      rcases List.mem_cons.mp hp with rfl | hp
      · exact Nat.ne_of_gt r4
      · exact np p (.tail _ hp)
    have hJ' : ∀ p ∈ lxLed X2 w ln tl [] 0 ++ ((L + 1 + 1 + 1, w2) :: (it, o) :: extra), p.1 ≠ JD := fun p hp => by
      rcases List.mem_append.mp hp with hp | hp
      · exact hJ p (by
          dsimp only [lxLed] at hp
          simp only [List.mem_cons, List.not_mem_nil, or_false] at hp ⊢
          rcases hp with h | h | h <;> simp only [h, true_or, or_true])
      rcases List.mem_cons.mp hp with rfl | hp
      · exact hJ _ (.tail _ (.tail _ (.tail _ (.head _))))
      rcases List.mem_cons.mp hp with rfl | hp
      · exact Nat.ne_of_gt r1
      · exact hJ p (.tail _ (.tail _ (.tail _ (.tail _ hp))))
    have hnp' : ∀ p ∈ (L + 1 + 1 + 1, w2) :: (it, o) :: extra, p.1 ≠ X2.pb := fun p hp => by
      rcases List.mem_cons.mp hp with rfl | hp
      · exact np _ (.head _)
      · exact hx p hp
    clear F1 N1 nit
    (iterate 2 (walk_at "my_step"))
    (rename Fr _ _ _ _ => F2)
    have N2 : News g L _ ((JD, W.listOf cj.toArray (ej + j)) :: (X2.x, instObj 132 X2.d) :: (X2.d, lexDict w (.int ln tl) (.ref X2.x1) (.str (Str.ofString "\n\t\r ") X2.tw) (.ref X2.pb) X2.k1 X2.k2 X2.k3 X2.k4) :: (X2.pb, W.listOf (rotG (.str z0 v3) (.str z1 v4) (.str z2 v5) j).toArray (ep + 2 * j)) :: (L + 1 + 1 + 1, w2) :: (it, o) :: extra) := cb_drop (by k_asm) (fun q hq => by
      simp only [List.mem_cons, List.cons_append, List.nil_append] at hq ⊢
      rcases hq with h | h | h | h | h | h | h <;> simp only [h, true_or, or_true])
    have fin : ∀ (j : Nat) (z : Str) (hz : ([y ++ z0, y ++ z1, y ++ z2] : List Str)[j]? = some (y ++ z)) (h : Heap) (tk : Nat) (m : Env1) (cj : List Value) (t : Tok), j < 3 → StrsAre cj (js ++ ([y ++ z0, y ++ z1, y ++ z2] : List Str).take j) → StrsAre (cj ++ [Value.str (y ++ z) t]) (js ++ ([y ++ z0, y ++ z1, y ++ z2] : List Str).take (j + 1)) := by
      intro j z hz h tk m cj t _ hs
      rw [List.take_add_one, hz, ← List.append_assoc]
      exact strs_snoc hs _ _
    match j, hi, hs, N2, hot, fin with
    | 0, _, hs, N2, hot, fin =>
      refine stage2G0 w mean mg mb g L fa cd _ _ rfl hsc' _ _ _ X B T codeHd _ WD JD y z0 z1 z2 vy v3 v4 v5 ny nz0 w2 ((it, o) :: extra) X2 ln tl ho cj (ej + 0) (ep + 2 * 0) hcl (Has.fr ⟨rfl, rfl, rfl, True.intro⟩ F2) N2 hJ' hnp' nx nd ?_
      intro h9 tk9 m9 t9 F9 N9
      refine TurnI.next ⟨cj ++ [Value.str (y ++ z0) t9], [.str z1 v4, .str z2 v5, .str z0 v3], ej + 0 + 1, ep + 2 * 0 + 2⟩ F9 N9 ⟨rfl, rfl, rfl, fin 0 z0 rfl h9 tk9 m9 cj t9 (by decide) hs⟩ ⟨rfl, rfl, rfl, True.intro⟩ hot ?_
      intro q hq
      dsimp only [lxLed] at hq ⊢
      simp only [List.mem_cons, List.cons_append, List.nil_append] at hq ⊢
      rcases hq with h | h | h | h | h | h | h <;> simp only [h, true_or, or_true]
    | 1, _, hs, N2, hot, fin =>
      refine stage2G0 w mean mg mb g L fa cd _ _ rfl hsc' _ _ _ X B T codeHd _ WD JD y z1 z2 z0 vy v4 v5 v3 ny nz1 w2 ((it, o) :: extra) X2 ln tl ho cj (ej + 1) (ep + 2 * 1) hcl (Has.fr ⟨rfl, rfl, rfl, True.intro⟩ F2) N2 hJ' hnp' nx nd ?_
      intro h9 tk9 m9 t9 F9 N9
      refine TurnI.next ⟨cj ++ [Value.str (y ++ z1) t9], [.str z2 v5, .str z0 v3, .str z1 v4], ej + 1 + 1, ep + 2 * 1 + 2⟩ F9 N9 ⟨rfl, rfl, rfl, fin 1 z1 rfl h9 tk9 m9 cj t9 (by decide) hs⟩ ⟨rfl, rfl, rfl, True.intro⟩ hot ?_
      intro q hq
      dsimp only [lxLed] at hq ⊢
      simp only [List.mem_cons, List.cons_append, List.nil_append] at hq ⊢
      rcases hq with h | h | h | h | h | h | h <;> simp only [h, true_or, or_true]
    | 2, _, hs, N2, hot, fin =>
      refine stage2G0 w mean mg mb g L fa cd _ _ rfl hsc' _ _ _ X B T codeHd _ WD JD y z2 z0 z1 vy v5 v3 v4 ny nz2 w2 ((it, o) :: extra) X2 ln tl ho cj (ej + 2) (ep + 2 * 2) hcl (Has.fr ⟨rfl, rfl, rfl, True.intro⟩ F2) N2 hJ' hnp' nx nd ?_
      intro h9 tk9 m9 t9 F9 N9
      refine TurnI.next ⟨cj ++ [Value.str (y ++ z2) t9], [.str z0 v3, .str z1 v4, .str z2 v5], ej + 2 + 1, ep + 2 * 2 + 2⟩ F9 N9 ⟨rfl, rfl, rfl, fin 2 z2 rfl h9 tk9 m9 cj t9 (by decide) hs⟩ ⟨rfl, rfl, rfl, True.intro⟩ hot ?_
      intro q hq
      dsimp only [lxLed] at hq ⊢
      simp only [List.mem_cons, List.cons_append, List.nil_append] at hq ⊢
      rcases hq with h | h | h | h | h | h | h <;> simp only [h, true_or, or_true]
    | j + 3, hi, _, _, _, _ => exact absurd hi (by omega)
  · rintro ⟨cj, cq, ce, cp⟩ ⟨hq, he, hp, hs⟩ h tk2 mm F N
    dsimp only at hq he hp hs F N
    subst hq he hp
    refine wpAny_execs_nil ?_
    dsimp only
    refine wpAny_execs_nil ?_
    refine hnext h tk2 _ cj hs (Has.fr ⟨rfl, rfl, True.intro⟩ F) (cb_drop N fun q hq => ?_)
    exact hq

set_option maxHeartbeats 8000000 in
theorem stage2G (w : World) (mean : ExcName → Option Value) (mg mb : Str → Option Value) (g : Heap) (L fa : Addr) (cd : Value) (st : List Stmt) (sc : Scope) (hst : st = lawSt 10) (hsc : sc = lawSc) (s : Shared) (Q : Flow → Shared → Prop) (E : Value → Shared → Prop) (hE : PassesOwn (model PySem.Challenge.rw_pg0243_02.row.prog w) (callerA.deeper (envOfC (Str.ofString "law") sc L fa cd)) (envOfC (Str.ofString "law") sc L fa cd) E)
    (X : (Mine.hd.heap_39 w.params).In g) (B : Below callerA g [] g) (T : Top topProg looseT mean mg mb g) (codeHd : CodeHd g 142 138) (m : Env1) (WD JD : Addr) (y0 y1 y2 z0 z1 z2 : Str) (v0 v1 v2 v3 v4 v5 : Tok)
    (ny0 : y0.length ≤ 60) (ny1 : y1.length ≤ 60) (ny2 : y2.length ≤ 60) (nz0 : z0.length ≤ 60) (nz1 : z1.length ≤ 60) (nz2 : z2.length ≤ 60)
    (w2 : Obj) (rest : Led) (X2 : LX) (ln : Int) (tl : Tok) (ho : w2.data = .cell (some (.ref X2.x)))
    (F : Fr g L s.heap (kstB m [(Str.ofString "words", .ref WD), (Str.ofString "joined", .ref JD)]))
    (N : News g L s.heap ((JD, W.listOf #[] 0) :: (lxLed X2 w ln tl [.str z0 v3, .str z1 v4, .str z2 v5] 3 ++ ((WD, W.listOf [.str y0 v0, .str y1 v1, .str y2 v2, .str z0 v3, .str z1 v4, .str z2 v5].toArray 6) :: (L + 1 + 1 + 1, w2) :: rest))))
    (lJ : AllLt JD (lxLed X2 w ln tl [.str z0 v3, .str z1 v4, .str z2 v5] 3 ++ ((WD, W.listOf #[] 0) :: (L + 1 + 1 + 1, w2) :: rest)))
    (np : ∀ p ∈ (WD, W.listOf #[] 6) :: (L + 1 + 1 + 1, w2) :: rest, p.1 ≠ X2.pb) (nx : @Ne Nat X2.x X2.pb) (nd : @Ne Nat X2.d X2.pb)
    (hnext : ∀ (h : Heap) (tk : Nat) (m : Env1) (jv : List Value), StrsAre jv [y0 ++ z0, y0 ++ z1, y0 ++ z2, y1 ++ z0, y1 ++ z1, y1 ++ z2, y2 ++ z0, y2 ++ z1, y2 ++ z2] → Fr g L h (kstB m [(Str.ofString "words", .ref WD), (Str.ofString "joined", .ref JD)]) →
      News g L h ((JD, W.listOf jv.toArray 9) :: (WD, W.listOf [.str y0 v0, .str y1 v1, .str y2 v2, .str z0 v3, .str z1 v4, .str z2 v5].toArray 6) :: (L + 1 + 1 + 1, w2) :: rest) →
      wpAny (model PySem.Challenge.rw_pg0243_02.row.prog w) (callerA.deeper (envOfC (Str.ofString "law") sc L fa cd)) (execs (lawSt 11) (envOfC (Str.ofString "law") sc L fa cd)) Q E { s with heap := h, toks := tk }) :
    wpAny (model PySem.Challenge.rw_pg0243_02.row.prog w) (callerA.deeper (envOfC (Str.ofString "law") sc L fa cd)) (execs st (envOfC (Str.ofString "law") sc L fa cd)) Q E s := by
  conv at hst => rhs; whnf
  have hsc' := hsc
  conv at hsc => rhs; whnf
  subst hst hsc
  w_top off
  revert X; k_fill; intro X
  have mine_on : MineOn := True.intro
  dsimp only [lxLed, List.cons_append, List.nil_append] at N lJ
  have nJ : ∀ p ∈ (X2.x, W.listOf #[] 0) :: (X2.d, W.listOf #[] 0) :: (X2.pb, W.listOf #[] 0) :: (WD, W.listOf #[] 0) :: (L + 1 + 1 + 1, w2) :: rest, p.1 ≠ JD := fun p hp => Nat.ne_of_lt (allLt_mem (show AllLt JD ((X2.x, W.listOf #[] 0) :: (X2.d, W.listOf #[] 0) :: (X2.pb, W.listOf #[] 0) :: (WD, W.listOf #[] 0) :: (L + 1 + 1 + 1, w2) :: rest) from lJ) p hp)
  k_steps
  unfold Halt
  (rename Fr _ _ _ _ => F1)
  (rename News _ _ _ _ => N1)
  (rename ListIt _ _ _ => ho1)
  (rename _ ∧ _ ∧ _ ∧ _ ∧ _ ∧ _ ∧ _ ∧ _ => q1)
  rename_i S1 _ q2 it o1 _
  obtain ⟨r1, r0, r2, r3, r4, r5, r6, r7⟩ := q1
  obtain ⟨k0, k1, k2, k3, k4, k5, k6⟩ := q2
  have nit : ∀ p ∈ (S1, W.listOf #[] 0) :: (JD, W.listOf #[] 0) :: (X2.x, W.listOf #[] 0) :: (X2.d, W.listOf #[] 0) :: (X2.pb, W.listOf #[] 0) :: (WD, W.listOf #[] 0) :: (L + 1 + 1 + 1, w2) :: rest, p.1 ≠ it := fun p hp => Nat.ne_of_lt (allLt_mem (show AllLt it ((S1, W.listOf #[] 0) :: (JD, W.listOf #[] 0) :: (X2.x, W.listOf #[] 0) :: (X2.d, W.listOf #[] 0) :: (X2.pb, W.listOf #[] 0) :: (WD, W.listOf #[] 0) :: (L + 1 + 1 + 1, w2) :: rest) from ⟨r1, r0, r2, r3, r4, r5, r6, r7⟩) p hp)
  have hJ' : ∀ {o o2 o3 : Obj}, ∀ p ∈ lxLed X2 w ln tl [] 0 ++ ((L + 1 + 1 + 1, w2) :: ((it, o) :: (S1, o2) :: (WD, o3) :: rest)), p.1 ≠ JD := fun {o o2 o3} p hp => by
    dsimp only [lxLed] at hp
    simp only [List.mem_cons, List.cons_append, List.nil_append] at hp
    rcases hp with rfl | rfl | rfl | rfl | rfl | rfl | rfl | hp
    · exact nJ (X2.x, W.listOf #[] 0) (by simp)
    · exact nJ (X2.d, W.listOf #[] 0) (by simp)
    · exact nJ (X2.pb, W.listOf #[] 0) (by simp)
    · exact nJ (L + 1 + 1 + 1, w2) (by simp)
    · exact Nat.ne_of_gt r0
    · exact Nat.ne_of_gt k0
    · exact nJ (WD, W.listOf #[] 0) (by simp)
    · exact nJ p (.tail _ (.tail _ (.tail _ (.tail _ (.tail _ hp)))))
  have hnp' : ∀ {o o2 o3 : Obj}, ∀ p ∈ (L + 1 + 1 + 1, w2) :: ((it, o) :: (S1, o2) :: (WD, o3) :: rest), p.1 ≠ X2.pb := fun {o o2 o3} p hp => by
    simp only [List.mem_cons] at hp
    rcases hp with rfl | rfl | rfl | rfl | hp
    · exact np (L + 1 + 1 + 1, w2) (by simp)
    · exact Nat.ne_of_gt r4
    · exact Nat.ne_of_gt k3
    · exact np (WD, W.listOf #[] 6) (by simp)
    · exact np p (.tail _ (.tail _ hp))
  refine Loop.iter (σ := GC) (iter_of_list it S1 [.str y0 v0, .str y1 v1, .str y2 v2] 0) rfl (fun i c => StrsAre c.jv (([y0 ++ z0, y0 ++ z1, y0 ++ z2, y1 ++ z0, y1 ++ z1, y1 ++ z2, y2 ++ z0, y2 ++ z1, y2 ++ z2] : List Str).take (3 * i)) ∧ c.ej = 3 * i ∧ c.ep = 3 + 6 * i) (fun _ => [(Str.ofString "words", .ref WD), (Str.ofString "joined", .ref JD)])
    (fun c => [(S1, W.listOf [.str y0 v0, .str y1 v1, .str y2 v2].toArray 0), (JD, W.listOf c.jv.toArray c.ej), (X2.x, instObj 132 X2.d), (X2.d, lexDict w (.int ln tl) (.ref X2.x1) (.str (Str.ofString "\n\t\r ") X2.tw) (.ref X2.pb) X2.k1 X2.k2 X2.k3 X2.k4), (X2.pb, W.listOf [.str z0 v3, .str z1 v4, .str z2 v5].toArray c.ep), (WD, W.listOf [.str y0 v0, .str y1 v1, .str y2 v2, .str z0 v3, .str z1 v4, .str z2 v5].toArray 6), (L + 1 + 1 + 1, w2)] ++ rest)
    ⟨[], [], 0, 3⟩ ⟨.nil, rfl, rfl⟩ ho1 (At.intro F1 N1 ⟨rfl, rfl, True.intro⟩ fun q hq => hq) (fun i c hc q hq => ?_) (fun _ _ _ q hq => by rw [List.mem_singleton.mp hq]; exact .head _) ?_ ?_ hE
  · simp only [List.cons_append, List.nil_append, List.mem_cons] at hq
    rcases hq with rfl | rfl | rfl | rfl | rfl | rfl | rfl | hq
    · exact nit (S1, W.listOf #[] 0) (by simp)
    · exact nit (JD, W.listOf #[] 0) (by simp)
    · exact nit (X2.x, W.listOf #[] 0) (by simp)
    · exact nit (X2.d, W.listOf #[] 0) (by simp)
    · exact nit (X2.pb, W.listOf #[] 0) (by simp)
    · exact nit (WD, W.listOf #[] 0) (by simp)
    · exact nit (L + 1 + 1 + 1, w2) (by simp)
    · exact nit q (.tail _ (.tail _ (.tail _ (.tail _ (.tail _ (.tail _ (.tail _ hq)))))))
  · rintro i ⟨cj, cq, ce, cp⟩ hi ⟨hs, he, hp⟩ v o h tk2 mm hv hot F N
    dsimp only at hs he hp F N
    subst he hp
    dsimp only [List.cons_append, List.nil_append] at F N
    clear F1 N1 nit
    have hi3 : i < 3 := hi
    match i, hi3, hs, hv, hot, N with
    | 0, _, hs, hv, hot, N2 =>
      obtain rfl : Value.str y0 v0 = v := by simpa using hv
      (iterate 2 (walk_at "my_step"))
      (rename Fr _ _ _ _ => F3)
      (rename News _ _ _ _ => N3)
      have N4 : News g L _ ((JD, W.listOf cj.toArray (3 * 0)) :: (lxLed X2 w ln tl [.str z0 v3, .str z1 v4, .str z2 v5] (3 + 6 * 0) ++ ((L + 1 + 1 + 1, w2) :: ((it, o) :: (S1, W.listOf [.str y0 v0, .str y1 v1, .str y2 v2].toArray 0) :: (WD, W.listOf [.str y0 v0, .str y1 v1, .str y2 v2, .str z0 v3, .str z1 v4, .str z2 v5].toArray 6) :: rest)))) := cb_drop N3 (fun q hq => by
        dsimp only [lxLed] at hq ⊢
        simp only [List.mem_cons, List.cons_append, List.nil_append] at hq ⊢
        rcases hq with h | h | h | h | h | h | h | h | h <;> simp only [h, true_or, or_true])
      refine stage2G1 w mean mg mb g L fa cd _ _ rfl hsc' _ _ _ hE X B T codeHd _ WD JD y0 z0 z1 z2 v0 v3 v4 v5 ny0 nz0 nz1 nz2 w2 _ X2 ln tl ho cj (([y0 ++ z0, y0 ++ z1, y0 ++ z2, y1 ++ z0, y1 ++ z1, y1 ++ z2, y2 ++ z0, y2 ++ z1, y2 ++ z2] : List Str).take (3 * 0)) (3 * 0) (3 + 6 * 0) hs (by rw [List.length_take]; exact Nat.le_trans (Nat.min_le_left _ _) (by decide)) (Has.fr ⟨rfl, rfl, rfl, True.intro⟩ F3) N4 hJ' hnp' nx nd ?_
      intro h9 tk9 m9 jv9 hs9 F9 N9
      refine TurnI.next ⟨jv9, [], 3 * 0 + 3, 3 + 6 * 0 + 6⟩ F9 N9 ⟨hs9, rfl, rfl⟩ ⟨rfl, rfl, True.intro⟩ hot ?_
      intro q hq
      dsimp only [lxLed] at hq ⊢
      simp only [List.mem_cons, List.cons_append, List.nil_append] at hq ⊢
      rcases hq with h | h | h | h | h | h | h | h | h <;> simp only [h, true_or, or_true]
    | 1, _, hs, hv, hot, N2 =>
      obtain rfl : Value.str y1 v1 = v := by simpa using hv
      (iterate 2 (walk_at "my_step"))
      (rename Fr _ _ _ _ => F3)
      (rename News _ _ _ _ => N3)
      have N4 : News g L _ ((JD, W.listOf cj.toArray (3 * 1)) :: (lxLed X2 w ln tl [.str z0 v3, .str z1 v4, .str z2 v5] (3 + 6 * 1) ++ ((L + 1 + 1 + 1, w2) :: ((it, o) :: (S1, W.listOf [.str y0 v0, .str y1 v1, .str y2 v2].toArray 0) :: (WD, W.listOf [.str y0 v0, .str y1 v1, .str y2 v2, .str z0 v3, .str z1 v4, .str z2 v5].toArray 6) :: rest)))) := cb_drop N3 (fun q hq => by
        dsimp only [lxLed] at hq ⊢
        simp only [List.mem_cons, List.cons_append, List.nil_append] at hq ⊢
        rcases hq with h | h | h | h | h | h | h | h | h <;> simp only [h, true_or, or_true])
      refine stage2G1 w mean mg mb g L fa cd _ _ rfl hsc' _ _ _ hE X B T codeHd _ WD JD y1 z0 z1 z2 v1 v3 v4 v5 ny1 nz0 nz1 nz2 w2 _ X2 ln tl ho cj (([y0 ++ z0, y0 ++ z1, y0 ++ z2, y1 ++ z0, y1 ++ z1, y1 ++ z2, y2 ++ z0, y2 ++ z1, y2 ++ z2] : List Str).take (3 * 1)) (3 * 1) (3 + 6 * 1) hs (by rw [List.length_take]; exact Nat.le_trans (Nat.min_le_left _ _) (by decide)) (Has.fr ⟨rfl, rfl, rfl, True.intro⟩ F3) N4 hJ' hnp' nx nd ?_
      intro h9 tk9 m9 jv9 hs9 F9 N9
      refine TurnI.next ⟨jv9, [], 3 * 1 + 3, 3 + 6 * 1 + 6⟩ F9 N9 ⟨hs9, rfl, rfl⟩ ⟨rfl, rfl, True.intro⟩ hot ?_
      intro q hq
      dsimp only [lxLed] at hq ⊢
      simp only [List.mem_cons, List.cons_append, List.nil_append] at hq ⊢
      rcases hq with h | h | h | h | h | h | h | h | h <;> simp only [h, true_or, or_true]
    | 2, _, hs, hv, hot, N2 =>
      obtain rfl : Value.str y2 v2 = v := by simpa using hv
      (iterate 2 (walk_at "my_step"))
      (rename Fr _ _ _ _ => F3)
      (rename News _ _ _ _ => N3)
      have N4 : News g L _ ((JD, W.listOf cj.toArray (3 * 2)) :: (lxLed X2 w ln tl [.str z0 v3, .str z1 v4, .str z2 v5] (3 + 6 * 2) ++ ((L + 1 + 1 + 1, w2) :: ((it, o) :: (S1, W.listOf [.str y0 v0, .str y1 v1, .str y2 v2].toArray 0) :: (WD, W.listOf [.str y0 v0, .str y1 v1, .str y2 v2, .str z0 v3, .str z1 v4, .str z2 v5].toArray 6) :: rest)))) := cb_drop N3 (fun q hq => by
        dsimp only [lxLed] at hq ⊢
        simp only [List.mem_cons, List.cons_append, List.nil_append] at hq ⊢
        rcases hq with h | h | h | h | h | h | h | h | h <;> simp only [h, true_or, or_true])
      refine stage2G1 w mean mg mb g L fa cd _ _ rfl hsc' _ _ _ hE X B T codeHd _ WD JD y2 z0 z1 z2 v2 v3 v4 v5 ny2 nz0 nz1 nz2 w2 _ X2 ln tl ho cj (([y0 ++ z0, y0 ++ z1, y0 ++ z2, y1 ++ z0, y1 ++ z1, y1 ++ z2, y2 ++ z0, y2 ++ z1, y2 ++ z2] : List Str).take (3 * 2)) (3 * 2) (3 + 6 * 2) hs (by rw [List.length_take]; exact Nat.le_trans (Nat.min_le_left _ _) (by decide)) (Has.fr ⟨rfl, rfl, rfl, True.intro⟩ F3) N4 hJ' hnp' nx nd ?_
      intro h9 tk9 m9 jv9 hs9 F9 N9
      refine TurnI.next ⟨jv9, [], 3 * 2 + 3, 3 + 6 * 2 + 6⟩ F9 N9 ⟨hs9, rfl, rfl⟩ ⟨rfl, rfl, True.intro⟩ hot ?_
      intro q hq
      dsimp only [lxLed] at hq ⊢
      simp only [List.mem_cons, List.cons_append, List.nil_append] at hq ⊢
      rcases hq with h | h | h | h | h | h | h | h | h <;> simp only [h, true_or, or_true]
    | i + 3, hi, _, _, _, _ => exact absurd hi (by omega)
  · rintro ⟨cj, cq, ce, cp⟩ ⟨hs, he, hp⟩ h tk2 mm F N
    dsimp only at hs he hp F N
    subst he hp
    refine wpAny_execs_nil ?_
    dsimp only
    refine hnext h tk2 _ cj hs (Has.fr ⟨rfl, rfl, True.intro⟩ F) (cb_drop N fun q hq => ?_)
    simp only [List.mem_cons, List.cons_append, List.nil_append] at hq ⊢
    rcases hq with h | h | h | h <;> first | (simp only [h, true_or, or_true]; done) | (right; left; exact h)

section
variable {w : World} {mean : ExcName → Option Value} {mg mb : Str → Option Value} {dp un : Nat} {gd : Option (List Code)} {cn : Str} {cs : Scope} {a : Addr} {ccd : Value} {cl : List (Str × Addr)} {outer : List Env} {A₀ : Around} {base h₀ : Heap} {L : Addr} {m : Str → Option Value} {s : Shared} {Q E : Value → Shared → Prop} {news : Led}
theorem rests_use {l : Addr} {vs : List Value} {ys : List Str} {cs2 : List Nat} {ep p : Nat} {tp : Tok} (hi : StrsAre vs ys) (hr : RowsAre ys cs2) (hlen : cs2.length ≤ 50) (hp : p = 7 ∨ p = 11) (B : Below A₀ base outer h₀) (F : Fr h₀ L s.heap m) (X : (Mine.hd.heap_39 w.params).In h₀)
    (N : News h₀ L s.heap ((l, W.listOf vs.toArray ep) :: news)) (T : Top topProg looseT mean mg mb h₀) (hk : cs.kind = .function) (hd : dp + 6 < recursionLimit) (hu : un + 8 * 6 < cLine)
    (hret : ∀ (R : Addr) (rs : List Value) (ep2 : Nat) (h' : Heap) (tk' : Nat), IntsAre rs (restsOf p cs2) → Fr h₀ L h' m → News h₀ L h' ((R, W.listOf rs.toArray ep2) :: (l, W.listOf vs.toArray ep) :: news) → (∀ q ∈ (l, W.listOf vs.toArray ep) :: news, q.1 < R) → Q (.ref R) { s with heap := h', toks := tk' }) :
    wpAny (model PySem.Challenge.rw_pg0243_02.row.prog w) (ktrTop dp un gd cn cs L a ccd cl outer) (call (.ref 150) [.ref l, .int (p : Int) tp]) Q E s :=
  rests_claim w mean mg mb news l vs ys cs2 ep hi hr hlen p tp hp dp un gd cn cs a ccd cl outer A₀ base h₀ L m s Q E B F X N T hk hd hu (by
    rintro v news' h' tk' F' N' ⟨R, rs, ep2, rfl, h1, rfl, h2⟩
    exact hret R rs ep2 h' tk' h1 F' N' h2)
end
section
open LCg
variable {s : Shared} {h₀ : Heap} {L : Addr} {m : Str → Option Value}
theorem end_new2 {I C D D1 : Addr} {oI oC oD o1 : Obj} {rest : List (Addr × Obj)} {S : List (Addr × Obj) → Prop} {R : Value → List (Addr × Obj) → Prop} {h' : Heap} {tk : Nat} (F : Fr h₀ L h' m) (N : News h₀ L h' ((D1, o1) :: (I, oI) :: (C, oC) :: (D, oD) :: rest))
    (off : Off3 I C D rest) (o : Off1 D1 ((I, oI) :: (C, oC) :: (D, oD) :: rest)) (hS : S ((D1, o1) :: rest)) (r : R (.ref D1) ((D1, o1) :: rest)) :
    CompEnd h₀ L m s I oI C oC D oD S R (.ref D1) { s with heap := h', toks := tk } := by
  obtain ⟨q1, q2, q3, q4⟩ := o
  refine CompEnd.intro F N ((D1, o1) :: rest) ?_ ⟨⟨Ne.symm q1, Ne.symm q2, Ne.symm q3⟩, off⟩ hS r
  intro p hp
  simp only [List.mem_cons] at hp ⊢
  rcases hp with h | h | h | h | h <;> simp only [h, true_or, or_true]
theorem off1_of2 {D : Addr} : ∀ {l : List (Addr × Obj)}, (∀ p ∈ l, p.1 ≠ D) → Off1 D l
  | [], _ => trivial
  | _ :: _, h => ⟨h _ List.mem_cons_self, off1_of2 fun p hp => h p (List.mem_cons_of_mem _ hp)⟩
end
theorem three_strs (a b c : Str) (t u v : Tok) : StrsAre [.str a t, .str b u, .str c v] [a, b, c] := .cons _ _ (.cons _ _ (.cons _ _ .nil))
--<M
local macro_rules | `(tactic| walk_at "call ref") => `(tactic| (k_here; (with_reducible refine gdr 150 ?_); (with_reducible refine Halt.mk ?_)))
--M>
set_option maxHeartbeats 8000000 in
theorem stage2H (w : World) (mean : ExcName → Option Value) (mg mb : Str → Option Value) (g : Heap) (L fa : Addr) (cd : Value) (st : List Stmt) (sc : Scope) (hst : st = lawSt 11) (hsc : sc = lawSc) (s : Shared) (Q : Flow → Shared → Prop) (E : Value → Shared → Prop)
    (X : (Mine.hd.heap_39 w.params).In g) (B : Below callerA g [] g) (T : Top topProg looseT mean mg mb g) (m : Env1) (WD JD : Addr) (y0 y1 y2 z0 z1 z2 : Str) (v0 v1 v2 v3 v4 v5 : Tok) (a0 a1 a2 b0 b1 b2 : Nat) (js : List Nat)
    (hy : RowsAre [y0, y1, y2] [a0, a1, a2]) (hz : RowsAre [z0, z1, z2] [b0, b1, b2]) (jv : List Value) (ss : List Str) (hj : StrsAre jv ss) (hjr : RowsAre ss js) (hjl : js.length = 9)
    (w0 w3 w4 : Obj) (rest : Led) (p : Nat) (tp : Tok) (hp : p = 7 ∨ p = 11) (e0 : w0.data = .cell (some (.int (p : Int) tp))) (c3 c4 : Option Value) (e3 : w3.data = .cell c3) (e4 : w4.data = .cell c4)
    (F : Fr g L s.heap (kstB m [(Str.ofString "words", .ref WD), (Str.ofString "joined", .ref JD)]))
    (N : News g L s.heap ((JD, W.listOf jv.toArray 9) :: (WD, W.listOf [.str y0 v0, .str y1 v1, .str y2 v2, .str z0 v3, .str z1 v4, .str z2 v5].toArray 6) :: (L + 1 + 1 + 1 + 1 + 1, w4) :: (L + 1 + 1 + 1 + 1, w3) :: (L + 1, w0) :: rest))
    (nr3 : ∀ p ∈ rest, p.1 ≠ L + 1 + 1 + 1 + 1) (nr4 : ∀ p ∈ rest, p.1 ≠ L + 1 + 1 + 1 + 1 + 1)
    (hnext : ∀ (h : Heap) (tk : Nat) (m : Env1) (R1 R2 R3 : Addr) (rs1 rs2 rs3 : List Value) (q1 q2 q3 : Nat) (w3 w4 : Obj), IntsAre rs1 (restsOf p [a0, a1, a2]) → IntsAre rs2 (restsOf p [b0, b1, b2]) → IntsAre rs3 (restsOf p js) → w3.data = .cell (some (.ref R1)) → w4.data = .cell (some (.ref R2)) →
      Fr g L h (kstB m [(Str.ofString "sums", .ref R3)]) →
      News g L h ((R3, W.listOf rs3.toArray q3) :: (R2, W.listOf rs2.toArray q2) :: (R1, W.listOf rs1.toArray q1) :: (L + 1 + 1 + 1 + 1 + 1, w4) :: (L + 1 + 1 + 1 + 1, w3) :: (L + 1, w0) :: rest) →
      wpAny (model PySem.Challenge.rw_pg0243_02.row.prog w) (callerA.deeper (envOfC (Str.ofString "law") sc L fa cd)) (execs (lawSt 12) (envOfC (Str.ofString "law") sc L fa cd)) Q E { s with heap := h, toks := tk }) :
    wpAny (model PySem.Challenge.rw_pg0243_02.row.prog w) (callerA.deeper (envOfC (Str.ofString "law") sc L fa cd)) (execs st (envOfC (Str.ofString "law") sc L fa cd)) Q E s := by
  conv at hst => rhs; whnf
  conv at hsc => rhs; whnf
  subst hst hsc
  w_top off
  revert X; k_fill; intro X
  have mine_on : MineOn := True.intro
  k_steps
  unfold Halt
  (rename Fr _ _ _ _ => F1)
  (rename News _ _ _ _ => N1)
  rename_i G1 _ l1 G2 _ l2 LL _ l3
  have N2 : News g L _ ((LL, W.listOf [.ref G1, .ref G2, .ref JD].toArray 0) :: (G2, W.listOf [.str z0 v3, .str z1 v4, .str z2 v5].toArray 0) :: (G1, W.listOf [.str y0 v0, .str y1 v1, .str y2 v2].toArray 0) :: (JD, W.listOf jv.toArray 9) :: (L + 1 + 1 + 1 + 1 + 1, w4) :: (L + 1 + 1 + 1 + 1, w3) :: (L + 1, w0) :: rest) := cb_drop N1 (fun q hq => (by
    simp only [List.mem_cons] at hq ⊢
    rcases hq with h | h | h | h | h | h | h | h
    · left; exact h
    · right; left; exact h
    · right; right; left; exact h
    · right; right; right; left; exact h
    · right; right; right; right; right; left; exact h
    · right; right; right; right; right; right; left; exact h
    · right; right; right; right; right; right; right; left; exact h
    · right; right; right; right; right; right; right; right; exact h))
  clear N1
  refine LCg.CompSrc.ledger (by rfl) F1 N2 (.head _) (by exact Nat.le_of_ble_eq_true rfl) ?_
  intro g1
  refine LCg.CompRest.succ ?_
  intro v I oI C oC DD m₂ h tk E' hv hC hx F N off ne
  simp only [List.getElem?_toArray, List.getElem?_cons_zero, List.getElem?_cons_succ, Option.some.injEq] at hv
  subst hv
  dsimp only at *
  k_steps
  unfold Halt
  (rename Fr _ _ _ _ => F5)
  (rename News _ _ _ _ => N5)
  try dsimp only
  have N6 := cb_drop (news := (G1, W.listOf [.str y0 v0, .str y1 v1, .str y2 v2].toArray 0) :: (I, oI) :: (C, oC) :: (DD, _) :: ((LL, W.listOf [.ref G1, .ref G2, .ref JD].toArray 0) :: (G2, W.listOf [.str z0 v3, .str z1 v4, .str z2 v5].toArray 0) :: (G1, W.listOf [.str y0 v0, .str y1 v1, .str y2 v2].toArray 0) :: (JD, W.listOf jv.toArray 9) :: (L + 1 + 1 + 1 + 1 + 1, w4) :: (L + 1 + 1 + 1 + 1, w3) :: (L + 1, w0) :: rest)) N5 (List.forall_mem_cons.mpr ⟨by k_mem, fun q hq => hq⟩)
  k_dflt (refine' rests_use (three_strs _ _ _ _ _ _) hy (by simp) hp ?B F5 X N6 T ?hk ?hd ?hu ?_)
  case B => k_asm
  case hk => rfl
  case hd => ktr_room
  case hu => ktr_units
  k_whole
  clear F5 N5 N6
  intro R1 rs1 q1 h7 tk7 ri1 F7 N7 lt1
  try dsimp only
  refine end_new2 F7 (cb_drop N7 (fun q hq => (by
    rcases List.mem_cons.mp hq with rfl | hq
    · exact .head _
    · exact .tail _ (.tail _ hq)))) off (off1_of2 fun q hq => Nat.ne_of_lt (lt1 q (.tail _ hq))) (Or.inr ⟨_, by k_mem, rfl, _, rfl⟩) ?_
  clear F7 N7 off
  refine LCg.CompRest.succ ?_
  intro v I oI C oC DD m₂ h tk E' hv hC hx F N off ne
  simp only [List.getElem?_toArray, List.getElem?_cons_zero, List.getElem?_cons_succ, Option.some.injEq] at hv
  subst hv
  dsimp only at *
  k_steps
  unfold Halt
  (rename Fr _ _ _ _ => F5)
  (rename News _ _ _ _ => N5)
  try dsimp only
  have N6 := cb_drop (news := (G2, W.listOf [.str z0 v3, .str z1 v4, .str z2 v5].toArray 0) :: (I, oI) :: (C, oC) :: (DD, _) :: ((R1, W.listOf rs1.toArray q1) :: (LL, W.listOf [.ref G1, .ref G2, .ref JD].toArray 0) :: (G2, W.listOf [.str z0 v3, .str z1 v4, .str z2 v5].toArray 0) :: (G1, W.listOf [.str y0 v0, .str y1 v1, .str y2 v2].toArray 0) :: (JD, W.listOf jv.toArray 9) :: (L + 1 + 1 + 1 + 1 + 1, w4) :: (L + 1 + 1 + 1 + 1, w3) :: (L + 1, w0) :: rest)) N5 (List.forall_mem_cons.mpr ⟨by k_mem, fun q hq => hq⟩)
  k_dflt (refine' rests_use (three_strs _ _ _ _ _ _) hz (by simp) hp ?B F5 X N6 T ?hk ?hd ?hu ?_)
  case B => k_asm
  case hk => rfl
  case hd => ktr_room
  case hu => ktr_units
  k_whole
  clear F5 N5 N6
  intro R2 rs2 q2 h7 tk7 ri2 F7 N7 lt2
  try dsimp only
  refine end_new2 F7 (cb_drop N7 (fun q hq => (by
    rcases List.mem_cons.mp hq with rfl | hq
    · exact .head _
    · exact .tail _ (.tail _ hq)))) off (off1_of2 fun q hq => Nat.ne_of_lt (lt2 q (.tail _ hq))) (Or.inr ⟨_, by k_mem, rfl, _, rfl⟩) ?_
  clear F7 N7 off
  refine LCg.CompRest.succ ?_
  intro v I oI C oC DD m₂ h tk E' hv hC hx F N off ne
  simp only [List.getElem?_toArray, List.getElem?_cons_zero, List.getElem?_cons_succ, Option.some.injEq] at hv
  subst hv
  dsimp only at *
  k_steps
  unfold Halt
  (rename Fr _ _ _ _ => F5)
  (rename News _ _ _ _ => N5)
  try dsimp only
  have N6 := cb_drop (news := (JD, W.listOf jv.toArray 9) :: (I, oI) :: (C, oC) :: (DD, _) :: ((R2, W.listOf rs2.toArray q2) :: (R1, W.listOf rs1.toArray q1) :: (LL, W.listOf [.ref G1, .ref G2, .ref JD].toArray 0) :: (G2, W.listOf [.str z0 v3, .str z1 v4, .str z2 v5].toArray 0) :: (G1, W.listOf [.str y0 v0, .str y1 v1, .str y2 v2].toArray 0) :: (JD, W.listOf jv.toArray 9) :: (L + 1 + 1 + 1 + 1 + 1, w4) :: (L + 1 + 1 + 1 + 1, w3) :: (L + 1, w0) :: rest)) N5 (List.forall_mem_cons.mpr ⟨by k_mem, fun q hq => hq⟩)
  k_dflt (refine' rests_use hj hjr (by omega) hp ?B F5 X N6 T ?hk ?hd ?hu ?_)
  case B => k_asm
  case hk => rfl
  case hd => ktr_room
  case hu => ktr_units
  k_whole
  clear F5 N5 N6
  intro R3 rs3 q3 h7 tk7 ri3 F7 N7 lt3
  try dsimp only
  refine end_new2 F7 (cb_drop N7 (fun q hq => (by
    rcases List.mem_cons.mp hq with rfl | hq
    · exact .head _
    · exact .tail _ (.tail _ hq)))) off (off1_of2 fun q hq => Nat.ne_of_lt (lt3 q (.tail _ hq))) (Or.inr ⟨_, by k_mem, rfl, _, rfl⟩) ?_
  clear F7 N7 off
  refine LCg.CompRest.zero ?_
  intro D9 h9 tk9 F9 N9 o9
  dsimp only [List.nil_append, List.cons_append] at N9 ⊢
  have n3 : ∀ {a : Addr} {its : Array Value} {n : Nat}, g.get? a = g.get? a → (a, W.listOf its n) ∈ ((R3, W.listOf rs3.toArray q3) :: (R2, W.listOf rs2.toArray q2) :: (R1, W.listOf rs1.toArray q1) :: (L + 1 + 1 + 1 + 1, w3) :: (L + 1 + 1 + 1 + 1 + 1, w4) :: rest) → @Ne Nat a (L + 1 + 1 + 1 + 1) := fun _ hm => nl_cell (cb_drop N9 (fun q hq => by
    simp only [List.mem_cons] at hq ⊢
    rcases hq with h | h | h | h | h | h <;> simp only [h, true_or, or_true])) e3 hm (by simp)
  have n4 : ∀ {a : Addr} {its : Array Value} {n : Nat}, g.get? a = g.get? a → (a, W.listOf its n) ∈ ((R3, W.listOf rs3.toArray q3) :: (R2, W.listOf rs2.toArray q2) :: (R1, W.listOf rs1.toArray q1) :: (L + 1 + 1 + 1 + 1, w3) :: (L + 1 + 1 + 1 + 1 + 1, w4) :: rest) → @Ne Nat a (L + 1 + 1 + 1 + 1 + 1) := fun _ hm => nl_cell (cb_drop N9 (fun q hq => by
    simp only [List.mem_cons] at hq ⊢
    rcases hq with h | h | h | h | h | h <;> simp only [h, true_or, or_true])) e4 hm (by simp)
  have m13 := n3 rfl (a := R1) (.tail _ (.tail _ (.head _)))
  have m23 := n3 rfl (a := R2) (.tail _ (.head _))
  have m33 := n3 rfl (a := R3) (.head _)
  have m14 := n4 rfl (a := R1) (.tail _ (.tail _ (.head _)))
  have m24 := n4 rfl (a := R2) (.tail _ (.head _))
  have m34 := n4 rfl (a := R3) (.head _)
  clear n3 n4
  k_steps
  (rename Fr _ _ _ _ => F10)
  (rename News _ _ _ _ => N10)
  have N11 := cb_drop (news := (L + 1 + 1 + 1 + 1, w3) :: (L + 1 + 1 + 1 + 1 + 1, w4) :: ((R3, W.listOf rs3.toArray q3) :: (R2, W.listOf rs2.toArray q2) :: (R1, W.listOf rs1.toArray q1) :: (L + 1, w0) :: rest)) N10 (fun q hq => by
    simp only [List.mem_cons] at hq ⊢
    rcases hq with h | h | h | h | h | h | h <;> simp only [h, true_or, or_true])
  clear N10
  refine store_cell F10 N11 (fun q hq => ?_) rfl e3 rfl rfl ?_
  · simp only [List.mem_cons] at hq
    rcases hq with rfl | rfl | rfl | rfl | rfl | hq
    · exact (show @Ne Nat (L + 1 + 1 + 1 + 1 + 1) (L + 1 + 1 + 1 + 1) by omega)
    · exact m33
    · exact m23
    · exact m13
    · exact (show @Ne Nat (L + 1) (L + 1 + 1 + 1 + 1) by omega)
    · exact nr3 q hq
  intro h11 w3' F11 N12 e3'
  try dsimp only
  (iterate 7 (walk_at "my_step"))
  (rename Fr _ _ _ _ => F15)
  (rename News _ _ _ _ => N15)
  (rename _ = Data.cell (some (Value.ref R2)) => e4')
  try dsimp only
  refine hnext _ _ _ R1 R2 R3 rs1 rs2 rs3 q1 q2 q3 w3' _ ri1 ri2 ri3 e3' e4' (Has.fr ⟨rfl, True.intro⟩ F15) (cb_drop N15 fun q hq => ?_)
  simp only [List.mem_cons] at hq ⊢
  rcases hq with h | h | h | h | h | h | h <;> simp only [h, true_or, or_true]

--<M
local macro_rules | `(tactic| walk_at "call builtin:sorted") => `(tactic| (k_here; (with_reducible refine Halt.mk ?_)))
local macro_rules | `(tactic| walk_at "eval SetComp") => `(tactic| (k_here; (with_reducible refine Halt.mk ?_)))
--M>
theorem mod_add (a b p : Nat) : ((a : Int) + (b : Int)).fmod (p : Int) = (((a + b) % p : Nat) : Int) := by
  rw [Int.fmod_eq_emod_of_nonneg _ (Int.natCast_nonneg p), ← Int.natCast_add, ← Int.natCast_emod]
theorem three_at {a0 a1 a2 : Nat} {t0 t1 t2 : Tok} {i : Nat} {v : Value} (h : (#[.int (a0 : Int) t0, .int (a1 : Int) t1, .int (a2 : Int) t2] : Array Value)[i]? = some v) : ∃ t, v = .int (([a0, a1, a2].getD i 0 : Nat) : Int) t := by
  match i, h with
  | 0, h => exact ⟨t0, by simpa using h.symm⟩
  | 1, h => exact ⟨t1, by simpa using h.symm⟩
  | 2, h => exact ⟨t2, by simpa using h.symm⟩
  | i + 3, h => simp at h
/-- all sums of a row's number and another row's, modulo p -/
noncomputable def sumF (p a0 a1 a2 b0 b1 b2 : Nat) (i j : Nat) : Nat := ([a0, a1, a2].getD i 0 + [b0, b1, b2].getD j 0) % p
set_option maxHeartbeats 8000000 in
theorem stage2I (w : World) (mean : ExcName → Option Value) (mg mb : Str → Option Value) (g : Heap) (L fa : Addr) (cd : Value) (st : List Stmt) (sc : Scope) (hst : st = lawSt 12) (hsc : sc = lawSc) (s : Shared) (Q : Flow → Shared → Prop) (E : Value → Shared → Prop)
    (X : (Mine.hd.heap_39 w.params).In g) (B : Below callerA g [] g) (T : Top topProg looseT mean mg mb g) (m : Env1) (R3 CL A0 A1 : Addr) (a0 a1 a2 b0 b1 b2 : Nat) (t0 t1 t2 t3 t4 t5 : Tok) (rs3 : List Value) (q3 : Nat) (ns3 : List Int) (hi3 : IntsAre rs3 ns3) (hl3 : ns3.length ≤ 11)
    (w0 w1 : Obj) (rest : Led) (p : Nat) (tp : Tok) (hp : p = 7 ∨ p = 11) (e0 : w0.data = .cell (some (.int (p : Int) tp))) (e1 : w1.data = .cell (some (.ref CL)))
    (hperm : ns3.Perm (canonS (allOf 3 3 (sumF p a0 a1 a2 b0 b1 b2))))
    (F : Fr g L s.heap (kstB m [(Str.ofString "sums", .ref R3)]))
    (N : News g L s.heap ((R3, W.listOf rs3.toArray q3) :: (CL, W.listOf [.ref A0, .ref A1].toArray 2) :: (A1, W.listOf [.int (b0 : Int) t3, .int (b1 : Int) t4, .int (b2 : Int) t5].toArray 0) :: (A0, W.listOf [.int (a0 : Int) t0, .int (a1 : Int) t1, .int (a2 : Int) t2].toArray 0) :: (L + 1 + 1, w1) :: (L + 1, w0) :: rest))
    (hnext : ∀ (h : Heap) (tk : Nat) (m : Env1), Fr g L h (kstB m [(Str.ofString "sums", .ref R3)]) →
      News g L h ((R3, W.listOf rs3.toArray q3) :: (CL, W.listOf [.ref A0, .ref A1].toArray 2) :: (A1, W.listOf [.int (b0 : Int) t3, .int (b1 : Int) t4, .int (b2 : Int) t5].toArray 0) :: (A0, W.listOf [.int (a0 : Int) t0, .int (a1 : Int) t1, .int (a2 : Int) t2].toArray 0) :: (L + 1 + 1, w1) :: (L + 1, w0) :: rest) →
      wpAny (model PySem.Challenge.rw_pg0243_02.row.prog w) (callerA.deeper (envOfC (Str.ofString "law") sc L fa cd)) (execs (lawSt 13) (envOfC (Str.ofString "law") sc L fa cd)) Q E { s with heap := h, toks := tk }) :
    wpAny (model PySem.Challenge.rw_pg0243_02.row.prog w) (callerA.deeper (envOfC (Str.ofString "law") sc L fa cd)) (execs st (envOfC (Str.ofString "law") sc L fa cd)) Q E s := by
  conv at hst => rhs; whnf
  conv at hsc => rhs; whnf
  subst hst hsc
  w_top off
  revert X; k_fill; intro X
  have mine_on : MineOn := True.intro
  have hp2 : 7 ≤ p ∧ p ≤ 11 := by omega
  k_steps
  unfold Halt
  refine kso_sorted (by k_asm) (by k_asm) (News.isList (by k_asm) (by k_mem)) hi3 (by omega) ?_
  intro D1 vs1 ns1 c1 h1 F1 N1 lt1 hi1 hl1 hp1 hw1 _
  have eS : ns1 = canonS (allOf 3 3 (sumF p a0 a1 a2 b0 b1 b2)) := lks_uniq (hp1.trans hperm) hw1 (canon_asc _)
  subst eS
  try dsimp only
  k_steps
  unfold Halt
  refine SetComp_2 (h₀ := g) (L := L) (m := kstB m [(Str.ofString "sums", .ref R3)]) (by with_unfolding_all rfl) (by decide) (by rfl) (by decide) (by rfl) (by rfl) (by decide) ?_
  k_steps
  (rename Fr _ _ _ _ => F2)
  (rename News _ _ _ _ => N2)
  have N3 : News g L _ ((D1, W.listOf vs1.toArray c1) :: (R3, W.listOf rs3.toArray q3) :: (CL, W.listOf [.ref A0, .ref A1].toArray 2) :: (A1, W.listOf [.int (b0 : Int) t3, .int (b1 : Int) t4, .int (b2 : Int) t5].toArray 0) :: (A0, W.listOf [.int (a0 : Int) t0, .int (a1 : Int) t1, .int (a2 : Int) t2].toArray 0) :: (L + 1 + 1, w1) :: (L + 1, w0) :: rest) := N2
  clear N N2
  refine ⟨A0, #[.int (a0 : Int) t0, .int (a1 : Int) t1, .int (a2 : Int) t2], 0, A1, #[.int (b0 : Int) t3, .int (b1 : Int) t4, .int (b2 : Int) t5], 0, _, sumF p a0 a1 a2 b0 b1 b2, rfl, rfl, F2, N3, by k_mem, by k_mem, (by decide : 3 * 3 ≤ 9), fun i j _ _ => Nat.lt_of_lt_of_le (Nat.mod_lt _ (by omega)) hp2.2, ?_, ?_, ?_⟩
  · intro i v I oI C oC D oD m₂ h tk E' hv hC hx F N
    clear N3 F2
    k_steps
  · intro i j v u I oI J oJ C oC D oD m₂ h tk E' hv hu hC hx hy F N
    clear N3 F2
    obtain ⟨tv, rfl⟩ := three_at hv
    obtain ⟨tu, rfl⟩ := three_at hu
    (iterate 7 (walk_at "my_step"))
    exact ⟨_, _, congrArg (fun z => Value.int z _) (mod_add _ _ p), rfl⟩
  · intro D oD h tk F N o1 hS
    clear N3 F2
    have hS' : SetO w oD (allOf 3 3 (sumF p a0 a1 a2 b0 b1 b2)) 9 := hS
    try dsimp only
    k_steps
    unfold Halt
    refine sorted_set rfl F N (.head _) hS' (by decide) ?_ ?_
    · intro e
      have : sumF p a0 a1 a2 b0 b1 b2 0 0 ∈ allOf 3 3 (sumF p a0 a1 a2 b0 b1 b2) := List.mem_flatMap.mpr ⟨0, by decide, List.mem_map.mpr ⟨0, by decide, rfl⟩⟩
      rw [e] at this
      cases this
    intro D2 h9 tk9 tt F9 N9 lt9
    try dsimp only
    k_steps
    unfold Halt
    refine ke_ne_ints (News.isList (by k_asm) (by k_mem)) (News.isList (by k_asm) (by k_mem)) hi1 (vals_are _ _ _) (by ke_room) ?_
    rw [decide_eq_true rfl, Bool.not_true]
    (iterate 1 (walk_at "my_step"))
    rw [if_neg Bool.false_ne_true]
    refine wpAny_execs_nil ?_
    try dsimp only
    (rename Fr _ _ _ _ => F20)
    (rename News _ _ _ _ => N20)
    exact hnext _ _ _ F20 (cb_drop N20 fun q hq => .tail _ (.tail _ (.tail _ hq)))

section
open LCg
variable {prog : Program} {w : World} {A : Around} {E : Value → Shared → Prop} {s : Shared} {h₀ : Heap} {L : Addr} {m : Str → Option Value} {env : Env}
theorem tests_one {M : Model} {A : Around} {E : Value → Shared → Prop} {s : Shared} {env : Env} {c : PySem.Expr} {Q : Bool → Shared → Prop} (h : wpAny M A (isTrue c env (eval c env)) Q E s) :
    wpAny M A (forIn [c] true fun c r => if r = true then do let ok ← isTrue c env (eval c env); pure (ForInStep.yield ok) else pure (ForInStep.yield r)) Q E s := by
  rw [List.forIn_cons]
  simp only [if_true]
  refine wpAny_bind (wpAny_bind (wpAny_mono h (fun ok s' q => wpAny_pure ?_) fun _ _ e => e))
  dsimp only
  rw [List.forIn_nil]
  exact wpAny_pure q
/-- a comprehension over a range with a test, that gives the numbers themselves -/
theorem block_I {iter tst : PySem.Expr} {x : Str} {px pe : Pos} {scope : Scope} {cl : List (Str × Addr)} {pos : Pos} {s₂ : Shared} {I : Addr} {a : Int} {n : Nat} {news : List (Addr × Obj)} {b : Nat → Bool} {RR : Value → Addr → Result → Shared → Prop}
    (hh : A.handled = none) (hsz : n ≤ sizeLine) (hcell : ∀ y ∈ scope.names, y.2 ≠ .cell) (hkind : scope.kind = .function) (hx : scope.names.lookup x = some .local) (hxd : (x == ("__debug__" : Str)) = false)
    (hst : IsRangeIter s₂.heap I (a + (0 : Nat) * 1) ((n : Int) - (0 : Nat)) 1)
    (F : Fr h₀ L s₂.heap m) (N : News h₀ L s₂.heap news) (hIL : L ≠ I) (hI₀ : h₀.get? I = none) (off : ∀ p ∈ news, p.1 ≠ I)
    (turn : ∀ i, i < n → ∀ t oI C oC D oD m₂ h tk (E' : Value → Shared → Prop), NsObj oC m₂ → m₂ x = some (.int (a + (i : Int)) t) → Fr h₀ L h m → News h₀ L h ((I, oI) :: (C, oC) :: (D, oD) :: news) → Off3 I C D news → ((@Ne Nat I C) ∧ (@Ne Nat I D) ∧ (@Ne Nat C D)) →
      wpAny (model prog w) A (isTrue tst (compEnvC scope cl C env) (eval tst (compEnvC scope cl C env))) (fun ok s' => ∃ h' tk', ok = b i ∧ s' = { s₂ with heap := h', toks := tk' } ∧ Fr h₀ L h' m ∧ News h₀ L h' ((I, oI) :: (C, oC) :: (D, oD) :: news)) E' { s₂ with heap := h, toks := tk })
    (hRR : ∀ D C h tk m' ys, Fr h₀ L h m → News h₀ L h ((D, lst ys) :: news) → Off1 D news → h.Ns C m' → h₀.get? C = none → C ≠ L → C ≠ D → (∀ p ∈ news, p.1 ≠ C) → IntsAre ys (((List.range n).filter b).map fun k : Nat => a + (k : Int)) → RR (.ref D) C (.ok .next) { s₂ with heap := h, toks := tk }) :
    wpAny (model prog w) A (newList []) (fun acc s₃ => wpAny (model prog w) A (newFunctionEnv scope env.globals cl [] env.qual none .none (some env)) (fun cenv s₄ =>
      codeAny (model prog w) A (.compStart (.ListComp (.Name x pe) [⟨.Name x px, iter, [tst], 0⟩] scope pos) 0 (.ref I) acc { cenv with scope := relabel scope env }) (RR acc cenv.locals) s₄) E s₃) E s₂ := by
  have W := range_walks (prog := prog) (w := w) (I := I) hh a n
  have hIlt : I < s₂.heap.objs.size := Heap.lt_size hst
  refine wpAny_newObj_type (wpAny_newFunctionEnv hcell (by intro y hy; simp at hy) (fun h₁ hns₁ hsb₁ => ?_) hkind)
  dsimp only at hns₁ hsb₁ ⊢
  generalize hH2 : s₂.heap.push { cls := .type "list", dict := none, data := .seq ([] : List Value).toArray } = H2 at hns₁ hsb₁ ⊢
  have hC : H2.objs.size = s₂.heap.objs.size + 1 := by rw [← hH2, Heap.size_push]
  have hDC : s₂.heap.objs.size ≠ H2.objs.size := by rw [hC]; exact Nat.ne_of_lt (Nat.lt_succ_self _)
  have below : ∀ b, b < s₂.heap.objs.size → b ≠ H2.objs.size ∧ b ≠ s₂.heap.objs.size := fun b hb => ⟨by rw [hC]; exact Nat.ne_of_lt (Nat.lt_succ_of_lt hb), Nat.ne_of_lt hb⟩
  have old : ∀ b o, s₂.heap.get? b = some o → h₁.get? b = some o := fun b o e => hsb₁.extBut b o (below b (Heap.lt_size e)).1 (Heap.get?_push_of_some _ (hH2 ▸ Heap.get?_push_of_some _ e))
  have hacc : h₁.get? s₂.heap.objs.size = some (lst []) := hsb₁.extBut _ _ hDC (Heap.get?_push_of_some _ (hH2 ▸ Heap.get?_push_size _ rfl))
  have hst₁ : IsRangeIter h₁ I (a + (0 : Nat) * 1) ((n : Int) - (0 : Nat)) 1 := old _ _ hst
  have fresh₀ : ∀ c, s₂.heap.objs.size ≤ c → h₀.get? c = none := fun c hc => by
    cases e : h₀.get? c with
    | none => rfl
    | some o' => exact absurd (Heap.lt_size (F.keep c o' e)) (Nat.not_lt.mpr hc)
  have hD₀ : h₀.get? s₂.heap.objs.size = none := fresh₀ _ (Nat.le_refl _)
  have hC₀ : h₀.get? H2.objs.size = none := fresh₀ _ (by rw [hC]; exact Nat.le_succ _)
  have hLlt : L < s₂.heap.objs.size := F.ns.lt
  have hDL : s₂.heap.objs.size ≠ L := Ne.symm (below L hLlt).2
  have hCL : H2.objs.size ≠ L := Ne.symm (below L hLlt).1
  have hCI : I ≠ H2.objs.size := (below I hIlt).1
  have hDI : I ≠ s₂.heap.objs.size := (below I hIlt).2
  have hnD : ∀ p ∈ news, p.1 ≠ s₂.heap.objs.size := fun p hp => (below _ (Heap.lt_size (N p hp).1)).2
  have hnC : ∀ p ∈ news, p.1 ≠ H2.objs.size := fun p hp => (below _ (Heap.lt_size (N p hp).1)).1
  have off₀ : Off3 I H2.objs.size s₂.heap.objs.size news := Off3.of fun p hp => ⟨off p hp, hnC p hp, hnD p hp⟩
  have F1 := F.keeps old
  have N1 : News h₀ L h₁ ((s₂.heap.objs.size, lst []) :: news) := fun p hp => by
    rcases List.mem_cons.mp hp with rfl | hp
    · exact ⟨hacc, hDL, hD₀⟩
    · exact ⟨old _ _ (N p hp).1, (N p hp).2⟩
  have tk0 : s₂.toks + ([] : List (Str × Value)).length = s₂.toks := rfl
  rw [tk0]
  clear hacc old below fresh₀ hsb₁ hC hH2 hIlt hst N F
  generalize H2.objs.size = C at *
  generalize s₂.heap.objs.size = D at *
  have loop : codeAny (model prog w) A (.compLoop (.ListComp (.Name x pe) [⟨.Name x px, iter, [tst], 0⟩] scope pos) 0 (.ref I) (.ref D) (compEnvC scope cl C env)) (RR (.ref D) C) { s₂ with heap := h₁ } := by
    refine codeAny_compLoop_tests
      (fun k s' => ∃ h' tk i ys m', s' = { s₂ with heap := h', toks := tk } ∧ i ≤ n ∧ k = n + 1 - i ∧ IntsAre ys (((List.range i).filter b).map fun k : Nat => a + (k : Int)) ∧ IsRangeIter h' I (a + (i : Nat) * 1) ((n : Int) - (i : Nat)) 1 ∧ Fr h₀ L h' m ∧ h'.Ns C m' ∧ News h₀ L h' ((D, lst ys) :: news)) ?_ (n + 1)
      ⟨h₁, s₂.toks, 0, [], _, rfl, Nat.zero_le _, rfl, .nil, hst₁, F1, hns₁, N1⟩
    rintro k s' ⟨h', tk, i, ys, m', rfl, hi, rfl, hyl, hst', F', hn', N'⟩
    by_cases hlt : i < n
    · refine W.item i _ _ _ hlt hst' fun v h₂ tk₂ hPv hst₂ hk₂ => ?_
      obtain ⟨t, rfl⟩ := hPv
      refine wpAny_assign_Name (wpAny_storeName_local (lookup_relabel_local hx) (hn'.at' fun o e => hk₂ _ o (by simpa using Ne.symm hCI) e) (fun h₃ hn₃ hs₃ => ?_) (by simp [compEnvC, relabel, hkind]))
      have hst₃ : IsRangeIter h₃ I (a + ((i + 1 : Nat) : Int) * 1) ((n : Int) - ((i + 1 : Nat) : Int)) 1 := hs₃.extBut _ _ hCI hst₂
      obtain ⟨oC, heC, hoC⟩ := ns_obj hn₃
      have F₃ : Fr h₀ L h₃ m := (fr_but F' hk₂ hIL hI₀).change hs₃ hCL hC₀
      have N₂ : News h₀ L h₂ ((D, lst ys) :: news) := news_but N' hk₂ fun p hp => by
        rcases List.mem_cons.mp hp with rfl | hp
        · exact Ne.symm hDI
        · exact off p hp
      have N₃ : News h₀ L h₃ ((I, _) :: (C, oC) :: (D, lst ys) :: news) := fun p hp => by
        rcases List.mem_cons.mp hp with rfl | hp
        · exact ⟨hst₃, Ne.symm hIL, hI₀⟩
        rcases List.mem_cons.mp hp with rfl | hp
        · exact ⟨heC, hCL, hC₀⟩
        · have z := N₂ p hp
          refine ⟨hs₃.extBut _ _ ?_ z.1, z.2⟩
          rcases List.mem_cons.mp hp with rfl | hp
          · exact hDC
          · exact hnC p hp
      refine tests_one (wpAny_mono (turn i hlt t _ C oC D (lst ys) _ h₃ _ _ hoC (by simp) F₃ N₃ off₀ ⟨hCI, hDI, Ne.symm hDC⟩) (fun ok s₄ h₄ => ?_) fun _ _ e => e)
      obtain ⟨h₄, tk₄, rfl, rfl, F₄, N₄⟩ := h₄
      have zI := (N₄ _ (.head _)).1
      have zC := (N₄ (C, oC) (.tail _ (.head _))).1
      have zD := (N₄ (D, lst ys) (.tail _ (.tail _ (.head _)))).1
      have N₅ : News h₀ L h₄ ((D, lst ys) :: news) := fun p hp => N₄ p (.tail _ (.tail _ hp))
      have hr : ((List.range (i + 1)).filter b).map (fun k : Nat => a + (k : Int)) = ((List.range i).filter b).map (fun k : Nat => a + (k : Int)) ++ (if b i then [a + (i : Int)] else []) := by
        rw [List.range_succ, List.filter_append, List.map_append]
        cases hb : b i <;> simp [hb]
      cases hb : b i with
      | false =>
        rw [if_neg Bool.false_ne_true]
        refine ⟨n + 1 - (i + 1), by omega, h₄, tk₄, i + 1, ys, _, rfl, hlt, rfl, ?_, zI, F₄, hoC.ns zC, N₅⟩
        rw [hr, hb, if_neg Bool.false_ne_true, List.append_nil]
        exact hyl
      | true =>
        rw [if_pos rfl]
        refine ldVarK (hoC.ns zC) (v := .int (a + (i : Int)) t) (by simp) ?_ (by simp [compEnvC, relabel, hkind]) (lookup_relabel_local hx) hxd
        have hyn : ys.length ≤ n := by
          rw [hyl.length, List.length_map]
          exact Nat.le_trans (List.length_filter_le ..) (by rw [List.length_range]; exact hi)
        refine append_at (hsz := by show ys.toArray.size ≤ sizeLine; rw [List.size_toArray]; exact Nat.le_trans hyn hsz) zD fun h₅ hs₅ hD₅ => ?_
        refine ⟨n + 1 - (i + 1), by omega, h₅, tk₄, i + 1, ys ++ [.int (a + (i : Int)) t], _, rfl, hlt, rfl, ?_, hs₅.extBut _ _ hDI zI, F₄.change hs₅ hDL hD₀, (hoC.ns zC).sameBut hs₅ (Ne.symm hDC), fun p hp => ?_⟩
        · rw [hr, hb, if_pos rfl]
          exact PyProof.Rows.IntsAre.append hyl (.cons _ _ .nil)
        · rcases List.mem_cons.mp hp with rfl | hp
          · exact ⟨hD₅.trans (congrArg some (lst_snoc ys _)), hDL, hD₀⟩
          · have z := N₅ p (.tail _ hp)
            exact ⟨hs₅.extBut _ _ (hnD p hp) z.1, z.2⟩
    · obtain rfl : i = n := Nat.le_antisymm hi (Nat.not_lt.mp hlt)
      refine W.done _ _ _ hst' fun h₂ tk₂ hk₂ => ?_
      exact hRR D C h₂ tk₂ _ ys (fr_but F' hk₂ hIL hI₀) (news_but N' hk₂ fun p hp => by
        rcases List.mem_cons.mp hp with rfl | hp
        · exact Ne.symm hDI
        · exact off p hp) off₀.one (hn'.at' fun o e => hk₂ _ o (by simpa using Ne.symm hCI) e) hC₀ hCL (Ne.symm hDC) hnC hyl
  exact codeAny_compStart_list loop (W.self 0 _ _ _ hst₁ loop)
/-- what is to be shown where the range stands -/
noncomputable def SrcI (prog : Program) (w : World) (A : Around) (h₀ : Heap) (L : Addr) (m : Str → Option Value) (env : Env) (tst : PySem.Expr) (x y : Str) (scope : Scope) (cl : List (Str × Addr)) (Q : Flow → Shared → Prop) (xv : Value) (s₁ : Shared) : Prop :=
  ∃ (r : Addr) (a e : Int) (t u v : Tok) (n : Nat) (news : List (Addr × Obj)) (b : Nat → Bool), xv = .ref r ∧ A.handled = none ∧ Fr h₀ L s₁.heap m ∧ News h₀ L s₁.heap news ∧ IsRange s₁.heap r a e 1 t u v ∧ Builtin.Range.small a e 1 = true ∧ Builtin.Range.rangeSize a e 1 = ((n : Nat) : Int) ∧ n ≤ sizeLine ∧
    (∀ (i : Nat), i < n → ∀ (t : Tok) (I : Addr) (oI : Obj) (C : Addr) (oC : Obj) (D : Addr) (oD : Obj) (m₂ : Str → Option Value) (h : Heap) (tk : Nat) (E' : Value → Shared → Prop), NsObj oC m₂ → m₂ x = some (.int (a + (i : Int)) t) → Fr h₀ L h m → News h₀ L h ((I, oI) :: (C, oC) :: (D, oD) :: news) → Off3 I C D news → ((@Ne Nat I C) ∧ (@Ne Nat I D) ∧ (@Ne Nat C D)) →
      wpAny (model prog w) A (isTrue tst (compEnvC scope cl C env) (eval tst (compEnvC scope cl C env))) (fun ok s' => ∃ h' tk', ok = b i ∧ s' = { s₁ with heap := h', toks := tk' } ∧ Fr h₀ L h' m ∧ News h₀ L h' ((I, oI) :: (C, oC) :: (D, oD) :: news)) E' { s₁ with heap := h, toks := tk }) ∧
    (∀ D h tk ys, IntsAre ys (((List.range n).filter b).map fun k : Nat => a + (k : Int)) → Fr h₀ L h (fun z => if z = y then some (.ref D) else m z) → News h₀ L h ((D, lst ys) :: news) → Off1 D news → Q .next { s₁ with heap := h, toks := tk })
theorem Assign_ListComp_I {iter tst : PySem.Expr} {x y : Str} {px pe py : Pos} {scope : Scope} {cl : List (Str × Addr)} {pos spos : Pos} {Q : Flow → Shared → Prop} (_F₀ : Fr h₀ L s.heap m) (hLe : env.locals = L)
    (hsw : swapsWith (.ListComp (.Name x pe) [⟨.Name x px, iter, [tst], 0⟩] scope pos) (some (.Name y py)) spos.line env = pure true)
    (hclos : closureFor scope env = pure cl) (hcell : ∀ z ∈ scope.names, z.2 ≠ .cell) (hkind : scope.kind = .function)
    (hnames : ∀ z ∈ scope.names, z.2 = .local → scope.names.lookup z.1 = some .local) (hx : scope.names.lookup x = some .local) (hxd : (x == ("__debug__" : Str)) = false)
    (hy : env.kindOf y = some .local) (hp : (env.scope.kind == .class || (env.scope.kind == .module && env.locals != env.globals)) = false)
    (h : wpAny (model prog w) A (eval iter env) (SrcI prog w A h₀ L m env tst x y scope cl Q) E s)
    (hs : ∀ z, foldedSetIterable iter env z = pure z := by intro _; rfl) :
    wpAny (model prog w) A (exec (.Assign [.Name y py] (.ListComp (.Name x pe) [⟨.Name x px, iter, [tst], 0⟩] scope pos) spos) env) Q E s := by
  subst hLe
  rw [exec_Assign_Name_used _ _ _ _ hsw]
  refine wpAny_bind (wpAny_standAt (wpAny_bind ?_))
  show wpAny _ A (do let _ ← comprehension (.ListComp (.Name x pe) [⟨.Name x px, iter, [tst], 0⟩] scope pos) scope env _ (newList []) false (eval iter env) (some (assign (.Name y py) env))) _ _ s
  refine wpAny_bind (wpAny_mono (wpAny_comprehension_free (use := some (assign (.Name y py) env)) (Q := fun _ s' => Q .next s') rfl hs hclos hkind hnames
    (wpAny_mono h (fun xv s₁ h₁ => ?_) fun _ _ e => e)) (fun _ s' hq => wpAny_pure (wpAny_pure hq)) fun _ _ e => e)
  obtain ⟨r, a, e, t, u, v, n, news, b, rfl, hh, F, N, hr, hsm, hn, hsz, turn, fin⟩ := h₁
  refine wpAny_pyIter_range hr hsm ?_
  refine block_I (b := b) (I := s₁.heap.objs.size) hh hsz hcell hkind hx hxd (by show IsRangeIter _ _ _ _ _; rw [hn]; simpa using Heap.get?_push_size _ rfl)
    (F.keeps fun _ _ e => Heap.get?_push_of_some _ e) (N.grown fun _ _ e => Heap.get?_push_of_some _ e) (Nat.ne_of_lt F.ns.lt) (next_is_new F) (fun p hp => Nat.ne_of_lt (Heap.lt_size (N p hp).1))
    (fun i hi t oI C oC D oD m₂ h tk E' h1 h2 h3 h4 h5 h6 => turn i hi t _ oI C oC D oD m₂ h tk E' h1 h2 h3 h4 h5 h6) ?_
  intro D C h' tk m' ys F' N' o1 hn hC₀ hCL hCD offC hI
  show wpAny _ A (assign (.Name y py) env (.ref D)) _ _ _
  refine wpAny_assign_Name (wpAny_storeName_local hy F'.ns (fun h₂ hn₂ hs₂ => ?_) hp)
  have hL₀ : h₀.get? env.locals = none := Heap.get?_none_of_le F'.above
  have F₂ : Fr h₀ env.locals h₂ (fun z => if z = y then some (.ref D) else m z) := ⟨hn₂, fun b o e => hs₂.extBut b o (fun q => by rw [q, hL₀] at e; cases e) (F'.keep b o e), F'.above⟩
  refine ⟨m', hn.sameBut hs₂ hCL, fun h'' hs'' => fin D h'' _ ys hI (F₂.change hs'' hCL hC₀) (fun p hp => ?_) o1⟩
  have z : h₂.get? p.1 = some p.2 := hs₂.extBut _ _ (N' p hp).2.1 (N' p hp).1
  refine ⟨hs''.extBut _ _ ?_ z, (N' p hp).2⟩
  rcases List.mem_cons.mp hp with rfl | hp
  · exact Ne.symm hCD
  · exact offC p hp
end

section
variable {w : World} {mean : ExcName → Option Value} {mg mb : Str → Option Value} {dp un : Nat} {gd : Option (List Code)} {cn : Str} {cs : Scope} {a : Addr} {ccd : Value} {cl : List (Str × Addr)} {outer : List Env} {A₀ : Around} {base h₀ : Heap} {L : Addr} {m : Str → Option Value} {s : Shared} {Q E : Value → Shared → Prop} {news : Led}
theorem beside_use {R : Addr} {rs : List Value} {ns : List Int} {ep p step : Nat} {tp ts : Tok} (hi : IntsAre rs ns) (hlen : ns.length ≤ 3) (hlen0 : 1 ≤ ns.length) (hp : p = 7 ∨ p = 11) (hs : 1 ≤ step ∧ step ≤ 5) (B : Below A₀ base outer h₀) (F : Fr h₀ L s.heap m) (X : (Mine.hd.heap_39 w.params).In h₀)
    (N : News h₀ L s.heap ((R, W.listOf rs.toArray ep) :: news)) (T : Top topProg looseT mean mg mb h₀) (hk : cs.kind = .function) (hd : dp + 6 < recursionLimit) (hu : un + 8 * 6 < cLine)
    (hret : ∀ (h' : Heap) (tk' : Nat), Fr h₀ L h' m → News h₀ L h' ((R, W.listOf rs.toArray ep) :: news) → Q (.bool (besideOf ns p step)) { s with heap := h', toks := tk' }) :
    wpAny (model PySem.Challenge.rw_pg0243_02.row.prog w) (ktrTop dp un gd cn cs L a ccd cl outer) (call (.ref 155) [.ref R, .int (p : Int) tp, .int (step : Int) ts]) Q E s :=
  beside_claim w mean mg mb news R rs ns ep hi hlen hlen0 p tp hp step ts hs dp un gd cn cs a ccd cl outer A₀ base h₀ L m s Q E B F X N T hk hd hu (by
    rintro v news' h' tk' F' N' ⟨rfl, rfl⟩
    exact hret h' tk' F' N')
end
--<M
local macro_rules | `(tactic| walk_at "call ref") => `(tactic| (k_here; (with_reducible refine gdr 155 ?_); (with_reducible refine Halt.mk ?_)))
local macro_rules | `(tactic| walk_at "SrcI") => `(tactic| (with_reducible refine Halt.mk ?_))
local macro_rules | `(tactic| walk_at "exec Assign cons ListComp") => `(tactic| (k_here; (with_reducible refine Halt.mk ?_)))
--M>
/-- the steps by which both sets stand side by side -/
noncomputable def stepsOf (p : Nat) (ns1 ns2 : List Int) : List Nat := (List.range (p / 2)).filter fun i => besideOf ns1 p (1 + i) && besideOf ns2 p (1 + i)
set_option maxHeartbeats 8000000 in
theorem stage2J (w : World) (mean : ExcName → Option Value) (mg mb : Str → Option Value) (g : Heap) (L fa : Addr) (cd : Value) (st : List Stmt) (sc : Scope) (hst : st = lawSt 13) (hsc : sc = lawSc) (s : Shared) (Q : Flow → Shared → Prop)
    (X : (Mine.hd.heap_39 w.params).In g) (B : Below callerA g [] g) (T : Top topProg looseT mean mg mb g) (m : Env1) (R1 R2 R3 : Addr) (rs1 rs2 rs3 : List Value) (q1 q2 q3 : Nat) (ns1 ns2 ns3 : List Int) (hi1 : IntsAre rs1 ns1) (hi2 : IntsAre rs2 ns2) (hi3 : IntsAre rs3 ns3)
    (k1 : ns1.length ≤ 3) (k2 : ns2.length ≤ 3) (k3 : ns3.length ≤ 11) (j1 : 1 ≤ ns1.length) (j2 : 1 ≤ ns2.length)
    (w0 w3 w4 : Obj) (rest : Led) (ps : Array Value) (hps : (138, tabObj ps) ∈ rest) (p : Nat) (tp : Tok) (hp : p = 7 ∨ p = 11) (e0 : w0.data = .cell (some (.int (p : Int) tp))) (e3 : w3.data = .cell (some (.ref R1))) (e4 : w4.data = .cell (some (.ref R2)))
    (law1 : ns1.length + ns2.length ≤ ns3.length + 1) (law2 : (ns3.length + 1 = ns1.length + ns2.length) ↔ stepsOf p ns1 ns2 ≠ [])
    (F : Fr g L s.heap (kstB m [(Str.ofString "sums", .ref R3)]))
    (N : News g L s.heap ((R3, W.listOf rs3.toArray q3) :: (R2, W.listOf rs2.toArray q2) :: (R1, W.listOf rs1.toArray q1) :: (L + 1 + 1 + 1 + 1 + 1, w4) :: (L + 1 + 1 + 1 + 1, w3) :: (L + 1, w0) :: rest))
    (hret : ∀ (h : Heap) (tk : Nat) (m : Env1) (news : Led), Fr g L h m → News g L h news → (138, tabObj ps) ∈ news → Q (.ret (.bool true)) { s with heap := h, toks := tk }) :
    wpAny (model PySem.Challenge.rw_pg0243_02.row.prog w) (callerA.deeper (envOfC (Str.ofString "law") sc L fa cd)) (execs st (envOfC (Str.ofString "law") sc L fa cd)) Q (fun _ _ => False) s := by
  conv at hst => rhs; whnf
  conv at hsc => rhs; whnf
  subst hst hsc
  w_top off
  revert X; k_fill; intro X
  have mine_on : MineOn := True.intro
  have hp2 : 7 ≤ p ∧ p ≤ 11 := by omega
  have l1 := hi1.length
  have l2 := hi2.length
  have l3 := hi3.length
  k_steps
  unfold Halt
  k_dflt (refine Assign_ListComp_I (h₀ := g) (L := L) (by k_asm) (by rfl) (by with_unfolding_all rfl) (by with_unfolding_all rfl) (by decide) (by rfl) (by decide) (by rfl) (by decide) (by rfl) (by rfl) ?_)
  have ediv : (p : Int).fdiv 2 + 1 = ((p / 2 + 1 : Nat) : Int) := by rcases hp with rfl | rfl <;> rfl
  k_steps
  unfold Halt
  refine ⟨_, 1, (p : Int).fdiv 2 + 1, _, _, _, p / 2, _, fun i => besideOf ns1 p (1 + i) && besideOf ns2 p (1 + i), rfl, rfl, by k_asm, by k_asm, by assumption, (by rcases hp with rfl | rfl <;> decide), (by rcases hp with rfl | rfl <;> rfl), (by rcases hp with rfl | rfl <;> exact Nat.le_of_ble_eq_true rfl), ?_, ?_⟩
  · intro i hi t I oI C oC D oD m₂ h tk E' hC hx F N off ne
    dsimp only at *
    have his : 1 ≤ 1 + i ∧ 1 + i ≤ 5 := by omega
    rw [show (1 : Int) + (i : Int) = ((1 + i : Nat) : Int) by omega] at hx
    have back : ∀ {h' : Heap} {nw : Led}, News g L h' nw → (∀ q ∈ ((I, oI) :: (C, oC) :: (D, oD) :: (R3, W.listOf rs3.toArray q3) :: (R2, W.listOf rs2.toArray q2) :: (R1, W.listOf rs1.toArray q1) :: (L + 1 + 1 + 1 + 1 + 1, w4) :: (L + 1 + 1 + 1 + 1, w3) :: (L + 1, w0) :: rest), q ∈ nw) → News g L h' ((I, oI) :: (C, oC) :: (D, oD) :: (R3, W.listOf rs3.toArray q3) :: (R2, W.listOf rs2.toArray q2) :: (R1, W.listOf rs1.toArray q1) :: (L + 1 + 1 + 1 + 1 + 1, w4) :: (L + 1 + 1 + 1 + 1, w3) :: (L + 1, w0) :: rest) := fun N6 h6 => cb_drop N6 h6
    k_steps
    unfold Halt
    (rename Fr _ _ _ _ => F2)
    (rename News _ _ _ _ => N2)
    have N3 := cb_drop (news := ((R1, W.listOf rs1.toArray q1) :: (I, oI) :: (C, oC) :: (D, oD) :: (R3, W.listOf rs3.toArray q3) :: (R2, W.listOf rs2.toArray q2) :: (L + 1 + 1 + 1 + 1 + 1, w4) :: (L + 1 + 1 + 1 + 1, w3) :: (L + 1, w0) :: rest)) N2 (fun q hq => by
      simp only [List.mem_cons] at hq ⊢
      rcases hq with h | h | h | h | h | h | h | h | h | h <;> simp only [h, true_or, or_true])
    k_dflt (refine' beside_use (step := 1 + i) hi1 k1 j1 hp his ?B F2 X N3 T ?hk ?hd ?hu ?_)
    case B => k_asm
    case hk => rfl
    case hd => ktr_room
    case hu => ktr_units
    clear F2 N2 N3
    intro h5 tk5 F5 N5
    try dsimp only
    cases hb1 : besideOf ns1 p (1 + i) with
    | false =>
      k_steps
      all_goals first | (rw [hb1]; rfl) | exact F5 | exact back N5 (fun q hq => by
          simp only [List.mem_cons] at hq ⊢
          rcases hq with h | h | h | h | h | h | h | h | h | h <;> simp only [h, true_or, or_true])
    | true =>
      k_steps
      unfold Halt
      have N6 := cb_drop (news := ((R2, W.listOf rs2.toArray q2) :: (I, oI) :: (C, oC) :: (D, oD) :: (R3, W.listOf rs3.toArray q3) :: (R1, W.listOf rs1.toArray q1) :: (L + 1 + 1 + 1 + 1 + 1, w4) :: (L + 1 + 1 + 1 + 1, w3) :: (L + 1, w0) :: rest)) N5 (fun q hq => by
        simp only [List.mem_cons] at hq ⊢
        rcases hq with h | h | h | h | h | h | h | h | h | h <;> simp only [h, true_or, or_true])
      k_dflt (refine' beside_use (step := 1 + i) hi2 k2 j2 hp his ?B F5 X N6 T ?hk ?hd ?hu ?_)
      case B => k_asm
      case hk => rfl
      case hd => ktr_room
      case hu => ktr_units
      clear F5 N5 N6
      intro h7 tk7 F7 N7
      try dsimp only
      cases hb2 : besideOf ns2 p (1 + i)
      all_goals k_steps
      all_goals first | (rw [hb1, hb2]; rfl) | exact F7 | exact back N7 (fun q hq => by
          simp only [List.mem_cons] at hq ⊢
          rcases hq with h | h | h | h | h | h | h | h | h | h <;> simp only [h, true_or, or_true])
  · intro D h tk ys hys F N o1
    dsimp only at *
    k_steps
    unfold Halt
    refine ke_ne_ints (News.isList (by k_asm) (by k_mem)) (News.isList (by k_asm) (by k_mem)) hys .nil (by ke_room) ?_
    have hz : ((ns3.length : Int) - (ns1.length : Int) - (ns2.length : Int) + 1 == 0) = !decide (((List.range (p / 2)).filter fun i => besideOf ns1 p (1 + i) && besideOf ns2 p (1 + i)).map (fun k : Nat => (1 : Int) + (k : Int)) = []) := by
      rw [Bool.eq_iff_iff, Bool.not_eq_true', decide_eq_false_iff_not, beq_iff_eq, List.map_eq_nil_iff]
      refine Iff.trans ?_ law2
      omega
    rw [← hz]
    generalize ((ns3.length : Int) - (ns1.length : Int) - (ns2.length : Int) + 1 == 0) = z at *
    clear hz
    (rename Fr _ _ _ _ => F20)
    (rename News _ _ _ _ => N20)
    have hm : ∀ (q : Addr × Obj), q ∈ rest → ∀ a1 a2 a3 a4 a5 a6 a7 a8 : Addr × Obj, q ∈ a1 :: a2 :: a3 :: a4 :: a5 :: a6 :: a7 :: a8 :: rest := fun q hq _ _ _ _ _ _ _ _ => .tail _ (.tail _ (.tail _ (.tail _ (.tail _ (.tail _ (.tail _ (.tail _ hq)))))))
    cases z with
    | false =>
      k_steps
      exact hret _ _ _ _ F20 N20 (hm _ hps _ _ _ _ _ _ _ _)
    | true =>
      k_steps
      exact hret _ _ _ _ F20 N20 (hm _ hps _ _ _ _ _ _ _ _)

theorem sg_mk (l : List Nat) : sg (⟨l.toArray⟩ : Str) = l := by simp
theorem app_cons (tok : Str) (c : Nat) (l : List Nat) : (tok ++ (⟨#[c]⟩ : Str)) ++ (⟨l.toArray⟩ : Str) = tok ++ (⟨(c :: l).toArray⟩ : Str) := by
  apply str_ext
  rw [sg_append, sg_append, sg_append, sg_mk, sg_mk]
  simp
theorem quo_run : ∀ (l : List Nat) (tok : Str) (rest : List Nat), (∀ c ∈ l, c = 32 ∨ c = 9) → lexRun .quo tok (l ++ 34 :: rest) = (tok ++ (⟨l.toArray⟩ : Str), rest)
  | [], tok, rest, _ => by
    show (if (34 : Nat) = 34 then (tok, rest) else _) = _
    rw [if_pos rfl]
    exact congrArg (·, rest) (app_empty tok).symm
  | c :: l, tok, rest, h => by
    have hc := h c (.head _)
    show (if c = 34 then _ else if c = 92 then _ else lexRun .quo (tok ++ ⟨#[c]⟩) (l ++ 34 :: rest)) = _
    rw [if_neg (by omega), if_neg (by omega), quo_run l _ rest fun d hd => h d (.tail _ hd), app_cons]
theorem empty_app (x : Str) : Str.empty ++ x = x := by
  apply str_ext
  rw [sg_append]; rfl

theorem sg_bl (n : Nat) : sg (bl n) = List.replicate n 32 := by
  unfold bl
  rw [sg_blank, Int.toNat_natCast]
theorem bl_app (a b : Nat) : sg (bl a ++ bl b) = List.replicate (a + b) 32 := by
  rw [sg_append, sg_bl, sg_bl, List.replicate_append_replicate]
theorem rows3 {a b c : Nat} (ha : a ≤ 60) (hb : b ≤ 60) (hc : c ≤ 60) : RowsAre [bl a, bl b, bl c] [a, b, c] := .cons (sg_bl a) ha (.cons (sg_bl b) hb (.cons (sg_bl c) hc .nil))
theorem rows9 {a0 a1 a2 b0 b1 b2 : Nat} (h0 : a0 ≤ 30) (h1 : a1 ≤ 30) (h2 : a2 ≤ 30) (h3 : b0 ≤ 30) (h4 : b1 ≤ 30) (h5 : b2 ≤ 30) :
    RowsAre [bl a0 ++ bl b0, bl a0 ++ bl b1, bl a0 ++ bl b2, bl a1 ++ bl b0, bl a1 ++ bl b1, bl a1 ++ bl b2, bl a2 ++ bl b0, bl a2 ++ bl b1, bl a2 ++ bl b2] [a0 + b0, a0 + b1, a0 + b2, a1 + b0, a1 + b1, a1 + b2, a2 + b0, a2 + b1, a2 + b2] := by
  repeat' refine RowsAre.cons (bl_app _ _) (by omega) ?_
  exact .nil
theorem sg_quo (n : Nat) : sg (quo n) = 34 :: (List.replicate n 32 ++ [34]) := by
  unfold quo
  rw [sg_append, sg_append, sg_bl]
  have e : sg (Str.ofString "\"") = [34] := by decide
  rw [e]; rfl
theorem lex_quo (n : Nat) (r : List Nat) : lexRun .out Str.empty (34 :: (List.replicate n 32 ++ 34 :: r)) = (bl n, r) := by
  show (if isWs 34 = true then _ else if (34 : Nat) = 34 then lexRun .quo Str.empty (List.replicate n 32 ++ 34 :: r) else _) = _
  rw [if_neg (by decide), if_pos rfl, quo_run _ _ _ (fun c hc => Or.inl (List.eq_of_mem_replicate hc)), empty_app, str_ext (x := ⟨(List.replicate n 32).toArray⟩) (y := bl n) (by rw [sg_mk, sg_bl])]
/-- a blank and a row between quotation marks -/
noncomputable def bq (n : Nat) : List Nat := 32 :: 34 :: (List.replicate n 32 ++ [34])
theorem lex_bq (n : Nat) (r : List Nat) : lexRun .out Str.empty (bq n ++ r) = (bl n, r) := by
  have e : bq n ++ r = 32 :: 34 :: (List.replicate n 32 ++ 34 :: r) := by unfold bq; simp
  rw [e]
  show (if isWs 32 = true then lexRun .out Str.empty (34 :: (List.replicate n 32 ++ 34 :: r)) else _) = _
  rw [if_pos (by decide)]
  exact lex_quo n r
theorem bq_len {n : Nat} (h : n ≤ 60) : (bq n).length ≤ 63 := by
  unfold bq; simp; omega
theorem lex_text6 {a0 a1 a2 b0 b1 b2 : Nat} (h0 : a0 ≤ 60) (h1 : a1 ≤ 60) (h2 : a2 ≤ 60) (h3 : b0 ≤ 60) (h4 : b1 ≤ 60) (h5 : b2 ≤ 60) :
    ∃ c1 c2 c3 c4 c5 c6, lexRun .out Str.empty (sg (text6 a0 a1 a2 b0 b1 b2)) = (bl a0, c1) ∧ lexRun .out Str.empty c1 = (bl a1, c2) ∧ lexRun .out Str.empty c2 = (bl a2, c3) ∧ lexRun .out Str.empty c3 = (bl b0, c4) ∧ lexRun .out Str.empty c4 = (bl b1, c5) ∧ lexRun .out Str.empty c5 = (bl b2, c6) ∧
      c1.length < 1000 ∧ c2.length < 1000 ∧ c3.length < 1000 ∧ c4.length < 1000 ∧ c5.length < 1000 := by
  have e : sg (text6 a0 a1 a2 b0 b1 b2) = 34 :: (List.replicate a0 32 ++ 34 :: (bq a1 ++ (bq a2 ++ (bq b0 ++ (bq b1 ++ (bq b2 ++ [])))))) := by
    unfold text6 bq
    rw [sg_join]
    have e1 : sg (Str.ofString " ") = [32] := by decide
    simp only [List.flatMap_cons, List.flatMap_nil, sg_quo, e1]
    simp
  have l1 := bq_len h1
  have l2 := bq_len h2
  have l3 := bq_len h3
  have l4 := bq_len h4
  have l5 := bq_len h5
  refine ⟨_, _, _, _, _, _, by rw [e]; exact lex_quo _ _, lex_bq _ _, lex_bq _ _, lex_bq _ _, lex_bq _ _, lex_bq _ _, ?_, ?_, ?_, ?_, ?_⟩
  all_goals simp only [List.length_append, List.length_nil]
  all_goals omega

section
open PySem.StrLaws PySem.Builtin PySem.Builtin.Str
theorem ell_end (got : Str) (p : Nat) (hp : p ≤ got.length) : ellRun got [Str.empty] p = true := by
  show (match Builtin.Str.occurrences got Str.empty p got.length 1 with | [] => false | i :: _ => ellRun got [] (i + Str.empty.length)) = true
  rcases occ_head_from got Str.empty p 1 (Nat.le_refl _) with ⟨_, hn⟩ | ⟨i, q, h, _⟩
  · refine absurd ⟨?_, ?_⟩ (hn p (Nat.le_refl _))
    · show p + 0 ≤ got.length; omega
    · rw [subAt_eq]; show ((got.cps.toList.drop p).take 0 == []) = true; rfl
  · rw [h]; rfl
theorem ell_begin (got : Str) (r : List Str) : ellRun got (Str.empty :: r) 0 = ellRun got r 0 := by
  show (match Builtin.Str.occurrences got Str.empty 0 got.length 1 with | [] => false | i :: _ => ellRun got r (i + Str.empty.length)) = _
  have h0 : StrLaws.At got Str.empty got.length 0 := ⟨Nat.zero_le _, by rw [subAt_eq]; show ((got.cps.toList.drop 0).take 0 == []) = true; rfl⟩
  rcases occ_head_from got Str.empty 0 1 (Nat.le_refl _) with ⟨_, hn⟩ | ⟨i, q, h, _, _, hn⟩
  · exact absurd h0 (hn 0 (Nat.le_refl _))
  · rw [h]
    have : i = 0 := by
      rcases Nat.eq_zero_or_pos i with h | h
      · exact h
      · exact absurd h0 (hn 0 (Nat.le_refl _) h)
    subst this
    rfl
theorem ell_one (got W : Str) : ellRun got (Str.empty :: ([W] ++ [Str.empty])) 0 = true ↔ ∃ i, i + W.length ≤ got.length ∧ ((sg got).drop i).take W.length = sg W := by
  rw [ell_begin]
  have key : ∀ i, StrLaws.At got W got.length i ↔ (i + W.length ≤ got.length ∧ ((sg got).drop i).take W.length = sg W) := fun i => by
    unfold StrLaws.At
    rw [subAt_eq]
    exact and_congr Iff.rfl beq_iff_eq
  show (match Builtin.Str.occurrences got W 0 got.length 1 with | [] => false | i :: _ => ellRun got [Str.empty] (i + W.length)) = true ↔ _
  rcases occ_head_from got W 0 1 (Nat.le_refl _) with ⟨h, hn⟩ | ⟨i, q, h, _, hi, _⟩
  · rw [h]
    refine ⟨fun e => absurd e Bool.false_ne_true, ?_⟩
    rintro ⟨i, hi⟩
    exact absurd ((key i).mpr hi) (hn i (Nat.zero_le _))
  · rw [h]
    exact ⟨fun _ => ⟨i, (key i).mp hi⟩, fun _ => ell_end got _ hi.1⟩
end
/-- a mark's sign -/
noncomputable def markB (ns : List Int) (p step k : Nat) : Bool := ns.any (· == ((k * step % p : Nat) : Int))
theorem markB_mod (ns : List Int) (p step k : Nat) : markB ns p step (k % p) = markB ns p step k := by
  unfold markB
  rw [show k % p * step % p = k * step % p by rw [Nat.mul_mod, Nat.mod_mod, ← Nat.mul_mod]]
theorem sg_marks (ns : List Int) (p step : Nat) : sg (marksOf ns p step) = (List.range p).map fun k => if markB ns p step k = true then 120 else 45 := by
  unfold marksOf
  rw [sg_join0, List.flatMap_map, List.map_eq_flatMap]
  congr 1
  funext k
  unfold markOf markB
  split <;> decide
theorem ring_at (ns : List Int) (p step j : Nat) (hj : j < p + p) : (sg (marksOf ns p step ++ marksOf ns p step))[j]? = some (if markB ns p step j = true then 120 else 45) := by
  rw [sg_append, sg_marks]
  rcases Nat.lt_or_ge j p with h | h
  · rw [List.getElem?_append_left (by simpa using h), List.getElem?_map, List.getElem?_range h]; rfl
  · rw [List.getElem?_append_right (by simpa using h), List.length_map, List.length_range, List.getElem?_map, List.getElem?_range (by omega)]
    show some (if markB ns p step (j - p) = true then 120 else 45) = some _
    rw [← markB_mod ns p step j, ← markB_mod ns p step (j - p), show (j - p) % p = j % p from (Nat.mod_eq_sub_mod h).symm]
theorem beside_iff (ns : List Int) (p step : Nat) : besideOf ns p step = true ↔ ∃ i, i + ns.length ≤ p + p ∧ ∀ k, k < ns.length → markB ns p step (i + k) = true := by
  unfold besideOf
  rw [ell_one]
  have hW : sg (Txt.mul (Str.ofString "x") (ns.length : Int)) = List.replicate ns.length 120 := by
    rw [sg_mul_one (y := Str.ofString "x") (c := 120) (by decide), Int.toNat_natCast]
  have hl : (Txt.mul (Str.ofString "x") (ns.length : Int)).length = ns.length := by rw [← sg_length, hW, List.length_replicate]
  have hg : (marksOf ns p step ++ marksOf ns p step).length = p + p := by rw [← sg_length, sg_append, List.length_append, sg_length, marks_len]
  rw [hl, hW, hg]
  refine exists_congr fun i => and_congr_right fun hi => ?_
  constructor
  · intro e k hk
    have h1 : (((sg (marksOf ns p step ++ marksOf ns p step)).drop i).take ns.length)[k]? = some 120 := by rw [e, List.getElem?_replicate_of_lt hk]
    rw [List.getElem?_take_of_lt hk, List.getElem?_drop, ring_at _ _ _ _ (by omega)] at h1
    by_cases hb : markB ns p step (i + k) = true
    · exact hb
    · rw [if_neg hb] at h1; cases h1
  · intro h
    refine List.ext_getElem? fun k => ?_
    by_cases hk : k < ns.length
    · rw [List.getElem?_take_of_lt hk, List.getElem?_drop, ring_at _ _ _ _ (by omega), List.getElem?_replicate_of_lt hk, if_pos (h k hk)]
    · rw [List.getElem?_eq_none (by rw [List.length_take]; omega), List.getElem?_eq_none (by rw [List.length_replicate]; omega)]
/-- the numbers of a mask -/
noncomputable def listM (m : Nat) : List Int := ((List.range 11).filter fun k => m.testBit k).map fun k : Nat => (k : Int)
noncomputable def maskL (ks : List Nat) : Nat := ks.foldr (fun k m => 2 ^ k ||| m) 0
theorem mask_bit : ∀ (ks : List Nat) (j : Nat), (maskL ks).testBit j = ks.contains j
  | [], j => by show (0 : Nat).testBit j = false; exact Nat.zero_testBit j
  | k :: ks, j => by
    show (2 ^ k ||| maskL ks).testBit j = _
    rw [Nat.testBit_or, Nat.testBit_two_pow, mask_bit ks j, List.contains_cons]
    congr 1
    rw [Bool.eq_iff_iff, decide_eq_true_iff, beq_iff_eq]
    exact eq_comm
theorem canon_mask (ks : List Nat) : canonS ks = listM (maskL ks) := by
  unfold canonS listM
  congr 2
  funext k
  exact (mask_bit ks k).symm
theorem listM_any (m k : Nat) : (listM m).any (· == (k : Int)) = (decide (k < 11) && m.testBit k) := by
  rw [Bool.eq_iff_iff, List.any_eq_true, Bool.and_eq_true, decide_eq_true_iff]
  unfold listM
  constructor
  · rintro ⟨x, hx, e⟩
    obtain ⟨j, hj, rfl⟩ := List.mem_map.mp hx
    rw [List.mem_filter, List.mem_range] at hj
    have : j = k := by have := beq_iff_eq.mp e; omega
    subst this
    exact hj
  · rintro ⟨h1, h2⟩
    exact ⟨(k : Int), List.mem_map.mpr ⟨k, List.mem_filter.mpr ⟨List.mem_range.mpr h1, h2⟩, rfl⟩, beq_self_eq_true _⟩
theorem any_perm {l l' : List Int} (h : l.Perm l') (f : Int → Bool) : l.any f = l'.any f := by
  rw [Bool.eq_iff_iff, List.any_eq_true, List.any_eq_true]
  exact exists_congr fun x => and_congr_left fun _ => h.mem_iff
/-- do a mask's numbers stand side by side on the ring -/
noncomputable def besideM (m n p step : Nat) : Bool := (List.range (p + p + 1 - n)).any fun i => (List.range n).all fun k => m.testBit ((i + k) * step % p)
theorem beside_mask {ns : List Int} {m p step : Nat} (h : ns.Perm (listM m)) (hp : 0 < p ∧ p ≤ 11) (hn : ns.length ≤ 3) (hp7 : 7 ≤ p) : besideOf ns p step = besideM m ns.length p step := by
  have hb : ∀ k, markB ns p step k = m.testBit (k * step % p) := fun k => by
    unfold markB
    rw [any_perm h, listM_any, decide_eq_true (Nat.lt_of_lt_of_le (Nat.mod_lt _ hp.1) hp.2), Bool.true_and]
  rw [Bool.eq_iff_iff, beside_iff]
  unfold besideM
  rw [List.any_eq_true]
  constructor
  · rintro ⟨i, hi, h⟩
    exact ⟨i, List.mem_range.mpr (by omega), List.all_eq_true.mpr fun k hk => by rw [← hb]; exact h k (List.mem_range.mp hk)⟩
  · rintro ⟨i, hi, h⟩
    exact ⟨i, by have := List.mem_range.mp hi; omega, fun k hk => by rw [hb]; exact List.all_eq_true.mp h k (List.mem_range.mpr hk)⟩
theorem rests_spec (p : Nat) : ∀ (cs : List Nat) (l : List Nat), l.Nodup → ∃ l' : List Nat, cs.foldl (restStep p) (l.map fun k : Nat => (k : Int)) = l'.map (fun k : Nat => (k : Int)) ∧ l'.Nodup ∧ ∀ k, k ∈ l' ↔ k ∈ l ∨ k ∈ cs.map (· % p)
  | [], l, hl => ⟨l, rfl, hl, fun k => by simp⟩
  | c :: cs, l, hl => by
    rw [List.foldl_cons]
    have hm : (l.map fun k : Nat => (k : Int)).any (· == ((c % p : Nat) : Int)) = true ↔ c % p ∈ l := by
      rw [List.any_eq_true]
      constructor
      · rintro ⟨x, hx, e⟩
        obtain ⟨j, hj, rfl⟩ := List.mem_map.mp hx
        have : j = c % p := by have := beq_iff_eq.mp e; omega
        exact this ▸ hj
      · intro h
        exact ⟨_, List.mem_map.mpr ⟨_, h, rfl⟩, beq_self_eq_true _⟩
    unfold restStep
    by_cases h : c % p ∈ l
    · rw [if_pos (hm.mpr h)]
      obtain ⟨l', e, hn, hk⟩ := rests_spec p cs l hl
      refine ⟨l', e, hn, fun k => (hk k).trans ?_⟩
      rw [List.map_cons, List.mem_cons]
      constructor
      · rintro (h1 | h1)
        · exact .inl h1
        · exact .inr (.inr h1)
      · rintro (h1 | h1 | h1)
        · exact .inl h1
        · exact .inl (h1 ▸ h)
        · exact .inr h1
    · rw [if_neg fun q => h (hm.mp q)]
      have hl2 : (l ++ [c % p]).Nodup := List.nodup_append.mpr ⟨hl, by simp, fun a ha b hb => by rw [List.mem_singleton.mp hb]; exact fun e => h (e ▸ ha)⟩
      obtain ⟨l', e, hn, hk⟩ := rests_spec p cs (l ++ [c % p]) hl2
      rw [List.map_append] at e
      refine ⟨l', e, hn, fun k => (hk k).trans ?_⟩
      rw [List.map_cons, List.mem_cons, List.mem_append, List.mem_singleton, or_assoc]
theorem rests_perm {p : Nat} (hp : 0 < p ∧ p ≤ 11) (cs : List Nat) : (restsOf p cs).Perm (canonS (cs.map (· % p))) := by
  obtain ⟨l, e, hn, hk⟩ := rests_spec p cs [] List.nodup_nil
  unfold restsOf
  rw [show ([] : List Int) = ([] : List Nat).map fun k : Nat => (k : Int) from rfl, e]
  refine canon_perm hn (fun h hh => ?_) (fun k => ?_)
  · rcases (hk h).mp hh with h1 | h1
    · cases h1
    · obtain ⟨c, _, rfl⟩ := List.mem_map.mp h1
      exact Nat.lt_of_lt_of_le (Nat.mod_lt _ hp.1) hp.2
  · rw [hk k]
    exact ⟨fun h => h.resolve_left (List.not_mem_nil), .inr⟩

/-- a set of two or three numbers modulo p: its mask, the mask written twice, how many, the steps by which it stands side by side, p less each number -/
structure SetE where
  m : Nat
  d : Nat
  n : Nat
  s : Nat
  x : Nat
  y : Nat
  z : Nat
noncomputable def tabE7 : List SetE := [
  ⟨3, 387, 2, 1, 7, 6, 6⟩, ⟨5, 645, 2, 2, 7, 5, 5⟩, ⟨9, 1161, 2, 4, 7, 4, 4⟩, ⟨17, 2193, 2, 4, 7, 3, 3⟩, ⟨33, 4257, 2, 2, 7, 2, 2⟩, ⟨65, 8385, 2, 1, 7, 1, 1⟩, ⟨6, 774, 2, 1, 6, 5, 5⟩, ⟨10, 1290, 2, 2, 6, 4, 4⟩, ⟨18, 2322, 2, 4, 6, 3, 3⟩, ⟨34, 4386, 2, 4, 6, 2, 2⟩,
  ⟨66, 8514, 2, 2, 6, 1, 1⟩, ⟨12, 1548, 2, 1, 5, 4, 4⟩, ⟨20, 2580, 2, 2, 5, 3, 3⟩, ⟨36, 4644, 2, 4, 5, 2, 2⟩, ⟨68, 8772, 2, 4, 5, 1, 1⟩, ⟨24, 3096, 2, 1, 4, 3, 3⟩, ⟨40, 5160, 2, 2, 4, 2, 2⟩, ⟨72, 9288, 2, 4, 4, 1, 1⟩, ⟨48, 6192, 2, 1, 3, 2, 2⟩, ⟨80, 10320, 2, 2, 3, 1, 1⟩,
  ⟨96, 12384, 2, 1, 2, 1, 1⟩, ⟨7, 903, 3, 1, 7, 6, 5⟩, ⟨11, 1419, 3, 0, 7, 6, 4⟩, ⟨19, 2451, 3, 4, 7, 6, 3⟩, ⟨35, 4515, 3, 0, 7, 6, 2⟩, ⟨67, 8643, 3, 1, 7, 6, 1⟩, ⟨13, 1677, 3, 0, 7, 5, 4⟩, ⟨21, 2709, 3, 2, 7, 5, 3⟩, ⟨37, 4773, 3, 2, 7, 5, 2⟩, ⟨69, 8901, 3, 0, 7, 5, 1⟩,
  ⟨25, 3225, 3, 4, 7, 4, 3⟩, ⟨41, 5289, 3, 2, 7, 4, 2⟩, ⟨73, 9417, 3, 4, 7, 4, 1⟩, ⟨49, 6321, 3, 0, 7, 3, 2⟩, ⟨81, 10449, 3, 0, 7, 3, 1⟩, ⟨97, 12513, 3, 1, 7, 2, 1⟩, ⟨14, 1806, 3, 1, 6, 5, 4⟩, ⟨22, 2838, 3, 0, 6, 5, 3⟩, ⟨38, 4902, 3, 4, 6, 5, 2⟩, ⟨70, 9030, 3, 0, 6, 5, 1⟩,
  ⟨26, 3354, 3, 0, 6, 4, 3⟩, ⟨42, 5418, 3, 2, 6, 4, 2⟩, ⟨74, 9546, 3, 2, 6, 4, 1⟩, ⟨50, 6450, 3, 4, 6, 3, 2⟩, ⟨82, 10578, 3, 2, 6, 3, 1⟩, ⟨98, 12642, 3, 0, 6, 2, 1⟩, ⟨28, 3612, 3, 1, 5, 4, 3⟩, ⟨44, 5676, 3, 0, 5, 4, 2⟩, ⟨76, 9804, 3, 4, 5, 4, 1⟩, ⟨52, 6708, 3, 0, 5, 3, 2⟩,
  ⟨84, 10836, 3, 2, 5, 3, 1⟩, ⟨100, 12900, 3, 4, 5, 2, 1⟩, ⟨56, 7224, 3, 1, 4, 3, 2⟩, ⟨88, 11352, 3, 0, 4, 3, 1⟩, ⟨104, 13416, 3, 0, 4, 2, 1⟩, ⟨112, 14448, 3, 1, 3, 2, 1⟩]
noncomputable def tabE11 : List SetE := [
  ⟨3, 6147, 2, 1, 11, 10, 10⟩, ⟨5, 10245, 2, 2, 11, 9, 9⟩, ⟨9, 18441, 2, 4, 11, 8, 8⟩, ⟨17, 34833, 2, 8, 11, 7, 7⟩, ⟨33, 67617, 2, 16, 11, 6, 6⟩, ⟨65, 133185, 2, 16, 11, 5, 5⟩, ⟨129, 264321, 2, 8, 11, 4, 4⟩, ⟨257, 526593, 2, 4, 11, 3, 3⟩, ⟨513, 1051137, 2, 2, 11, 2, 2⟩, ⟨1025, 2100225, 2, 1, 11, 1, 1⟩,
  ⟨6, 12294, 2, 1, 10, 9, 9⟩, ⟨10, 20490, 2, 2, 10, 8, 8⟩, ⟨18, 36882, 2, 4, 10, 7, 7⟩, ⟨34, 69666, 2, 8, 10, 6, 6⟩, ⟨66, 135234, 2, 16, 10, 5, 5⟩, ⟨130, 266370, 2, 16, 10, 4, 4⟩, ⟨258, 528642, 2, 8, 10, 3, 3⟩, ⟨514, 1053186, 2, 4, 10, 2, 2⟩, ⟨1026, 2102274, 2, 2, 10, 1, 1⟩, ⟨12, 24588, 2, 1, 9, 8, 8⟩,
  ⟨20, 40980, 2, 2, 9, 7, 7⟩, ⟨36, 73764, 2, 4, 9, 6, 6⟩, ⟨68, 139332, 2, 8, 9, 5, 5⟩, ⟨132, 270468, 2, 16, 9, 4, 4⟩, ⟨260, 532740, 2, 16, 9, 3, 3⟩, ⟨516, 1057284, 2, 8, 9, 2, 2⟩, ⟨1028, 2106372, 2, 4, 9, 1, 1⟩, ⟨24, 49176, 2, 1, 8, 7, 7⟩, ⟨40, 81960, 2, 2, 8, 6, 6⟩, ⟨72, 147528, 2, 4, 8, 5, 5⟩,
  ⟨136, 278664, 2, 8, 8, 4, 4⟩, ⟨264, 540936, 2, 16, 8, 3, 3⟩, ⟨520, 1065480, 2, 16, 8, 2, 2⟩, ⟨1032, 2114568, 2, 8, 8, 1, 1⟩, ⟨48, 98352, 2, 1, 7, 6, 6⟩, ⟨80, 163920, 2, 2, 7, 5, 5⟩, ⟨144, 295056, 2, 4, 7, 4, 4⟩, ⟨272, 557328, 2, 8, 7, 3, 3⟩, ⟨528, 1081872, 2, 16, 7, 2, 2⟩, ⟨1040, 2130960, 2, 16, 7, 1, 1⟩,
  ⟨96, 196704, 2, 1, 6, 5, 5⟩, ⟨160, 327840, 2, 2, 6, 4, 4⟩, ⟨288, 590112, 2, 4, 6, 3, 3⟩, ⟨544, 1114656, 2, 8, 6, 2, 2⟩, ⟨1056, 2163744, 2, 16, 6, 1, 1⟩, ⟨192, 393408, 2, 1, 5, 4, 4⟩, ⟨320, 655680, 2, 2, 5, 3, 3⟩, ⟨576, 1180224, 2, 4, 5, 2, 2⟩, ⟨1088, 2229312, 2, 8, 5, 1, 1⟩, ⟨384, 786816, 2, 1, 4, 3, 3⟩,
  ⟨640, 1311360, 2, 2, 4, 2, 2⟩, ⟨1152, 2360448, 2, 4, 4, 1, 1⟩, ⟨768, 1573632, 2, 1, 3, 2, 2⟩, ⟨1280, 2622720, 2, 2, 3, 1, 1⟩, ⟨1536, 3147264, 2, 1, 2, 1, 1⟩, ⟨7, 14343, 3, 1, 11, 10, 9⟩, ⟨11, 22539, 3, 0, 11, 10, 8⟩, ⟨19, 38931, 3, 0, 11, 10, 7⟩, ⟨35, 71715, 3, 0, 11, 10, 6⟩, ⟨67, 137283, 3, 16, 11, 10, 5⟩,
  ⟨131, 268419, 3, 0, 11, 10, 4⟩, ⟨259, 530691, 3, 0, 11, 10, 3⟩, ⟨515, 1055235, 3, 0, 11, 10, 2⟩, ⟨1027, 2104323, 3, 1, 11, 10, 1⟩, ⟨13, 26637, 3, 0, 11, 9, 8⟩, ⟨21, 43029, 3, 2, 11, 9, 7⟩, ⟨37, 75813, 3, 0, 11, 9, 6⟩, ⟨69, 141381, 3, 0, 11, 9, 5⟩, ⟨133, 272517, 3, 0, 11, 9, 4⟩, ⟨261, 534789, 3, 0, 11, 9, 3⟩,
  ⟨517, 1059333, 3, 2, 11, 9, 2⟩, ⟨1029, 2108421, 3, 0, 11, 9, 1⟩, ⟨25, 51225, 3, 0, 11, 8, 7⟩, ⟨41, 84009, 3, 0, 11, 8, 6⟩, ⟨73, 149577, 3, 4, 11, 8, 5⟩, ⟨137, 280713, 3, 8, 11, 8, 4⟩, ⟨265, 542985, 3, 4, 11, 8, 3⟩, ⟨521, 1067529, 3, 0, 11, 8, 2⟩, ⟨1033, 2116617, 3, 0, 11, 8, 1⟩, ⟨49, 100401, 3, 0, 11, 7, 6⟩,
  ⟨81, 165969, 3, 0, 11, 7, 5⟩, ⟨145, 297105, 3, 8, 11, 7, 4⟩, ⟨273, 559377, 3, 8, 11, 7, 3⟩, ⟨529, 1083921, 3, 0, 11, 7, 2⟩, ⟨1041, 2133009, 3, 0, 11, 7, 1⟩, ⟨97, 198753, 3, 16, 11, 6, 5⟩, ⟨161, 329889, 3, 0, 11, 6, 4⟩, ⟨289, 592161, 3, 4, 11, 6, 3⟩, ⟨545, 1116705, 3, 0, 11, 6, 2⟩, ⟨1057, 2165793, 3, 16, 11, 6, 1⟩,
  ⟨193, 395457, 3, 0, 11, 5, 4⟩, ⟨321, 657729, 3, 0, 11, 5, 3⟩, ⟨577, 1182273, 3, 0, 11, 5, 2⟩, ⟨1089, 2231361, 3, 0, 11, 5, 1⟩, ⟨385, 788865, 3, 0, 11, 4, 3⟩, ⟨641, 1313409, 3, 2, 11, 4, 2⟩, ⟨1153, 2362497, 3, 0, 11, 4, 1⟩, ⟨769, 1575681, 3, 0, 11, 3, 2⟩, ⟨1281, 2624769, 3, 0, 11, 3, 1⟩, ⟨1537, 3149313, 3, 1, 11, 2, 1⟩,
  ⟨14, 28686, 3, 1, 10, 9, 8⟩, ⟨22, 45078, 3, 0, 10, 9, 7⟩, ⟨38, 77862, 3, 0, 10, 9, 6⟩, ⟨70, 143430, 3, 0, 10, 9, 5⟩, ⟨134, 274566, 3, 16, 10, 9, 4⟩, ⟨262, 536838, 3, 0, 10, 9, 3⟩, ⟨518, 1061382, 3, 0, 10, 9, 2⟩, ⟨1030, 2110470, 3, 0, 10, 9, 1⟩, ⟨26, 53274, 3, 0, 10, 8, 7⟩, ⟨42, 86058, 3, 2, 10, 8, 6⟩,
  ⟨74, 151626, 3, 0, 10, 8, 5⟩, ⟨138, 282762, 3, 0, 10, 8, 4⟩, ⟨266, 545034, 3, 0, 10, 8, 3⟩, ⟨522, 1069578, 3, 0, 10, 8, 2⟩, ⟨1034, 2118666, 3, 2, 10, 8, 1⟩, ⟨50, 102450, 3, 0, 10, 7, 6⟩, ⟨82, 168018, 3, 0, 10, 7, 5⟩, ⟨146, 299154, 3, 4, 10, 7, 4⟩, ⟨274, 561426, 3, 8, 10, 7, 3⟩, ⟨530, 1085970, 3, 4, 10, 7, 2⟩,
  ⟨1042, 2135058, 3, 0, 10, 7, 1⟩, ⟨98, 200802, 3, 0, 10, 6, 5⟩, ⟨162, 331938, 3, 0, 10, 6, 4⟩, ⟨290, 594210, 3, 8, 10, 6, 3⟩, ⟨546, 1118754, 3, 8, 10, 6, 2⟩, ⟨1058, 2167842, 3, 0, 10, 6, 1⟩, ⟨194, 397506, 3, 16, 10, 5, 4⟩, ⟨322, 659778, 3, 0, 10, 5, 3⟩, ⟨578, 1184322, 3, 4, 10, 5, 2⟩, ⟨1090, 2233410, 3, 0, 10, 5, 1⟩,
  ⟨386, 790914, 3, 0, 10, 4, 3⟩, ⟨642, 1315458, 3, 0, 10, 4, 2⟩, ⟨1154, 2364546, 3, 0, 10, 4, 1⟩, ⟨770, 1577730, 3, 0, 10, 3, 2⟩, ⟨1282, 2626818, 3, 2, 10, 3, 1⟩, ⟨1538, 3151362, 3, 0, 10, 2, 1⟩, ⟨28, 57372, 3, 1, 9, 8, 7⟩, ⟨44, 90156, 3, 0, 9, 8, 6⟩, ⟨76, 155724, 3, 0, 9, 8, 5⟩, ⟨140, 286860, 3, 0, 9, 8, 4⟩,
  ⟨268, 549132, 3, 16, 9, 8, 3⟩, ⟨524, 1073676, 3, 0, 9, 8, 2⟩, ⟨1036, 2122764, 3, 0, 9, 8, 1⟩, ⟨52, 106548, 3, 0, 9, 7, 6⟩, ⟨84, 172116, 3, 2, 9, 7, 5⟩, ⟨148, 303252, 3, 0, 9, 7, 4⟩, ⟨276, 565524, 3, 0, 9, 7, 3⟩, ⟨532, 1090068, 3, 0, 9, 7, 2⟩, ⟨1044, 2139156, 3, 0, 9, 7, 1⟩, ⟨100, 204900, 3, 0, 9, 6, 5⟩,
  ⟨164, 336036, 3, 0, 9, 6, 4⟩, ⟨292, 598308, 3, 4, 9, 6, 3⟩, ⟨548, 1122852, 3, 8, 9, 6, 2⟩, ⟨1060, 2171940, 3, 4, 9, 6, 1⟩, ⟨196, 401604, 3, 0, 9, 5, 4⟩, ⟨324, 663876, 3, 0, 9, 5, 3⟩, ⟨580, 1188420, 3, 8, 9, 5, 2⟩, ⟨1092, 2237508, 3, 8, 9, 5, 1⟩, ⟨388, 795012, 3, 16, 9, 4, 3⟩, ⟨644, 1319556, 3, 0, 9, 4, 2⟩,
  ⟨1156, 2368644, 3, 4, 9, 4, 1⟩, ⟨772, 1581828, 3, 0, 9, 3, 2⟩, ⟨1284, 2630916, 3, 0, 9, 3, 1⟩, ⟨1540, 3155460, 3, 0, 9, 2, 1⟩, ⟨56, 114744, 3, 1, 8, 7, 6⟩, ⟨88, 180312, 3, 0, 8, 7, 5⟩, ⟨152, 311448, 3, 0, 8, 7, 4⟩, ⟨280, 573720, 3, 0, 8, 7, 3⟩, ⟨536, 1098264, 3, 16, 8, 7, 2⟩, ⟨1048, 2147352, 3, 0, 8, 7, 1⟩,
  ⟨104, 213096, 3, 0, 8, 6, 5⟩, ⟨168, 344232, 3, 2, 8, 6, 4⟩, ⟨296, 606504, 3, 0, 8, 6, 3⟩, ⟨552, 1131048, 3, 0, 8, 6, 2⟩, ⟨1064, 2180136, 3, 0, 8, 6, 1⟩, ⟨200, 409800, 3, 0, 8, 5, 4⟩, ⟨328, 672072, 3, 0, 8, 5, 3⟩, ⟨584, 1196616, 3, 4, 8, 5, 2⟩, ⟨1096, 2245704, 3, 8, 8, 5, 1⟩, ⟨392, 803208, 3, 0, 8, 4, 3⟩,
  ⟨648, 1327752, 3, 0, 8, 4, 2⟩, ⟨1160, 2376840, 3, 8, 8, 4, 1⟩, ⟨776, 1590024, 3, 16, 8, 3, 2⟩, ⟨1288, 2639112, 3, 0, 8, 3, 1⟩, ⟨1544, 3163656, 3, 0, 8, 2, 1⟩, ⟨112, 229488, 3, 1, 7, 6, 5⟩, ⟨176, 360624, 3, 0, 7, 6, 4⟩, ⟨304, 622896, 3, 0, 7, 6, 3⟩, ⟨560, 1147440, 3, 0, 7, 6, 2⟩, ⟨1072, 2196528, 3, 16, 7, 6, 1⟩,
  ⟨208, 426192, 3, 0, 7, 5, 4⟩, ⟨336, 688464, 3, 2, 7, 5, 3⟩, ⟨592, 1213008, 3, 0, 7, 5, 2⟩, ⟨1104, 2262096, 3, 0, 7, 5, 1⟩, ⟨400, 819600, 3, 0, 7, 4, 3⟩, ⟨656, 1344144, 3, 0, 7, 4, 2⟩, ⟨1168, 2393232, 3, 4, 7, 4, 1⟩, ⟨784, 1606416, 3, 0, 7, 3, 2⟩, ⟨1296, 2655504, 3, 0, 7, 3, 1⟩, ⟨1552, 3180048, 3, 16, 7, 2, 1⟩,
  ⟨224, 458976, 3, 1, 6, 5, 4⟩, ⟨352, 721248, 3, 0, 6, 5, 3⟩, ⟨608, 1245792, 3, 0, 6, 5, 2⟩, ⟨1120, 2294880, 3, 0, 6, 5, 1⟩, ⟨416, 852384, 3, 0, 6, 4, 3⟩, ⟨672, 1376928, 3, 2, 6, 4, 2⟩, ⟨1184, 2426016, 3, 0, 6, 4, 1⟩, ⟨800, 1639200, 3, 0, 6, 3, 2⟩, ⟨1312, 2688288, 3, 0, 6, 3, 1⟩, ⟨1568, 3212832, 3, 0, 6, 2, 1⟩,
  ⟨448, 917952, 3, 1, 5, 4, 3⟩, ⟨704, 1442496, 3, 0, 5, 4, 2⟩, ⟨1216, 2491584, 3, 0, 5, 4, 1⟩, ⟨832, 1704768, 3, 0, 5, 3, 2⟩, ⟨1344, 2753856, 3, 2, 5, 3, 1⟩, ⟨1600, 3278400, 3, 0, 5, 2, 1⟩, ⟨896, 1835904, 3, 1, 4, 3, 2⟩, ⟨1408, 2884992, 3, 0, 4, 3, 1⟩, ⟨1664, 3409536, 3, 0, 4, 2, 1⟩, ⟨1792, 3671808, 3, 1, 3, 2, 1⟩]
noncomputable def popT : Nat := 795320469140779202151311016850927101913255280182790525201294867422336819127175727964858858868449172298169574566281489108691357223038644778497810866952147701804589590396389770875589977451052260561034806444787142958072004597530252092896352437902799601956141859851503119091676746352746550687330292888876454918785394198835809320806346716232633807922613264593511505629312203884784484454143995808451373266902814825262898765771124733019108979145611980473187630451835696453671368350824742366435900606539841079746216341031001033329164869039865179590262928548878882530409767126429936277824215245485767127750013705132987727435552572199550454882849386408902043108137075695552079547352912612471369082129526290177380719779579939905991771751746912452105102234384968138274994599026993899725506684339066346642132891811896714239191907132136284553692341082589807273787217158375049971073684241500918136417161058307391125818667862778863944455127518023434653837008293844840411045584270209116643760070053488634269708702954610557761874411534979488403638615916831763785679227762048929608516411097360814280903933542963372288932792429872403327411718928571739939842974575316440098188305713751047737500338906702926882946870404176134607485236478058021375675767483821827507271557405875255480585410240923350553426200516368122635136630391519342006695245620025668338972754381933810142786225533326103954354199204160000795216749198654753640598362266134352054632539240812937564362260783167343080686121469945907914711416320669422358258894213020568996952713338179327322506096496727675941051007800733360738807560919339040307930712470143564401040809113158401991568777029812055436371308538123689594148197900557717862944465827940172646486562529572109792881747814136071631987888038045792628010262264786237716230660903506073284625285026447191441775671239123753083788929774911180089968233116254362469645509636691811181216062413445353272600035987569741080180492380197411646325249302164390316093937489108374937307698136899982600895299957803150987367338036420037171652704791300661986600758032854865931293789212714426402424602492990958849737660665655254663320394476514371435641176048601915585653573488237026850933905421922665211930601841700204114676254080915982836353898427864194587277656310026539173699060841882894585330622493902478470638046010078334750569453627009927105675949960040076826587879246703706152030127851377160089716319207845613707170039654471293391757644879091139796606774841231133307312667257716416784
noncomputable def hasT7 : Nat := 5214401853277549848617272907562728
noncomputable def hasT11 : Nat := 279095111627852376407822673918065072906708122163311893103354461712884642205145271746619406379727286143846862682699445630381136427991442349177677620437713343335205621092115695984600254249244272204474846316728622208539721980696187189263721230234965960575983715985314604598984660462606416834636727916650877271759057005422768705386440454722386192436150539301460597925092832642869565230156120631079895544050088734686214715666671719378295935604685533651132020925796942432183560914029344937440456252872695149692263092786761594641633087733549137640

noncomputable def popN (z : Nat) : Nat := Nat.land (Nat.shiftRight popT (Nat.mul 4 z)) 15
noncomputable def entOk (p : Nat) (e : SetE) : Bool := Nat.blt e.m (2 ^ p) && (Nat.beq e.d (e.m ||| e.m <<< p) && ((listM e.m).length == e.n && (Nat.ble 1 e.n && (Nat.ble e.n 3 && (Nat.blt e.s (2 ^ (p / 2)) && (((List.range (p / 2)).all fun i => besideM e.m e.n p (1 + i) == e.s.testBit i) &&
  (Nat.ble 1 e.x && (Nat.ble e.x p && (Nat.ble 1 e.y && (Nat.ble e.y p && (Nat.ble 1 e.z && (Nat.ble e.z p && Nat.beq (maskL [p - e.x, p - e.y, p - e.z]) e.m))))))))))))
noncomputable def sumM (M : Nat) (e1 e2 : SetE) : Nat := Nat.mod (Nat.lor (Nat.shiftRight e2.d e1.x) (Nat.lor (Nat.shiftRight e2.d e1.y) (Nat.shiftRight e2.d e1.z))) M
noncomputable def pairOk (M : Nat) (e1 e2 : SetE) : Bool := cond (Nat.beq (Nat.land e1.s e2.s) 0) (Nat.ble (Nat.add e1.n e2.n) (popN (sumM M e1 e2))) (Nat.beq (Nat.succ (popN (sumM M e1 e2))) (Nat.add e1.n e2.n))
set_option maxRecDepth 1000000 in
theorem ents7 : (tabE7.all (entOk 7)) = true := by decide +kernel
set_option maxRecDepth 1000000 in
theorem ents11 : (tabE11.all (entOk 11)) = true := by decide +kernel
set_option maxRecDepth 1000000 in
theorem pairs7 : (tabE7.all fun e2 => tabE7.all fun e1 => pairOk 128 e1 e2) = true := by decide +kernel
set_option maxRecDepth 1000000 in
theorem pairs11 : (tabE11.all fun e2 => tabE11.all fun e1 => pairOk 2048 e1 e2) = true := by decide +kernel
set_option maxRecDepth 1000000 in
theorem pops : ((List.range 2048).all fun z => Nat.beq (listM z).length (popN z)) = true := by decide +kernel
noncomputable def tripOk (p T : Nat) : Bool := (List.range p).all fun x => (List.range p).all fun y => Nat.beq x y || (List.range p).all fun z => T.testBit (maskL [x, y, z])
set_option maxRecDepth 1000000 in
theorem trips : (tripOk 7 hasT7 && tripOk 11 hasT11 && Nat.beq hasT7 (maskL (tabE7.map (·.m))) && Nat.beq hasT11 (maskL (tabE11.map (·.m)))) = true := by decide +kernel
noncomputable def tabE (p : Nat) : List SetE := if p = 7 then tabE7 else tabE11
structure EntP (p : Nat) (e : SetE) : Prop where
  m : e.m < 2 ^ p
  d : e.d = e.m ||| e.m <<< p
  n : (listM e.m).length = e.n
  n1 : 1 ≤ e.n
  n3 : e.n ≤ 3
  s : e.s < 2 ^ (p / 2)
  b : ∀ i, i < p / 2 → besideM e.m e.n p (1 + i) = e.s.testBit i
  x : 1 ≤ e.x ∧ e.x ≤ p
  y : 1 ≤ e.y ∧ e.y ≤ p
  z : 1 ≤ e.z ∧ e.z ≤ p
  ms : maskL [p - e.x, p - e.y, p - e.z] = e.m
theorem EntP.of {p : Nat} {e : SetE} (h : entOk p e = true) : EntP p e := by
  unfold entOk at h
  simp only [Bool.and_eq_true, Nat.beq_eq, Nat.blt_eq, Nat.ble_eq, beq_iff_eq, List.all_eq_true] at h
  obtain ⟨h1, h2, h3, h4, h5, h6, h7, h8, h9, h10, h11, h12, h13, h14⟩ := h
  exact ⟨h1, h2, h3, h4, h5, h6, fun i hi => h7 i (List.mem_range.mpr hi), ⟨h8, h9⟩, ⟨h10, h11⟩, ⟨h12, h13⟩, h14⟩
theorem ent_ok {p : Nat} (hp : p = 7 ∨ p = 11) {e : SetE} (he : e ∈ tabE p) : EntP p e := by
  rcases hp with rfl | rfl
  · exact EntP.of (List.all_eq_true.mp ents7 e he)
  · exact EntP.of (List.all_eq_true.mp ents11 e he)
theorem pair_ok {p : Nat} (hp : p = 7 ∨ p = 11) {e1 e2 : SetE} (h1 : e1 ∈ tabE p) (h2 : e2 ∈ tabE p) : pairOk (2 ^ p) e1 e2 = true := by
  rcases hp with rfl | rfl
  · exact List.all_eq_true.mp (List.all_eq_true.mp pairs7 e2 h2) e1 h1
  · exact List.all_eq_true.mp (List.all_eq_true.mp pairs11 e2 h2) e1 h1
theorem pop_ok {z : Nat} (hz : z < 2048) : (listM z).length = popN z := Nat.eq_of_beq_eq_true (List.all_eq_true.mp pops z (List.mem_range.mpr hz))
theorem trip_has {p T : Nat} (h : tripOk p T = true) {x y z : Nat} (hx : x < p) (hy : y < p) (hz : z < p) (hne : x ≠ y) : T.testBit (maskL [x, y, z]) = true := by
  unfold tripOk at h
  have h1 := List.all_eq_true.mp (List.all_eq_true.mp h x (List.mem_range.mpr hx)) y (List.mem_range.mpr hy)
  rcases (Bool.or_eq_true _ _).mp h1 with h2 | h2
  · exact absurd (Nat.eq_of_beq_eq_true h2) hne
  · exact List.all_eq_true.mp h2 z (List.mem_range.mpr hz)
theorem ent_at {p : Nat} (hp : p = 7 ∨ p = 11) {x y z : Nat} (hx : x < p) (hy : y < p) (hz : z < p) (hne : x ≠ y) : ∃ e ∈ tabE p, e.m = maskL [x, y, z] := by
  have h := trips
  rw [Bool.and_eq_true, Bool.and_eq_true, Bool.and_eq_true] at h
  obtain ⟨⟨⟨t7, t11⟩, b7⟩, b11⟩ := h
  have key : ∀ {T : Nat} {l : List SetE}, T = maskL (l.map (·.m)) → T.testBit (maskL [x, y, z]) = true → ∃ e ∈ l, e.m = maskL [x, y, z] := by
    intro T l e h
    rw [e, mask_bit, List.contains_iff_mem] at h
    obtain ⟨e, he, e'⟩ := List.mem_map.mp h
    exact ⟨e, he, e'⟩
  rcases hp with rfl | rfl
  · exact key (Nat.eq_of_beq_eq_true b7) (trip_has t7 hx hy hz hne)
  · exact key (Nat.eq_of_beq_eq_true b11) (trip_has t11 hx hy hz hne)
theorem rot_bit {p q j d : Nat} {ys : List Nat} (hp : p = 7 ∨ p = 11) (hq : 1 ≤ q ∧ q ≤ p) (hj : j < p) (hd : d = maskL ys ||| maskL ys <<< p) (hy : ∀ y ∈ ys, y < p) : (d >>> q).testBit j = true ↔ ∃ y ∈ ys, (p - q + y) % p = j := by
  rw [Nat.testBit_shiftRight, hd, Nat.testBit_or, Nat.testBit_shiftLeft, mask_bit, mask_bit, Bool.or_eq_true, Bool.and_eq_true, decide_eq_true_iff, List.contains_iff_mem, List.contains_iff_mem]
  constructor
  · rintro (h | ⟨h0, h⟩)
    · refine ⟨_, h, ?_⟩
      have := hy _ h
      rcases hp with rfl | rfl <;> omega
    · refine ⟨_, h, ?_⟩
      have := hy _ h
      rcases hp with rfl | rfl <;> omega
  · rintro ⟨y, hm, e⟩
    have hl := hy y hm
    have : q + j = y ∨ (p ≤ q + j ∧ q + j - p = y) := by rcases hp with rfl | rfl <;> omega
    rcases this with h | ⟨h0, h⟩
    · exact .inl (h ▸ hm)
    · exact .inr ⟨h0, h ▸ hm⟩
/-- the mask of the sums -/
theorem sum_canon {p : Nat} (hp : p = 7 ∨ p = 11) {e1 e2 : SetE} (h1 : EntP p e1) (h2 : EntP p e2) {xs ys sums : List Nat} (hm1 : e1.m = maskL xs) (hm2 : e2.m = maskL ys) (hy : ∀ y ∈ ys, y < p) (hs : ∀ k, k ∈ sums ↔ ∃ x ∈ xs, ∃ y ∈ ys, (x + y) % p = k) :
    canonS sums = listM (sumM (2 ^ p) e1 e2) := by
  unfold canonS listM
  refine congrArg (List.map fun k : Nat => (k : Int)) (List.filter_congr fun k _ => ?_)
  have hp0 : 0 < p := by omega
  have hx : ∀ x, x ∈ xs ↔ x = p - e1.x ∨ x = p - e1.y ∨ x = p - e1.z := fun x => by
    rw [← List.contains_iff_mem, ← mask_bit, ← hm1, ← h1.ms, mask_bit, List.contains_iff_mem]
    simp only [List.mem_cons, List.not_mem_nil, or_false]
  have hd : e2.d = maskL ys ||| maskL ys <<< p := by rw [h2.d, hm2]
  show _ = (((e2.d >>> e1.x) ||| ((e2.d >>> e1.y) ||| (e2.d >>> e1.z))) % 2 ^ p).testBit k
  rw [Nat.testBit_mod_two_pow, Nat.testBit_or, Nat.testBit_or, Bool.eq_iff_iff, List.contains_iff_mem, hs, Bool.and_eq_true, decide_eq_true_iff, Bool.or_eq_true, Bool.or_eq_true]
  constructor
  · rintro ⟨x, hxm, y, hym, e⟩
    have hk : k < p := e ▸ Nat.mod_lt _ hp0
    refine ⟨hk, ?_⟩
    rcases (hx x).mp hxm with rfl | rfl | rfl
    · exact .inl ((rot_bit hp h1.x hk hd hy).mpr ⟨y, hym, e⟩)
    · exact .inr (.inl ((rot_bit hp h1.y hk hd hy).mpr ⟨y, hym, e⟩))
    · exact .inr (.inr ((rot_bit hp h1.z hk hd hy).mpr ⟨y, hym, e⟩))
  · rintro ⟨hk, h | h | h⟩
    · obtain ⟨y, hym, e⟩ := (rot_bit hp h1.x hk hd hy).mp h
      exact ⟨_, (hx _).mpr (.inl rfl), y, hym, e⟩
    · obtain ⟨y, hym, e⟩ := (rot_bit hp h1.y hk hd hy).mp h
      exact ⟨_, (hx _).mpr (.inr (.inl rfl)), y, hym, e⟩
    · obtain ⟨y, hym, e⟩ := (rot_bit hp h1.z hk hd hy).mp h
      exact ⟨_, (hx _).mpr (.inr (.inr rfl)), y, hym, e⟩
theorem steps_bits {p : Nat} {ns1 ns2 : List Int} {s1 s2 : Nat} (l1 : s1 < 2 ^ (p / 2)) (b1 : ∀ i, i < p / 2 → besideOf ns1 p (1 + i) = s1.testBit i) (b2 : ∀ i, i < p / 2 → besideOf ns2 p (1 + i) = s2.testBit i) :
    stepsOf p ns1 ns2 ≠ [] ↔ Nat.land s1 s2 ≠ 0 := by
  refine not_congr ?_
  unfold stepsOf
  rw [List.filter_eq_nil_iff]
  constructor
  · intro h
    refine Nat.eq_of_testBit_eq fun i => ?_
    show (s1 &&& s2).testBit i = _
    rw [Nat.testBit_and, Nat.zero_testBit]
    by_cases hi : i < p / 2
    · have := h i (List.mem_range.mpr hi)
      rw [b1 i hi, b2 i hi, Bool.not_eq_true] at this
      exact this
    · rw [Nat.testBit_lt_two_pow (Nat.lt_of_lt_of_le l1 (Nat.pow_le_pow_right (by decide) (by omega))), Bool.false_and]
  · intro h i hi
    have hi := List.mem_range.mp hi
    rw [b1 i hi, b2 i hi, ← Nat.testBit_and, show s1 &&& s2 = 0 from h, Nat.zero_testBit]
    exact Bool.false_ne_true
structure Plain2 (p a0 a1 a2 b0 b1 b2 : Nat) (js : List Nat) : Prop where
  perm : (restsOf p js).Perm (canonS (allOf 3 3 (sumF p a0 a1 a2 b0 b1 b2)))
  k1 : (restsOf p [a0, a1, a2]).length ≤ 3
  k2 : (restsOf p [b0, b1, b2]).length ≤ 3
  k3 : (restsOf p js).length ≤ 11
  j1 : 1 ≤ (restsOf p [a0, a1, a2]).length
  j2 : 1 ≤ (restsOf p [b0, b1, b2]).length
  law1 : (restsOf p [a0, a1, a2]).length + (restsOf p [b0, b1, b2]).length ≤ (restsOf p js).length + 1
  law2 : ((restsOf p js).length + 1 = (restsOf p [a0, a1, a2]).length + (restsOf p [b0, b1, b2]).length) ↔ stepsOf p (restsOf p [a0, a1, a2]) (restsOf p [b0, b1, b2]) ≠ []
theorem set_facts {p : Nat} (hp : p = 7 ∨ p = 11) {a0 a1 a2 : Nat} (ha : a0 % p ≠ a1 % p) : ∃ e, e ∈ tabE p ∧ EntP p e ∧ e.m = maskL [a0 % p, a1 % p, a2 % p] ∧ (restsOf p [a0, a1, a2]).length = e.n ∧ ∀ i, i < p / 2 → besideOf (restsOf p [a0, a1, a2]) p (1 + i) = e.s.testBit i := by
  have hp0 : 0 < p := by omega
  obtain ⟨e, he, hm⟩ := ent_at hp (Nat.mod_lt a0 hp0) (Nat.mod_lt a1 hp0) (Nat.mod_lt a2 hp0) ha
  have E := ent_ok hp he
  have hq : (restsOf p [a0, a1, a2]).Perm (listM e.m) := by
    rw [hm, ← canon_mask]
    exact rests_perm ⟨hp0, by omega⟩ _
  have hl : (restsOf p [a0, a1, a2]).length = e.n := hq.length_eq.trans E.n
  refine ⟨e, he, E, hm, hl, fun i hi => ?_⟩
  rw [beside_mask hq ⟨hp0, by omega⟩ (by rw [hl]; exact E.n3) (by omega), hl]
  exact E.b i hi
theorem plain2 {p a0 a1 a2 b0 b1 b2 : Nat} (hp : p = 7 ∨ p = 11) (ha : a0 % p ≠ a1 % p) (hb : b0 % p ≠ b1 % p) : Plain2 p a0 a1 a2 b0 b1 b2 [a0 + b0, a0 + b1, a0 + b2, a1 + b0, a1 + b1, a1 + b2, a2 + b0, a2 + b1, a2 + b2] := by
  have hp0 : 0 < p := by omega
  have hpm : (restsOf p [a0 + b0, a0 + b1, a0 + b2, a1 + b0, a1 + b1, a1 + b2, a2 + b0, a2 + b1, a2 + b2]).Perm (canonS (allOf 3 3 (sumF p a0 a1 a2 b0 b1 b2))) := rests_perm ⟨hp0, by omega⟩ _
  obtain ⟨e1, h1, E1, m1, n1, s1⟩ := set_facts (a2 := a2) hp ha
  obtain ⟨e2, h2, E2, m2, n2, s2⟩ := set_facts (a2 := b2) hp hb
  have hs : canonS (allOf 3 3 (sumF p a0 a1 a2 b0 b1 b2)) = listM (sumM (2 ^ p) e1 e2) := sum_canon hp E1 E2 m1 m2 (fun y hy => by
    simp only [List.mem_cons, List.not_mem_nil, or_false] at hy
    rcases hy with rfl | rfl | rfl <;> exact Nat.mod_lt _ hp0) (fun k => by
    show k ∈ [(a0 + b0) % p, (a0 + b1) % p, (a0 + b2) % p, (a1 + b0) % p, (a1 + b1) % p, (a1 + b2) % p, (a2 + b0) % p, (a2 + b1) % p, (a2 + b2) % p] ↔ _
    simp only [List.mem_cons, List.not_mem_nil, or_false, exists_eq_or_imp, exists_eq_left, ← Nat.add_mod, or_assoc, eq_comm (a := k)])
  have hz : (restsOf p [a0 + b0, a0 + b1, a0 + b2, a1 + b0, a1 + b1, a1 + b2, a2 + b0, a2 + b1, a2 + b2]).length = popN (sumM (2 ^ p) e1 e2) := by
    rw [hpm.length_eq, hs]
    refine pop_ok (Nat.lt_of_lt_of_le (Nat.mod_lt _ (Nat.two_pow_pos p)) ?_)
    rcases hp with rfl | rfl <;> decide
  have hlt := restsOf_len p [a0 + b0, a0 + b1, a0 + b2, a1 + b0, a1 + b1, a1 + b2, a2 + b0, a2 + b1, a2 + b2]
  have P := pair_ok hp h1 h2
  have S := steps_bits E1.s s1 s2
  unfold pairOk at P
  have two : (e1.n + e2.n ≤ popN (sumM (2 ^ p) e1 e2) + 1) ∧ ((popN (sumM (2 ^ p) e1 e2) + 1 = e1.n + e2.n) ↔ Nat.land e1.s e2.s ≠ 0) := by
    cases hb0 : Nat.beq (Nat.land e1.s e2.s) 0 with
    | true =>
      rw [hb0] at P
      have q := Nat.le_of_ble_eq_true P
      have z := Nat.eq_of_beq_eq_true hb0
      have q' : e1.n + e2.n ≤ popN (sumM (2 ^ p) e1 e2) := q
      exact ⟨Nat.le_succ_of_le q', fun e => by omega, fun e => absurd z e⟩
    | false =>
      rw [hb0] at P
      have q : popN (sumM (2 ^ p) e1 e2) + 1 = e1.n + e2.n := Nat.eq_of_beq_eq_true P
      exact ⟨Nat.le_of_eq q.symm, fun _ => Nat.ne_of_beq_eq_false hb0, fun _ => q⟩
  refine ⟨hpm, ?_, ?_, Nat.le_trans hlt (Nat.le_of_ble_eq_true rfl), ?_, ?_, ?_, ?_⟩
  · rw [n1]; exact E1.n3
  · rw [n2]; exact E2.n3
  · rw [n1]; exact E1.n1
  · rw [n2]; exact E2.n1
  · rw [n1, n2, hz]; exact two.1
  · rw [n1, n2, hz]; exact two.2.trans S.symm

theorem not_cell {h₀ h : Heap} {L : Addr} {news : Led} {o : Obj} {v : Option Value} {c : Addr} (N : News h₀ L h news) (d : o.data = .cell v) (hc : (c, o) ∈ news) (its : Array Value) (n : Nat) (a : Addr) (ha : (a, W.listOf its n) ∈ news) : @Ne Nat a c := nl_cell N d ha hc
theorem not_tab {h₀ h : Heap} {L : Addr} {news : Led} {ps : Array Value} {c : Addr} (N : News h₀ L h news) (hc : (c, tabObj ps) ∈ news) (its : Array Value) (n : Nat) (a : Addr) (ha : (a, W.listOf its n) ∈ news) : @Ne Nat a c := nl_tab N ha hc
theorem ne_mod {p a r : Nat} (hp : p = 7 ∨ p = 11) (ha : a < p) (hr : r < p - 1) : a % p ≠ (a + 1 + r) % p := by
  rcases hp with rfl | rfl <;> omega
set_option maxHeartbeats 4000000 in
theorem glue2 (w : World) (mean : ExcName → Option Value) (mg mb : Str → Option Value) (g : Heap) (L fa : Addr) (cd : Value) (st : List Stmt) (sc : Scope) (hst : st = lawSt 1) (hsc : sc = lawSc) (s : Shared) (Q : Flow → Shared → Prop)
    (X : (Mine.hd.heap_39 w.params).In g) (B : Below callerA g [] g) (T : Top topProg looseT mean mg mb g) (codeHd : CodeHd g 142 138) (m : Env1) (ls : Addr) (vs : List Value) (ns : List Int) (hI : IntsAre vs ns) (h63 : ns.length ≤ 63) (lifted : g.IsList ls vs.toArray)
    (w0 w1 w2 w3 w4 : Obj) (p : Nat) (tp : Tok) (hp : p = 7 ∨ p = 11) (e0 : w0.data = .cell (some (.int (p : Int) tp))) (e1 : w1.data = .cell none) (e2 : w2.data = .cell none) (e3 : w3.data = .cell none) (e4 : w4.data = .cell none)
    (F : Fr g L s.heap (kstB m [(Str.ofString "script", .ref ls)]))
    (N : News g L s.heap [(L + 1 + 1 + 1 + 1 + 1, w4), (L + 1 + 1 + 1 + 1, w3), (L + 1 + 1 + 1, w2), (L + 1 + 1, w1), (L + 1, w0), (138, tabObj #[])]) (l0 : @LT.lt Nat _ 138 L)
    (hret : ∀ (h : Heap) (tk : Nat) (m : Env1) (news : Led) (ps : Array Value), Fr g L h m → News g L h news → (138, tabObj ps) ∈ news → Q (.ret (.bool true)) { s with heap := h, toks := tk }) :
    wpAny (model PySem.Challenge.rw_pg0243_02.row.prog w) (callerA.deeper (envOfC (Str.ofString "law") sc L fa cd)) (execs st (envOfC (Str.ofString "law") sc L fa cd)) Q (fun _ _ => False) s := by
  have hE : PassesOwn (model PySem.Challenge.rw_pg0243_02.row.prog w) (callerA.deeper (envOfC (Str.ofString "law") sc L fa cd)) (envOfC (Str.ofString "law") sc L fa cd) (fun _ _ => False) := by passes_own
  refine stage2A w mean mg mb g L fa cd st sc hst hsc s Q _ X B T m ls vs ns hI h63 lifted w0 w1 w2 w3 w4 F N l0 ?_
  clear F N
  intro h tk m D x0 x1 x2 x3 x4 x5 t0 t1 t2 t3 t4 t5 F N lD
  refine stage2B w mean mg mb g L fa cd _ sc rfl hsc _ Q _ hE X B T m D x0 x1 x2 x3 x4 x5 t0 t1 t2 t3 t4 t5 w0 w1 w2 w3 w4 p tp hp e0 e1 F N l0 lD ?_
  clear e1 F N lD
  intro h tk m CL A0 A1 w1 a0 r0 a2 b0 r1 b2 t0 t1 t2 t3 t4 t5 ha0 hr0 ha2 hb0 hr1 hb2 F e1 N
  unfold row3 at N
  have na := ne_mod hp ha0 hr0
  have nb := ne_mod hp hb0 hr1
  have ha1 : a0 + 1 + r0 ≤ 30 := by omega
  have hb1 : b0 + 1 + r1 ≤ 30 := by omega
  have hp11 : p ≤ 11 := by omega
  have qa0 : a0 ≤ 30 := by omega
  have qa2 : a2 ≤ 30 := by omega
  have qb0 : b0 ≤ 30 := by omega
  have qb2 : b2 ≤ 30 := by omega
  clear ha0 hr0 ha2 hb0 hr1 hb2
  generalize a0 + 1 + r0 = a1 at *
  generalize b0 + 1 + r1 = b1 at *
  have six : ∀ {x : Nat}, x ≤ 30 → x ≤ 60 := fun h => Nat.le_trans h (by decide)
  refine stage2C w mean mg mb g L fa cd _ sc rfl hsc _ Q _ X B T m CL A0 A1 a0 a1 a2 b0 b1 b2 t0 t1 t2 t3 t4 t5 w0 w1 w2 w3 w4 e1 (six qa0) (six ha1) (six qa2) (six qb0) (six hb1) (six qb2) F N ?_
  clear F N
  intro h tk m RW u0 u1 u2 u3 u4 u5 F N o1
  have o4 := not_cell N e4 (.tail _ (.tail _ (.tail _ (.tail _ (.head _)))))
  have o3 := not_cell N e3 (.tail _ (.tail _ (.tail _ (.tail _ (.tail _ (.head _))))))
  have o2 := not_cell N e2 (.tail _ (.tail _ (.tail _ (.tail _ (.tail _ (.tail _ (.head _)))))))
  have o0 := not_tab N (.tail _ (.tail _ (.tail _ (.tail _ (.tail _ (.tail _ (.tail _ (.tail _ (.tail _ (.head _))))))))))
  have kCL := o0 _ _ _ (.tail _ (.head _))
  have kA1 := o0 _ _ _ (.tail _ (.tail _ (.head _)))
  have kA0 := o0 _ _ _ (.tail _ (.tail _ (.tail _ (.head _))))
  have k2CL := o2 _ _ _ (.tail _ (.head _))
  have k2A1 := o2 _ _ _ (.tail _ (.tail _ (.head _)))
  have k2A0 := o2 _ _ _ (.tail _ (.tail _ (.tail _ (.head _))))
  have k3CL := o3 _ _ _ (.tail _ (.head _))
  have k3A1 := o3 _ _ _ (.tail _ (.tail _ (.head _)))
  have k3A0 := o3 _ _ _ (.tail _ (.tail _ (.tail _ (.head _))))
  have k4CL := o4 _ _ _ (.tail _ (.head _))
  have k4A1 := o4 _ _ _ (.tail _ (.tail _ (.head _)))
  have k4A0 := o4 _ _ _ (.tail _ (.tail _ (.tail _ (.head _))))
  have nn : ∀ {x : Nat}, @LE.le Nat _ L x → x ≠ 138 := fun h => Nat.ne_of_gt (Nat.lt_of_lt_of_le l0 h)
  clear o0 o2 o3 o4 o1
  refine stage2D w mean mg mb g L fa cd _ sc rfl hsc _ Q _ X B T codeHd m RW a0 a1 a2 b0 b1 b2 u0 u1 u2 u3 u4 u5 w2 (six qa0) (six ha1) (six qa2) (six qb0) (six hb1) (six qb2) ⟨_, e2⟩
    [(CL, W.listOf [.ref A0, .ref A1].toArray 2), (A1, W.listOf [.int (b0 : Int) t3, .int (b1 : Int) t4, .int (b2 : Int) t5].toArray 0), (A0, W.listOf [.int (a0 : Int) t0, .int (a1 : Int) t1, .int (a2 : Int) t2].toArray 0), (L + 1 + 1 + 1 + 1 + 1, w4), (L + 1 + 1 + 1 + 1, w3), (L + 1 + 1, w1), (L + 1, w0)] F (cb_drop N ?_) ?_ ?_ ?_
  · intro q hq
    simp only [List.mem_cons, List.not_mem_nil, or_false] at hq ⊢
    rcases hq with h | h | h | h | h | h | h | h | h | h <;> simp only [h, true_or, or_true]
  · exact List.forall_mem_cons.mpr ⟨nn (by omega), List.forall_mem_cons.mpr ⟨kCL, List.forall_mem_cons.mpr ⟨kA1, List.forall_mem_cons.mpr ⟨kA0, List.forall_mem_cons.mpr ⟨nn (by omega), List.forall_mem_cons.mpr ⟨nn (by omega), List.forall_mem_cons.mpr ⟨nn (by omega), List.forall_mem_cons.mpr ⟨nn (by omega), List.forall_mem_nil _⟩⟩⟩⟩⟩⟩⟩⟩
  · exact List.forall_mem_cons.mpr ⟨k2CL, List.forall_mem_cons.mpr ⟨k2A1, List.forall_mem_cons.mpr ⟨k2A0, List.forall_mem_cons.mpr ⟨(show @Ne Nat (L + 1 + 1 + 1 + 1 + 1) (L + 1 + 1 + 1) by omega), List.forall_mem_cons.mpr ⟨(show @Ne Nat (L + 1 + 1 + 1 + 1) (L + 1 + 1 + 1) by omega), List.forall_mem_cons.mpr ⟨(show @Ne Nat (L + 1 + 1) (L + 1 + 1 + 1) by omega), List.forall_mem_cons.mpr ⟨(show @Ne Nat (L + 1) (L + 1 + 1 + 1) by omega), List.forall_mem_nil _⟩⟩⟩⟩⟩⟩⟩
  clear k2CL k2A1 k2A0 e2 w2 N F
  intro h tk X2 vs2 k2 tl2 fixed w2 ps F N rd hvs e2 hne hlt nx nd nD nf
  obtain ⟨c1, c2, c3, c4, c5, c6, f1, f2, f3, f4, f5, f6, n1, n2, n3, n4, n5⟩ := lex_text6 (six qa0) (six ha1) (six qa2) (six qb0) (six hb1) (six qb2)
  refine stage2E w mean mg mb g L fa cd _ sc rfl hsc _ Q _ X B T codeHd m RW a0 a1 a2 b0 b1 b2 u0 u1 u2 u3 u4 u5 w2 
    [(CL, W.listOf [.ref A0, .ref A1].toArray 2), (A1, W.listOf [.int (b0 : Int) t3, .int (b1 : Int) t4, .int (b2 : Int) t5].toArray 0), (A0, W.listOf [.int (a0 : Int) t0, .int (a1 : Int) t1, .int (a2 : Int) t2].toArray 0), (L + 1 + 1 + 1 + 1 + 1, w4), (L + 1 + 1 + 1 + 1, w3), (L + 1 + 1, w1), (L + 1, w0), (138, tabObj ps)] X2 vs2 k2 tl2 fixed _ c1 c2 c3 c4 c5 c6 F N rd hvs e2 hne f1 f2 f3 f4 f5 f6 (by rw [sg_length]; exact text6_len (six qa0) (six ha1) (six qa2) (six qb0) (six hb1) (six qb2)) n1 n2 n3 n4 n5 ?_
  clear F N rd hvs hne f1 f2 f3 f4 f5 f6 n1 n2 n3 n4 n5
  intro h tk m WD v0 v1 v2 v3 v4 v5 ln tl F N hW
  have np : ∀ q ∈ (WD, W.listOf #[] 6) :: (L + 1 + 1 + 1, w2) :: [(CL, W.listOf [.ref A0, .ref A1].toArray 2), (A1, W.listOf [.int (b0 : Int) t3, .int (b1 : Int) t4, .int (b2 : Int) t5].toArray 0), (A0, W.listOf [.int (a0 : Int) t0, .int (a1 : Int) t1, .int (a2 : Int) t2].toArray 0), (L + 1 + 1 + 1 + 1 + 1, w4), (L + 1 + 1 + 1 + 1, w3), (L + 1 + 1, w1), (L + 1, w0), (138, tabObj ps)], q.1 ≠ X2.pb := by
    intro q hq
    rcases List.mem_cons.mp hq with rfl | hq
    · exact Ne.symm (hW (X2.pb, W.listOf #[] 0) (.tail _ (.tail _ (.head _))))
    · refine Nat.ne_of_lt (hlt q ?_)
      rcases List.mem_cons.mp hq with rfl | hq
      · exact .head _
      · exact .tail _ (.tail _ hq)
  refine stage2F w mean mg mb g L fa cd _ sc rfl hsc _ Q _ hE X B T codeHd m WD (bl a0) (bl a1) (bl a2) (bl b0) (bl b1) (bl b2) v0 v1 v2 v3 v4 v5 w2 _ X2 ln tl e2 F N np nx nd ?_
  clear F N hW hlt nD nf
  intro h tk m JD F N lJ
  have bl6 : ∀ {x : Nat}, x ≤ 30 → (bl x).length ≤ 60 := fun h => by rw [bl_len]; exact six h
  refine stage2G w mean mg mb g L fa cd _ sc rfl hsc _ Q _ hE X B T codeHd m WD JD (bl a0) (bl a1) (bl a2) (bl b0) (bl b1) (bl b2) v0 v1 v2 v3 v4 v5 (bl6 qa0) (bl6 ha1) (bl6 qa2) (bl6 qb0) (bl6 hb1) (bl6 qb2) w2 _ X2 ln tl e2 F N lJ np nx nd ?_
  clear F N lJ np nx nd
  intro h tk m jv hj F N
  refine stage2H w mean mg mb g L fa cd _ sc rfl hsc _ Q _ X B T m WD JD (bl a0) (bl a1) (bl a2) (bl b0) (bl b1) (bl b2) v0 v1 v2 v3 v4 v5 a0 a1 a2 b0 b1 b2 _ (rows3 (six qa0) (six ha1) (six qa2)) (rows3 (six qb0) (six hb1) (six qb2)) jv _ hj (rows9 qa0 ha1 qa2 qb0 hb1 qb2) rfl w0 w3 w4
    [(CL, W.listOf [.ref A0, .ref A1].toArray 2), (A1, W.listOf [.int (b0 : Int) t3, .int (b1 : Int) t4, .int (b2 : Int) t5].toArray 0), (A0, W.listOf [.int (a0 : Int) t0, .int (a1 : Int) t1, .int (a2 : Int) t2].toArray 0), (L + 1 + 1, w1), (138, tabObj ps)] p tp hp e0 none none e3 e4 F (cb_drop N ?_) ?_ ?_ ?_
  · intro q hq
    simp only [List.mem_cons, List.not_mem_nil, or_false] at hq ⊢
    rcases hq with h | h | h | h | h | h | h | h | h | h <;> simp only [h, true_or, or_true]
  · exact List.forall_mem_cons.mpr ⟨k3CL, List.forall_mem_cons.mpr ⟨k3A1, List.forall_mem_cons.mpr ⟨k3A0, List.forall_mem_cons.mpr ⟨(show @Ne Nat (L + 1 + 1) (L + 1 + 1 + 1 + 1) by omega), List.forall_mem_cons.mpr ⟨(show @Ne Nat 138 (L + 1 + 1 + 1 + 1) from Ne.symm (nn (by omega))), List.forall_mem_nil _⟩⟩⟩⟩⟩
  · exact List.forall_mem_cons.mpr ⟨k4CL, List.forall_mem_cons.mpr ⟨k4A1, List.forall_mem_cons.mpr ⟨k4A0, List.forall_mem_cons.mpr ⟨(show @Ne Nat (L + 1 + 1) (L + 1 + 1 + 1 + 1 + 1) by omega), List.forall_mem_cons.mpr ⟨(show @Ne Nat 138 (L + 1 + 1 + 1 + 1 + 1) from Ne.symm (nn (by omega))), List.forall_mem_nil _⟩⟩⟩⟩⟩
  clear F N hj e3 e4 w3 w4
  intro h tk m R1 R2 R3 rs1 rs2 rs3 q1 q2 q3 w3 w4 i1 i2 i3 e3 e4 F N
  have P := plain2 (a2 := a2) (b2 := b2) hp na nb
  refine stage2I w mean mg mb g L fa cd _ sc rfl hsc _ Q _ X B T m R3 CL A0 A1 a0 a1 a2 b0 b1 b2 t0 t1 t2 t3 t4 t5 rs3 q3 _ i3 P.k3 w0 w1 [(R2, W.listOf rs2.toArray q2), (R1, W.listOf rs1.toArray q1), (L + 1 + 1 + 1 + 1 + 1, w4), (L + 1 + 1 + 1 + 1, w3), (138, tabObj ps)] p tp hp e0 e1 P.perm F (cb_drop N ?_) ?_
  · intro q hq
    simp only [List.mem_cons, List.not_mem_nil, or_false] at hq ⊢
    rcases hq with h | h | h | h | h | h | h | h | h | h | h <;> simp only [h, true_or, or_true]
  clear F N
  intro h tk m F N
  refine stage2J w mean mg mb g L fa cd _ sc rfl hsc _ Q X B T m R1 R2 R3 rs1 rs2 rs3 q1 q2 q3 _ _ _ i1 i2 i3 P.k1 P.k2 P.k3 P.j1 P.j2 w0 w3 w4 [(138, tabObj ps)] ps (.head _) p tp hp e0 e3 e4 P.law1 P.law2 F (cb_drop N ?_) ?_
  · intro q hq
    simp only [List.mem_cons, List.not_mem_nil, or_false] at hq ⊢
    rcases hq with h | h | h | h | h | h | h <;> simp only [h, true_or, or_true]
  · intro h tk m news F N hm
    exact hret h tk m news ps F N hm

set_option maxHeartbeats 4000000 in
theorem main_ok : PySem.Challenge.rw_pg0243_02.Holds := by
  refine Mine.hd ?_
  clear main_ok
  k_go0
  (rename Fr _ _ _ _ => F)
  refine to_end F ?_ ?_
  case refine_2 =>
    rintro f s' ⟨h', tk', m', news', ps', rfl, rfl, F', N', hm'⟩
    clear F
    dsimp only
    refine ⟨?_, GrownAt.of N' hm', True.intro⟩
    clear hm' N'
    wrow_close
  (rename IntsAre _ _ => hI)
  (rename List Int => ns)
  try (repeat (with_reducible rename Reads _ _ _ _ => g0; clear g0))
  try (repeat (with_reducible rename ReadsAll _ _ _ _ => g0; clear g0))
  try (repeat (with_reducible rename ReadsAllW _ _ _ _ _ _ => g0; clear g0))
  try (repeat (with_reducible rename Well _ _ _ _ => g0; clear g0))
  try (repeat (with_reducible rename Dflts _ _ _ => g0; clear g0))
  try (repeat (with_reducible rename (PyData.layable0 _ = true) => g0; clear g0))
  try (repeat (with_reducible rename (PyData.layableAll0 _ = true) => g0; clear g0))
  try (repeat (with_reducible rename (Spec.Shape.has _ _ = true) => g0; clear g0))
  try (repeat (with_reducible rename (WData.layableAll _ = true) => g0; clear g0))
  try (repeat (with_reducible rename (WShape.hasAll _ _ _ = true) => g0; clear g0))
  try (repeat (with_reducible rename TabsAt _ _ => g0; clear g0))
  try (repeat (with_reducible rename TopW _ _ _ => g0; clear g0))
  try (repeat (with_reducible rename TopE _ _ _ _ => g0; clear g0))
  try (repeat (with_reducible rename Tables _ _ _ _ => g0; clear g0))
  try (repeat (with_reducible rename LooseAre _ _ _ => g0; clear g0))
  try (repeat (with_reducible rename Flt.MathXP _ _ _ => g0; clear g0))
  try (repeat (with_reducible rename (Hook.says _ _ _) => g0; clear g0))
  try (repeat (with_reducible rename Ground _ _ _ _ _ _ _ _ _ => g0; clear g0))
  try (repeat (with_reducible rename Heap.CodeRec _ _ _ => g0; clear g0))
  rename_i w s0 s1 mg mb fa o pm cd doc ho hg T0 u1 u2 ls vs u5 hL h63 hcond hD h1 tk1 w4 w3 w2 w1 w0 e4 e3 e2 e1 e0 X0 X T B N l0
  clear ho hg hT8 T0 hL hcond hD X0
  dsimp only at F N T B X e4 e3 e2 e1 e0 ⊢
  generalize ghostOf s1.heap [(142, 138)] = g at *
  generalize s1.heap.objs.size = L at *
  generalize ExcName.means s0.heap = mean at *
  have mine_on : MineOn := True.intro
  have hlen : ns.length ≤ 63 := by omega
  (iterate 21 (walk_at "my_step"))
  · (iterate 2 (walk_at "my_step"))
    (rename Fr _ _ _ _ => F9)
    (rename News _ _ _ _ => N9)
    (rename _ = Data.cell (some (Value.int 7 _)) => e0')
    dsimp only
    exact glue2 w mean mg mb g L fa cd _ _ rfl rfl _ _ X B T codeHd _ ls vs ns hI hlen lifted _ w1 w2 w3 w4 7 _ (.inl rfl) e0' e1 e2 e3 e4 (Has.fr ⟨rfl, True.intro⟩ F9) (cb_drop N9 (List.forall_mem_cons.mpr ⟨by k_mem, List.forall_mem_cons.mpr ⟨by k_mem, List.forall_mem_cons.mpr ⟨by k_mem, List.forall_mem_cons.mpr ⟨by k_mem, List.forall_mem_cons.mpr ⟨by k_mem, List.forall_mem_cons.mpr ⟨by k_mem, List.forall_mem_nil _⟩⟩⟩⟩⟩⟩)) l0 fun h tk m news ps F N hm => ⟨h, tk, m, news, ps, rfl, rfl, F, N, hm⟩
  · (iterate 2 (walk_at "my_step"))
    (rename Fr _ _ _ _ => F9)
    (rename News _ _ _ _ => N9)
    (rename _ = Data.cell (some (Value.int 11 _)) => e0')
    dsimp only
    exact glue2 w mean mg mb g L fa cd _ _ rfl rfl _ _ X B T codeHd _ ls vs ns hI hlen lifted _ w1 w2 w3 w4 11 _ (.inr rfl) e0' e1 e2 e3 e4 (Has.fr ⟨rfl, True.intro⟩ F9) (cb_drop N9 (List.forall_mem_cons.mpr ⟨by k_mem, List.forall_mem_cons.mpr ⟨by k_mem, List.forall_mem_cons.mpr ⟨by k_mem, List.forall_mem_cons.mpr ⟨by k_mem, List.forall_mem_cons.mpr ⟨by k_mem, List.forall_mem_cons.mpr ⟨by k_mem, List.forall_mem_nil _⟩⟩⟩⟩⟩⟩)) l0 fun h tk m news ps F N hm => ⟨h, tk, m, news, ps, rfl, rfl, F, N, hm⟩

end Mine
theorem PySem.Challenge.cw_pg0243_02_holds : PySem.Challenge.rw_pg0243_02.Holds :=
  Mine.main_ok
