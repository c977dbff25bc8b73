import PyProof.Rows.All
import Wide.All
import OpenK.AllK
import Wide.FinOn
import PySem.Challenge.RW_wn0042_01
set_option Elab.async false
namespace Mine
section
open PySem PySem.W PyProof.Rows
set_option maxRecDepth 100000
set_option maxHeartbeats 8000000
open_top hd for PySem.Challenge.rw_wn0042_01
end
section
open PySem PySem.W PySem.Calls PySem.Spec PyProof.Rows
set_option maxRecDepth 100000
set_option maxHeartbeats 8000000
abbrev prog : Program := PySem.Challenge.rw_wn0042_01.row.prog

theorem around_mono {M : Model} {A A' : Around} {α : Type} {t : Sem α} {Q : α → Shared → Prop} {E : Value → Shared → Prop} {s : Shared}
    (h1 : A'.handled = A.handled) (h2 : A.depth ≤ A'.depth) (h3 : A'.frames = A.frames) (h4 : A'.guards = A.guards) (h5 : A.units ≤ A'.units)
    (h : wpAny M A' t Q E s) : wpAny M A t Q E s := fun Γ p hΓ =>
  h Γ p ⟨hΓ.1.trans h1.symm, Nat.le_trans hΓ.2.1 h2, fun l hl => hΓ.2.2.1 l (h3 ▸ hl), fun g hg => hΓ.2.2.2.1 g (h4 ▸ hg), Nat.le_trans hΓ.2.2.2.2 h5⟩

noncomputable def Stop (p : Prop) : Prop := p
theorem stop_ {p : Prop} (h : Stop p) : p := h

/-- how a body gives back its value: a word of our own, so that the walk stops there -/
noncomputable def Back (Q : Value → Shared → Prop) (v : Value) (s' : Shared) : Prop := Q v s'

abbrev ended (f : Flow) : Value := match f with | .ret v => v | _ => .none

/-- what a call of a def needs of the place where it is made -/
structure Place (w : World) (D U : Nat) (A : Around) (h : Heap) : Prop where
  ex : ∃ (loose : List PySem.Str) (mean : ExcName → Option Value) (mg mb : PySem.Str → Option Value) (env : Env) (outer : List Env) (A₀ : Around) (base h₀ : Heap) (L : Addr) (m : PySem.Str → Option Value),
    Below A₀ base outer h₀ ∧ Fr h₀ L h m ∧ (hd.heap_39 w.params).In h₀ ∧ Top hd.view_39 loose mean mg mb h₀ ∧ A.handled = none ∧ A.depth ≤ D ∧ A.units ≤ U ∧ A.frames = some (env :: outer) ∧ env.frame = some L ∧ env.scope.kind = .function

/-- the contract of a def that leaves all that stood before it -/
noncomputable def Spec (w : World) (D U : Nat) (f : Addr) (args : List Value) (Pre : Heap → Prop) (Post : List (Addr × Obj) → Value → Prop) : Prop :=
  ∀ (A : Around) (s : Shared) (Q : Value → Shared → Prop) (E : Value → Shared → Prop), Place w D U A s.heap → Pre s.heap →
    (∀ v new h' tk, s.heap.StaysIn h' → (∀ p ∈ new, h'.get? p.1 = some p.2 ∧ s.heap.get? p.1 = none) → Post new v → Q v { s with heap := h', toks := tk }) →
    wpAny (model prog w) A (call (.ref f) args) Q E s

theorem Spec.use {w : World} {D U : Nat} {f : Addr} {args : List Value} {Pre : Heap → Prop} {Post : List (Addr × Obj) → Value → Prop} (S : Spec w D U f args Pre Post)
    {loose : List PySem.Str} {mean : ExcName → Option Value} {mg mb : PySem.Str → Option Value} {env : Env} {outer : List Env} {A A₀ : Around} {base h₀ : Heap} {L : Addr} {m : PySem.Str → Option Value} {news : List (Addr × Obj)} {s : Shared} {Q E : Value → Shared → Prop}
    (B : Below A₀ base outer h₀) (F : Fr h₀ L s.heap m) (X : (hd.heap_39 w.params).In h₀) (N : News h₀ L s.heap news) (T : Top hd.view_39 loose mean mg mb h₀)
    (hh : A.handled = none) (hd : A.depth ≤ D) (hu : A.units ≤ U) (hA : A.frames = some (env :: outer)) (hf : env.frame = some L) (hk : env.scope.kind = .function) (pre : Pre s.heap)
    (h : ∀ v new h' tk, Fr h₀ L h' m → News h₀ L h' (new ++ news) → (∀ q ∈ news, ∀ p ∈ new, q.1 ≠ p.1) → Post new v → Q v { s with heap := h', toks := tk }) :
    wpAny (model prog w) A (call (.ref f) args) Q E s := by
  refine S A s Q E ⟨_, _, _, _, _, _, _, _, _, _, _, B, F, X, T, hh, hd, hu, hA, hf, hk⟩ pre fun v new h' tk st hn hp => h v new h' tk ?_ ?_ ?_ hp
  · obtain ⟨oL, es, ep, hL, r⟩ := F.ns
    exact ⟨⟨oL, es, ep, st _ _ hL, r⟩, fun b o e => st _ _ (F.keep b o e), F.above⟩
  · intro p hp
    rcases List.mem_append.mp hp with q | q
    · refine ⟨(hn p q).1, fun e => ?_, ?_⟩
      · obtain ⟨oL, es, ep, hL, r⟩ := F.ns
        have := (hn p q).2
        rw [e, hL] at this; cases this
      · cases e : h₀.get? p.1 with
        | none => rfl
        | some o => have := F.keep _ _ e; rw [(hn p q).2] at this; cases this
    · exact ⟨st _ _ (N p q).1, (N p q).2⟩
  · intro q hq p hp e
    have := (hn p hp).2
    rw [← e, (N q hq).1] at this; cases this

theorem Spec.useV {w : World} {D U : Nat} {f : Addr} {args : List Value} {Pre : Heap → Prop} {Post : List (Addr × Obj) → Value → Prop} (S : Spec w D U f args Pre Post)
    {loose : List PySem.Str} {mean : ExcName → Option Value} {mg mb : PySem.Str → Option Value} {env : Env} {outer : List Env} {A A₀ : Around} {base h₀ : Heap} {L : Addr} {m : PySem.Str → Option Value} {news : List (Addr × Obj)} {s : Shared} {Q E : Value → Shared → Prop}
    (B : Below A₀ base outer h₀) (F : Fr h₀ L s.heap m) (X : (hd.heap_39 w.params).In h₀) (N : News h₀ L s.heap news) (T : Top hd.view_39 loose mean mg mb h₀)
    (hh : A.handled = none) (hd : A.depth ≤ D) (hu : A.units ≤ U) (hA : A.frames = some (env :: outer)) (hf : env.frame = some L) (hk : env.scope.kind = .function) (pre : Pre s.heap)
    (h : ∀ v h' tk, Fr h₀ L h' m → News h₀ L h' news → (∃ new, Post new v) → Q v { s with heap := h', toks := tk }) :
    wpAny (model prog w) A (call (.ref f) args) Q E s :=
  S.use B F X N T hh hd hu hA hf hk pre fun v new h' tk F' N' _ hp => h v h' tk F' (fun p hp => N' p (List.mem_append_right _ hp)) ⟨new, hp⟩

theorem Spec.of {w : World} {D U : Nat} {f : Addr} {args : List Value} {Pre : Heap → Prop} {Post : List (Addr × Obj) → Value → Prop}
    {name qual : PySem.Str} {params : Arguments} {body : List Stmt} {scope : Scope} {dV kV doc pm cdv ct oc : Value} {an od : Option Addr} {osl : Array (Option Value)} {binds : List (PySem.Str × Value)}
    (ho : (hd.heap_39 w.params).lookup f = some ⟨oc, od, .func (fnOf name qual params body scope dV kV doc pm an cdv ct), osl⟩) (hcd : codeIn (hd.heap_39 w.params) cdv qual = true) (hroom : D < recursionLimit)
    (hbind : ∀ s, BindsTo s (fnOf name qual params body scope dV kV doc pm an cdv ct) ⟨args, []⟩ binds) (hloc : ∀ y ∈ binds, scope.names.lookup y.1 = some .local)
    (hcell : ∀ x ∈ scope.names, x.2 ≠ .cell) (hco : scope.isCoroutine = false) (hgen : scope.isGenerator = false) (hk : scope.kind = .function)
    (h : ∀ (loose : List PySem.Str) (mean : ExcName → Option Value) (mg mb : PySem.Str → Option Value) (outer : List Env) (gd : Option (List Code)) (A : Around) (base g : Heap) (L' : Addr) (h₁ : Heap) (s : Shared) (Q : Value → Shared → Prop),
      Fr g L' h₁ (fun y => binds.reverse.lookup y) → News g L' h₁ [] → Below A base outer g → (hd.heap_39 w.params).In g → Top hd.view_39 loose mean mg mb g → Pre g →
      (∀ v new h' tk m', Fr g L' h' m' → News g L' h' new → Post new v → Q v { s with heap := h', toks := tk }) →
      wpAny (model prog w) (Around.deeper { handled := none, depth := D, frames := some outer, guards := gd, units := U } (envOf qual scope L' f cdv)) (execs body (envOf qual scope L' f cdv))
        (fun fl s' => Back Q (ended fl) s') (fun _ _ => False) { s with heap := h₁, toks := s.toks + binds.length }) :
    Spec w D U f args Pre Post := by
  intro A s Q E P pre ret
  obtain ⟨loose, mean, mg, mb, env, outer, A₀, base, h₀, L, m, B, F, X, T, hh, hd', hu, hA, hf, hke⟩ := P
  refine around_mono (A' := { handled := none, depth := D, frames := some (env :: outer), guards := A.guards, units := U }) hh.symm hd' hA.symm rfl hu ?_
  refine wpAny_call ?_
  have FG := pushX B F hf hke
  have X' := X.keeps F.keep
  have T' := T.keeps F.keep
  refine codeAny_call_def (fd := fnOf name qual params body scope dV kV doc pm an cdv ct) (body := body) (binds := binds) hroom (X' _ _ ho) rfl T'.nolimit (codeRec_of X' hcd) rfl (hbind s) hcell hloc (fun h₁ hns hk₁ => ?_) hco hgen hk
  have F' : Fr s.heap s.heap.objs.size h₁ (fun y => binds.reverse.lookup y) := ⟨hns, hk₁, Nat.le_refl _⟩
  have B' : Below { handled := none, depth := D, frames := some (env :: outer), guards := A.guards, units := U } base (env :: outer) s.heap := ⟨rfl, FG.stays, FG.frames⟩
  refine wpAny_mono (h loose mean mg mb (env :: outer) A.guards _ base s.heap s.heap.objs.size h₁ s (fun v s' => Q v s') F' News.nil B' X' T' pre fun v new h' tk m' Fe Ne hp => ?_) (fun fl s' hl => hl) fun _ _ x => x.elim
  exact ret v new h' tk Fe.keep (fun p hp => ⟨(Ne p hp).1, (Ne p hp).2.2⟩) hp


theorem Spec.ofC {w : World} {D U : Nat} {f : Addr} {args : List Value} {Pre : Heap → Prop} {Post : List (Addr × Obj) → Value → Prop}
    {name qual : PySem.Str} {params : Arguments} {body : List Stmt} {scope : Scope} {dV kV doc pm cdv ct oc : Value} {an od : Option Addr} {osl : Array (Option Value)} {binds : List (PySem.Str × Value)}
    (ho : (hd.heap_39 w.params).lookup f = some ⟨oc, od, .func (fnOf name qual params body scope dV kV doc pm an cdv ct), osl⟩) (hcd : codeIn (hd.heap_39 w.params) cdv qual = true) (hroom : D < recursionLimit)
    (hbind : ∀ s, BindsTo s (fnOf name qual params body scope dV kV doc pm an cdv ct) ⟨args, []⟩ binds)
    (hkind : (binds.all fun y => scope.names.lookup y.1 == some .local || scope.names.lookup y.1 == some .cell) = true) (hnd : ((cellsFrom 0 scope.names []).map (·.1)).Nodup)
    (hco : scope.isCoroutine = false) (hgen : scope.isGenerator = false) (hk : scope.kind = .function)
    (h : ∀ (loose : List PySem.Str) (mean : ExcName → Option Value) (mg mb : PySem.Str → Option Value) (outer : List Env) (gd : Option (List Code)) (A : Around) (base g : Heap) (L' : Addr) (h₁ : Heap) (tk : Nat) (cells : List (Addr × Obj)) (s : Shared) (Q : Value → Shared → Prop),
      Fr g L' h₁ (bindL (envOfC qual scope L' f cdv).kindOf binds fun _ => none) → News g L' h₁ cells → CellsAre (bindC (envOfC qual scope L' f cdv).kindOf binds fun _ => none) (cellsFrom (L' + 1) scope.names []) cells →
      Below A base outer g → (hd.heap_39 w.params).In g → Top hd.view_39 loose mean mg mb g → Pre g →
      (∀ v new h' tk m', Fr g L' h' m' → News g L' h' new → Post new v → Q v { s with heap := h', toks := tk }) →
      wpAny (model prog w) (Around.deeper { handled := none, depth := D, frames := some outer, guards := gd, units := U } (envOfC qual scope L' f cdv)) (execs body (envOfC qual scope L' f cdv))
        (fun fl s' => Back Q (ended fl) s') (fun _ _ => False) { s with heap := h₁, toks := tk }) :
    Spec w D U f args Pre Post := by
  intro A s Q E P pre ret
  obtain ⟨loose, mean, mg, mb, env, outer, A₀, base, h₀, L, m, B, F, X, T, hh, hd', hu, hA, hf, hke⟩ := P
  refine around_mono (A' := { handled := none, depth := D, frames := some (env :: outer), guards := A.guards, units := U }) hh.symm hd' hA.symm rfl hu ?_
  refine wpAny_call ?_
  have FG := pushX B F hf hke
  have X' := X.keeps F.keep
  have T' := T.keeps F.keep
  refine codeAny_call_function (fd := fnOf name qual params body scope dV kV doc pm an cdv ct) hroom (X' _ _ ho) rfl hco hgen rfl (codeRec_of X' hcd) (hbind s _ _ _ _ ?_)
  refine wpAny_newFunctionEnv_cells hk (kindsX hkind _) fun env' he s' x => ?_
  subst he
  refine ⟨T'.nolimit.keeps x.toInCall.keep, codeAny_func ?_⟩
  obtain ⟨h₁, tk, rfl, _⟩ := x.done
  have hk₁ := x.toInCall.keep
  obtain ⟨cells, NC, Y⟩ := Cl.news (h₀ := s.heap) (Nat.le_refl _) fun n c hm => ⟨x.cell n c (lookup_of_mem_nodup (cellsFrom_names scope.names 0 (s.heap.objs.size + 1) [] [] rfl ▸ hnd) hm), x.above n c hm⟩
  have B' : Below { handled := none, depth := D, frames := some (env :: outer), guards := A.guards, units := U } base (env :: outer) s.heap := ⟨rfl, FG.stays, FG.frames⟩
  refine wpAny_mono (h loose mean mg mb (env :: outer) A.guards _ base s.heap s.heap.objs.size h₁ tk cells s (fun v s' => Q v s') ⟨x.toInCall.ns, hk₁, Nat.le_refl _⟩ NC Y B' X' T' pre fun v new h' tk m' Fe Ne hp => ?_) (fun fl s' hl => hl) fun _ _ x => x.elim
  exact ret v new h' tk Fe.keep (fun p hp => ⟨(Ne p hp).1, (Ne p hp).2.2⟩) hp
end
section
open PySem PySem.W PySem.Calls PySem.Spec PyProof.Rows
/-! a list within a list, shown item by item: the terms stay small (simp's are ten times as long) -/
theorem sub_nil {β : Type} {n : List β} : ∀ q ∈ ([] : List β), q ∈ n := fun _ h => nomatch h
theorem sub_cons {β : Type} {a : β} {l n : List β} (h : a ∈ n) (t : ∀ q ∈ l, q ∈ n) : ∀ q ∈ a :: l, q ∈ n := fun q hq => by
  cases hq with
  | head => exact h
  | tail _ hq => exact t q hq
theorem sub_self {β : Type} {l : List β} : ∀ q ∈ l, q ∈ l := fun _ h => h
theorem sub_right {β : Type} {l n : List β} : ∀ q ∈ l, q ∈ n ++ l := fun _ h => List.mem_append_right _ h
theorem sub_left {β : Type} {l n : List β} : ∀ q ∈ l, q ∈ l ++ n := fun _ h => List.mem_append_left _ h
theorem sub_tail {β : Type} {b : β} {l n : List β} (t : ∀ q ∈ l, q ∈ n) : ∀ q ∈ l, q ∈ b :: n := fun q h => .tail _ (t q h)
theorem sub_app {β : Type} {k l n : List β} (h : ∀ q ∈ k, q ∈ n) (t : ∀ q ∈ l, q ∈ n) : ∀ q ∈ k ++ l, q ∈ n := fun q hq => (List.mem_append.mp hq).elim (h q) (t q)
theorem sub_appr {β : Type} {l m n : List β} (t : ∀ q ∈ l, q ∈ n) : ∀ q ∈ l, q ∈ m ++ n := fun q h => List.mem_append_right _ (t q h)
theorem sub15_1 {β : Type} {x1 x2 x3 x4 x5 x6 x7 : β} : ∀ q ∈ x1 :: x3 :: x2 :: x4 :: x5 :: x6 :: [x7], q ∈ x1 :: x2 :: x3 :: x4 :: x5 :: x6 :: [x7] := by
  repeat refine sub_cons (by first | k_mem | ((repeat refine List.Mem.tail _ ?_); exact List.mem_append_right _ (by k_mem))) ?_
  first | exact sub_nil | (repeat (first | exact sub_self | exact sub_right | exact sub_left | exact sub_app sub_left (sub_appr (by repeat (first | exact sub_self | refine sub_tail ?_))) | refine sub_tail ?_))
theorem sub15_2 {β : Type} {x1 x2 x3 x4 x5 x6 x7 : β} {l1 : List β} : ∀ q ∈ x2 :: x4 :: x5 :: x6 :: x7 :: l1, q ∈ x1 :: x2 :: x3 :: x4 :: x5 :: x6 :: x7 :: l1 := by
  repeat refine sub_cons (by first | k_mem | ((repeat refine List.Mem.tail _ ?_); exact List.mem_append_right _ (by k_mem))) ?_
  first | exact sub_nil | (repeat (first | exact sub_self | exact sub_right | exact sub_left | exact sub_app sub_left (sub_appr (by repeat (first | exact sub_self | refine sub_tail ?_))) | refine sub_tail ?_))
theorem sub15_3 {β : Type} {x1 x2 x3 x4 x5 x6 x7 x8 x9 x10 x11 : β} {l1 : List β} : ∀ q ∈ x1 :: x5 :: x6 :: x7 :: x8 :: x9 :: x10 :: x11 :: l1, q ∈ x1 :: x2 :: x3 :: x4 :: x5 :: x6 :: x7 :: x8 :: x9 :: x10 :: x11 :: l1 := by
  repeat refine sub_cons (by first | k_mem | ((repeat refine List.Mem.tail _ ?_); exact List.mem_append_right _ (by k_mem))) ?_
  first | exact sub_nil | (repeat (first | exact sub_self | exact sub_right | exact sub_left | exact sub_app sub_left (sub_appr (by repeat (first | exact sub_self | refine sub_tail ?_))) | refine sub_tail ?_))
theorem sub15_4 {β : Type} {x1 x2 x3 x4 x5 x6 x7 x8 x9 x10 x11 x12 : β} {l1 : List β} : ∀ q ∈ x1 :: x2 :: x3 :: x4 :: x9 :: x10 :: x11 :: [x12], q ∈ x1 :: x2 :: x3 :: x4 :: x5 :: x6 :: x7 :: x8 :: x9 :: x10 :: x11 :: x12 :: l1 := by
  repeat refine sub_cons (by first | k_mem | ((repeat refine List.Mem.tail _ ?_); exact List.mem_append_right _ (by k_mem))) ?_
  first | exact sub_nil | (repeat (first | exact sub_self | exact sub_right | exact sub_left | exact sub_app sub_left (sub_appr (by repeat (first | exact sub_self | refine sub_tail ?_))) | refine sub_tail ?_))
theorem sub15_5 {β : Type} {x1 x2 x3 x4 x5 x6 x7 x8 x9 x10 x11 x12 : β} {l1 : List β} : ∀ q ∈ x5 :: x6 :: x7 :: x8 :: l1, q ∈ x1 :: x2 :: x3 :: x4 :: x5 :: x6 :: x7 :: x8 :: x9 :: x10 :: x11 :: x12 :: l1 := by
  repeat refine sub_cons (by first | k_mem | ((repeat refine List.Mem.tail _ ?_); exact List.mem_append_right _ (by k_mem))) ?_
  first | exact sub_nil | (repeat (first | exact sub_self | exact sub_right | exact sub_left | exact sub_app sub_left (sub_appr (by repeat (first | exact sub_self | refine sub_tail ?_))) | refine sub_tail ?_))
theorem sub15_6 {β : Type} {x1 x2 x3 x4 x5 x6 x7 x8 : β} {l1 : List β} : ∀ q ∈ x1 :: x2 :: x3 :: x4 :: l1, q ∈ x1 :: x2 :: x3 :: x4 :: x5 :: x6 :: x7 :: x8 :: l1 := by
  repeat refine sub_cons (by first | k_mem | ((repeat refine List.Mem.tail _ ?_); exact List.mem_append_right _ (by k_mem))) ?_
  first | exact sub_nil | (repeat (first | exact sub_self | exact sub_right | exact sub_left | exact sub_app sub_left (sub_appr (by repeat (first | exact sub_self | refine sub_tail ?_))) | refine sub_tail ?_))
theorem sub15_7 {β : Type} {x1 x2 x3 x4 x5 x6 x7 x8 x9 x10 x11 x12 x13 x14 x15 x16 x17 x18 x19 : β} {l1 : List β} : ∀ q ∈ x18 :: x12 :: x13 :: x14 :: x15 :: l1, q ∈ x1 :: x2 :: x3 :: x4 :: x5 :: x6 :: x7 :: x8 :: x9 :: x10 :: x11 :: x12 :: x13 :: x14 :: x15 :: x16 :: x17 :: x18 :: x19 :: l1 := by
  repeat refine sub_cons (by first | k_mem | ((repeat refine List.Mem.tail _ ?_); exact List.mem_append_right _ (by k_mem))) ?_
  first | exact sub_nil | (repeat (first | exact sub_self | exact sub_right | exact sub_left | exact sub_app sub_left (sub_appr (by repeat (first | exact sub_self | refine sub_tail ?_))) | refine sub_tail ?_))
theorem sub15_8 {β : Type} {x1 x2 x3 x4 x5 x6 x7 x8 x9 x10 x11 x12 x13 x14 x15 x16 x17 x18 x19 : β} {l1 : List β} : ∀ q ∈ x19 :: x12 :: x13 :: x14 :: x15 :: l1, q ∈ x1 :: x2 :: x3 :: x4 :: x5 :: x6 :: x7 :: x8 :: x9 :: x10 :: x11 :: x12 :: x13 :: x14 :: x15 :: x16 :: x17 :: x18 :: x19 :: l1 := by
  repeat refine sub_cons (by first | k_mem | ((repeat refine List.Mem.tail _ ?_); exact List.mem_append_right _ (by k_mem))) ?_
  first | exact sub_nil | (repeat (first | exact sub_self | exact sub_right | exact sub_left | exact sub_app sub_left (sub_appr (by repeat (first | exact sub_self | refine sub_tail ?_))) | refine sub_tail ?_))
theorem sub15_9 {β : Type} {x1 x2 x3 x4 x5 x6 x7 : β} {l1 l2 : List β} : ∀ q ∈ x2 :: x1 :: x3 :: x4 :: x5 :: x6 :: x7 :: (l1 ++ l2), q ∈ x1 :: x2 :: (l1 ++ x3 :: x4 :: x5 :: x6 :: x7 :: l2) := by
  repeat refine sub_cons (by first | k_mem | ((repeat refine List.Mem.tail _ ?_); exact List.mem_append_right _ (by k_mem))) ?_
  first | exact sub_nil | (repeat (first | exact sub_self | exact sub_right | exact sub_left | exact sub_app sub_left (sub_appr (by repeat (first | exact sub_self | refine sub_tail ?_))) | refine sub_tail ?_))
theorem sub16_1 {β : Type} {x1 x2 x3 x4 x5 x6 x7 : β} : ∀ q ∈ x1 :: x2 :: x3 :: [x4], q ∈ x1 :: x2 :: x3 :: x4 :: x5 :: x6 :: [x7] := by
  repeat refine sub_cons (by first | k_mem | ((repeat refine List.Mem.tail _ ?_); exact List.mem_append_right _ (by k_mem))) ?_
  first | exact sub_nil | (repeat (first | exact sub_self | exact sub_right | exact sub_left | exact sub_app sub_left (sub_appr (by repeat (first | exact sub_self | refine sub_tail ?_))) | refine sub_tail ?_))
theorem sub16_2 {β : Type} {x1 x2 x3 x4 x5 x6 x7 x8 : β} {l1 : List β} : ∀ q ∈ x1 :: x2 :: x3 :: x4 :: x5 :: x7 :: x8 :: l1, q ∈ x1 :: (l1 ++ x2 :: x3 :: x4 :: x5 :: x6 :: x7 :: [x8]) := by
  repeat refine sub_cons (by first | k_mem | ((repeat refine List.Mem.tail _ ?_); exact List.mem_append_right _ (by k_mem))) ?_
  first | exact sub_nil | (repeat (first | exact sub_self | exact sub_right | exact sub_left | exact sub_app sub_left (sub_appr (by repeat (first | exact sub_self | refine sub_tail ?_))) | refine sub_tail ?_))
theorem sub16_3 {β : Type} {x1 x2 x3 x4 x5 x6 x7 : β} {l1 l2 : List β} : ∀ q ∈ x2 :: x3 :: x4 :: x5 :: x1 :: x6 :: x7 :: (l1 ++ l2), q ∈ x1 :: x2 :: x3 :: x4 :: x5 :: (l1 ++ x6 :: x7 :: l2) := by
  repeat refine sub_cons (by first | k_mem | ((repeat refine List.Mem.tail _ ?_); exact List.mem_append_right _ (by k_mem))) ?_
  first | exact sub_nil | (repeat (first | exact sub_self | exact sub_right | exact sub_left | exact sub_app sub_left (sub_appr (by repeat (first | exact sub_self | refine sub_tail ?_))) | refine sub_tail ?_))
theorem sub16_4 {β : Type} {x1 x2 x3 x4 x5 x6 x7 x8 x9 x10 x11 x12 x13 x14 x15 x16 : β} {l1 l2 : List β} : ∀ q ∈ x14 :: x16 :: (l1 ++ l2), q ∈ x1 :: x2 :: x3 :: x4 :: x5 :: x6 :: x7 :: x8 :: x9 :: x10 :: x11 :: x12 :: x13 :: x14 :: x15 :: x16 :: (l1 ++ l2) := by
  repeat refine sub_cons (by first | k_mem | ((repeat refine List.Mem.tail _ ?_); exact List.mem_append_right _ (by k_mem))) ?_
  first | exact sub_nil | (repeat (first | exact sub_self | exact sub_right | exact sub_left | exact sub_app sub_left (sub_appr (by repeat (first | exact sub_self | refine sub_tail ?_))) | refine sub_tail ?_))
end
section
open PySem PySem.W PySem.Calls PySem.Spec PyProof.Rows
set_option maxRecDepth 100000
set_option maxHeartbeats 8000000
section
variable {prog : Program} {w : World} {M : Model} {A : Around} {E : Value → Shared → Prop} {s : Shared} {h₀ : Heap} {L D b : Addr} {m : PySem.Str → Option Value} {news : List (Addr × Obj)}

/-- list.extend by a list that stood before the frame -/
theorem ext_old {its its2 : List Value} {n n2 : Nat} {news' : Nat → List (Addr × Obj)} {Q : Value → Shared → Prop} (F : Fr h₀ L s.heap m) (N : News h₀ L s.heap news) (hb : h₀.get? b = some (PySem.W.listOf its2.toArray n2))
    (U : ∀ n', Upd D (PySem.W.listOf its.toArray n) (PySem.W.listOf (its ++ its2).toArray n') news (news' n')) (hz : its.length + its2.length ≤ sizeLine)
    (h : ∀ h' n', Fr h₀ L h' m → News h₀ L h' (news' n') → Q .none { s with heap := h' }) : wpAny (model prog w) A (call (.builtin "list.extend") [.ref D, .ref b]) Q E s := by
  obtain ⟨pre, post, rfl, -, a, c⟩ := (U 0).split
  have U' : ∀ n', news' n' = pre ++ (D, PySem.W.listOf (its ++ its2).toArray n') :: post := by
    intro n'
    have := U n'
    clear U N
    generalize news' n' = l at this
    generalize hq : pre ++ (D, PySem.W.listOf its.toArray n) :: post = k at this
    induction this generalizing pre with
    | head hne =>
      cases pre with
      | nil => cases hq; rfl
      | cons p r => cases hq; exact absurd rfl (a _ (.head _))
    | tail hne _ ih =>
      cases pre with
      | nil => cases hq; exact absurd rfl hne
      | cons p r => cases hq; exact congrArg _ (ih r (fun q hq => a q (.tail _ hq)) rfl)
  refine extend_in F N a c (F.keep _ _ hb) (fun h' n' F' N' => h h' n' F' (by rw [U' n']; simpa using N')) (by simpa using hz)
end

/-- what a record is made of: G tells which objects lie where -/
inductive RecOf (w : World) (G : Addr → Obj → Prop) (v : Value) (xs ys : List Value) : Prop
  | mk (x dx a b : Addr) (na nb : Nat) (t1 t2 t3 t4 : Tok) (h1 : v = .ref x) (h2 : G x (instObj 95 dx)) (h3 : G dx (dictOf [⟨PyData.keyHash w.params (Str.ofString "useragents"), .str (Str.ofString "useragents") t1, .ref a⟩, ⟨PyData.keyHash w.params (Str.ofString "rulelines"), .str (Str.ofString "rulelines") t2, .ref b⟩, ⟨PyData.keyHash w.params (Str.ofString "delay"), .str (Str.ofString "delay") t3, .none⟩, ⟨PyData.keyHash w.params (Str.ofString "req_rate"), .str (Str.ofString "req_rate") t4, .none⟩] 4)) (h4 : G a (PySem.W.listOf xs.toArray na)) (h5 : G b (PySem.W.listOf ys.toArray nb)) :
    RecOf w G v xs ys

theorem RecOf.intro {w : World} {G : Addr → Obj → Prop} {xs ys : List Value} {x dx a b : Addr} {na nb : Nat} {t1 t2 t3 t4 : Tok} (h1 : G x (instObj 95 dx)) 
    (h2 : G dx (dictOf [⟨PyData.keyHash w.params (Str.ofString "useragents"), .str (Str.ofString "useragents") t1, .ref a⟩, ⟨PyData.keyHash w.params (Str.ofString "rulelines"), .str (Str.ofString "rulelines") t2, .ref b⟩,
      ⟨PyData.keyHash w.params (Str.ofString "delay"), .str (Str.ofString "delay") t3, .none⟩, ⟨PyData.keyHash w.params (Str.ofString "req_rate"), .str (Str.ofString "req_rate") t4, .none⟩] 4))
    (h3 : G a (PySem.W.listOf xs.toArray na)) (h4 : G b (PySem.W.listOf ys.toArray nb)) : RecOf w G (.ref x) xs ys := ⟨x, dx, a, b, na, nb, t1, t2, t3, t4, rfl, h1, h2, h3, h4⟩


theorem strs_of_pairs : ∀ l : List (PySem.Str × Tok), StrsAre (strValues l) (l.map (·.1))
  | [] => .nil
  | (x, t) :: r => .cons _ _ (strs_of_pairs r)

theorem sum_take_le (ys : List PySem.Str) (k : Nat) : ((ys.take k).map (·.length)).sum + (ys.take k).length ≤ (ys.map (·.length)).sum + ys.length := by
  induction ys generalizing k with
  | nil => simp
  | cons y r ih =>
    cases k with
    | zero => simp
    | succ k =>
      have := ih k
      simp only [List.take_succ_cons, List.map_cons, List.sum_cons, List.length_cons]
      omega

section
variable {prog : Program} {w : World} {A : Around} {E : Value → Shared → Prop} {s : Shared} {h₀ : Heap} {L D : Addr} {m : PySem.Str → Option Value} {news : List (Addr × Obj)}
theorem join_spl {l₁ l₂ : List (PySem.Str × Tok)} {xs ys : List PySem.Str} {c : Nat} {x : PySem.Str} {t : Tok} {Q : Value → Shared → Prop} (N : News h₀ L s.heap news)
    (hm : (D, PySem.W.listOf (slicePick (strValues l₁).toArray none (some (-(l₂.length : Int))) none) c) ∈ news) (h1 : l₁.map (·.1) = xs) (h2 : l₂.map (·.1) = ys) (hk : 1 ≤ ys.length) (hw : (xs.map (·.length)).sum + xs.length ≤ 1000) (hsep : x.length ≤ 16)
    (h : ∀ t' k, Q (.str (Txt.join x (xs.take (xs.length - ys.length))) t') { s with toks := k }) : wpAny (model prog w) A (call (.builtin "str.join") [.str x t, .ref D]) Q E s := by
  have e : l₂.length = ys.length := by rw [← h2, List.length_map]
  have e1 : l₁.length = xs.length := by rw [← h1, List.length_map]
  rw [e, slicePick_butLast _ _ hk] at hm
  have hS : StrsAre (((strValues l₁).toArray.toList.take ((strValues l₁).toArray.size - ys.length)).toArray.toList) (xs.take (xs.length - ys.length)) := by
    have := (strs_of_pairs l₁).take' (l₁.length - ys.length)
    rw [h1] at this
    have e2 : (strValues l₁).length = l₁.length := by simp [strValues]
    simpa [e2, e1] using this
  refine join_listW (N.isList hm) hS hsep ?_ h
  have := sum_take_le xs (xs.length - ys.length)
  omega
end


section
variable {prog : Program} {w : World} {A : Around} {E : Value → Shared → Prop} {s : Shared} {h₀ : Heap} {L D : Addr} {m : PySem.Str → Option Value} {news : List (Addr × Obj)}
theorem len_N {its : Array Value} {c n : Nat} {Q : Value → Shared → Prop} (N : News h₀ L s.heap news) (hm : (D, PySem.W.listOf its c) ∈ news) (hn : its.size = n) (hz : n ≤ 100000)
    (h : ∀ t' k, Q (.int (n : Int) t') { s with toks := k }) : wpAny (model prog w) A (call (.builtin "len") [.ref D]) Q E s := by
  subst hn
  exact PyProof.Rows.len_list (N.isList hm) (by omega) (h _ _)
theorem len_spl {l : List (PySem.Str × Tok)} {ys : List PySem.Str} {c : Nat} {Q : Value → Shared → Prop} (N : News h₀ L s.heap news) (hm : (D, PySem.W.listOf (strValues l).toArray c) ∈ news) (he : l.map (·.1) = ys) (hz : ys.length ≤ 100000)
    (h : ∀ t' k, Q (.int (l.length : Int) t') { s with toks := k }) : wpAny (model prog w) A (call (.builtin "len") [.ref D]) Q E s :=
  len_N N hm (by simp [strValues]) (by rw [← he, List.length_map] at hz; exact hz) h
end
end
section
open PySem PySem.W PySem.Calls PySem.Spec PyProof.Rows
set_option maxRecDepth 100000
set_option maxHeartbeats 8000000
/-- the end of a loop's turn: the frame, the ledger with the loop's own entries ahead, the word -/
noncomputable def TurnEnd (h₀ : Heap) (L : Addr) (own : List (Addr × Obj)) (J : (PySem.Str → Option Value) → List (Addr × Obj) → Prop) (s₁ : Shared) (Q : Flow → Shared → Prop) (f : Flow) (s₂ : Shared) : Prop :=
  match f with
  | .ret v => Q (.ret v) s₂
  | .brk => Q .next s₂
  | _ => ∃ h' tk m' nx, s₂ = { s₁ with heap := h', toks := tk } ∧ Fr h₀ L h' m' ∧ News h₀ L h' (own ++ nx) ∧ (∀ p ∈ nx, ∀ q ∈ own, p.1 ≠ q.1) ∧ J m' nx

theorem TurnEnd.intro {h₀ : Heap} {L : Addr} {own : List (Addr × Obj)} {J : (PySem.Str → Option Value) → List (Addr × Obj) → Prop} {s₁ : Shared} {Q : Flow → Shared → Prop} {h' : Heap} {tk : Nat} {m' : PySem.Str → Option Value} {nx : List (Addr × Obj)}
    (F : Fr h₀ L h' m') (N : News h₀ L h' (own ++ nx)) (hne : ∀ p ∈ nx, ∀ q ∈ own, p.1 ≠ q.1) (hJ : J m' nx) : TurnEnd h₀ L own J s₁ Q .next { s₁ with heap := h', toks := tk } :=
  ⟨h', tk, m', nx, rfl, F, N, hne, hJ⟩

section
variable {prog : Program} {w : World} {A : Around} {E : Value → Shared → Prop} {s : Shared} {env : Env} {h₀ : Heap} {x : PySem.Str} {body : List Stmt} {Q : Flow → Shared → Prop}

/-- a for over a list that stood before the frame; the ledger may grow -/
theorem iter_grow {l L : Addr} {vs : List Value} {m₀ : PySem.Str → Option Value} {news : List (Addr × Obj)} (J : Nat → (PySem.Str → Option Value) → List (Addr × Obj) → Prop)
    (hL : env.locals = L) (hh : A.handled = none) (hl : h₀.IsList l vs.toArray) (F : Fr h₀ L s.heap m₀) (N : News h₀ L s.heap news) (hj : J 0 m₀ news)
    (turn : ∀ i v m₁ news₁ h tk I oI, vs[i]? = some v → J i m₁ news₁ → (∀ p ∈ news₁, p.1 ≠ I) → Fr h₀ L h (fun y => if y = x then some v else m₁ y) → News h₀ L h ((I, oI) :: news₁) →
      wpAny (model prog w) A (execs body env) (TurnEnd h₀ L [(I, oI)] (J (i + 1)) { s with heap := h, toks := tk } Q) E { s with heap := h, toks := tk })
    (done : ∀ m₁ news₁ h tk, J vs.length m₁ news₁ → Fr h₀ L h m₁ → News h₀ L h news₁ → Q .next { s with heap := h, toks := tk }) :
    wpAny (model prog w) A (pyIter (.ref l)) (fun it s₂ => LoopAtV prog w A h₀ env x body Q E it s₂) E s := by
  subst hL
  have hls : s.heap.IsList l vs.toArray := hl.at fun o e => F.keep l o e
  obtain ⟨ol, hol, _⟩ := id hl
  have hlt : l < h₀.objs.size := Heap.lt_size hol
  have hne : l ≠ s.heap.objs.size := Nat.ne_of_lt (Nat.lt_trans (Nat.lt_of_lt_of_le hlt F.above) F.ns.lt)
  refine wpAny_pyIter_list hls ?_
  have W := Walks.list (prog := prog) (w := w) hh s.heap.objs.size l hne vs.toArray
  refine ⟨_, _, _, _, _, _, m₀, news, J, rfl, W, ?_, ?_, ?_, ⟨⟨_, Heap.get?_push_size _ rfl, rfl, rfl⟩, hls.at fun o e => Heap.get?_push_of_some _ e⟩, F.push _, (fun p hp => ⟨Heap.get?_push_of_some _ (N p hp).1, (N p hp).2⟩), hj, ?_, ?_⟩
  · intro hm
    rcases List.mem_cons.mp hm with e | hm
    · exact absurd F.ns.lt (e ▸ Nat.lt_irrefl _)
    · exact absurd (Nat.lt_of_lt_of_le hlt F.above) ((List.mem_singleton.mp hm) ▸ Nat.lt_irrefl _)
  · intro b hb
    rw [List.mem_singleton.mp hb]
    exact next_is_new F
  · intro p hp hI
    exact absurd (Heap.lt_size (N p hp).1) ((List.mem_singleton.mp hI) ▸ Nat.lt_irrefl _)
  · rintro i v m₁ news₁ s₁ own ⟨hh', tk', rfl⟩ hin hP hJ hoff hown hheap hall st F₁ N₁
    obtain ⟨oI, hoI, _⟩ := st.1
    have hI : (s.heap.objs.size, oI) ∈ own := hall _ (.head _) (next_is_new F) oI hoI
    have hv : vs[i]? = some v := by simpa using hP
    have hoff' : ∀ p ∈ news₁, p.1 ≠ s.heap.objs.size := fun p hp e => hoff p hp (e ▸ .head _)
    have only : ∀ p ∈ own, p = (s.heap.objs.size, oI) := by
      intro p hp
      have h1 : p.1 = s.heap.objs.size := by
        rcases List.mem_cons.mp (hown p hp) with e | e
        · exact e
        · have := (N₁ p (List.mem_append_left _ hp)).2.2
          rw [List.mem_singleton.mp e, hol] at this; cases this
      have h2 := hheap p hp
      rw [h1] at h2
      have : p.2 = oI := Option.some.inj (h2.symm.trans hoI)
      exact Prod.ext h1 this
    have N₂ : News h₀ env.locals hh' ((s.heap.objs.size, oI) :: news₁) := fun p hp => N₁ p ((List.mem_cons.mp hp).elim (fun e => List.mem_append_left _ (e ▸ hI)) fun e => List.mem_append_right _ e)
    refine wpAny_mono (turn i v m₁ news₁ hh' tk' s.heap.objs.size oI hv hJ hoff' F₁ N₂) (fun f s₂ p => ?_) fun _ _ e => e
    have fin : (∃ h' tk m' nx, s₂ = { { s with heap := hh', toks := tk' } with heap := h', toks := tk } ∧ Fr h₀ env.locals h' m' ∧ News h₀ env.locals h' ([(s.heap.objs.size, oI)] ++ nx) ∧ (∀ p ∈ nx, ∀ q ∈ [(s.heap.objs.size, oI)], p.1 ≠ q.1) ∧ J (i + 1) m' nx) →
        LoopStepU h₀ env.locals [s.heap.objs.size] own (J (i + 1)) { s with heap := hh', toks := tk' } .next s₂ := by
      rintro ⟨h', tk, m', nx, e, F', N', hn, hm⟩
      refine ⟨rfl, h', tk, m', nx, e, F', fun p hp => N' p ((List.mem_append.mp hp).elim (fun q => ?_) fun q => List.mem_append_right _ q), fun p hp hq => ?_, hm⟩
      · rw [only p q]; exact List.mem_append_left _ (.head _)
      · exact hn p hp _ (.head _) (List.mem_singleton.mp hq)
    cases f with
    | ret v => exact .ret p
    | brk => exact .brk p
    | next => exact .next (fin p)
    | cont => exact .cont (fin p)
  · rintro h' tk m' news' F' N' _ hJ
    have hJ' : J vs.length m' news' := by simpa using hJ
    exact done m' news' h' tk hJ' F' N'

/-- a for over a list of the ledger -/
theorem iter_growN {l L : Addr} {vs : List Value} {n : Nat} {m₀ : PySem.Str → Option Value} {led news : List (Addr × Obj)} (J : Nat → (PySem.Str → Option Value) → List (Addr × Obj) → Prop)
    (hL : env.locals = L) (hh : A.handled = none) (F : Fr h₀ L s.heap m₀) (N : News h₀ L s.heap led) (hm : (l, PySem.W.listOf vs.toArray n) ∈ led) (hsub : ∀ p ∈ news, p ∈ led) (hoffl : ∀ p ∈ news, p.1 ≠ l) (hj : J 0 m₀ news)
    (turn : ∀ i v m₁ news₁ h tk I oI, vs[i]? = some v → J i m₁ news₁ → (∀ p ∈ news₁, p.1 ≠ I) → (∀ p ∈ news₁, p.1 ≠ l) → Fr h₀ L h (fun y => if y = x then some v else m₁ y) → News h₀ L h ((I, oI) :: (l, PySem.W.listOf vs.toArray n) :: news₁) →
      wpAny (model prog w) A (execs body env) (TurnEnd h₀ L [(I, oI), (l, PySem.W.listOf vs.toArray n)] (J (i + 1)) { s with heap := h, toks := tk } Q) E { s with heap := h, toks := tk })
    (done : ∀ m₁ news₁ h tk, J vs.length m₁ news₁ → Fr h₀ L h m₁ → News h₀ L h news₁ → Q .next { s with heap := h, toks := tk }) :
    wpAny (model prog w) A (pyIter (.ref l)) (fun it s₂ => LoopAtV prog w A h₀ env x body Q E it s₂) E s := by
  subst hL
  have hol := (N _ hm).1
  have hlL : l ≠ env.locals := (N _ hm).2.1
  have hls : s.heap.IsList l vs.toArray := ⟨_, hol, rfl, _, rfl⟩
  have hne : l ≠ s.heap.objs.size := Nat.ne_of_lt (Heap.lt_size hol)
  refine wpAny_pyIter_list hls ?_
  have W := Walks.list (prog := prog) (w := w) hh s.heap.objs.size l hne vs.toArray
  let J' : Nat → (PySem.Str → Option Value) → List (Addr × Obj) → Prop := fun i m nx => (l, PySem.W.listOf vs.toArray n) ∈ nx ∧ ∃ nx', (∀ p ∈ nx', p ∈ nx) ∧ (∀ p ∈ nx', p.1 ≠ l) ∧ J i m nx'
  refine ⟨_, _, _, _, _, _, m₀, led, J', rfl, W, ?_, ?_, ?_, ⟨⟨_, Heap.get?_push_size _ rfl, rfl, rfl⟩, hls.at fun o e => Heap.get?_push_of_some _ e⟩, F.push _, (fun p hp => ⟨Heap.get?_push_of_some _ (N p hp).1, (N p hp).2⟩), ⟨hm, news, hsub, hoffl, hj⟩, ?_, ?_⟩
  · intro hm
    rcases List.mem_cons.mp hm with e | hm
    · exact absurd F.ns.lt (e ▸ Nat.lt_irrefl _)
    · exact hlL (List.mem_singleton.mp hm).symm
  · intro b hb
    rw [List.mem_singleton.mp hb]
    exact next_is_new F
  · intro p hp hI
    exact absurd (Heap.lt_size (N p hp).1) ((List.mem_singleton.mp hI) ▸ Nat.lt_irrefl _)
  · rintro i v m₁ news₁ s₁ own ⟨hh', tk', rfl⟩ hin hP ⟨hml, nx, hs, hol', hJ⟩ hoff hown hheap hall st F₁ N₁
    obtain ⟨oI, hoI, _⟩ := st.1
    have hI : (s.heap.objs.size, oI) ∈ own := hall _ (.head _) (next_is_new F) oI hoI
    have hv : vs[i]? = some v := by simpa using hP
    have hoff' : ∀ p ∈ nx, p.1 ≠ s.heap.objs.size := fun p hp e => hoff p (hs p hp) (e ▸ .head _)
    have hlI : hh'.get? l = some (PySem.W.listOf vs.toArray n) := (N₁ _ (List.mem_append_right _ hml)).1
    have only : ∀ p ∈ own, p = (s.heap.objs.size, oI) ∨ p = (l, PySem.W.listOf vs.toArray n) := by
      intro p hp
      have h2 := hheap p hp
      rcases List.mem_cons.mp (hown p hp) with e | e
      · rw [e] at h2
        exact .inl (Prod.ext e (Option.some.inj (h2.symm.trans hoI)))
      · have e := List.mem_singleton.mp e
        rw [e] at h2
        exact .inr (Prod.ext e (Option.some.inj (h2.symm.trans hlI)))
    have N₂ : News h₀ env.locals hh' ((s.heap.objs.size, oI) :: (l, PySem.W.listOf vs.toArray n) :: nx) := fun p hp => N₁ p (by
      rcases List.mem_cons.mp hp with e | hp
      · exact List.mem_append_left _ (e ▸ hI)
      · rcases List.mem_cons.mp hp with e | hp
        · exact List.mem_append_right _ (e ▸ hml)
        · exact List.mem_append_right _ (hs p hp))
    refine wpAny_mono (turn i v m₁ nx hh' tk' s.heap.objs.size oI hv hJ hoff' hol' F₁ N₂) (fun f s₂ p => ?_) fun _ _ e => e
    have fin : (∃ h' tk m' nx', s₂ = { { s with heap := hh', toks := tk' } with heap := h', toks := tk } ∧ Fr h₀ env.locals h' m' ∧ News h₀ env.locals h' ([(s.heap.objs.size, oI), (l, PySem.W.listOf vs.toArray n)] ++ nx') ∧ (∀ p ∈ nx', ∀ q ∈ [(s.heap.objs.size, oI), (l, PySem.W.listOf vs.toArray n)], p.1 ≠ q.1) ∧ J (i + 1) m' nx') →
        LoopStepU h₀ env.locals [s.heap.objs.size] own (J' (i + 1)) { s with heap := hh', toks := tk' } .next s₂ := by
      rintro ⟨h', tk, m', nx', e, F', N', hn, hm'⟩
      refine ⟨rfl, h', tk, m', (l, PySem.W.listOf vs.toArray n) :: nx', e, F', fun p hp => ?_, fun p hp hq => ?_, .head _, nx', fun p hp => .tail _ hp, fun p hp => hn p hp _ (.tail _ (.head _)), hm'⟩
      · rcases List.mem_append.mp hp with q | q
        · rcases only p q with e | e
          · exact N' p (e ▸ .head _)
          · exact N' p (e ▸ .tail _ (.head _))
        · rcases List.mem_cons.mp q with e | q
          · exact N' p (e ▸ .tail _ (.head _))
          · exact N' p (List.mem_append_right _ q)
      · rcases List.mem_cons.mp hp with e | q
        · have := List.mem_singleton.mp hq
          rw [e] at this
          exact hne this
        · exact hn p q _ (.head _) (List.mem_singleton.mp hq)
    cases f with
    | ret v => exact .ret p
    | brk => exact .brk p
    | next => exact .next (fin p)
    | cont => exact .cont (fin p)
  · rintro h' tk m' news' F' N' _ ⟨_, nx, hs, _, hJ⟩
    have hJ' : J vs.length m' nx := by simpa using hJ
    exact done m' nx h' tk hJ' F' fun p hp => N' p (hs p hp)

/-- a for over a range by ones -/
theorem iter_rangeG {r L : Addr} {a₀ b₀ : Int} {t₀ u₀ v₀ : Tok} {n : Nat} {m₀ : PySem.Str → Option Value} {news : List (Addr × Obj)} (J : Nat → (PySem.Str → Option Value) → List (Addr × Obj) → Prop)
    (hL : env.locals = L) (hh : A.handled = none) (hr : IsRange s.heap r a₀ b₀ 1 t₀ u₀ v₀) (hsmall : Builtin.Range.small a₀ b₀ 1 = true) (hn : Builtin.Range.rangeSize a₀ b₀ 1 = (n : Int)) (F : Fr h₀ L s.heap m₀) (N : News h₀ L s.heap news) (hj : J 0 m₀ news)
    (turn : ∀ i t m₁ news₁ h tk I oI, i < n → J i m₁ news₁ → (∀ p ∈ news₁, p.1 ≠ I) → Fr h₀ L h (fun y => if y = x then some (.int (a₀ + (i : Int)) t) else m₁ y) → News h₀ L h ((I, oI) :: news₁) →
      wpAny (model prog w) A (execs body env) (TurnEnd h₀ L [(I, oI)] (J (i + 1)) { s with heap := h, toks := tk } Q) E { s with heap := h, toks := tk })
    (done : ∀ m₁ news₁ h tk, J n m₁ news₁ → Fr h₀ L h m₁ → News h₀ L h news₁ → Q .next { s with heap := h, toks := tk }) :
    wpAny (model prog w) A (pyIter (.ref r)) (fun it s₂ => LoopAtV prog w A h₀ env x body Q E it s₂) E s := by
  subst hL
  refine wpAny_pyIter_range hr hsmall ?_
  have W : Walks prog w A s.heap.objs.size [s.heap.objs.size] [s.heap.objs.size] n (fun i v => i < n ∧ ∃ t, v = .int (a₀ + i * 1) t)
      (fun i h => IsRangeIter h s.heap.objs.size (a₀ + (i : Nat) * 1) ((n : Int) - (i : Nat)) 1) := (Walks.range hh _ a₀ 1 n).bound
  refine ⟨_, _, _, _, _, _, m₀, news, J, rfl, W, ?_, ?_, ?_, (by show IsRangeIter _ _ _ _ _; rw [hn]; simpa using Heap.get?_push_size _ rfl), F.push _, (fun p hp => ⟨Heap.get?_push_of_some _ (N p hp).1, (N p hp).2⟩), hj, ?_, ?_⟩
  · intro hm
    exact absurd F.ns.lt ((List.mem_singleton.mp hm) ▸ Nat.lt_irrefl _)
  · intro b hb
    rw [List.mem_singleton.mp hb]
    exact next_is_new F
  · intro p hp hI
    exact absurd (Heap.lt_size (N p hp).1) ((List.mem_singleton.mp hI) ▸ Nat.lt_irrefl _)
  · rintro i v m₁ news₁ s₁ own ⟨hh', tk', rfl⟩ hin ⟨_, t, rfl⟩ hJ hoff hown hheap hall st F₁ N₁
    have hoI : hh'.get? s.heap.objs.size = some _ := st
    have hI := hall _ (.head _) (next_is_new F) _ hoI
    have hoff' : ∀ p ∈ news₁, p.1 ≠ s.heap.objs.size := fun p hp e => hoff p hp (e ▸ .head _)
    have only : ∀ p ∈ own, p = (s.heap.objs.size, _) := fun p hp => by
      have h1 : p.1 = s.heap.objs.size := List.mem_singleton.mp (hown p hp)
      have h2 := hheap p hp
      rw [h1] at h2
      exact Prod.ext h1 (Option.some.inj (h2.symm.trans hoI))
    have N₂ : News h₀ env.locals hh' ((s.heap.objs.size, _) :: news₁) := fun p hp => N₁ p ((List.mem_cons.mp hp).elim (fun e => List.mem_append_left _ (e ▸ hI)) fun e => List.mem_append_right _ e)
    rw [Int.mul_one] at F₁
    refine wpAny_mono (turn i t m₁ news₁ hh' tk' s.heap.objs.size _ hin hJ hoff' F₁ N₂) (fun f s₂ p => ?_) fun _ _ e => e
    have fin : ∀ oI, (∀ p ∈ own, p = (s.heap.objs.size, oI)) → (∃ h' tk m' nx, s₂ = { { s with heap := hh', toks := tk' } with heap := h', toks := tk } ∧ Fr h₀ env.locals h' m' ∧ News h₀ env.locals h' ([(s.heap.objs.size, oI)] ++ nx) ∧ (∀ p ∈ nx, ∀ q ∈ [(s.heap.objs.size, oI)], p.1 ≠ q.1) ∧ J (i + 1) m' nx) →
        LoopStepU h₀ env.locals [s.heap.objs.size] own (J (i + 1)) { s with heap := hh', toks := tk' } .next s₂ := by
      rintro oI only ⟨h', tk, m', nx, e, F', N', hn, hm⟩
      refine ⟨rfl, h', tk, m', nx, e, F', fun p hp => N' p ((List.mem_append.mp hp).elim (fun q => ?_) fun q => List.mem_append_right _ q), fun p hp hq => ?_, hm⟩
      · rw [only p q]; exact List.mem_append_left _ (.head _)
      · exact hn p hp _ (.head _) (List.mem_singleton.mp hq)
    cases f with
    | ret v => exact .ret p
    | brk => exact .brk p
    | next => exact .next (fin _ only p)
    | cont => exact .cont (fin _ only p)
  · rintro h' tk m' news' F' N' _ hJ
    exact done m' news' h' tk hJ F' N'
end

theorem forget1 {m m₀ : PySem.Str → Option Value} {a : PySem.Str} (h : ∀ z, z ≠ a → m z = m₀ z) : m = fun z => if z = a then m a else m₀ z := by
  funext z
  by_cases e : z = a
  · rw [if_pos e, e]
  · rw [if_neg e, h z e]
theorem forget2 {m m₀ : PySem.Str → Option Value} {a b : PySem.Str} (h : ∀ z, z ≠ a → z ≠ b → m z = m₀ z) : m = fun z => if z = a then m a else if z = b then m b else m₀ z := by
  funext z
  by_cases e : z = a
  · rw [if_pos e, e]
  · by_cases e2 : z = b
    · rw [if_neg e, if_pos e2, e2]
    · rw [if_neg e, if_neg e2, h z e e2]
theorem forget3 {m m₀ : PySem.Str → Option Value} {a b c : PySem.Str} (h : ∀ z, z ≠ a → z ≠ b → z ≠ c → m z = m₀ z) : m = fun z => if z = a then m a else if z = b then m b else if z = c then m c else m₀ z := by
  funext z
  by_cases e : z = a
  · rw [if_pos e, e]
  · by_cases e2 : z = b
    · rw [if_neg e, if_pos e2, e2]
    · by_cases e3 : z = c
      · rw [if_neg e, if_neg e2, if_pos e3, e3]
      · rw [if_neg e, if_neg e2, if_neg e3, h z e e2 e3]

theorem ints_any : ∀ {l : List Value}, (∀ v ∈ l, ∃ i t, v = .int i t) → ∃ ns, IntsAre l ns
  | [], _ => ⟨[], .nil⟩
  | v :: r, h => by
    obtain ⟨i, t, rfl⟩ := h v (.head _)
    obtain ⟨ns, hn⟩ := ints_any (l := r) fun v hv => h v (.tail _ hv)
    exact ⟨i :: ns, .cons _ _ hn⟩
theorem ints_mem : ∀ {l : List Value} {ns : List Int}, IntsAre l ns → ∀ v ∈ l, ∃ i t, v = .int i t
  | _, _, .cons i t h, _, .head _ => ⟨i, t, rfl⟩
  | _, _, .cons _ _ h, _, .tail _ m => ints_mem h _ m
theorem pick_ints {vs : List Value} {ns : List Int} (h : IntsAre vs ns) (a b c : Option Int) : ∃ ns', IntsAre (slicePick vs.toArray a b c).toList ns' := by
  refine ints_any fun v hv => ?_
  unfold slicePick at hv
  simp only [List.mem_filterMap] at hv
  obtain ⟨i, _, hi⟩ := hv
  have := Array.mem_of_getElem? hi
  exact ints_mem h v (by simpa using this)
section
variable {prog : Program} {w : World} {A : Around} {E : Value → Shared → Prop} {s : Shared} {h₀ : Heap} {L D : Addr} {m : PySem.Str → Option Value} {news : List (Addr × Obj)}
theorem sum_pick {news' : List (Addr × Obj)} {vs : List Value} {ns : List Int} {a b c : Option Int} {n : Nat} {Q : Value → Shared → Prop} (hh : A.handled = none) (F : Fr h₀ L s.heap m) (N : News h₀ L s.heap news) (hm : (D, ({ cls := .type "list", data := .seq (slicePick vs.toArray a b c) n } : Obj)) ∈ news) (hi : IntsAre vs ns) (hs : ∀ p ∈ news', p ∈ news)
    (h : ∀ h' tk i t', Fr h₀ L h' m → News h₀ L h' news' → Q (.int i t') { s with heap := h', toks := tk }) : wpAny (model prog w) A (call (.builtin "sum") [.ref D]) Q E s := by
  obtain ⟨ns', hn⟩ := pick_ints hi a b c
  refine sumK (vs := (slicePick vs.toArray a b c).toList) hh F N ?_ hn fun h' tk t' F' N' => h h' tk _ t' F' fun p hp => N' p (hs p hp)
  have := (N _ hm).1
  exact ⟨_, this, rfl, n, by simp⟩
end
end
section
open PySem PySem.W PySem.Calls PySem.Spec PyProof.Rows
set_option maxRecDepth 100000
set_option maxHeartbeats 8000000
section
variable {prog : Program} {w : World} {A : Around} {E : Value → Shared → Prop} {s : Shared} {h₀ : Heap} {L : Addr} {m : PySem.Str → Option Value} {env : Env} {news : List (Addr × Obj)}
/-- a comprehension over a range, the frame and the ledger in hand -/
theorem comp_r {elt iter : Expr} {x : PySem.Str} {px : Pos} {scope : Scope} {cl : List (PySem.Str × Addr)} {pos : Pos} {Q : Value → Shared → Prop} (d : Int → PyData) (_F : Fr h₀ L s.heap m)
    (hh : A.handled = none) (hclos : closureFor scope env = pure cl) (hcell : ∀ y ∈ scope.names, y.2 ≠ .cell) (hkind : scope.kind = .function)
    (hnames : ∀ y ∈ scope.names, y.2 = .local → scope.names.lookup y.1 = some .local) (hx : scope.names.lookup x = some .local)
    (h : wpAny (model prog w) A (eval iter env) (fun xv s₁ => ∃ news : List (Addr × Obj), ∃ r a₀ b₀ c₀ t₀ u₀ v₀, ∃ n : Nat, xv = .ref r ∧ IsRange s₁.heap r a₀ b₀ c₀ t₀ u₀ v₀ ∧ Builtin.Range.small a₀ b₀ c₀ = true ∧ Builtin.Range.rangeSize a₀ b₀ c₀ = (n : Int) ∧ n ≤ sizeLine ∧ Fr h₀ L s₁.heap m ∧ News h₀ L s₁.heap news ∧
      (∀ C a v s₂ m₂ E', s₁.heap.objs.size ≤ C → a ∈ rangeInts a₀ c₀ n → ItemKind.int.is a v → s₂.heap.Ns (compEnvC scope cl C env).locals m₂ → m₂ x = some v → (∀ b o, s₁.heap.get? b = some o → s₂.heap.get? b = some o) →
        wpAny (model prog w) A (eval elt (compEnvC scope cl C env)) (fun y s₃ => Carried y (d a) ∧ Keeps s₂ s₃) E' s₂) ∧
      (∀ D (ys : List Value) h' tk, Fr h₀ L h' m → News h₀ L h' news → h'.IsList D ys.toArray → CarriedAll ys ((rangeInts a₀ c₀ n).map d) → Q (.ref D) { s₁ with heap := h', toks := tk })) E s)
    (hs : ∀ x, foldedSetIterable iter env x = pure x) :
    wpAny (model prog w) A (eval (.ListComp elt [⟨.Name x px, iter, [], 0⟩] scope pos) env) Q E s := by
  refine ListComp_DCr (h₀ := h₀) (L := L) (m := m) (pz := fun _ => true) (d := d) hh hclos hcell hkind hnames hx (wpAny_mono h (fun xv s₁ h₁ => ?_) fun _ _ e => e) hs
  obtain ⟨news, r, a₀, b₀, c₀, t₀, u₀, v₀, n, h1, h2, h3, h4, h5, h6, h7, h8, h9⟩ := h₁
  refine ⟨news, r, a₀, b₀, c₀, t₀, u₀, v₀, n, h1, h2, h3, h4, h5, h6, h7, ?_, ?_, ?_⟩
  · intro C a v s₂ m₂ E' _ _ _ _ _ _
    rw [List.forIn_nil]
    exact wpAny_pure ⟨rfl, s₂.heap, s₂.toks, rfl, fun _ _ e => e⟩
  · intro C a v s₂ m₂ E' k1 k2 k3 _ k5 k6 k7
    exact h8 C a v s₂ m₂ E' k1 k2 k3 k5 k6 k7
  · intro D ys h' tk k1 k2 k3 k4 k5 k6
    have e : (rangeInts a₀ c₀ n).filter (fun _ => true) = rangeInts a₀ c₀ n := by simp
    rw [e] at k6
    exact h9 D ys h' tk k1 k2 k4 k6
end
end
section
open PySem PySem.W PySem.Calls PySem.Spec PyProof.Rows
set_option maxRecDepth 100000
set_option maxHeartbeats 8000000
theorem slot_search : Slot "re.Pattern" "search" "re.Pattern.search" :=
  .of (owner := "re.Pattern") (n := "search") (by rw [typeLookup_type, builtinLookup_eq_fast]; kernel_rfl) (by decide +kernel) (by decide +kernel) (by decide +kernel)
    (by first | exact .inl (by decide +kernel) | exact .inr (by decide +kernel)) (by rw [isSubtype_type]; kernel_rfl)
theorem type_search : typeOf (.builtin "re.Pattern.search") = pure (.type "method_descriptor") := by show builtinType _ = _; rw [builtinType_eq_fast]; kernel_rfl
theorem entry_search : entryFor table "re.Pattern.search" = some Builtin.«re.Pattern.search» := entryFor_of_tree (by kernel_rfl)
theorem owner_re : Manifest.owners.lookup (String.ofList ['n','r','e','t','t','a','P','.','e','r'].reverse) = some Manifest.sig_re_Pattern := by kernel_rfl
theorem args_search_2 (a b : Value) : argsOk "re.Pattern.search" ⟨[a, b], []⟩ := by
  unfold argsOk; rw [signature?_of (id := "re.Pattern.search") (n := ['h','c','r','a','e','s']) (o := ['n','r','e','t','t','a','P','.','e','r']) (by kernel_rfl) owner_re]; kernel_rfl
theorem plain_re : PlainAttrs "re.Pattern" := ⟨⟨"object.__getattribute__", (by rw [typeLookup_type, builtinLookup_eq_fast]; kernel_rfl), by decide +kernel⟩, by rw [typeLookup_type, builtinLookup_eq_fast]; kernel_rfl⟩

theorem get_search {M : Model} {A : Around} {E : Value → Shared → Prop} {s : Shared} {pl : Sem Bool} {a : Addr} {o : Obj} {Q : Value × List Value → Shared → Prop}
    (ho : s.heap.get? a = some o) (hc : o.cls = .type "re.Pattern") (hd : o.dict = none) (h : Q (.builtin "re.Pattern.search", [.ref a]) s) : wpAny M A (getMethod (.ref a) (Str.ofString "search") pl) Q E s :=
  getMethod_builtin ⟨o, ho, hc⟩ plain_re slot_search type_search (fun b e => by cases e; exact ⟨o, ho, hd⟩) h

open PySem.Builtin.Re

noncomputable def drive : Nat → Sre.M → Option Sre.M
  | 0, _ => none
  | n + 1, m => let m' := m.runFor reTurnSteps; if m'.outcome.isSome then some m' else drive n m'

section
variable {M : Model} {A : Around} {E : Value → Shared → Prop} {s : Shared}

theorem drive_wp {Q : Sre.M → Shared → Prop} : ∀ (k n : Nat) (m m' : Sre.M), drive k m = some m' → k ≤ n → Q m' s → wpAny M A (reDrive n m) Q E s
  | 0, _, _, _, h, _, _ => by cases h
  | k + 1, 0, _, _, _, h, _ => by omega
  | k + 1, n + 1, m, m', h, hk, hq => by
    unfold drive at h
    unfold reDrive
    dsimp only at h ⊢
    split at h
    · rename_i ho
      rw [if_pos ho]
      cases h
      exact wpAny_pure hq
    · rename_i ho
      rw [if_neg ho]
      exact wpAny_bind (wpAny_rule (drive_wp k n _ m' h (Nat.le_of_succ_le_succ hk) hq))

theorem rules_wp {Q : PUnit → Shared → Prop} (f : Nat → PUnit → Sem (ForInStep PUnit)) (hf : ∀ i u (Q' : ForInStep PUnit → Shared → Prop), Q' (.yield ⟨⟩) s → wpAny M A (f i u) Q' E s) : ∀ (l : List Nat), Q ⟨⟩ s → wpAny M A (forIn l PUnit.unit f) Q E s
  | [], h => by rw [List.forIn_nil]; exact wpAny_pure h
  | i :: r, h => by
    rw [List.forIn_cons]
    exact wpAny_bind (hf i _ _ (rules_wp f hf r h))

theorem runToEnd_wp {Q : Option Sre.M → Shared → Prop} {k : Nat} {m m' : Sre.M} (h : drive k m = some m') (hk : k ≤ 2 ^ 64) (hq : (m'.outcome = some .matched ∧ Q (some m') s) ∨ (m'.outcome = some .failed ∧ Q none s)) :
    wpAny M A (reRunToEnd m) Q E s := by
  unfold reRunToEnd
  refine wpAny_bind (drive_wp k _ m m' h hk ?_)
  refine wpAny_bind (rules_wp _ (fun i u Q' hQ' => ?_) _ ?_)
  · (try dsimp only)
    split
    · exact wpAny_bind (wpAny_rule (wpAny_pure hQ'))
    · exact wpAny_pure hQ'
  · rcases hq with ⟨e, q⟩ | ⟨e, q⟩ <;> rw [e] <;> exact wpAny_pure q
end

theorem reNamed_one (v : Value) : reNamed "re.Pattern.search" "search" ["string", "pos", "endpos"] 1 [v] [] = pure [some v, none, none] := by rfl

abbrev patOf (p0 f : Value) (T : Addr) : Obj := { cls := .type "re.Pattern", data := .fields #[p0, f, .int 0 0, .none, .none, .ref T, .int 0 0] }

noncomputable def seek (ws : Array Value) (x : PySem.Str) (k : Nat) : Option Bool :=
  match drive k (Sre.forSearch ((ws.map reRawOf).map (·.toNat)) x.cps 0 (min (0 : Int).toNat x.cps.size) (min (2 ^ 63 - 1 : Int).toNat x.cps.size) false) with
  | some m => (match m.outcome with
    | some .matched => some true
    | some .failed => some false
    | _ => none)
  | none => none

section
variable {prog : Program} {w : World} {A : Around} {E : Value → Shared → Prop} {s : Shared} {h₀ : Heap} {L : Addr} {m : PySem.Str → Option Value} {news : List (Addr × Obj)}

theorem search_no {a T : Addr} {p0 f : Value} {ws : Array Value} {n k : Nat} {x : PySem.Str} {t : Tok} {Q : Value → Shared → Prop} (ha : s.heap.get? a = some (patOf p0 f T)) (hT : s.heap.get? T = some { cls := .type "tuple", data := .seq ws n })
    (hk : k ≤ 2 ^ 64) (h : seek ws x k = some false) (hq : Q .none s) : wpAny (model prog w) A (call (.builtin "re.Pattern.search") [.ref a, .str x t]) Q E s := by
  refine call_meets slot_search ⟨_, ha, rfl⟩ entry_search (args_search_2 _ _) (S := fun _ R s' => s' = s ∧ R (.ok (.ret .none)) s) (fun prog w A R s' hs => ?_) ⟨rfl, hq⟩
  obtain ⟨rfl, hR⟩ := hs
  unfold seek at h
  split at h
  · rename_i m' hd
    show wpAny _ _ (reTarget "re.Pattern.search" "search" _ >>= fun t => reAnswer t (Sre.forSearch t.code t.text t.groups t.pos t.lim false)) _ _ _
    unfold reTarget
    dsimp only
    refine wpAny_bind ?_
    rw [reNamed_one]
    refine wpAny_bind (wpAny_pure ?_)
    dsimp only
    refine wpAny_bind (wpAny_pure (wpAny_bind (wpAny_pure (wpAny_bind (wpAny_fieldsOf ha rfl (wpAny_bind ?_))))))
    refine wpAny_bind (wpAny_pure (wpAny_pure ?_))
    have hg6 : (#[p0, f, Value.int 0 0, Value.none, Value.none, Value.ref T, Value.int 0 0] : Array Value).getD 6 Value.none = Value.int 0 0 := rfl
    have hg5 : (#[p0, f, Value.int 0 0, Value.none, Value.none, Value.ref T, Value.int 0 0] : Array Value).getD 5 Value.none = Value.ref T := rfl
    have hg2 : (#[p0, f, Value.int 0 0, Value.none, Value.none, Value.ref T, Value.int 0 0] : Array Value).getD 2 Value.none = Value.int 0 0 := rfl
    rw [hg6, hg5, hg2]
    rw [if_neg (by show ¬ ((true && false) = true); decide), if_neg (by show ¬ ((false && true) = true); decide)]
    refine wpAny_bind (wpAny_of_eq (a := ()) rfl (wpAny_bind ?_))
    unfold reRawItems
    refine wpAny_bind (wpAny_seqItems hT rfl (wpAny_pure ?_))
    refine wpAny_pure ?_
    show wpAny _ _ (reAnswer _ _) _ _ _
    unfold reAnswer
    cases ho : m'.outcome with
    | none => rw [ho] at h; cases h
    | some o =>
      cases o with
      | matched => rw [ho] at h; cases h
      | failed =>
        refine wpAny_bind (runToEnd_wp hd hk (.inr ⟨ho, ?_⟩))
        exact wpAny_pure hR
      | stuck w => rw [ho] at h; cases h
  · cases h

theorem search_yes {a T : Addr} {p0 f : Value} {ws : Array Value} {n k : Nat} {x : PySem.Str} {t : Tok} {Q : Value → Shared → Prop} (F : Fr h₀ L s.heap m) (N : News h₀ L s.heap news) (ha : s.heap.get? a = some (patOf p0 f T)) (hT : s.heap.get? T = some { cls := .type "tuple", data := .seq ws n })
    (hk : k ≤ 2 ^ 64) (h : seek ws x k = some true) (hq : ∀ mv fs h', Fr h₀ L h' m → News h₀ L h' ((mv, ({ cls := .type "re.Match", data := .fields fs } : Obj)) :: news) → Q (.ref mv) { s with heap := h' }) : wpAny (model prog w) A (call (.builtin "re.Pattern.search") [.ref a, .str x t]) Q E s := by
  refine call_meets slot_search ⟨_, ha, rfl⟩ entry_search (args_search_2 _ _) (S := fun _ R s' => s' = s ∧ ∀ mv fs h', Fr h₀ L h' m → News h₀ L h' ((mv, ({ cls := .type "re.Match", data := .fields fs } : Obj)) :: news) → R (.ok (.ret (.ref mv))) { s with heap := h' }) (fun prog w A R s' hs => ?_) ⟨rfl, hq⟩
  obtain ⟨rfl, hR⟩ := hs
  unfold seek at h
  split at h
  · rename_i m' hd
    show wpAny _ _ (reTarget "re.Pattern.search" "search" _ >>= fun t => reAnswer t (Sre.forSearch t.code t.text t.groups t.pos t.lim false)) _ _ _
    unfold reTarget
    dsimp only
    refine wpAny_bind ?_
    rw [reNamed_one]
    refine wpAny_bind (wpAny_pure ?_)
    dsimp only
    refine wpAny_bind (wpAny_pure (wpAny_bind (wpAny_pure (wpAny_bind (wpAny_fieldsOf ha rfl (wpAny_bind ?_))))))
    refine wpAny_bind (wpAny_pure (wpAny_pure ?_))
    have hg6 : (#[p0, f, Value.int 0 0, Value.none, Value.none, Value.ref T, Value.int 0 0] : Array Value).getD 6 Value.none = Value.int 0 0 := rfl
    have hg5 : (#[p0, f, Value.int 0 0, Value.none, Value.none, Value.ref T, Value.int 0 0] : Array Value).getD 5 Value.none = Value.ref T := rfl
    have hg2 : (#[p0, f, Value.int 0 0, Value.none, Value.none, Value.ref T, Value.int 0 0] : Array Value).getD 2 Value.none = Value.int 0 0 := rfl
    rw [hg6, hg5, hg2]
    rw [if_neg (by show ¬ ((true && false) = true); decide), if_neg (by show ¬ ((false && true) = true); decide)]
    refine wpAny_bind (wpAny_of_eq (a := ()) rfl (wpAny_bind ?_))
    unfold reRawItems
    refine wpAny_bind (wpAny_seqItems hT rfl (wpAny_pure ?_))
    refine wpAny_pure ?_
    show wpAny _ _ (reAnswer _ _) _ _ _
    unfold reAnswer
    cases ho : m'.outcome with
    | none => rw [ho] at h; cases h
    | some o =>
      cases o with
      | matched =>
        refine wpAny_bind (runToEnd_wp hd hk (.inl ⟨ho, ?_⟩))
        dsimp only
        unfold reNewMatch
        refine wpAny_bind ?_
        dsimp only
        rw [if_neg (by show ¬ (false = true); decide)]
        refine wpAny_bind (wpAny_newTuple ?_ (by show [_, _].length ≤ _; rw [sizeLine_eq]; simp))
        refine wpAny_newObj_type ?_ (by show Array.size _ ≤ _; rw [sizeLine_eq]; simp)
        exact wpAny_pure (hR _ _ _ ((F.push _).push _) (fun p hp => (News.push (F.push _) (N.push F _) _) p (by rcases List.mem_cons.mp hp with e | e; exact e ▸ .head _; exact .tail _ (.tail _ e))))
      | failed => rw [ho] at h; cases h
      | stuck w => rw [ho] at h; cases h
  · cases h

theorem noBool_match : typeLookup (.type "re.Match") "__bool__" = pure none := by rw [typeLookup_type, builtinLookup_eq_fast]; kernel_rfl
theorem noLen_match : typeLookup (.type "re.Match") "__len__" = pure none := by rw [typeLookup_type, builtinLookup_eq_fast]; kernel_rfl
theorem truthy_match {a : Addr} {fs : Array Value} {Q : Bool → Shared → Prop} (N : News h₀ L s.heap news) (hm : (a, ({ cls := .type "re.Match", data := .fields fs } : Obj)) ∈ news) (h : Q true s) : wpAny (model prog w) A (truthy (.ref a)) Q E s := by
  have hT : s.TypeIs (.ref a) "re.Match" := ⟨_, (N _ hm).1, rfl⟩
  unfold truthy
  refine wpAny_bind (wpAny_callSpecial?_none (name := Str.ofString "__bool__") hT noBool_match ?_)
  refine wpAny_bind (wpAny_specialOf (name := Str.ofString "__len__") hT noLen_match ?_)
  exact wpAny_pure h

end
end
section
open PySem PySem.W PySem.Calls PySem.Spec PyProof.Rows
set_option maxRecDepth 100000
set_option maxHeartbeats 8000000
local macro_rules | `(tactic| walk_at "idle") => `(tactic| skip)
theorem fresh_E3 : True := by
  w_top off
  trivial
local macro_rules | `(tactic| walk_at "call builtin:list.extend") => `(tactic| (k_here; (with_reducible show wpAny _ _ (call (Value.builtin _) [Value.ref _, Value.ref _]) _ _ _); k_dflt (refine' ext_old (its := []) ?F ?N ?b ?U ?z ?_; (case F | N => k_asm); (case b => assumption); (case U => intro n'; k_upd); (case z => (simp only [List.length_nil, sizeLine_eq]; omega))); intro h' n' F' N'; (try k_sweep)))
theorem rec_spec {w : World} {l1 l2 : Addr} {xs ys : List Value} {n1 n2 : Nat} (hl1 : xs.length < 10000) (hl2 : ys.length < 10000) :
  Spec w 500 500 123 [.ref l1, .ref l2] (fun h => h.get? l1 = some (PySem.W.listOf xs.toArray n1) ∧ h.get? l2 = some (PySem.W.listOf ys.toArray n2)) (fun new v => RecOf w (fun a o => (a, o) ∈ new) v xs ys) := by
  have _k : PySem.Challenge.rw_wn0042_01 = PySem.Challenge.rw_wn0042_01 ∧ hd.heap_39 = hd.heap_39 := ⟨rfl, rfl⟩
  revert _k
  k_fill
  intro _
  refine' Spec.of (binds := [(Str.ofString "agents", .ref l1), (Str.ofString "rules", .ref l2)]) ?a1 ?a2 ?a3 ?a4 ?a5 ?a6 ?a7 ?a8 ?a9 ?_
  case a1 => k_is
  case a2 => k_is
  case a3 => decide
  case a4 => exact fun _ => BindsTo.of_eq rfl
  case a5 => exact locs rfl
  case a6 => decide
  case a7 => rfl
  case a8 => rfl
  case a9 => rfl
  intro loose mean mg mb outer gd A base g L' h₁ s Q F N B X T pre ret
  obtain ⟨p1, p2⟩ := pre
  (try dsimp only)
  k_fold
  k_steps
  refine' ret _ _ _ _ _ ?F ?N ?R
  case F => k_asm
  case N => k_asm
  case R =>
    refine' RecOf.intro ?h1 ?h2 ?h3 ?h4
    case h1 => k_mem
    case h2 => k_mem
    case h3 => k_mem
    case h4 => k_mem
end
section
open PySem PySem.W PySem.Calls PySem.Spec PyProof.Rows
set_option maxRecDepth 100000
set_option maxHeartbeats 8000000
local macro_rules | `(tactic| walk_at "idle") => `(tactic| skip)
local macro_rules | `(tactic| walk_at "idle") => `(tactic| skip)
local macro_rules | `(tactic| walk_at "idle") => `(tactic| skip)
theorem fresh_E4 : True := by
  w_top off
  trivial
noncomputable def ipv4 : Array Value := match (hd.heap_39 { strHash := fun _ => 0, shareClass := fun _ => 0, mergeTok := fun t => t, idOf := fun _ => 0, idOfShared := fun _ _ => 0, followText := fun _ => false, idOfImm := fun _ => 0 }).lookup 42 with | some ⟨_, _, .seq ws _, _⟩ => ws | _ => #[]
theorem ipv4_at (w : World) : (hd.heap_39 w.params).lookup 42 = some { cls := .type "tuple", data := .seq ipv4 0 } := by kernel_rfl
theorem kget {K : Frag} {h : Heap} {a : Addr} {o : Obj} (X : K.In h) (e : K.lookup a = some o) : h.get? a = some o := X _ _ e

local macro_rules | `(tactic| walk_at "getMethod ref") => `(tactic| (k_here; (with_reducible show wpAny _ _ (getMethod (Value.ref 43) _ _) _ _ _); refine' get_search ?ho ?hc ?hd ?_; (case ho => (refine' kget ?X ?e; (case X => k_in); (case e => k_is))); (case hc | hd => rfl)))
local macro_rules | `(tactic| walk_at "call builtin:re.Pattern.search") => `(tactic| (k_here; k_dflt (first
  | (refine' search_no (k := 100) ?ho ?hT ?hk ?hs ?_; (case ho => (refine' kget ?X ?e; (case X => k_in); (case e => k_is))); (case hT => (refine' kget ?X ?e; (case X => k_in); (case e => exact ipv4_at _))); (case hk => decide); (case hs => assumption))
  | (refine' search_yes (k := 100) ?F ?N ?ho ?hT ?hk ?hs ?_; (case F | N => k_asm); (case ho => (refine' kget ?X ?e; (case X => k_in); (case e => k_is))); (case hT => (refine' kget ?X ?e; (case X => k_in); (case e => exact ipv4_at _))); (case hk => decide); (case hs => assumption); intro mv' fs' h' F' N'; k_sweep))))
local macro_rules | `(tactic| walk_at "truthy ref") => `(tactic| (k_here; k_dflt (refine' truthy_match ?N ?m ?_; (case N => k_asm); (case m => k_mem))))
theorem hdn_spec {w : World} {x : PySem.Str} {t : Tok} {b : Bool} (hb : seek ipv4 x 100 = some b) :
    Spec w 700 700 50 [.str x t] (fun _ => True) (fun new v => v = .bool (!b)) := by
  have _k : PySem.Challenge.rw_wn0042_01 = PySem.Challenge.rw_wn0042_01 ∧ hd.heap_39 = hd.heap_39 := ⟨rfl, rfl⟩
  revert _k
  k_fill
  intro _
  refine' Spec.of (binds := [(Str.ofString "text", .str x t)]) ?a1 ?a2 ?a3 ?a4 ?a5 ?a6 ?a7 ?a8 ?a9 ?_
  case a1 => k_is
  case a2 => k_is
  case a3 => decide
  case a4 => exact fun _ => BindsTo.of_eq rfl
  case a5 => exact locs rfl
  case a6 => decide
  case a7 => rfl
  case a8 => rfl
  case a9 => rfl
  intro loose mean mg mb outer gd A base g L' h₁ s Q F N B X T pre ret
  clear pre
  (try dsimp only)
  k_fold
  cases b
  all_goals k_steps
  all_goals (refine' ret _ _ _ _ _ ?F ?N ?R; (case F => k_asm); (case N => k_asm); (case R => rfl))
end
section
open PySem PySem.W PySem.Calls PySem.Spec PyProof.Rows
set_option maxRecDepth 100000
set_option maxHeartbeats 8000000
local macro_rules | `(tactic| walk_at "idle") => `(tactic| skip)
theorem fresh_E6 : True := by
  w_top off
  trivial
noncomputable def udmv (x y : PySem.Str) (a b : Bool) : Bool :=
  if a || b then Txt.lower x == Txt.lower y
  else (Txt.startswith (Txt.lower y) (Str.ofString ".") && Txt.endswith (Txt.lower x) (Txt.lower y)) || (!(Txt.startswith (Txt.lower y) (Str.ofString ".")) && Txt.lower x == Txt.lower y)

local macro_rules | `(tactic| walk_at "call ref") => `(tactic| (k_here; (with_reducible show wpAny _ _ (call (Value.ref 50) _) _ _ _); k_dflt (refine' Spec.useV (hdn_spec ?hb) ?B ?F ?X ?N ?T ?hh ?hd ?hu ?hA ?hf ?hk ?pre ?_; (case hb => assumption); (case B | F | X | N | T => k_asm); (case hh => exact rfl); (case hd | hu => exact Nat.le_of_ble_eq_true rfl); (case hA | hf | hk => exact rfl); (case pre => trivial)); intro v' h' tk' F' N' e'; obtain ⟨new', e'⟩ := e'; subst e'; clear new'; (try k_sweep)))
theorem udm_spec {w : World} {x y : PySem.Str} {t u : Tok} {a b : Bool} (hx : x.length ≤ 1000) (hy : y.length ≤ 1000) (ha : seek ipv4 (Txt.lower x) 100 = some a) (hb : seek ipv4 (Txt.lower y) 100 = some b) :
    Spec w 600 600 57 [.str x t, .str y u] (fun _ => True) (fun new v => v = .bool (udmv x y a b)) := by
  have _k : PySem.Challenge.rw_wn0042_01 = PySem.Challenge.rw_wn0042_01 ∧ hd.heap_39 = hd.heap_39 := ⟨rfl, rfl⟩
  revert _k
  k_fill
  intro _
  refine' Spec.of (binds := [(Str.ofString "A", .str x t), (Str.ofString "B", .str y u)]) ?a1 ?a2 ?a3 ?a4 ?a5 ?a6 ?a7 ?a8 ?a9 ?_
  case a1 => k_is
  case a2 => k_is
  case a3 => decide
  case a4 => exact fun _ => BindsTo.of_eq rfl
  case a5 => exact locs rfl
  case a6 => decide
  case a7 => rfl
  case a8 => rfl
  case a9 => rfl
  intro loose mean mg mb outer gd A base g L' h₁ s Q F N B X T pre ret
  clear pre
  (try dsimp only)
  k_fold
  cases a <;> cases b
  all_goals k_steps
  all_goals (refine' ret _ _ _ _ _ ?F ?N ?R; (case F => k_asm); (case N => k_asm); (case R => simp_all [udmv]))
end
section
open PySem PySem.W PySem.Calls PySem.Spec PyProof.Rows
set_option maxRecDepth 100000
set_option maxHeartbeats 8000000
local macro_rules | `(tactic| walk_at "idle") => `(tactic| skip)
local macro_rules | `(tactic| walk_at "idle") => `(tactic| skip)
local macro_rules | `(tactic| walk_at "idle") => `(tactic| skip)
theorem fresh_E8 : True := by
  w_top off
  trivial
noncomputable def aheadv (x y : PySem.Str) (a b : Bool) : PySem.Str :=
  if udmv (Txt.upper x) (Str.ofString "." ++ y) a b then Txt.join (Str.ofString ".") ((Txt.split x (Str.ofString ".")).take ((Txt.split x (Str.ofString ".")).length - (Txt.split y (Str.ofString ".")).length))
  else Str.ofString ""
theorem aheadv_yes {x y : PySem.Str} {a b : Bool} (h : (udmv (Txt.upper x) (Str.ofString "." ++ y) a b == true) = true) (t : Tok) :
    ∃ t', ended (.ret (.str (Txt.join (Str.ofString ".") ((Txt.split x (Str.ofString ".")).take ((Txt.split x (Str.ofString ".")).length - (Txt.split y (Str.ofString ".")).length))) t)) = .str (aheadv x y a b) t' := by
  rw [beq_iff_eq] at h
  exact ⟨t, by unfold aheadv; rw [if_pos h]⟩
theorem aheadv_no {x y : PySem.Str} {a b : Bool} (h : (udmv (Txt.upper x) (Str.ofString "." ++ y) a b == true) = false) (t : Tok) : ∃ t', ended (.ret (.str (Str.ofString "") t)) = .str (aheadv x y a b) t' := by
  rw [beq_true] at h
  exact ⟨t, by unfold aheadv; rw [if_neg (by rw [h]; exact Bool.false_ne_true)]⟩

local macro_rules | `(tactic| walk_at "call ref") => `(tactic| (k_here; (with_reducible show wpAny _ _ (call (Value.ref 57) _) _ _ _); refine stop_ ?_))
local macro_rules | `(tactic| walk_at "call ref") => `(tactic| (k_here; (with_reducible show wpAny _ _ (call (Value.ref 57) _) _ _ _); k_dflt (refine' Spec.useV (udm_spec ?hx ?hy ?ha ?hb) ?B ?F ?X ?N ?T ?hh ?hd ?hu ?hA ?hf ?hk ?pre ?_; (case ha | hb => assumption); (case hx => omega); (case hy => ((have e1' : (Str.ofString ".").length = 1 := rfl); (simp only [Str.length_append]); omega)); (case B | F | X | N | T => k_asm); (case hh => exact rfl); (case hd | hu => exact Nat.le_of_ble_eq_true rfl); (case hA | hf | hk => exact rfl); (case pre => trivial)); intro v' h' tk' F' N' e'; obtain ⟨new', e'⟩ := e'; subst e'; clear new'; (try k_sweep)))
local macro_rules | `(tactic| walk_at "call builtin:str.join") => `(tactic| (k_here; k_dflt (refine' join_spl ?N ?m ?h1 ?h2 ?hk ?hw ?hs ?_; (case N => k_asm); (case m => k_mem); (case h1 | h2 | hk | hw => assumption); (case hs => decide)); intro _ _))
local macro_rules | `(tactic| walk_at "call builtin:len") => `(tactic| (k_here; (with_reducible show wpAny _ _ (call (Value.builtin "len") [Value.ref _]) _ _ _); k_dflt (refine' len_spl ?N ?m ?he ?hz ?_; (case N => k_asm); (case m => k_mem); (case he => assumption); (case hz => omega)); intro _ _))
theorem ahead_spec {w : World} {x y : PySem.Str} {t u : Tok} {a b : Bool} (hy1 : (Txt.split y (Str.ofString ".")).length ≤ 100) (hx : x.length ≤ 100) (hy : y.length ≤ 100) (ha : seek ipv4 (Txt.lower (Txt.upper x)) 100 = some a) (hb : seek ipv4 (Txt.lower (Str.ofString "." ++ y)) 100 = some b)
    (hk : 1 ≤ (Txt.split y (Str.ofString ".")).length) (hw : ((Txt.split x (Str.ofString ".")).map (·.length)).sum + (Txt.split x (Str.ofString ".")).length ≤ 1000) :
    Spec w 500 500 130 [.str x t, .str y u] (fun _ => True) (fun _ v => ∃ t', v = .str (aheadv x y a b) t') := by
  have _k : PySem.Challenge.rw_wn0042_01 = PySem.Challenge.rw_wn0042_01 ∧ hd.heap_39 = hd.heap_39 := ⟨rfl, rfl⟩
  revert _k
  k_fill
  intro _
  refine' Spec.of (binds := [(Str.ofString "whole", .str x t), (Str.ofString "end", .str y u)]) ?a1 ?a2 ?a3 ?a4 ?a5 ?a6 ?a7 ?a8 ?a9 ?_
  case a1 => k_is
  case a2 => k_is
  case a3 => decide
  case a4 => exact fun _ => BindsTo.of_eq rfl
  case a5 => exact locs rfl
  case a6 => decide
  case a7 => rfl
  case a8 => rfl
  case a9 => rfl
  intro loose mean mg mb outer gd A base g L' h₁ s Q F N B X T pre ret
  clear pre
  (try dsimp only)
  k_fold
  k_steps
  all_goals (refine' ret _ _ _ _ _ ?F ?N ?R; (case F => k_asm); (case N => k_asm); (case R => first | exact aheadv_yes (by assumption) _ | exact aheadv_no (by assumption) _))
end
section
open PySem PySem.W PySem.Calls PySem.Spec PyProof.Rows
set_option maxRecDepth 100000
set_option maxHeartbeats 8000000
abbrev Wd := List Bool
noncomputable def lab (b : Bool) : PySem.Str := if b then Str.ofString "ba" else Str.ofString "a"
noncomputable def enc (u : Wd) : PySem.Str := Txt.join (Str.ofString ".") (u.map lab)
noncomputable def encw (u : Wd) : PySem.Str := ⟨(u.map fun b => if b then 98 else 97).toArray⟩
noncomputable def bools : Nat → List Wd
  | 0 => [[]]
  | n + 1 => (bools n).flatMap fun u => [false :: u, true :: u]
noncomputable def W14 : List Wd := bools 1 ++ bools 2 ++ bools 3
/-- what stands ahead of v at the end of u -/
noncomputable def ahead (u v : Wd) : Wd := if v.length < u.length && u.drop (u.length - v.length) == v then u.take (u.length - v.length) else []
theorem seek_up : (W14.all fun u => seek ipv4 (Txt.lower (Txt.upper (enc u))) 100 == some false) = true := by decide +kernel
theorem seek_dot : (W14.all fun u => seek ipv4 (Txt.lower (Str.ofString "." ++ enc u)) 100 == some false) = true := by decide +kernel
theorem ahead_all : (W14.all fun u => W14.all fun v => aheadv (enc u) (enc v) false false == enc (ahead u v) && (ahead u v == [] || W14.contains (ahead u v))) = true := by decide +kernel
theorem enc_all : (W14.all fun u => decide ((enc u).length ≤ 100) && decide (1 ≤ (Txt.split (enc u) (Str.ofString ".")).length) && decide ((Txt.split (enc u) (Str.ofString ".")).length ≤ 100) && decide (((Txt.split (enc u) (Str.ofString ".")).map (·.length)).sum + (Txt.split (enc u) (Str.ofString ".")).length ≤ 1000)) = true := by decide +kernel

theorem mem_all {p : Wd → Bool} (h : W14.all p = true) {u : Wd} (hu : u ∈ W14) : p u = true := List.all_eq_true.mp h u hu
theorem ahead_w {w : World} {u v : Wd} {t t' : Tok} (hu : u ∈ W14) (hv : v ∈ W14) :
    Spec w 500 500 130 [.str (enc u) t, .str (enc v) t'] (fun _ => True) (fun _ val => ∃ t', val = .str (enc (ahead u v)) t') := by
  have h1 := beq_iff_eq.mp (mem_all seek_up hu)
  have h2 := beq_iff_eq.mp (mem_all seek_dot hv)
  have h3 := mem_all enc_all hu
  have h4 := mem_all enc_all hv
  simp only [Bool.and_eq_true, decide_eq_true_eq] at h3 h4
  have h5 := List.all_eq_true.mp (mem_all ahead_all hu) v hv
  simp only [Bool.and_eq_true, beq_iff_eq] at h5
  have := ahead_spec (w := w) (x := enc u) (y := enc v) (t := t) (u := t') h4.1.2 h3.1.1.1 h4.1.1.1 h1 h2 h4.1.1.2 h3.2
  rw [h5.1] at this
  exact this
theorem ahead_in {u v : Wd} (hu : u ∈ W14) (hv : v ∈ W14) : ahead u v = [] ∨ ahead u v ∈ W14 := by
  have h5 := List.all_eq_true.mp (mem_all ahead_all hu) v hv
  simp only [Bool.and_eq_true, beq_iff_eq, Bool.or_eq_true, List.contains_iff_mem] at h5
  exact h5.2

/-- items of a list of encoded words -/
theorem strs_at {vs : List Value} {us : List Wd} (f : Wd → PySem.Str) (h : StrsAre vs (us.map f)) {i : Nat} {v : Value} (hv : vs[i]? = some v) : ∃ u t, us[i]? = some u ∧ v = .str (f u) t := by
  obtain ⟨y, t, rfl, hy⟩ := h.item i v hv
  rw [List.getElem?_map] at hy
  cases hu : us[i]? with
  | none => rw [hu] at hy; cases hy
  | some u => rw [hu] at hy; exact ⟨u, t, rfl, by cases hy; rfl⟩
end
section
open PySem PySem.W PySem.Calls PySem.Spec PyProof.Rows
set_option maxRecDepth 100000
set_option maxHeartbeats 8000000
/-- a row: a tuple of two lists of texts -/
inductive RowIs (G : Addr → Obj → Prop) (v : Value) (lo sh : List PySem.Str) : Prop
  | mk (ta la lb : Addr) (vs1 vs2 : List Value) (nt na nb : Nat) (h1 : v = .ref ta) (h2 : G ta { cls := .type "tuple", data := .seq [Value.ref la, Value.ref lb].toArray nt }) (h3 : G la (PySem.W.listOf vs1.toArray na)) (h4 : G lb (PySem.W.listOf vs2.toArray nb)) (h5 : StrsAre vs1 lo) (h6 : StrsAre vs2 sh) :
    RowIs G v lo sh

theorem RowIs.mono {G G' : Addr → Obj → Prop} {v : Value} {lo sh : List PySem.Str} (h : RowIs G v lo sh) (hG : ∀ a o, G a o → G' a o) : RowIs G' v lo sh :=
  h.rec fun ta la lb vs1 vs2 nt na nb e h1 h2 h3 h4 h5 => ⟨ta, la, lb, vs1, vs2, nt, na, nb, e, hG _ _ h1, hG _ _ h2, hG _ _ h3, h4, h5⟩

abbrev Ways := List (Wd × List Wd × List Wd)

inductive WaysAre (G : Addr → Obj → Prop) : List (PySem.Str × Value) → Ways → Prop
  | nil : WaysAre G [] []
  | cons {p : Wd} {lo sh : List Wd} {v : Value} {kvs : List (PySem.Str × Value)} {W : Ways} : RowIs G v (lo.map enc) (sh.map enc) → WaysAre G kvs W → WaysAre G ((enc p, v) :: kvs) ((p, lo, sh) :: W)

theorem WaysAre.mono {G G' : Addr → Obj → Prop} (hG : ∀ a o, G a o → G' a o) : ∀ {kvs : List (PySem.Str × Value)} {W : Ways}, WaysAre G kvs W → WaysAre G' kvs W
  | _, _, .nil => .nil
  | _, _, .cons r h => .cons (r.mono hG) (WaysAre.mono hG h)
theorem WaysAre.snoc {G : Addr → Obj → Prop} {p : Wd} {lo sh : List Wd} {v : Value} (r : RowIs G v (lo.map enc) (sh.map enc)) : ∀ {kvs : List (PySem.Str × Value)} {W : Ways}, WaysAre G kvs W → WaysAre G (kvs ++ [(enc p, v)]) (W ++ [(p, lo, sh)])
  | _, _, .nil => .cons r .nil
  | _, _, .cons r' h => .cons r' (WaysAre.snoc r h)
theorem WaysAre.length {G : Addr → Obj → Prop} : ∀ {kvs : List (PySem.Str × Value)} {W : Ways}, WaysAre G kvs W → kvs.length = W.length
  | _, _, .nil => rfl
  | _, _, .cons _ h => congrArg (· + 1) h.length
theorem WaysAre.keys {G : Addr → Obj → Prop} : ∀ {kvs : List (PySem.Str × Value)} {W : Ways}, WaysAre G kvs W → kvs.map (·.1) = W.map fun x => enc x.1
  | _, _, .nil => rfl
  | _, _, .cons _ h => congrArg (_ :: ·) h.keys

theorem enc_inj : (W14.all fun u => W14.all fun v => (enc u == enc v) == (u == v)) = true := by decide +kernel
theorem enc_eq {u v : Wd} (hu : u ∈ W14) (hv : v ∈ W14) : enc u = enc v ↔ u = v := by
  have := beq_iff_eq.mp (List.all_eq_true.mp (List.all_eq_true.mp enc_inj u hu) v hv)
  constructor
  · intro e
    rw [e, beq_self_eq_true] at this
    exact beq_iff_eq.mp this.symm
  · intro e; rw [e]
theorem enc_ne_nil : (W14.all fun u => !(enc u == Str.ofString "") && u != []) = true := by decide +kernel

/-- is p a key -/
noncomputable def Ways.has (W : Ways) (p : Wd) : Bool := W.any (·.1 == p)
theorem WaysAre.valueAt_none {G : Addr → Obj → Prop} {p : Wd} (hp : p ∈ W14) : ∀ {kvs : List (PySem.Str × Value)} {W : Ways}, WaysAre G kvs W → (∀ x ∈ W, x.1 ∈ W14) → (valueAt kvs (enc p)).isSome = W.has p
  | _, _, .nil, _ => rfl
  | _, _, .cons (p := q) (kvs := kvs) (W := W) r h, hk => by
    have hq : q ∈ W14 := hk _ (.head _)
    have ih := WaysAre.valueAt_none hp h fun x hx => hk x (.tail _ hx)
    unfold valueAt at ih ⊢
    simp only [Ways.has, List.any_cons, List.find?_cons] at ih ⊢
    by_cases e : q = p
    · subst e; simp
    · have e' : enc q ≠ enc p := fun h => e ((enc_eq hq hp).mp h)
      simp only [e', e, decide_false, beq_eq_false_iff_ne.mpr e, Bool.false_or]
      exact ih
theorem WaysAre.valueAt_some {G : Addr → Obj → Prop} {p : Wd} {lo sh : List Wd} (hp : p ∈ W14) : ∀ {kvs : List (PySem.Str × Value)} {W : Ways}, WaysAre G kvs W → (∀ x ∈ W, x.1 ∈ W14) → W.find? (·.1 == p) = some (p, lo, sh) → ∃ v, valueAt kvs (enc p) = some v ∧ RowIs G v (lo.map enc) (sh.map enc)
  | _, _, .nil, _, h => by cases h
  | _, _, .cons (p := q) (lo := lo') (sh := sh') (v := v) (kvs := kvs) (W := W) r h, hk, hf => by
    have hq : q ∈ W14 := hk _ (.head _)
    simp only [List.find?_cons] at hf
    unfold valueAt
    simp only [List.find?_cons]
    by_cases e : q = p
    · subst e
      simp only [beq_self_eq_true] at hf
      cases hf
      exact ⟨v, by simp, r⟩
    · have e' : enc q ≠ enc p := fun h => e ((enc_eq hq hp).mp h)
      simp only [beq_eq_false_iff_ne.mpr e] at hf
      have ⟨v', h1, h2⟩ := WaysAre.valueAt_some hp h (fun x hx => hk x (.tail _ hx)) hf
      exact ⟨v', by simp only [e', decide_false]; exact h1, h2⟩
theorem stored_new {kvs : List (PySem.Str × Value)} {k : PySem.Str} {v : Value} (h : (valueAt kvs k).isSome = false) : stored kvs k v = kvs ++ [(k, v)] := by
  unfold stored
  rw [if_neg]
  intro e
  unfold valueAt at h
  simp only [Option.isSome_map] at h
  rw [List.any_eq_true] at e
  obtain ⟨x, hx, hk⟩ := e
  rw [Option.isSome_eq_false_iff, Option.isNone_iff_eq_none, List.find?_eq_none] at h
  exact h x hx hk

section
variable {prog : Program} {w : World} {A : Around} {E : Value → Shared → Prop} {s : Shared} {h₀ : Heap} {L d : Addr} {m : PySem.Str → Option Value} {news : List (Addr × Obj)} {o : Obj} {kvs : List (PySem.Str × Value)}

theorem dict_set {x : PySem.Str} {t : Tok} {v : Value} {rest : List (Addr × Obj)} {Q : Unit → Shared → Prop} (F : Fr h₀ L s.heap m) (N : News h₀ L s.heap news) (hD : o.IsDictOf (strKind prog w) kvs) (hm : (d, o) ∈ news) (hs : ∀ p ∈ rest, p ∈ news) (hne : ∀ p ∈ rest, p.1 ≠ d) (hz : kvs.length ≤ 1000)
    (h : ∀ h' o', Fr h₀ L h' m → News h₀ L h' ((d, o') :: rest) → o'.IsDictOf (strKind prog w) (stored kvs x v) → Q () { s with heap := h', toks := s.toks + 1 }) :
    wpAny (model prog w) A (setItem (.ref d) (.str x t) v) Q E s := by
  have z := N _ hm
  refine wpAny_setItem_pairs (strKind_is prog w x t) (Heap.dictOf_iff.mpr ⟨o, z.1, hD⟩) (fun h' hd hsb => ?_) (by rw [sizeLine_eq]; omega)
  obtain ⟨o', ho', hD'⟩ := Heap.dictOf_iff.mp hd
  refine h h' o' (F.change hsb z.2.1 z.2.2) (fun p hp => ?_) hD'
  rcases List.mem_cons.mp hp with e | hp
  · subst e; exact ⟨ho', z.2⟩
  · have := N p (hs p hp)
    exact ⟨(hsb.2 p.1 (hne p hp)).trans this.1, this.2⟩
end

theorem nodup_len {α : Type} [DecidableEq α] : ∀ (l m : List α), l.Nodup → (∀ x ∈ l, x ∈ m) → l.length ≤ m.length
  | [], _, _, _ => Nat.zero_le _
  | a :: r, m, h, hs => by
    have h1 := List.nodup_cons.mp h
    have ha := hs a (.head _)
    have := nodup_len r (m.erase a) h1.2 fun x hx => (List.mem_erase_of_ne (fun (e : x = a) => h1.1 (e ▸ hx))).mpr (hs x (.tail _ hx))
    have e := List.length_erase_of_mem ha
    have : 0 < m.length := List.length_pos_of_mem ha
    simp only [List.length_cons]
    omega

structure WGood (W : Ways) : Prop where
  keys : ∀ x ∈ W, x.1 ∈ W14
  nodup : (W.map (·.1)).Nodup
  rows : ∀ x ∈ W, x.2.1 ≠ [] ∧ x.2.2 ≠ [] ∧ (∀ u ∈ x.2.1, u ∈ W14) ∧ (∀ u ∈ x.2.2, u ∈ W14) ∧ x.2.1.flatten = x.1 ++ x.2.2.flatten ∧ x.2.1.length + x.2.2.length ≤ W.length + 1

theorem WGood.nil : WGood [] := ⟨fun _ h => (nomatch h), .nil, fun _ h => (nomatch h)⟩
theorem WGood.len {W : Ways} (h : WGood W) : W.length ≤ 14 := by
  have := nodup_len (W.map (·.1)) W14 h.nodup fun x hx => by
    obtain ⟨y, hy, rfl⟩ := List.mem_map.mp hx
    exact h.keys y hy
  rw [List.length_map] at this
  exact this
theorem Ways.has_iff {W : Ways} {p : Wd} : W.has p = true ↔ p ∈ W.map (·.1) := by
  unfold Ways.has
  rw [List.any_eq_true, List.mem_map]
  constructor
  · rintro ⟨x, hx, h⟩; exact ⟨x, hx, beq_iff_eq.mp h⟩
  · rintro ⟨x, hx, h⟩; exact ⟨x, hx, beq_iff_eq.mpr h⟩
theorem WGood.add {W : Ways} {p : Wd} {lo sh : List Wd} (h : WGood W) (hp : p ∈ W14) (hn : W.has p = false) (h1 : lo ≠ []) (h2 : sh ≠ []) (h3 : ∀ u ∈ lo, u ∈ W14) (h4 : ∀ u ∈ sh, u ∈ W14) (h5 : lo.flatten = p ++ sh.flatten) (h6 : lo.length + sh.length ≤ W.length + 2) :
    WGood (W ++ [(p, lo, sh)]) := by
  refine ⟨fun x hx => ?_, ?_, fun x hx => ?_⟩
  · rcases List.mem_append.mp hx with q | q
    · exact h.keys x q
    · rw [List.mem_singleton.mp q]; exact hp
  · rw [List.map_append, List.nodup_append]
    refine ⟨h.nodup, by simp, fun a ha b hb e => ?_⟩
    simp only [List.map_cons, List.map_nil, List.mem_singleton] at hb
    subst e hb
    rw [Ways.has_iff.mpr ha] at hn; cases hn
  · rcases List.mem_append.mp hx with q | q
    · obtain ⟨a, b, c, d, e, f⟩ := h.rows x q
      exact ⟨a, b, c, d, e, by simp only [List.length_append, List.length_cons, List.length_nil]; omega⟩
    · rw [List.mem_singleton.mp q]
      exact ⟨h1, h2, h3, h4, h5, by simp only [List.length_append, List.length_cons, List.length_nil]; omega⟩

theorem ahead_eq {u v : Wd} (h : ahead u v ≠ []) : u = ahead u v ++ v := by
  unfold ahead at h ⊢
  split
  · rename_i hc
    simp only [Bool.and_eq_true, beq_iff_eq] at hc
    have := List.take_append_drop (u.length - v.length) u
    rw [hc.2] at this
    exact this.symm
  · rename_i hc
    rw [if_neg hc] at h
    exact absurd rfl h

section
variable {prog : Program} {w : World} {A : Around} {E : Value → Shared → Prop} {s : Shared} {h₀ : Heap} {L d : Addr} {m : PySem.Str → Option Value} {news : List (Addr × Obj)} {o : Obj} {kvs : List (PySem.Str × Value)} {G : Addr → Obj → Prop} {W : Ways} {p : Wd} {t : Tok}
theorem dict_notin {Q : Value → Shared → Prop} (N : News h₀ L s.heap news) (hm : (d, o) ∈ news) (lo : (d == sysModules) = false) (hD : o.IsDictOf (strKind prog w) kvs) (hR : WaysAre G kvs W) (hW : WGood W) (hp : p ∈ W14)
    (h : Q (.bool (!W.has p)) { s with toks := s.toks + 1 }) : wpAny (model prog w) A (compareOp .NotIn (.str (enc p) t) (.ref d)) Q E s := by
  have hd := Heap.dictOf_iff.mpr ⟨o, (N _ hm).1, hD⟩
  refine wpAny_notIn_of (strKind_is prog w _ t) lo hd.mapOf ?_
  rw [hR.valueAt_none hp hW.keys]
  exact h
end

theorem enc_ne {p : Wd} (hp : p ∈ W14) : (enc p != Str.ofString "") = true := by
  have := mem_all enc_ne_nil hp
  simp only [Bool.and_eq_true] at this
  exact this.1
theorem enc_nil : enc [] = Str.ofString "" := by decide +kernel


abbrev lstO (vs : List Value) (n : Nat) : Obj := { cls := .type "list", data := .seq vs.toArray n }
abbrev tupO (la lb : Addr) (n : Nat) : Obj := { cls := .type "tuple", data := .seq [Value.ref la, Value.ref lb].toArray n }
section
variable {prog : Program} {w : World} {A : Around} {E : Value → Shared → Prop} {s : Shared} {h₀ : Heap} {L d : Addr} {m : PySem.Str → Option Value} {o : Obj} {kvs : List (PySem.Str × Value)} {G : Addr → Obj → Prop} {W : Ways} {p : Wd} {t : Tok}
/-- a new row under a new key: the three new objects go behind the dict -/
theorem dict_set3 {ta la lb : Addr} {lo sh : List Wd} {vs1 vs2 : List Value} {nt na nb : Nat} {fx wl : List (Addr × Obj)} {Q : Unit → Shared → Prop} (F : Fr h₀ L s.heap m)
    (N : News h₀ L s.heap ((ta, tupO la lb nt) :: (lb, lstO vs2 nb) :: (la, lstO vs1 na) :: (fx ++ (d, o) :: wl)))
    (hD : o.IsDictOf (strKind prog w) kvs) (hR : WaysAre (fun a o => (a, o) ∈ wl) kvs W) (hG : WGood W) (hp : p ∈ W14) (hn : W.has p = false) (h1 : StrsAre vs1 (lo.map enc)) (h2 : StrsAre vs2 (sh.map enc))
    (hne : ∀ p ∈ wl, p.1 ≠ d) (hfx : ∀ p ∈ fx, p.1 ≠ d) (k1 : d < ta) (k2 : d < lb) (k3 : d < la)
    (h : ∀ (h' : Heap) (o' : Obj), Fr h₀ L h' m → News h₀ L h' (fx ++ (d, o') :: (ta, tupO la lb nt) :: (lb, lstO vs2 nb) :: (la, lstO vs1 na) :: wl) → o'.IsDictOf (strKind prog w) (kvs ++ [(enc p, .ref ta)]) →
      WaysAre (fun a o => (a, o) ∈ (ta, tupO la lb nt) :: (lb, lstO vs2 nb) :: (la, lstO vs1 na) :: wl) (kvs ++ [(enc p, .ref ta)]) (W ++ [(p, lo, sh)]) → Q () { s with heap := h', toks := s.toks + 1 }) :
    wpAny (model prog w) A (setItem (.ref d) (.str (enc p) t) (.ref ta)) Q E s := by
  have r1 : RowIs (fun a o => (a, o) ∈ (ta, tupO la lb nt) :: (lb, lstO vs2 nb) :: (la, lstO vs1 na) :: wl) (.ref ta) (lo.map enc) (sh.map enc) :=
    ⟨ta, la, lb, vs1, vs2, nt, na, nb, rfl, List.mem_cons_self, List.mem_cons_of_mem _ (List.mem_cons_of_mem _ List.mem_cons_self), List.mem_cons_of_mem _ List.mem_cons_self, h1, h2⟩
  have e1 : ((ta, tupO la lb nt) : Addr × Obj).1 = ta := rfl
  have e2 : ((lb, lstO vs2 nb) : Addr × Obj).1 = lb := rfl
  have e3 : ((la, lstO vs1 na) : Addr × Obj).1 = la := rfl
  generalize ((ta, tupO la lb nt) : Addr × Obj) = T at *
  generalize ((lb, lstO vs2 nb) : Addr × Obj) = B2 at *
  generalize ((la, lstO vs1 na) : Addr × Obj) = B1 at *
  refine dict_set (rest := T :: B2 :: B1 :: (fx ++ wl)) F N hD ?_ ?_ ?_ ?_ ?_
  · simp
  · intro p hp
    simp only [List.mem_cons, List.mem_append] at hp ⊢
    rcases hp with h | h | h | h | h <;> simp [h]
  · intro p hp
    simp only [List.mem_cons, List.mem_append] at hp
    rcases hp with h | h | h | h | h
    · rw [h, e1]; exact Nat.ne_of_gt k1
    · rw [h, e2]; exact Nat.ne_of_gt k2
    · rw [h, e3]; exact Nat.ne_of_gt k3
    · exact hfx p h
    · exact hne p h
  · rw [hR.length]; have := hG.len; omega
  · intro h'' o' F' N'' hD'
    rw [stored_new (by rw [hR.valueAt_none hp hG.keys]; exact hn)] at hD'
    refine h h'' o' F' (fun p hp => N'' p ?_) hD' ((hR.mono fun a o q => List.mem_cons_of_mem _ (List.mem_cons_of_mem _ (List.mem_cons_of_mem _ q))).snoc r1)
    simp only [List.mem_cons, List.mem_append] at hp ⊢
    rcases hp with h | h | h | h | h | h <;> simp [h]
end

theorem allLt_mem {D : Addr} {l : List (Addr × Obj)} (h : AllLt D l) : ∀ p ∈ l, p.1 < D := by
  induction l with
  | nil => exact fun p hp => (nomatch hp)
  | cons a r ih =>
    intro p hp
    rcases List.mem_cons.mp hp with e | hp
    · rw [e]; exact h.1
    · exact ih h.2 p hp

theorem off3 {a b c : Addr × Obj} {l : List (Addr × Obj)} {x : Addr} (h1 : x < a.1) (h2 : x < b.1) (h3 : x < c.1) (h : ∀ p ∈ l, p.1 ≠ x) : ∀ p ∈ a :: b :: c :: l, p.1 ≠ x := by
  intro p hp
  rcases List.mem_cons.mp hp with e | hp
  · rw [e]; exact Nat.ne_of_gt h1
  rcases List.mem_cons.mp hp with e | hp
  · rw [e]; exact Nat.ne_of_gt h2
  rcases List.mem_cons.mp hp with e | hp
  · rw [e]; exact Nat.ne_of_gt h3
  · exact h p hp
theorem off_cons {a : Addr × Obj} {l : List (Addr × Obj)} {x : Addr} (h1 : a.1 ≠ x) (h : ∀ p ∈ l, p.1 ≠ x) : ∀ p ∈ a :: l, p.1 ≠ x := by
  intro p hp
  rcases List.mem_cons.mp hp with e | hp
  · rw [e]; exact h1
  · exact h p hp
end
open PySem PySem.W PySem.Calls PySem.Spec PyProof.Rows
local macro_rules | `(tactic| walk_at "own 1") => `(tactic| (k_here; (with_reducible show wpAny _ _ (call (Value.ref 130) _) _ _ _); k_dflt (refine' Spec.useV (ahead_w ?hu ?hv) ?B ?F ?X ?N ?T ?khh ?khd ?khu ?khA ?khf ?khk ?pre ?_; (case hu | hv => assumption); (case B | F | X | N | T => k_asm); (case khh => exact rfl); (case khd | khu => exact Nat.le_of_ble_eq_true rfl); (case khA | khf | khk => exact rfl); (case pre => trivial)); intro v' h' tk' F' N' e'; obtain ⟨new', t', e'⟩ := e'; subst e'; clear new'; (try k_sweep)))
local macro_rules | `(tactic| walk_at "own 2") => `(tactic| (k_here; k_dflt (refine' kup_newTuple ?F ?N ?_ ?z; (case F | N => k_asm); (case z => (rw [sizeLine_eq]; simp only [List.length_cons, List.length_nil]; omega))); intro D' h' F' N' l1; (try k_lt l1); (try k_sweep)))
local macro_rules | `(tactic| walk_at "own 3") => `(tactic| (k_here; (rename Fr _ _ _ _ => lF'); (with_unfolding_all refine' For_invVF lF' ?k1 ?k2 ?_; (case k1 | k2 => exact rfl); k_whole)))
section
open PySem PySem.W PySem.Calls PySem.Spec PyProof.Rows
set_option maxRecDepth 100000
set_option maxHeartbeats 8000000
local macro_rules | `(tactic| walk_at "idle") => `(tactic| skip)
theorem fresh_E9 : True := by
  w_top off
  trivial
inductive JWays (w : World) (m₀ : PySem.Str → Option Value) (keep : PySem.Str → Prop) (fx : List (Addr × Obj)) (d : Addr) (Wm : Ways) (m : PySem.Str → Option Value) (nx : List (Addr × Obj)) : Prop
  | mk (h1 : ∀ z, keep z → m z = m₀ z) (o : Obj) (kvs : List (PySem.Str × Value)) (wl : List (Addr × Obj)) (h2 : nx = fx ++ (d, o) :: wl) (h3 : ∀ p ∈ wl, p.1 ≠ d) (h4 : ∀ q ∈ fx, q.1 ≠ d ∧ ∀ p ∈ wl, p.1 ≠ q.1) (h5 : o.IsDictOf (strKind prog w) kvs) (h6 : WaysAre (fun a o => (a, o) ∈ wl) kvs Wm) (h7 : WGood Wm) :
    JWays w m₀ keep fx d Wm m nx
noncomputable def firstIn (one : Wd) (W : Ways) (other : Wd) : Ways := if ahead one other != [] && !W.has (ahead one other) then W ++ [(ahead one other, [one], [other])] else W
noncomputable def firstOut (us : List Wd) (W : Ways) (one : Wd) : Ways := us.foldl (firstIn one) W
inductive WaysNew (w : World) (new : List (Addr × Obj)) (v : Value) (W : Ways) : Prop
  | mk (d : Addr) (o : Obj) (kvs : List (PySem.Str × Value)) (wl : List (Addr × Obj)) (h1 : v = .ref d) (h2 : new = (d, o) :: wl) (h3 : (d == sysModules) = false) (h4 : ∀ p ∈ wl, p.1 ≠ d) (h5 : o.IsDictOf (strKind prog w) kvs) (h6 : WaysAre (fun a o => (a, o) ∈ wl) kvs W) (h7 : WGood W) :
    WaysNew w new v W
theorem fold_step {α β : Type} (f : β → α → β) (a : β) {us : List α} {j : Nat} {u : α} (h : us[j]? = some u) : (us.take (j + 1)).foldl f a = f ((us.take j).foldl f a) u := by
  rw [List.take_add_one, h, List.foldl_append]; rfl
theorem firstIn_has {W : Ways} {a b : Wd} (h : W.has (ahead a b) = true) : firstIn a W b = W := by unfold firstIn; rw [h]; simp
theorem firstIn_nil {W : Ways} {a b : Wd} (h : ahead a b = []) : firstIn a W b = W := by unfold firstIn; rw [h]; simp
theorem firstIn_new {W : Ways} {a b : Wd} (h1 : ahead a b ≠ []) (h : W.has (ahead a b) = false) : firstIn a W b = W ++ [(ahead a b, [a], [b])] := by unfold firstIn; rw [h]; simp [h1]
noncomputable def first (us : List Wd) : Ways := us.foldl (firstOut us) []

local macro_rules | `(tactic| walk_at "call ref") => `(tactic| (k_here; (with_reducible show wpAny _ _ (call (Value.ref 130) _) _ _ _); refine stop_ ?_))
local macro_rules | `(tactic| walk_at "call ref") => `(tactic| walk_at "own 1")
local macro_rules | `(tactic| walk_at "pyIter ref") => `(tactic| (k_here; refine stop_ ?_))
local macro_rules | `(tactic| walk_at "setItem ref") => `(tactic| (k_here; refine stop_ ?_))
local macro_rules | `(tactic| walk_at "compareOp NotIn str ref") => `(tactic| (k_here; refine stop_ ?_))
local macro_rules | `(tactic| walk_at "newTuple") => `(tactic| walk_at "own 2")
local macro_rules | `(tactic| walk_at "TurnEnd") => `(tactic| (k_here; refine stop_ ?_))
local macro_rules | `(tactic| walk_at "exec For Name Name cons nil") => `(tactic| walk_at "own 3")
theorem first_spec {w : World} {l : Addr} {vs : List Value} {us : List Wd} (hn : us.length ≤ 4) (hi : StrsAre vs (us.map enc)) (hW : ∀ u ∈ us, u ∈ W14) :
    Spec w 450 450 137 [.ref l] (fun h => h.IsList l vs.toArray) (fun new v => WaysNew w new v (first us)) := by
  have _k : PySem.Challenge.rw_wn0042_01 = PySem.Challenge.rw_wn0042_01 ∧ hd.heap_39 = hd.heap_39 := ⟨rfl, rfl⟩
  revert _k
  k_fill
  intro _
  refine' Spec.of (binds := [(Str.ofString "hosts", .ref l)]) ?a1 ?a2 ?a3 ?a4 ?a5 ?a6 ?a7 ?a8 ?a9 ?_
  case a1 => k_is
  case a2 => k_is
  case a3 => decide
  case a4 => exact fun _ => BindsTo.of_eq rfl
  case a5 => exact locs rfl
  case a6 => decide
  case a7 => rfl
  case a8 => rfl
  case a9 => rfl
  intro loose mean mg mb outer gd A base g L' h₁ s Q F N B X T pre ret
  skip
  (try dsimp only)
  k_fold
  k_steps
  unfold Stop
  rename Fr _ _ _ _ => F1
  rename News _ _ _ _ => N1
  rename Obj.IsDictOf (PySem.strKind _ _) _ _ => hD
  rename (_ == sysModules) = false => lo
  rename Addr => d
  refine' iter_grow (L := L') (fun i => JWays w _ (fun z => z ≠ Str.ofString "one" ∧ z ≠ Str.ofString "other" ∧ z ≠ Str.ofString "piece") [] _ ((us.take i).foldl (firstOut us) [])) rfl rfl pre F1 N1 ⟨fun _ _ => rfl, _, _, [], rfl, (fun _ h => (nomatch h)), (fun _ h => (nomatch h)), hD, .nil, .nil⟩ ?turn ?done
  case turn =>
    clear F1 N1 hD
    intro i v m₁ news₁ h tk I oI hv hJ hI F N
    obtain ⟨hm, o, kvs, wl, rfl, hne, hfx, hD, hR, hG⟩ := hJ
    clear hfx
    simp only [List.nil_append] at N
    rw [forget3 (fun z a b c => hm z ⟨a, b, c⟩)] at F
    generalize m₁ (Str.ofString "one") = q1 at F
    generalize m₁ (Str.ofString "other") = q2 at F
    generalize m₁ (Str.ofString "piece") = q3 at F
    clear hm m₁
    obtain ⟨u, tu, hu, rfl⟩ := strs_at enc hi hv
    have hu' : u ∈ W14 := hW u (List.mem_of_getElem? hu)
    show wpAny _ _ _ _ _ _
    k_steps
    unfold Stop
    rename Fr _ _ _ _ => F2
    have hId : I ≠ d := fun e => hI _ (.head _) e.symm
    refine' iter_grow (L := L') (fun j => JWays w _ (fun z => z ≠ Str.ofString "other" ∧ z ≠ Str.ofString "piece") [(I, oI)] _ ((us.take j).foldl (firstIn u) ((us.take i).foldl (firstOut us) []))) rfl rfl pre F2 N
      ⟨fun _ _ => rfl, _, _, wl, rfl, hne, (fun q hq => by rw [List.mem_singleton.mp hq]; exact ⟨hId, fun p hp => hI p (.tail _ hp)⟩), hD, hR, hG⟩ ?turn2 ?done2
    case turn2 =>
      clear F2 N hD hR hG hne hI hId
      intro j v m₁ news₁ h tk I2 oI2 hv hJ hI2 F N
      obtain ⟨hm, o, kvs, wl, rfl, hne, hfx, hD, hR, hG⟩ := hJ
      rw [forget2 (fun z a b => hm z ⟨a, b⟩)] at F
      generalize m₁ (Str.ofString "other") = q2 at F
      generalize m₁ (Str.ofString "piece") = q3 at F
      clear hm m₁
      obtain ⟨u2, tu2, hu2, rfl⟩ := strs_at enc hi hv
      have hu2' : u2 ∈ W14 := hW u2 (List.mem_of_getElem? hu2)
      simp only [List.singleton_append] at N
      have hstep := fold_step (firstIn u) ((us.take i).foldl (firstOut us) []) hu2
      generalize (us.take j).foldl (firstIn u) _ = Wm at hR hG hstep
      show wpAny _ _ _ _ _ _
      have hin := ahead_in hu' hu2'
      k_steps
      · unfold Stop
        rename (_ != _) = true => hc
        have hp : ahead u u2 ∈ W14 := hin.resolve_left fun e => by rw [e, enc_nil] at hc; simp at hc
        rename Fr _ _ _ _ => F3
        rename News _ _ _ _ => N3
        refine' dict_notin N3 (by k_mem) lo hD hR hG hp ?_
        k_steps
        · unfold Stop
          rename _ = true => hc2
          exact TurnEnd.intro (nx := (I, oI) :: (d, o) :: wl) F3 N3 (fun p hp q hq => by rw [List.mem_singleton.mp hq]; exact hI2 p hp)
            ⟨fun z hz => by simp only [if_neg hz.1, if_neg hz.2], o, kvs, wl, rfl, hne, hfx, hD, by rw [hstep, firstIn_has hc2]; exact hR, by rw [hstep, firstIn_has hc2]; exact hG⟩
        · unfold Stop
          rename _ = false => hc2
          rename Fr _ _ _ _ => F4
          rename News _ _ _ _ => N4
          rename _ ∧ _ ∧ _ ∧ _ ∧ _ ∧ AllLt _ wl => l3
          rename _ ∧ _ ∧ _ ∧ _ ∧ AllLt _ wl => l2
          rename _ ∧ _ ∧ _ ∧ AllLt _ wl => l1
          have hp0 : ahead u u2 ≠ [] := fun e => by rw [e, enc_nil] at hc; simp at hc
          refine' dict_set3 (lo := [u]) (sh := [u2]) (fx := [(I2, oI2), (I, oI)]) F4 N4 hD hR hG hp hc2 (.cons _ _ .nil) (.cons _ _ .nil) hne (fun p hp => ?hfx) l3.2.2.2.2.1 l2.2.2.2.1 l1.2.2.1 ?_
          case hfx =>
            rcases List.mem_cons.mp hp with e | hp
            · rw [e]; exact fun e => hI2 (d, o) (.tail _ (.head _)) e.symm
            · rw [List.mem_singleton.mp hp]; exact (hfx _ (.head _)).1
          intro h' o' F' N' hD' hR'
          have hG' := hG.add (p := ahead u u2) (lo := [u]) (sh := [u2]) hp hc2 (by simp) (by simp) (by simpa using hu') (by simpa using hu2') (by simpa using ahead_eq hp0) (by simp)
          k_steps
          unfold Stop
          refine' TurnEnd.intro (nx := (I, oI) :: (d, o') :: _ :: _ :: _ :: wl) F' N' (fun p hp q hq => ?hoff) ⟨fun z hz => by simp only [if_neg hz.1, if_neg hz.2], o', _, _, rfl, ?hne, ?hfx2, hD', by rw [hstep, firstIn_new hp0 hc2]; exact hR', by rw [hstep, firstIn_new hp0 hc2]; exact hG'⟩
          case hoff =>
            rw [List.mem_singleton.mp hq]
            exact off_cons (a := (I, oI)) (hI2 (I, oI) (.head _)) (off_cons (a := (d, o')) (hI2 (d, o) (.tail _ (.head _))) (off3 l3.2.2.1 l2.2.1 l1.1 fun p hp => hI2 p (.tail _ (.tail _ hp)))) p hp
          case hne => exact off3 l3.2.2.2.2.1 l2.2.2.2.1 l1.2.2.1 hne
          case hfx2 =>
            intro q hq
            refine ⟨(hfx q hq).1, ?_⟩
            have hq' := List.mem_singleton.mp hq
            have := (hfx q hq).2
            rw [hq'] at this ⊢
            exact off3 l3.2.2.2.1 l2.2.2.1 l1.2.1 this
      · unfold Stop
        rename (_ != _) = false => hc
        have hp : ahead u u2 = [] := hin.resolve_right fun e => by rw [enc_ne e] at hc; cases hc
        rename Fr _ _ _ _ => F3
        rename News _ _ _ _ => N3
        exact TurnEnd.intro (nx := (I, oI) :: (d, o) :: wl) F3 N3 (fun p hp q hq => by rw [List.mem_singleton.mp hq]; exact hI2 p hp)
          ⟨fun z hz => by simp only [if_neg hz.1, if_neg hz.2], o, kvs, wl, rfl, hne, hfx, hD, by rw [hstep, firstIn_nil hp]; exact hR, by rw [hstep, firstIn_nil hp]; exact hG⟩
    case done2 =>
      clear F2 N hD hR hG hne hI
      intro m₁ news₁ h tk hJ F N
      obtain ⟨hm, o, kvs, wl, rfl, hne, hfx, hD, hR, hG⟩ := hJ
      rw [hi.len_eq, List.length_map, List.take_length] at hR hG
      have hstep := fold_step (firstOut us) [] hu
      k_steps
      unfold Stop
      exact TurnEnd.intro (nx := (d, o) :: wl) F N (fun p hp q hq => by
          rw [List.mem_singleton.mp hq]
          exact off_cons (a := (d, o)) (fun e => (hfx _ (.head _)).1 e.symm) (hfx _ (.head _)).2 p hp)
        ⟨fun z hz => (hm z ⟨hz.2.1, hz.2.2⟩).trans (by simp only [if_neg hz.1, if_neg hz.2.1, if_neg hz.2.2]), o, kvs, wl, rfl, hne, (fun _ h => (nomatch h)), hD, by rw [hstep]; exact hR, by rw [hstep]; exact hG⟩
  case done =>
    clear F1 N1 hD
    intro m₁ news₁ h tk hJ F N
    obtain ⟨hm, o, kvs, wl, rfl, hne, hfx, hD, hR, hG⟩ := hJ
    rw [hi.len_eq, List.length_map, List.take_length] at hR hG
    rw [forget3 (fun z a b c => hm z ⟨a, b, c⟩)] at F
    k_steps
    exact ret _ _ _ _ _ F N ⟨d, o, kvs, wl, rfl, rfl, lo, hne, hD, hR, hG⟩
end
section
open PySem PySem.W PySem.Calls PySem.Spec PyProof.Rows
set_option maxRecDepth 100000
set_option maxHeartbeats 8000000
local macro_rules | `(tactic| walk_at "idle") => `(tactic| skip)
local macro_rules | `(tactic| walk_at "idle") => `(tactic| skip)
theorem fresh_E10 : True := by
  w_top off
  trivial
noncomputable def letOf (x a : Int) : PySem.Str := Txt.item (Str.ofString "ab") ((x.fdiv (3 * 2 ^ a.toNat)).fmod 2)
theorem let2 : ∀ b c d : Bool, ∀ n : Nat, n = 1 ∨ n = 2 ∨ n = 3 → ∃ u, u ∈ W14 ∧ ([if b then Str.ofString "b" else Str.ofString "a", if c then Str.ofString "b" else Str.ofString "a", if d then Str.ofString "b" else Str.ofString "a"].take n |> Txt.join (Str.ofString "")) = encw u := by
  intro b c d n hn
  rcases hn with rfl | rfl | rfl
  · exact ⟨[b], by revert b; decide, by cases b <;> cases c <;> cases d <;> decide +kernel⟩
  · exact ⟨[b, c], by revert b c; decide, by cases b <;> cases c <;> cases d <;> decide +kernel⟩
  · exact ⟨[b, c, d], by revert b c d; decide, by cases b <;> cases c <;> cases d <;> decide +kernel⟩
theorem letOf_is (x a : Int) : letOf x a = if (x.fdiv (3 * 2 ^ a.toNat)).fmod 2 == 1 then Str.ofString "b" else Str.ofString "a" := by
  unfold letOf
  have h1 := fmod_lo (x.fdiv (3 * 2 ^ a.toNat)) (n := 2) (by decide)
  have h2 := fmod_hi (x.fdiv (3 * 2 ^ a.toNat)) (n := 2) (by decide)
  generalize (x.fdiv (3 * 2 ^ a.toNat)).fmod 2 = v at h1 h2 ⊢
  have : v = 0 ∨ v = 1 := by omega
  rcases this with rfl | rfl <;> decide +kernel
theorem word_is (x : Int) {n : Nat} (hn : n = 1 ∨ n = 2 ∨ n = 3) : ∃ u, u ∈ W14 ∧ Txt.join (Str.ofString "") ((rangeInts 0 1 n).map (letOf x)) = encw u := by
  obtain ⟨u, hu, e⟩ := let2 ((x.fdiv (3 * 2 ^ (0 : Int).toNat)).fmod 2 == 1) ((x.fdiv (3 * 2 ^ (1 : Int).toNat)).fmod 2 == 1) ((x.fdiv (3 * 2 ^ (2 : Int).toNat)).fmod 2 == 1) n hn
  refine ⟨u, hu, ?_⟩
  rw [← e]
  rcases hn with rfl | rfl | rfl <;> simp [rangeInts, letOf_is, List.range, List.range.loop]
theorem let_len (x a : Int) : (letOf x a).length = 1 := by
  rw [letOf_is]; split <;> decide +kernel
theorem word_weight (x : Int) {n : Nat} (hn : n = 1 ∨ n = 2 ∨ n = 3) : (((rangeInts 0 1 n).map (letOf x)).map (·.length)).sum + ((rangeInts 0 1 n).map (letOf x)).length ≤ 1048576 := by
  rcases hn with rfl | rfl | rfl <;> simp [rangeInts, let_len, List.range, List.range.loop]
theorem encw_inj : (W14.all fun u => W14.all fun v => (encw u == encw v) == (u == v)) = true := by decide +kernel
theorem encw_eq {u v : Wd} (hu : u ∈ W14) (hv : v ∈ W14) : (encw u == encw v) = (u == v) := beq_iff_eq.mp (List.all_eq_true.mp (List.all_eq_true.mp encw_inj u hu) v hv)
theorem any_encw {u : Wd} (hu : u ∈ W14) : ∀ {us : List Wd}, (∀ v ∈ us, v ∈ W14) → (us.map encw).any (· == encw u) = us.contains u
  | [], _ => rfl
  | v :: r, h => by
    simp only [List.map_cons, List.any_cons, List.contains_cons, any_encw hu fun x hx => h x (.tail _ hx), encw_eq (h v (.head _)) hu]
    rw [Bool.beq_comm]
inductive WordsNew (new : List (Addr × Obj)) (v : Value) : Prop
  | mk (us : List Wd) (wl : Addr) (vs : List Value) (n : Nat) (h1 : v = .ref wl) (h2 : new = [(wl, PySem.W.listOf vs.toArray n)]) (h3 : StrsAre vs (us.map encw)) (h4 : us.Nodup) (h5 : ∀ u ∈ us, u ∈ W14) (h6 : us.length ≤ 4) (h7 : us ≠ []) :
    WordsNew new v
inductive JWords (m₀ : PySem.Str → Option Value) (keep : PySem.Str → Prop) (wl cl xc : Addr) (co : Obj) (i : Nat) (m : PySem.Str → Option Value) (nx : List (Addr × Obj)) : Prop
  | mk (h1 : ∀ z, keep z → m z = m₀ z) (us : List Wd) (vs : List Value) (n : Nat) (xo : Obj) (h2 : nx = [(wl, PySem.W.listOf vs.toArray n), (cl, co), (xc, xo)]) (h3 : StrsAre vs (us.map encw)) (h4 : us.Nodup) (h5 : ∀ u ∈ us, u ∈ W14) (h6 : us.length ≤ i) (h7 : 1 ≤ i → us ≠ []) (h8 : ∃ v, xo.data = .cell v) (h9 : @LT.lt Nat _ xc cl) (h10 : @LT.lt Nat _ cl wl) :
    JWords m₀ keep wl cl xc co i m nx

local macro_rules | `(tactic| walk_at "pyIter ref") => `(tactic| (k_here; refine stop_ ?_))
local macro_rules | `(tactic| walk_at "call builtin:sum") => `(tactic| (k_here; refine stop_ ?_))
local macro_rules | `(tactic| walk_at "TurnEnd") => `(tactic| (k_here; refine stop_ ?_))
local macro_rules | `(tactic| walk_at "exec For Name Call cons nil") => `(tactic| walk_at "own 3")
local macro_rules | `(tactic| walk_at "eval ListComp") => `(tactic| (k_here; refine stop_ ?_))
local macro_rules | `(tactic| walk_at "call builtin:str.join") => `(tactic| (k_here; refine stop_ ?_))
local macro_rules | `(tactic| walk_at "compareOp NotIn str ref") => `(tactic| (k_here; refine stop_ ?_))
local macro_rules | `(tactic| walk_at "Exists") => `(tactic| (k_here; refine stop_ ?_))
theorem words_spec {w : World} {l : Addr} {vs : List Value} {ns : List Int} (hn : ns.length ≤ 63) (hi : IntsAre vs ns) :
    Spec w 450 450 111 [.ref l] (fun h => h.IsList l vs.toArray) (fun new v => WordsNew new v) := by
  have _k : PySem.Challenge.rw_wn0042_01 = PySem.Challenge.rw_wn0042_01 ∧ hd.heap_39 = hd.heap_39 := ⟨rfl, rfl⟩
  revert _k
  k_fill
  intro _
  refine' Spec.ofC (binds := [(Str.ofString "script", .ref l)]) ?a1 ?a2 ?a3 ?a4 ?a5 ?a6 ?a7 ?a8 ?a9 ?_
  case a1 => k_is
  case a2 => k_is
  case a3 => decide
  case a4 => exact fun _ => BindsTo.of_eq rfl
  case a5 => exact rfl
  case a6 => decide +kernel
  case a7 => rfl
  case a8 => rfl
  case a9 => rfl
  intro loose mean mg mb outer gd A base g L' h₁ tk cells s Q F N Y B X T pre ret
  k_cells Y
  skip
  (try dsimp only)
  show wpAny _ _ _ _ _ _
  k_fold
  k_steps
  unfold Stop
  rename Fr _ _ _ _ => F1
  rename News _ _ _ _ => N1
  rename IsRange _ _ _ _ _ _ _ _ => hr
  refine' iter_rangeG (L := L') (n := 4) (JWords _ (fun z => z ≠ Str.ofString "k" ∧ z ≠ Str.ofString "word") _ _ _ _) rfl rfl hr (by decide) (by decide) F1 N1 ⟨fun _ _ => rfl, [], [], 0, _, rfl, .nil, .nil, (fun _ h => (nomatch h)), Nat.zero_le _, (fun h => by omega), ⟨_, by assumption⟩, ?c1, ?c2⟩ ?turn ?done
  case c1 => omega
  case c2 => omega
  case turn =>
    clear F1 N1 hr
    intro i t m₁ news₁ h tk I oI hi4 hJ hI F N
    obtain ⟨hm, us, ws, n, xo, rfl, hS, hnd, hW, hlen, hpos, ⟨xv, hxo⟩, hc1, hc2⟩ := hJ
    have hI1 := neN (hI _ (.head _))
    have hI2 := neN (hI _ (.tail _ (.head _)))
    have hI3 := neN (hI _ (.tail _ (.tail _ (.head _))))
    dsimp only at hI1 hI2 hI3
    clear hI
    rw [forget2 (fun z a b => hm z ⟨a, b⟩)] at F
    generalize m₁ (Str.ofString "k") = q1 at F
    generalize m₁ (Str.ofString "word") = q2 at F
    clear hm m₁
    show wpAny _ _ _ _ _ _
    k_steps
    unfold Stop
    rename Fr _ _ _ _ => F2
    rename News _ _ _ _ => N2
    refine' sum_pick rfl F2 N2 (by k_mem) hi (fun p hp => .tail _ hp) ?_
    clear F2 N2
    intro h' tk' y ty F' N'
    k_steps
    unfold Stop
    generalize [1, 5, 7, 4].getD (0 + (i : Int)).toNat 0 + y = x at *
    rename Fr _ _ _ _ => F3
    rename News _ _ _ _ => N3
    refine' comp_r (d := fun a => .str (letOf x a)) F3 ?hh ?hclos ?hcell ?hkind ?hnames ?hx ?h ?hs
    case hh => exact rfl
    case hclos => with_unfolding_all rfl
    case hcell => decide
    case hkind => exact rfl
    case hnames => decide
    case hx => exact rfl
    case hs => intro _; with_unfolding_all rfl
    case h =>
      skip
      k_steps
      unfold Stop
      rename Fr _ _ _ _ => F4
      rename News _ _ _ _ => N4
      rename IsRange _ _ _ _ _ _ _ _ => hr
      have hq : x.fmod 3 = 0 ∨ x.fmod 3 = 1 ∨ x.fmod 3 = 2 := by have := fmod_lo x (n := 3) (by decide); have := fmod_hi x (n := 3) (by decide); omega
      refine ⟨_, _, _, _, _, _, _, _, (1 + x.fmod 3).toNat, rfl, hr, ?_, ?_, ?_, F4, N4, ?_, ?_⟩
      · rcases hq with e | e | e <;> rw [e] <;> decide
      · rcases hq with e | e | e <;> rw [e] <;> decide
      · rw [sizeLine_eq]; omega
      · intro C a v s₂ m₂ E' hC ha hv hn2 hm2 hk2
        obtain ⟨t2, rfl⟩ := hv
        have ha3 : a = 0 ∨ a = 1 ∨ a = 2 := by
          simp only [rangeInts, List.mem_map, List.mem_range] at ha
          obtain ⟨i, hi, rfl⟩ := ha
          omega
        rcases ha3 with rfl | rfl | rfl
        all_goals k_steps
        all_goals first | exact .str _ _ | exact ⟨_, _, rfl, fun _ _ e => e⟩
      · clear F4 N4 hr
        intro D ys h' tk2 F5 N5 hD hC
        have hSy := StrsAre.of_carried (ys := (rangeInts 0 1 (1 + x.fmod 3).toNat).map (letOf x)) (by simpa [List.map_map, Function.comp_def] using hC)
        obtain ⟨u, hu, hword⟩ := word_is x (n := (1 + x.fmod 3).toNat) (by omega)
        k_steps
        unfold Stop
        refine' join_listW hD (by simpa using hSy) (by decide) (word_weight x (by omega)) ?_
        intro t' k'
        rw [show Txt.join (Str.ofString "") _ = encw u from hword]
        clear hSy hC hD hword hq
        k_steps
        unfold Stop
        rename Fr _ _ _ _ => F6
        rename News _ _ _ _ => N6
        refine' notin_list_strs (N6.isList (by k_mem)) hS ?_
        rw [any_encw hu hW]
        k_steps
        · unfold Stop
          rename us.contains u = true => hc
          have hmem : u ∈ us := List.contains_iff_mem.mp hc
          exact TurnEnd.intro (nx := [_, _, _]) F6 N6 (fun p hp q hq => by rw [List.mem_singleton.mp hq]; exact off_cons hI1 (off_cons hI2 (off_cons hI3 (List.forall_mem_nil _))) p hp)
            ⟨fun z hz => by simp only [if_neg hz.1, if_neg hz.2], us, ws, n, _, rfl, hS, hnd, hW, by omega, (fun _ e => by rw [e] at hmem; cases hmem), ⟨_, by assumption⟩, hc1, hc2⟩
        · unfold Stop
          rename us.contains u = false => hc
          have hmem : u ∉ us := fun h => by rw [List.contains_iff_mem.mpr h] at hc; cases hc
          rename Fr _ _ _ _ => F7
          rename News _ _ _ _ => N7
          rw [List.push_toArray] at N7
          exact TurnEnd.intro (nx := [_, _, _]) F7 N7 (fun p hp q hq => by rw [List.mem_singleton.mp hq]; exact off_cons hI1 (off_cons hI2 (off_cons hI3 (List.forall_mem_nil _))) p hp)
            ⟨fun z hz => by simp only [if_neg hz.1, if_neg hz.2], us ++ [u], _, _, _, rfl, (by rw [List.map_append]; exact strsAre_append hS (.cons _ _ .nil)), (List.nodup_append.mpr ⟨hnd, by simp, fun a ha b hb e => hmem (by rw [← List.mem_singleton.mp hb, ← e]; exact ha)⟩),
              (fun v hv => (List.mem_append.mp hv).elim (hW v) fun h => by rw [List.mem_singleton.mp h]; exact hu), (by simp only [List.length_append, List.length_cons, List.length_nil]; omega), (fun _ => by simp), ⟨_, by assumption⟩, hc1, hc2⟩
  case done =>
    clear F1 N1 hr
    intro m₁ news₁ h tk hJ F N
    obtain ⟨hm, us, ws, n, xo, rfl, hS, hnd, hW, hlen, hpos, hxo, hc1, hc2⟩ := hJ
    rw [forget2 (fun z a b => hm z ⟨a, b⟩)] at F
    show wpAny _ _ _ _ _ _
    k_steps
    exact ret _ [(_, PySem.W.listOf ws.toArray n)] _ _ _ F (fun p hp => N p (by rw [List.mem_singleton.mp hp]; exact .head _)) ⟨us, _, ws, n, rfl, rfl, hS, hnd, hW, hlen, hpos (by omega)⟩
end
section
open PySem PySem.W PySem.Calls PySem.Spec PyProof.Rows
set_option maxRecDepth 100000
set_option maxHeartbeats 8000000
/-- the contract of a def that changes one object d and leaves all else that stood before it -/
noncomputable def SpecM (w : World) (D U : Nat) (f : Addr) (args : List Value) (Pre : Heap → Prop) (d : Addr) (o : Obj) (Post : Obj → List (Addr × Obj) → Value → Prop) : Prop :=
  ∀ (loose : List PySem.Str) (mean : ExcName → Option Value) (mg mb : PySem.Str → Option Value) (env : Env) (outer : List Env) (A A₀ : Around) (base h₀ : Heap) (L : Addr) (m : PySem.Str → Option Value) (s : Shared) (Q E : Value → Shared → Prop),
    Below A₀ base outer h₀ → Fr h₀ L s.heap m → (hd.heap_39 w.params).In h₀ → Top hd.view_39 loose mean mg mb h₀ → A.handled = none → A.depth ≤ D → A.units ≤ U → A.frames = some (env :: outer) → env.frame = some L → env.scope.kind = .function →
    News h₀ L s.heap [(d, o)] → (∀ g : Heap, (∀ b ob, s.heap.get? b = some ob → b ≠ d → g.get? b = some ob) → Pre g) →
    (∀ v new o' h' tk, (∀ b ob, s.heap.get? b = some ob → b ≠ d → h'.get? b = some ob) → h'.get? d = some o' → (∀ p ∈ new, h'.get? p.1 = some p.2 ∧ s.heap.get? p.1 = none) → Post o' new v → Q v { s with heap := h', toks := tk }) →
    wpAny (model prog w) A (call (.ref f) args) Q E s

theorem SpecM.use {w : World} {D U : Nat} {f : Addr} {args : List Value} {Pre : Heap → Prop} {d : Addr} {o : Obj} {Post : Obj → List (Addr × Obj) → Value → Prop} (S : SpecM w D U f args Pre d o Post)
    {loose : List PySem.Str} {mean : ExcName → Option Value} {mg mb : PySem.Str → Option Value} {env : Env} {outer : List Env} {A A₀ : Around} {base h₀ : Heap} {L : Addr} {m : PySem.Str → Option Value} {led rest : List (Addr × Obj)} {s : Shared} {Q E : Value → Shared → Prop}
    (B : Below A₀ base outer h₀) (F : Fr h₀ L s.heap m) (X : (hd.heap_39 w.params).In h₀) (N : News h₀ L s.heap led) (T : Top hd.view_39 loose mean mg mb h₀)
    (hh : A.handled = none) (hd : A.depth ≤ D) (hu : A.units ≤ U) (hA : A.frames = some (env :: outer)) (hf : env.frame = some L) (hk : env.scope.kind = .function)
    (hm : (d, o) ∈ led) (hs : ∀ p ∈ rest, p ∈ led) (hne : ∀ p ∈ rest, p.1 ≠ d) (pre : ∀ g : Heap, (∀ b ob, s.heap.get? b = some ob → b ≠ d → g.get? b = some ob) → Pre g)
    (h : ∀ v new o' h' tk, Fr h₀ L h' m → News h₀ L h' ((d, o') :: (new ++ rest)) → (∀ p ∈ new, p.1 ≠ d) → (∀ q ∈ rest, ∀ p ∈ new, q.1 ≠ p.1) → Post o' new v → Q v { s with heap := h', toks := tk }) :
    wpAny (model prog w) A (call (.ref f) args) Q E s := by
  have z := N _ hm
  refine S _ _ _ _ _ _ A _ _ _ _ _ s Q E B F X T hh hd hu hA hf hk (fun p hp => by rw [List.mem_singleton.mp hp]; exact z) pre fun v new o' h' tk st ho hn hp => h v new o' h' tk ?_ ?_ ?_ ?_ hp
  · obtain ⟨oL, es, ep, hL, r⟩ := F.ns
    exact ⟨⟨oL, es, ep, st _ _ hL (Ne.symm z.2.1), r⟩, fun b ob e => st _ _ (F.keep b ob e) (fun q => by rw [q, z.2.2] at e; cases e), F.above⟩
  · intro p hp
    rcases List.mem_cons.mp hp with e | hp
    · rw [e]; exact ⟨ho, z.2⟩
    rcases List.mem_append.mp hp with q | q
    · refine ⟨(hn p q).1, fun e => ?_, ?_⟩
      · obtain ⟨oL, es, ep, hL, r⟩ := F.ns
        have := (hn p q).2
        rw [e, hL] at this; cases this
      · cases e : h₀.get? p.1 with
        | none => rfl
        | some ob => have := F.keep _ _ e; rw [(hn p q).2] at this; cases this
    · exact ⟨st _ _ (N p (hs p q)).1 (hne p q), (N p (hs p q)).2⟩
  · intro p hp e
    have := (hn p hp).2
    rw [e, z.1] at this; cases this
  · intro q hq p hp e
    have := (hn p hp).2
    rw [← e, (N q (hs q hq)).1] at this; cases this

theorem SpecM.of {w : World} {D U : Nat} {f : Addr} {args : List Value} {Pre : Heap → Prop} {d : Addr} {o : Obj} {Post : Obj → List (Addr × Obj) → Value → Prop}
    {name qual : PySem.Str} {params : Arguments} {body : List Stmt} {scope : Scope} {dV kV doc pm cdv ct oc : Value} {an od : Option Addr} {osl : Array (Option Value)} {binds : List (PySem.Str × Value)}
    (ho : (hd.heap_39 w.params).lookup f = some ⟨oc, od, .func (fnOf name qual params body scope dV kV doc pm an cdv ct), osl⟩) (hcd : codeIn (hd.heap_39 w.params) cdv qual = true) (hroom : D < recursionLimit)
    (hbind : ∀ s, BindsTo s (fnOf name qual params body scope dV kV doc pm an cdv ct) ⟨args, []⟩ binds) (hloc : ∀ y ∈ binds, scope.names.lookup y.1 = some .local)
    (hcell : ∀ x ∈ scope.names, x.2 ≠ .cell) (hco : scope.isCoroutine = false) (hgen : scope.isGenerator = false) (hk : scope.kind = .function)
    (h : ∀ (loose : List PySem.Str) (mean : ExcName → Option Value) (mg mb : PySem.Str → Option Value) (outer : List Env) (gd : Option (List Code)) (A : Around) (base g : Heap) (L' : Addr) (h₁ : Heap) (s : Shared) (Q : Value → Shared → Prop),
      Fr g L' h₁ (fun y => binds.reverse.lookup y) → News g L' h₁ [(d, o)] → Below A base outer g → (hd.heap_39 w.params).In g → Top hd.view_39 loose mean mg mb g → Pre g → @LT.lt Nat _ d L' →
      (∀ v new o' h' tk m', Fr g L' h' m' → News g L' h' ((d, o') :: new) → (∀ p ∈ new, p.1 ≠ d) → Post o' new v → Q v { s with heap := h', toks := tk }) →
      wpAny (model prog w) (Around.deeper { handled := none, depth := D, frames := some outer, guards := gd, units := U } (envOf qual scope L' f cdv)) (execs body (envOf qual scope L' f cdv))
        (fun fl s' => Back Q (ended fl) s') (fun _ _ => False) { s with heap := h₁, toks := s.toks + binds.length }) :
    SpecM w D U f args Pre d o Post := by
  intro loose mean mg mb env outer A A₀ base h₀ L m s Q E B F X T hh hd' hu hA hf hke N pre ret
  refine around_mono (A' := { handled := none, depth := D, frames := some (env :: outer), guards := A.guards, units := U }) hh.symm hd' hA.symm rfl hu ?_
  refine wpAny_call ?_
  obtain ⟨FG, BG, st, -⟩ := groundX (A := { handled := none, depth := D, frames := some (env :: outer), guards := A.guards, units := U }) (R := fun _ _ => True) B F N rfl hf hke
  have z := N _ (.head _)
  have hg : ∀ b ob, s.heap.get? b = some ob → b ≠ d → (hideAll s.heap [d]).get? b = some ob := fun b ob e n => hideAll_get _ e (by simpa using n)
  refine codeAny_call_def (fd := fnOf name qual params body scope dV kV doc pm an cdv ct) (body := body) (binds := binds) hroom ((X.keeps F.keep) _ _ ho) rfl (T.nolimit.keeps F.keep) (codeRec_of (X.keeps F.keep) hcd) rfl (hbind s) hcell hloc (fun h₁ hns hk₁ => ?_) hco hgen hk
  refine wpAny_mono (h loose mean mg mb (env :: outer) A.guards _ base (hideAll s.heap [d]) s.heap.objs.size h₁ s (fun v s' => Q v s')
    ⟨hns, fun b ob e => hk₁ b ob (of_hideAll _ e), Nat.le_of_eq (hideAll_size _ _)⟩ (fun p hp => ?_) BG (X.keeps st) (T.keeps st) (pre _ hg) (Heap.lt_size z.1) fun v new o' h' tk m' Fe Ne hne hp => ?_) (fun fl s' hl => hl) fun _ _ x => x.elim
  · rw [List.mem_singleton.mp hp]
    exact ⟨hk₁ _ _ z.1, Nat.ne_of_lt (Heap.lt_size z.1), hideAll_none _ (.head _)⟩
  · refine ret v new o' h' tk (fun b ob e n => Fe.keep b ob (hg b ob e n)) (Ne _ (.head _)).1 (fun p hp => ⟨(Ne p (.tail _ hp)).1, ?_⟩) hp
    have h1 := (Ne p (.tail _ hp)).2.2
    cases q : s.heap.get? p.1 with
    | none => rfl
    | some ob => rw [hg _ _ q (hne p hp)] at h1; cases h1
end
section
open PySem PySem.W PySem.Calls PySem.Spec PyProof.Rows
set_option maxRecDepth 100000
set_option maxHeartbeats 8000000
/-- the rounds in plain: what is added to the ways, and the pieces of the next round -/
abbrev RSt := Ways × List Wd
noncomputable def stepA (lo sh : List Wd) (p : Wd) (st : RSt) (u : Wd) : RSt :=
  if ahead p u != [] && !st.1.has (ahead p u) then (st.1 ++ [(ahead p u, lo, u :: sh)], st.2 ++ [ahead p u]) else st
noncomputable def stepB (lo sh : List Wd) (p : Wd) (st : RSt) (u : Wd) : RSt :=
  if ahead u p != [] && !st.1.has (ahead u p) then (st.1 ++ [(ahead u p, u :: sh, lo)], st.2 ++ [ahead u p]) else st
noncomputable def roundIn (lo sh : List Wd) (p : Wd) (st : RSt) (u : Wd) : RSt := stepB lo sh p (stepA lo sh p st u) u
noncomputable def rowOf (W : Ways) (p : Wd) : List Wd × List Wd := match W.find? (·.1 == p) with | some x => x.2 | none => ([], [])
noncomputable def roundOut (us : List Wd) (st : RSt) (p : Wd) : RSt := us.foldl (roundIn (rowOf st.1 p).1 (rowOf st.1 p).2 p) st
noncomputable def round (ps us : List Wd) (W : Ways) : RSt := ps.foldl (roundOut us) (W, [])

theorem stepA_has {lo sh : List Wd} {p u : Wd} {st : RSt} (h : st.1.has (ahead p u) = true) : stepA lo sh p st u = st := by unfold stepA; rw [h]; simp
theorem stepA_nil {lo sh : List Wd} {p u : Wd} {st : RSt} (h : ahead p u = []) : stepA lo sh p st u = st := by unfold stepA; rw [h]; simp
theorem stepA_new {lo sh : List Wd} {p u : Wd} {st : RSt} (h1 : ahead p u ≠ []) (h : st.1.has (ahead p u) = false) : stepA lo sh p st u = (st.1 ++ [(ahead p u, lo, u :: sh)], st.2 ++ [ahead p u]) := by unfold stepA; rw [h]; simp [h1]
theorem stepB_has {lo sh : List Wd} {p u : Wd} {st : RSt} (h : st.1.has (ahead u p) = true) : stepB lo sh p st u = st := by unfold stepB; rw [h]; simp
theorem stepB_nil {lo sh : List Wd} {p u : Wd} {st : RSt} (h : ahead u p = []) : stepB lo sh p st u = st := by unfold stepB; rw [h]; simp
theorem stepB_new {lo sh : List Wd} {p u : Wd} {st : RSt} (h1 : ahead u p ≠ []) (h : st.1.has (ahead u p) = false) : stepB lo sh p st u = (st.1 ++ [(ahead u p, u :: sh, lo)], st.2 ++ [ahead u p]) := by unfold stepB; rw [h]; simp [h1]

theorem rowOf_spec {W : Ways} {p : Wd} (hG : WGood W) (h : W.has p = true) : W.find? (·.1 == p) = some (p, (rowOf W p).1, (rowOf W p).2) ∧ (rowOf W p).1 ≠ [] ∧ (rowOf W p).2 ≠ [] ∧
    (∀ u ∈ (rowOf W p).1, u ∈ W14) ∧ (∀ u ∈ (rowOf W p).2, u ∈ W14) ∧ (rowOf W p).1.flatten = p ++ (rowOf W p).2.flatten ∧ (rowOf W p).1.length + (rowOf W p).2.length ≤ W.length + 1 := by
  unfold rowOf
  cases hf : W.find? (·.1 == p) with
  | none =>
    rw [List.find?_eq_none] at hf
    unfold Ways.has at h
    rw [List.any_eq_true] at h
    obtain ⟨x, hx, e⟩ := h
    exact absurd e (hf x hx)
  | some x =>
    have hx := List.mem_of_find?_eq_some hf
    have he : x.1 = p := by simpa using List.find?_some hf
    obtain ⟨a, b, c, d, e, f⟩ := hG.rows x hx
    subst he
    exact ⟨rfl, a, b, c, d, e, f⟩

/-- the ledger of the round's loops -/
inductive JR (w : World) (g : Addr → Obj → Prop) (fx : List (Addr × Obj)) (d la : Addr) (more : (Addr → Obj → Prop) → Prop) (st : RSt) (nx : List (Addr × Obj)) : Prop
  | mk (o : Obj) (kvs : List (PySem.Str × Value)) (wl : List (Addr × Obj)) (vs : List Value) (n : Nat) (h1 : nx = fx ++ (la, PySem.W.listOf vs.toArray n) :: (d, o) :: wl) (h2 : StrsAre vs (st.2.map enc)) (h3 : ∀ p ∈ wl, p.1 ≠ d) (h4 : ∀ p ∈ wl, p.1 ≠ la) (h5 : ∀ q ∈ fx, q.1 ≠ d ∧ q.1 ≠ la ∧ ∀ p ∈ wl, p.1 ≠ q.1) (h6 : o.IsDictOf (strKind prog w) kvs) (h7 : WaysAre (fun a o => g a o ∨ (a, o) ∈ wl) kvs st.1) (h8 : WGood st.1) (h9 : ∀ x ∈ st.2, st.1.has x = true) (h10 : st.2.length ≤ st.1.length) (h11 : more (fun a o => g a o ∨ (a, o) ∈ wl)) :
    JR w g fx d la more st nx
noncomputable def JRound (w : World) (g : Addr → Obj → Prop) (m₀ : PySem.Str → Option Value) (keep : PySem.Str → Prop) (fx : List (Addr × Obj)) (d la : Addr) (more : (Addr → Obj → Prop) → Prop) (st : RSt) (m : PySem.Str → Option Value) (nx : List (Addr × Obj)) : Prop :=
  (∀ z, keep z → m z = m₀ z) ∧ JR w g fx d la more st nx

/-- the end of an if that leaves the frame's names -/
noncomputable def IfEnd (h₀ : Heap) (L : Addr) (m : PySem.Str → Option Value) (J : List (Addr × Obj) → Prop) (s₁ : Shared) (f : Flow) (s₂ : Shared) : Prop :=
  f = .next ∧ ∃ h' tk nx, s₂ = { s₁ with heap := h', toks := tk } ∧ Fr h₀ L h' m ∧ News h₀ L h' nx ∧ J nx
theorem IfEnd.intro {h₀ : Heap} {L : Addr} {m : PySem.Str → Option Value} {J : List (Addr × Obj) → Prop} {s₁ : Shared} {h' : Heap} {tk : Nat} {nx : List (Addr × Obj)} (F : Fr h₀ L h' m) (N : News h₀ L h' nx) (hJ : J nx) :
    IfEnd h₀ L m J s₁ .next { s₁ with heap := h', toks := tk } := ⟨rfl, h', tk, nx, rfl, F, N, hJ⟩

theorem name_head {g : Heap} {L : Addr} {h : Heap} {a : Addr} {o : Obj} {r : List (Addr × Obj)} (_N : News g L h ((a, o) :: r)) : ∃ x : Addr, x = a := ⟨a, rfl⟩
theorem if_join {M : Model} {A : Around} {t : Sem Flow} {Q : Flow → Shared → Prop} {E : Value → Shared → Prop} {s : Shared} {h₀ : Heap} {L : Addr} {m : PySem.Str → Option Value} (J : List (Addr × Obj) → Prop) (_F : Fr h₀ L s.heap m)
    (h : wpAny M A t (IfEnd h₀ L m J s) E s) (next : ∀ h' tk nx, Fr h₀ L h' m → News h₀ L h' nx → J nx → Q .next { s with heap := h', toks := tk }) : wpAny M A t Q E s := by
  refine wpAny_mono h (fun f s₂ hf => ?_) fun _ _ e => e
  obtain ⟨rfl, h', tk, nx, rfl, F, N, hJ⟩ := hf
  exact next h' tk nx F N hJ

section
variable {prog : Program} {w : World} {A : Around} {E : Value → Shared → Prop} {s : Shared} {h₀ : Heap} {L d : Addr} {m : PySem.Str → Option Value} {o : Obj} {kvs : List (PySem.Str × Value)} {W : Ways} {p : Wd} {t : Tok}
theorem dict_setR {g : Addr → Obj → Prop} {v : Value} {lo sh : List Wd} {nw fx wl : List (Addr × Obj)} {Q : Unit → Shared → Prop} (F : Fr h₀ L s.heap m)
    (N : News h₀ L s.heap (nw ++ (fx ++ (d, o) :: wl)))
    (hD : o.IsDictOf (strKind prog w) kvs) (hR : WaysAre (fun a o => g a o ∨ (a, o) ∈ wl) kvs W) (hG : WGood W) (hp : p ∈ W14) (hn : W.has p = false)
    (row : RowIs (fun a o => g a o ∨ (a, o) ∈ nw ++ wl) v (lo.map enc) (sh.map enc))
    (hne : ∀ p ∈ wl, p.1 ≠ d) (hfx : ∀ p ∈ fx, p.1 ≠ d) (hnw : ∀ p ∈ nw, p.1 ≠ d)
    (h : ∀ (h' : Heap) (o' : Obj), Fr h₀ L h' m → News h₀ L h' (fx ++ (d, o') :: (nw ++ wl)) → o'.IsDictOf (strKind prog w) (kvs ++ [(enc p, v)]) →
      WaysAre (fun a o => g a o ∨ (a, o) ∈ nw ++ wl) (kvs ++ [(enc p, v)]) (W ++ [(p, lo, sh)]) → Q () { s with heap := h', toks := s.toks + 1 }) :
    wpAny (model prog w) A (setItem (.ref d) (.str (enc p) t) v) Q E s := by
  refine dict_set (rest := nw ++ (fx ++ wl)) F N hD ?_ ?_ ?_ ?_ ?_
  · simp
  · intro p hp
    simp only [List.mem_cons, List.mem_append] at hp ⊢
    rcases hp with h | h | h <;> simp [h]
  · intro p hp
    simp only [List.mem_append] at hp
    rcases hp with h | h | h
    · exact hnw p h
    · exact hfx p h
    · exact hne p h
  · rw [hR.length]; have := hG.len; omega
  · intro h'' o' F' N'' hD'
    rw [stored_new (by rw [hR.valueAt_none hp hG.keys]; exact hn)] at hD'
    refine h h'' o' F' (fun p hp => N'' p ?_) hD' ((hR.mono fun a o q => q.imp id (List.mem_append_right _)).snoc row)
    simp only [List.mem_cons, List.mem_append] at hp ⊢
    rcases hp with h | h | h | h <;> simp [h]
end

inductive RoundNew (w : World) (g : Addr → Obj → Prop) (st : RSt) (o' : Obj) (new : List (Addr × Obj)) (v : Value) : Prop
  | mk (la : Addr) (vs : List Value) (n : Nat) (kvs : List (PySem.Str × Value)) (wl : List (Addr × Obj)) (h1 : v = .ref la) (h2 : new = (la, PySem.W.listOf vs.toArray n) :: wl) (h3 : StrsAre vs (st.2.map enc)) (h4 : ∀ p ∈ wl, p.1 ≠ la) (h5 : o'.IsDictOf (strKind prog w) kvs) (h6 : WaysAre (fun a o => g a o ∨ (a, o) ∈ wl) kvs st.1) (h7 : WGood st.1) (h8 : ∀ x ∈ st.2, st.1.has x = true) (h9 : st.2.length ≤ st.1.length) :
    RoundNew w g st o' new v
theorem forget5 {m m₀ : PySem.Str → Option Value} {a b c d e : PySem.Str} (h : ∀ z, z ≠ a → z ≠ b → z ≠ c → z ≠ d → z ≠ e → m z = m₀ z) :
    m = fun z => if z = a then m a else if z = b then m b else if z = c then m c else if z = d then m d else if z = e then m e else m₀ z := by
  funext z
  by_cases h1 : z = a
  · rw [if_pos h1, h1]
  by_cases h2 : z = b
  · rw [if_neg h1, if_pos h2, h2]
  by_cases h3 : z = c
  · rw [if_neg h1, if_neg h2, if_pos h3, h3]
  by_cases h4 : z = d
  · rw [if_neg h1, if_neg h2, if_neg h3, if_pos h4, h4]
  by_cases h5 : z = e
  · rw [if_neg h1, if_neg h2, if_neg h3, if_neg h4, if_pos h5, h5]
  · rw [if_neg h1, if_neg h2, if_neg h3, if_neg h4, if_neg h5, h z h1 h2 h3 h4 h5]

section
variable {prog : Program} {w : World} {A : Around} {E : Value → Shared → Prop} {s : Shared} {h₀ : Heap} {L d : Addr} {m : PySem.Str → Option Value} {news : List (Addr × Obj)} {o : Obj} {kvs : List (PySem.Str × Value)} {G : Addr → Obj → Prop} {W : Ways} {p : Wd} {t : Tok} {lo sh : List Wd}
theorem dict_item {value slice : Expr} {Q : Value → Shared → Prop} (N : News h₀ L s.heap news) (hm : (d, o) ∈ news) (hD : o.IsDictOf (strKind prog w) kvs) (hR : WaysAre G kvs W) (hG : WGood W) (hp : p ∈ W14) (hf : W.find? (·.1 == p) = some (p, lo, sh))
    (h : ∀ v, RowIs G v (lo.map enc) (sh.map enc) → Q v { s with toks := s.toks + 1 })
    (hs : subscripted slice false (.ref d) (.str (enc p) t) = operate [.ref d, .str (enc p) t] (getItem (.ref d) (.str (enc p) t)) := by with_unfolding_all rfl) :
    wpAny (model prog w) A (subscriptTail value slice (.ref d) (.str (enc p) t)) Q E s := by
  obtain ⟨v, hv, hr⟩ := hR.valueAt_some hp hG.keys hf
  have hd := (Heap.dictOf_iff.mpr ⟨o, (N _ hm).1, hD⟩).mapOf
  exact tail_any hd.typeIs slot_dict_getitem.lookup (wpAny_getItem_of (strKind_is prog w _ t) hd hv (h v hr)) hs

theorem pair_assign {env : Env} {a b : PySem.Str} {pa pb tp : Pos} {kk : Nat} {T : Addr} {x y : Value} {n : Nat} {Q : Unit → Shared → Prop} (F : Fr h₀ L s.heap m) (N : News h₀ L s.heap news) (hL : env.locals = L) (hh : A.handled = none)
    (ht : s.heap.get? T = some { cls := .type "tuple", data := .seq [x, y].toArray n })
    (ha : env.kindOf a = some .local) (hb : env.kindOf b = some .local) (hp : (env.scope.kind == .class || (env.scope.kind == .module && env.locals != env.globals)) = false)
    (h : ∀ h' tk, Fr h₀ L h' (fun z => if z = b then some y else if z = a then some x else m z) → News h₀ L h' news → Q () { s with heap := h', toks := tk }) :
    wpAny (model prog w) A (assign (.Tuple [.Name a pa, .Name b pb] kk tp) env (.ref T)) Q E s := by
  subst hL
  refine kcp_assign hh ⟨_, ht, rfl, n, rfl⟩ ha hb hp F.ns fun h' tk hn hk => ?_
  refine h h' tk ⟨hn, fun c ob e => hk c ob (fun q => ?_) (F.keep c ob e), F.above⟩ fun p hp => ⟨hk _ _ (N p hp).2.1 (N p hp).1, (N p hp).2⟩
  rw [q] at e
  exact absurd (Heap.lt_size e) (Nat.not_lt.mpr F.above)
end
theorem Ways.has_app {W : Ways} {x : Wd × List Wd × List Wd} {q : Wd} (h : W.has q = true) : Ways.has (W ++ [x]) q = true := by
  simp only [Ways.has, List.any_append, Bool.or_eq_true] at h ⊢; exact .inl h
theorem JR.grow {w : World} {G : Addr → Obj → Prop} {fx nw wl : List (Addr × Obj)} {d la : Addr} {more : (Addr → Obj → Prop) → Prop} {st : RSt} {vs : List Value} {n' : Nat} {o' : Obj} {kvs' : List (PySem.Str × Value)} {q : Wd} {lo sh : List Wd} {t : Tok}
    (hS : StrsAre vs (st.2.map enc)) (hne : ∀ p ∈ wl, p.1 ≠ d) (hnl : ∀ p ∈ wl, p.1 ≠ la) (hfx : ∀ q ∈ fx, q.1 ≠ d ∧ q.1 ≠ la ∧ ∀ p ∈ wl, p.1 ≠ q.1) (hnw : ∀ p ∈ nw, p.1 ≠ d ∧ p.1 ≠ la ∧ ∀ q ∈ fx, p.1 ≠ q.1)
    (hD' : o'.IsDictOf (strKind prog w) kvs') (hR' : WaysAre (fun a o => G a o ∨ (a, o) ∈ nw ++ wl) kvs' (st.1 ++ [(q, lo, sh)])) (hG' : WGood (st.1 ++ [(q, lo, sh)])) (hmem : ∀ x ∈ st.2, st.1.has x = true) (hlen : st.2.length ≤ st.1.length)
    (hmore : more (fun a o => G a o ∨ (a, o) ∈ nw ++ wl)) : JR w G fx d la more (st.1 ++ [(q, lo, sh)], st.2 ++ [q]) (fx ++ (la, PySem.W.listOf (vs ++ [Value.str (enc q) t]).toArray n') :: (d, o') :: (nw ++ wl)) := by
  refine ⟨o', kvs', nw ++ wl, vs ++ [Value.str (enc q) t], n', rfl, ?_, ?_, ?_, ?_, hD', hR', hG', ?_, ?_, hmore⟩
  · rw [List.map_append]; exact strsAre_append hS (.cons _ _ .nil)
  · intro p hp
    exact (List.mem_append.mp hp).elim (fun h => (hnw p h).1) (hne p)
  · intro p hp
    exact (List.mem_append.mp hp).elim (fun h => (hnw p h).2.1) (hnl p)
  · intro q hq
    exact ⟨(hfx q hq).1, (hfx q hq).2.1, fun p hp => (List.mem_append.mp hp).elim (fun h => (hnw p h).2.2 q hq) ((hfx q hq).2.2 p)⟩
  · intro x hx
    rcases List.mem_append.mp hx with h | h
    · exact Ways.has_app (hmem x h)
    · rw [List.mem_singleton.mp h, Ways.has_iff]
      simp
  · simp only [List.length_append, List.length_cons, List.length_nil]; omega
theorem nw3 {a b c I I2 : Addr × Obj} {d la : Addr} (ha : @LT.lt Nat _ I2.1 a.1 ∧ @LT.lt Nat _ I.1 a.1 ∧ @LT.lt Nat _ la a.1 ∧ @LT.lt Nat _ d a.1) (hb : @LT.lt Nat _ I2.1 b.1 ∧ @LT.lt Nat _ I.1 b.1 ∧ @LT.lt Nat _ la b.1 ∧ @LT.lt Nat _ d b.1)
    (hc : @LT.lt Nat _ I2.1 c.1 ∧ @LT.lt Nat _ I.1 c.1 ∧ @LT.lt Nat _ la c.1 ∧ @LT.lt Nat _ d c.1) : ∀ p ∈ [a, b, c], p.1 ≠ d ∧ p.1 ≠ la ∧ ∀ q ∈ [I2, I], p.1 ≠ q.1 := by
  have one : ∀ x : Addr × Obj, @LT.lt Nat _ I2.1 x.1 ∧ @LT.lt Nat _ I.1 x.1 ∧ @LT.lt Nat _ la x.1 ∧ @LT.lt Nat _ d x.1 → x.1 ≠ d ∧ x.1 ≠ la ∧ ∀ q ∈ [I2, I], x.1 ≠ q.1 := by
    intro x hx
    refine ⟨Nat.ne_of_gt hx.2.2.2, Nat.ne_of_gt hx.2.2.1, fun q hq => ?_⟩
    rcases List.mem_cons.mp hq with e | hq
    · rw [e]; exact Nat.ne_of_gt hx.1
    · rw [List.mem_singleton.mp hq]; exact Nat.ne_of_gt hx.2.1
  intro p hp
  rcases List.mem_cons.mp hp with e | hp
  · rw [e]; exact one _ ha
  rcases List.mem_cons.mp hp with e | hp
  · rw [e]; exact one _ hb
  · rw [List.mem_singleton.mp hp]; exact one _ hc
end
section
open PySem PySem.W PySem.Calls PySem.Spec PyProof.Rows
set_option maxRecDepth 100000
set_option maxHeartbeats 8000000
set_option linter.unusedVariables false
local macro_rules | `(tactic| walk_at "idle") => `(tactic| skip)
theorem fresh_E11 : True := by
  w_top off
  trivial
theorem stepA_mono {lo sh : List Wd} {p u q : Wd} {st : RSt} (h : st.1.has q = true) : (stepA lo sh p st u).1.has q = true := by
  unfold stepA
  split
  · simp only [Ways.has, List.any_append, Bool.or_eq_true] at h ⊢; exact .inl h
  · exact h
theorem stepB_mono {lo sh : List Wd} {p u q : Wd} {st : RSt} (h : st.1.has q = true) : (stepB lo sh p st u).1.has q = true := by
  unfold stepB
  split
  · simp only [Ways.has, List.any_append, Bool.or_eq_true] at h ⊢; exact .inl h
  · exact h
theorem stepA_len {lo sh : List Wd} {p u : Wd} (st : RSt) : st.1.length ≤ (stepA lo sh p st u).1.length := by
  unfold stepA; split <;> simp
theorem stepB_len {lo sh : List Wd} {p u : Wd} (st : RSt) : st.1.length ≤ (stepB lo sh p st u).1.length := by
  unfold stepB; split <;> simp
theorem roundIn_len {lo sh : List Wd} {p : Wd} : ∀ (us : List Wd) (st : RSt), st.1.length ≤ (us.foldl (roundIn lo sh p) st).1.length
  | [], _ => Nat.le_refl _
  | u :: us, st => Nat.le_trans (Nat.le_trans (stepA_len st) (stepB_len _)) (roundIn_len us (roundIn lo sh p st u))
theorem roundIn_has {lo sh : List Wd} {p q : Wd} : ∀ (us : List Wd) {st : RSt}, st.1.has q = true → (us.foldl (roundIn lo sh p) st).1.has q = true
  | [], _, h => h
  | u :: us, _, h => roundIn_has us (stepB_mono (stepA_mono h))
theorem round_has {us : List Wd} {q : Wd} : ∀ (ps : List Wd) {st : RSt}, st.1.has q = true → (ps.foldl (roundOut us) st).1.has q = true
  | [], _, h => h
  | p :: ps, _, h => round_has ps (roundIn_has us h)

local macro_rules | `(tactic| walk_at "call ref") => `(tactic| (k_here; (with_reducible show wpAny _ _ (call (Value.ref 130) _) _ _ _); refine stop_ ?_))
local macro_rules | `(tactic| walk_at "call ref") => `(tactic| walk_at "own 1")
local macro_rules | `(tactic| walk_at "pyIter ref") => `(tactic| (k_here; refine stop_ ?_))
local macro_rules | `(tactic| walk_at "call builtin:list.append") => `(tactic| (k_here; refine stop_ ?_))
local macro_rules | `(tactic| walk_at "setItem ref") => `(tactic| (k_here; refine stop_ ?_))
local macro_rules | `(tactic| walk_at "binaryOp Add ref ref") => `(tactic| (k_here; refine stop_ ?_))
local macro_rules | `(tactic| walk_at "subscriptTail Name Name ref str") => `(tactic| (k_here; refine stop_ ?_))
local macro_rules | `(tactic| walk_at "compareOp NotIn str ref") => `(tactic| (k_here; refine stop_ ?_))
local macro_rules | `(tactic| walk_at "exec If") => `(tactic| (k_here; (fail_if_success (with_reducible show wpAny _ _ _ (IfEnd _ _ _ _ _) _ _)); refine stop_ ?_))
local macro_rules | `(tactic| walk_at "newTuple") => `(tactic| walk_at "own 2")
local macro_rules | `(tactic| walk_at "TurnEnd") => `(tactic| (k_here; refine stop_ ?_))
local macro_rules | `(tactic| walk_at "IfEnd") => `(tactic| (k_here; refine stop_ ?_))
local macro_rules | `(tactic| walk_at "exec For Name Name cons nil") => `(tactic| walk_at "own 3")
theorem round_spec {w : World} {G : Addr → Obj → Prop} {lp lh d : Addr} {o : Obj} {vs vh : List Value} {ps us : List Wd} {kvs : List (PySem.Str × Value)} {W : Ways} (hn : us.length ≤ 4) (hi : StrsAre vh (us.map enc)) (hW : ∀ u ∈ us, u ∈ W14) (hj : StrsAre vs (ps.map enc)) (hP : ∀ p ∈ ps, W.has p = true) (lo : (d == sysModules) = false) (hD : o.IsDictOf (strKind prog w) kvs) (hR : WaysAre G kvs W) (hG : WGood W) :
    SpecM w 450 450 144 [.ref lp, .ref lh, .ref d] (fun h => h.IsList lp vs.toArray ∧ h.IsList lh vh.toArray ∧ ∀ a o, G a o → h.get? a = some o) d o (RoundNew w G (round ps us W)) := by
  have _k : PySem.Challenge.rw_wn0042_01 = PySem.Challenge.rw_wn0042_01 ∧ hd.heap_39 = hd.heap_39 := ⟨rfl, rfl⟩
  revert _k
  k_fill
  intro _
  refine' SpecM.of (binds := [(Str.ofString "pieces", .ref lp), (Str.ofString "hosts", .ref lh), (Str.ofString "ways", .ref d)]) ?a1 ?a2 ?a3 ?a4 ?a5 ?a6 ?a7 ?a8 ?a9 ?_
  case a1 => k_is
  case a2 => k_is
  case a3 => decide
  case a4 => exact fun _ => BindsTo.of_eq rfl
  case a5 => exact locs rfl
  case a6 => decide
  case a7 => rfl
  case a8 => rfl
  case a9 => rfl
  intro loose mean mg mb outer gd A base g L' h₁ s Q F N B X T pre hdL ret
  obtain ⟨preP, preH, preG⟩ := pre
  (try dsimp only)
  show wpAny _ _ _ _ _ _
  k_fold
  show wpAny _ _ _ _ _ _
  k_steps
  unfold Stop
  rename Fr _ _ _ _ => F1
  rename News _ _ _ _ => N1
  obtain ⟨la, hla⟩ := name_head N1
  subst hla
  have hdla : d ≠ la := by rename (@LT.lt Nat _ d la) => l0; exact Nat.ne_of_lt l0
  refine' iter_grow (L := L') (fun i => JRound w G _ (fun z => z ≠ Str.ofString "piece" ∧ z ≠ Str.ofString "longer" ∧ z ≠ Str.ofString "shorter" ∧ z ≠ Str.ofString "host" ∧ z ≠ Str.ofString "rest") [] d la (fun _ => True) ((ps.take i).foldl (roundOut us) (W, []))) rfl rfl preP F1 N1
    ⟨fun _ _ => rfl, o, kvs, [], [], _, rfl, .nil, List.forall_mem_nil _, List.forall_mem_nil _, List.forall_mem_nil _, hD, hR.mono fun _ _ h => .inl h, hG, List.forall_mem_nil _, Nat.zero_le _, trivial⟩ ?turn ?done
  case turn =>
    clear F1 N1 hD hR
    intro i v m₁ news₁ h tk I oI hv hJ hI F N
    obtain ⟨hm, o, kvs, wl, vl, n, rfl, hS, hne, hnl, hfx0, hD, hR, hG1, hmem, hlen, hmore⟩ := hJ
    clear hfx0 hmore
    simp only [List.nil_append] at N
    rw [forget5 (fun z a b c d e => hm z ⟨a, b, c, d, e⟩)] at F
    generalize m₁ (Str.ofString "piece") = q1 at F
    generalize m₁ (Str.ofString "longer") = q2 at F
    generalize m₁ (Str.ofString "shorter") = q3 at F
    generalize m₁ (Str.ofString "host") = q4 at F
    generalize m₁ (Str.ofString "rest") = q5 at F
    clear hm m₁
    obtain ⟨p, tp, hp, rfl⟩ := strs_at enc hj hv
    have hhas0 := hP p (List.mem_of_getElem? hp)
    have hpW : p ∈ W14 := by
      obtain ⟨x, hx, rfl⟩ := List.mem_map.mp (Ways.has_iff.mp hhas0)
      exact hG.keys x hx
    have hhas := round_has (us := us) (ps.take i) (st := (W, [])) hhas0
    have hstep := fold_step (roundOut us) (W, []) hp
    generalize (ps.take i).foldl (roundOut us) (W, []) = st at hS hR hG1 hmem hlen hhas hstep
    obtain ⟨hf, hlo, hsh, hloW, hshW, hfl, hll⟩ := rowOf_spec hG1 hhas
    unfold roundOut at hstep
    generalize (rowOf st.1 p).1 = lo1 at hf hlo hloW hfl hll hstep
    generalize (rowOf st.1 p).2 = sh1 at hf hsh hshW hfl hll hstep
    show wpAny _ _ _ _ _ _
    k_steps
    unfold Stop
    rename Fr _ _ _ _ => F2
    rename News _ _ _ _ => N2
    refine' dict_item N2 (by k_mem) hD hR hG1 hpW hf ?_
    intro v hr
    obtain ⟨ta, la1, lb1, vs1, vs2, nt, na, nb, rfl, r1, r2, r3, s1, s2⟩ := hr
    have at2 : ∀ a o, G a o ∨ (a, o) ∈ wl → h.get? a = some o := fun a o q => q.elim (fun q => F2.keep a o (preG a o q)) fun q => (N2 (a, o) (.tail _ (.tail _ (.tail _ q)))).1
    refine' pair_assign F2 N2 rfl rfl (at2 _ _ r1) rfl rfl rfl ?_
    clear at2 r1 F2 N2
    intro h' tk F3 N3
    k_steps
    unfold Stop
    rename Fr _ _ _ _ => F4
    rename News _ _ _ _ => N4
    have hI1 := hI _ (.head _)
    have hI2 := hI _ (.tail _ (.head _))
    refine' iter_grow (L := L') (fun j => JRound w G _ (fun z => z ≠ Str.ofString "host" ∧ z ≠ Str.ofString "rest") [(I, oI)] d la (fun G' => G' la1 (PySem.W.listOf vs1.toArray na) ∧ G' lb1 (PySem.W.listOf vs2.toArray nb)) ((us.take j).foldl (roundIn lo1 sh1 p) st)) rfl rfl preH F4 N4
      ⟨fun _ _ => rfl, o, kvs, wl, vl, n, rfl, hS, hne, hnl, (fun q hq => by rw [List.mem_singleton.mp hq]; exact ⟨Ne.symm hI2, Ne.symm hI1, fun p hp => hI p (.tail _ (.tail _ hp))⟩), hD, hR, hG1, hmem, hlen, r2, r3⟩ ?turn2 ?done2
    case turn2 =>
      clear F4 N4 hD hR hne hnl hI hI1 hI2 hS r2 r3 hmem hlen
      intro j v m₁ news₁ h tk I2 oI2 hv hJ hI2 F N
      obtain ⟨hm, o, kvs, wl, vl, n, rfl, hS, hne, hnl, hfx, hD, hR, hG2, hmem, hlen, r2, r3⟩ := hJ
      rw [forget2 (fun z a b => hm z ⟨a, b⟩)] at F
      generalize m₁ (Str.ofString "host") = q2 at F
      generalize m₁ (Str.ofString "rest") = q3 at F
      clear hm m₁
      obtain ⟨u, tu, hu, rfl⟩ := strs_at enc hi hv
      have huW : u ∈ W14 := hW u (List.mem_of_getElem? hu)
      simp only [List.singleton_append] at N
      have hstep2 := fold_step (roundIn lo1 sh1 p) st hu
      have hll2 := roundIn_len (lo := lo1) (sh := sh1) (p := p) (us.take j) st
      generalize (us.take j).foldl (roundIn lo1 sh1 p) _ = st2 at hS hR hG2 hmem hlen hstep2 hll2
      show wpAny _ _ _ _ _ _
      have hinA := ahead_in hpW huW
      have hinB := ahead_in huW hpW
      k_steps
      unfold Stop
      rename Fr _ _ _ _ => F5
      have hfx2 : ∀ q ∈ [(I2, oI2), (I, oI)], q.1 ≠ d ∧ q.1 ≠ la ∧ ∀ p ∈ wl, p.1 ≠ q.1 := by
        intro q hq
        rcases List.mem_cons.mp hq with e | hq
        · rw [e]; exact ⟨Ne.symm (hI2 _ (.tail _ (.tail _ (.head _)))), Ne.symm (hI2 _ (.tail _ (.head _))), fun p hp => hI2 p (.tail _ (.tail _ (.tail _ hp)))⟩
        · exact hfx q hq
      refine' if_join (JR w G [(I2, oI2), (I, oI)] d la (fun G' => G' la1 (PySem.W.listOf vs1.toArray na) ∧ G' lb1 (PySem.W.listOf vs2.toArray nb)) (stepA lo1 sh1 p st2 u)) F5 ?ifA ?nextA
      case ifA =>
        k_steps
        · unfold Stop
          rename (_ != _) = true => hc
          have hp0 : ahead p u ≠ [] := fun e => by rw [e, enc_nil] at hc; simp at hc
          have hp1 : ahead p u ∈ W14 := hinA.resolve_left hp0
          rename News _ _ _ _ => N3
          refine' dict_notin N3 (by k_mem) lo hD hR hG2 hp1 ?_
          k_steps
          · unfold Stop
            rename _ = true => hc2
            rename Fr _ _ _ _ => F4
            rename News _ _ _ _ => N4
            rw [stepA_has hc2]
            exact IfEnd.intro (nx := (I2, oI2) :: (I, oI) :: _) F4 N4 ⟨o, kvs, wl, vl, n, rfl, hS, hne, hnl, hfx2, hD, hR, hG2, hmem, hlen, r2, r3⟩
          · unfold Stop
            rename _ = false => hc2
            rename Fr _ _ _ _ => F4
            rename News _ _ _ _ => N4
            refine' kmk_add_lit (its2 := vs2.toArray) (zs := Value.str (enc u) tu :: vs2) F4 N4 (N4.isList (List.mem_cons_self ..)) ⟨_, r3.elim (fun q => F4.keep _ _ (preG _ _ q)) (fun q => (N4 (lb1, PySem.W.listOf vs2.toArray nb) (by simp [q])).1), rfl, _, rfl⟩ (by simp) ?_ ?z
            case z =>
              have e1 := s2.len_eq
              have e2 := hG1.len
              have e3 : #[Value.str (enc u) tu].toList.length = 1 := rfl
              rw [List.length_map] at e1
              simp only [sizeLine_eq, e3]
              omega
            intro D' h' F' N' l1
            (try k_lt l1)
            k_steps
            unfold Stop
            rename Fr _ _ _ _ => F4
            rename News _ _ _ _ => N4
            rename _ ∧ _ ∧ _ ∧ _ ∧ _ ∧ _ ∧ AllLt _ wl => l3
            rename _ ∧ _ ∧ _ ∧ _ ∧ _ ∧ AllLt _ wl => l2
            rename _ ∧ _ ∧ _ ∧ _ ∧ AllLt _ wl => l1
            have hnw := nw3 (a := (_, tupO la1 D' 0)) (b := (D', lstO (Value.str (enc u) tu :: vs2) 0)) (c := (_, lstO [Value.str (enc u) tu] 0)) (I := (I, oI)) (I2 := (I2, oI2)) (d := d) (la := la) ⟨l3.2.2.1, l3.2.2.2.1, l3.2.2.2.2.1, l3.2.2.2.2.2.1⟩ ⟨l2.2.1, l2.2.2.1, l2.2.2.2.1, l2.2.2.2.2.1⟩ ⟨l1.1, l1.2.1, l1.2.2.1, l1.2.2.2.1⟩
            have hnw1 := fun p hp => (hnw p hp).1
            refine' dict_setR (lo := lo1) (sh := (u :: sh1)) (nw := [_, _, _]) (fx := [(I2, oI2), (I, oI), (la, PySem.W.listOf vl.toArray n)]) F4 N4 hD hR hG2 hp1 hc2 ⟨_, la1, D', vs1, (Value.str (enc u) tu :: vs2), 0, _, _, rfl, .inr (List.mem_append_left _ (List.mem_cons_self ..)), r2.imp id (List.mem_append_right _), .inr (List.mem_append_left _ (.tail _ (.head _))), s1, (.cons _ _ s2)⟩ hne ?hfx hnw1 ?_
            case hfx =>
              intro p hp
              rcases List.mem_cons.mp hp with e | hp
              · rw [e]; exact (hfx2 _ (.head _)).1
              rcases List.mem_cons.mp hp with e | hp
              · rw [e]; exact (hfx2 _ (.tail _ (.head _))).1
              · rw [List.mem_singleton.mp hp]; exact Ne.symm hdla
            clear F4 N4
            intro h' o' F' N' hDn hRn
            simp only [List.cons_append, List.nil_append] at N'
            have hGn := hG2.add (p := ahead p u) (lo := lo1) (sh := (u :: sh1)) hp1 hc2 hlo (by simp) hloW (List.forall_mem_cons.mpr ⟨huW, hshW⟩) (by rw [hfl, List.flatten_cons, ← List.append_assoc, ← ahead_eq hp0]) (by simp only [List.length_cons]; have := hll2; omega)
            k_steps
            unfold Stop
            rename Fr _ _ _ _ => F4
            rename News _ _ _ _ => N4
            refine' append_in (own := [(I2, oI2), (I, oI)]) (hsz := ?hsz) F4 N4 (fun p hp => (hfx2 p hp).2.1) (off_cons (a := (d, o')) hdla (fun p hp => (List.mem_append.mp (show p ∈ [_, _, _] ++ wl from hp)).elim (fun h => (hnw p h).2.1) (hnl p))) ?_
            case hsz =>
              have e1 := hS.len_eq
              have e2 := hG2.len
              rw [List.length_map] at e1
              simp only [sizeLine_eq]
              omega
            clear F4 N4
            intro h' F' N'
            simp only [List.cons_append, List.nil_append] at N'
            k_steps
            unfold Stop
            rename Fr _ _ _ _ => F4
            rename News _ _ _ _ => N4
            rw [stepA_new hp0 hc2]
            exact IfEnd.intro F4 N4 (JR.grow (fx := [_, _]) (nw := [_, _, _]) hS hne hnl hfx2 hnw hDn hRn hGn hmem hlen ⟨r2.imp id (List.mem_append_right _), r3.imp id (List.mem_append_right _)⟩)
        · unfold Stop
          rename (_ != _) = false => hc
          have hp0 : ahead p u = [] := hinA.resolve_right fun e => by rw [enc_ne e] at hc; cases hc
          rename Fr _ _ _ _ => F4
          rename News _ _ _ _ => N4
          rw [stepA_nil hp0]
          exact IfEnd.intro (nx := (I2, oI2) :: (I, oI) :: _) F4 N4 ⟨o, kvs, wl, vl, n, rfl, hS, hne, hnl, hfx2, hD, hR, hG2, hmem, hlen, r2, r3⟩
      case nextA =>
        clear F5 hD hR hne hnl hS r2 r3 hmem hlen hfx2 hG2
        intro h' tk nx F N hJ
        rw [show roundIn lo1 sh1 p st2 u = stepB lo1 sh1 p (stepA lo1 sh1 p st2 u) u from rfl] at hstep2
        have hll3 := Nat.le_trans hll2 (stepA_len (lo := lo1) (sh := sh1) (p := p) (u := u) st2)
        generalize stepA lo1 sh1 p st2 u = st3 at hJ hstep2 hll3
        clear hll2 st2
        obtain ⟨o, kvs, wl, vl, n, rfl, hS, hne, hnl, hfx2, hD, hR, hG2, hmem, hlen, r2, r3⟩ := hJ
        simp only [List.cons_append, List.nil_append] at N
        show wpAny _ _ _ _ _ _
        k_steps
        unfold Stop
        rename Fr _ _ _ _ => F5
        refine' if_join (JR w G [(I2, oI2), (I, oI)] d la (fun G' => G' la1 (PySem.W.listOf vs1.toArray na) ∧ G' lb1 (PySem.W.listOf vs2.toArray nb)) (stepB lo1 sh1 p st3 u)) F5 ?ifB ?nextB
        case ifB =>
          k_steps
          · unfold Stop
            rename (_ != _) = true => hc
            have hp0 : ahead u p ≠ [] := fun e => by rw [e, enc_nil] at hc; simp at hc
            have hp1 : ahead u p ∈ W14 := hinB.resolve_left hp0
            rename News _ _ _ _ => N3
            refine' dict_notin N3 (by k_mem) lo hD hR hG2 hp1 ?_
            k_steps
            · unfold Stop
              rename _ = true => hc2
              rename Fr _ _ _ _ => F4
              rename News _ _ _ _ => N4
              rw [stepB_has hc2]
              exact IfEnd.intro (nx := (I2, oI2) :: (I, oI) :: _) F4 N4 ⟨o, kvs, wl, vl, n, rfl, hS, hne, hnl, hfx2, hD, hR, hG2, hmem, hlen, r2, r3⟩
            · unfold Stop
              rename _ = false => hc2
              rename Fr _ _ _ _ => F4
              rename News _ _ _ _ => N4
              refine' kmk_add_lit (its2 := vs2.toArray) (zs := Value.str (enc u) tu :: vs2) F4 N4 (N4.isList (List.mem_cons_self ..)) ⟨_, r3.elim (fun q => F4.keep _ _ (preG _ _ q)) (fun q => (N4 (lb1, PySem.W.listOf vs2.toArray nb) (by simp [q])).1), rfl, _, rfl⟩ (by simp) ?_ ?z
              case z =>
                have e1 := s2.len_eq
                have e2 := hG1.len
                have e3 : #[Value.str (enc u) tu].toList.length = 1 := rfl
                rw [List.length_map] at e1
                simp only [sizeLine_eq, e3]
                omega
              intro D' h' F' N' l1
              (try k_lt l1)
              k_steps
              unfold Stop
              rename Fr _ _ _ _ => F4
              rename News _ _ _ _ => N4
              rename _ ∧ _ ∧ _ ∧ _ ∧ _ ∧ _ ∧ AllLt _ wl => l3
              rename _ ∧ _ ∧ _ ∧ _ ∧ _ ∧ AllLt _ wl => l2
              rename _ ∧ _ ∧ _ ∧ _ ∧ AllLt _ wl => l1
              have hnw := nw3 (a := (_, tupO D' la1 0)) (b := (D', lstO (Value.str (enc u) tu :: vs2) 0)) (c := (_, lstO [Value.str (enc u) tu] 0)) (I := (I, oI)) (I2 := (I2, oI2)) (d := d) (la := la) ⟨l3.2.2.1, l3.2.2.2.1, l3.2.2.2.2.1, l3.2.2.2.2.2.1⟩ ⟨l2.2.1, l2.2.2.1, l2.2.2.2.1, l2.2.2.2.2.1⟩ ⟨l1.1, l1.2.1, l1.2.2.1, l1.2.2.2.1⟩
              have hnw1 := fun p hp => (hnw p hp).1
              refine' dict_setR (lo := (u :: sh1)) (sh := lo1) (nw := [_, _, _]) (fx := [(I2, oI2), (I, oI), (la, PySem.W.listOf vl.toArray n)]) F4 N4 hD hR hG2 hp1 hc2 ⟨_, D', la1, (Value.str (enc u) tu :: vs2), vs1, 0, _, _, rfl, .inr (List.mem_append_left _ (List.mem_cons_self ..)), .inr (List.mem_append_left _ (.tail _ (.head _))), r2.imp id (List.mem_append_right _), (.cons _ _ s2), s1⟩ hne ?hfx hnw1 ?_
              case hfx =>
                intro p hp
                rcases List.mem_cons.mp hp with e | hp
                · rw [e]; exact (hfx2 _ (.head _)).1
                rcases List.mem_cons.mp hp with e | hp
                · rw [e]; exact (hfx2 _ (.tail _ (.head _))).1
                · rw [List.mem_singleton.mp hp]; exact Ne.symm hdla
              clear F4 N4
              intro h' o' F' N' hDn hRn
              simp only [List.cons_append, List.nil_append] at N'
              have hGn := hG2.add (p := ahead u p) (lo := (u :: sh1)) (sh := lo1) hp1 hc2 (by simp) hlo (List.forall_mem_cons.mpr ⟨huW, hshW⟩) hloW (by rw [hfl, List.flatten_cons, ← List.append_assoc, ← ahead_eq hp0]) (by simp only [List.length_cons]; have := hll3; omega)
              k_steps
              unfold Stop
              rename Fr _ _ _ _ => F4
              rename News _ _ _ _ => N4
              refine' append_in (own := [(I2, oI2), (I, oI)]) (hsz := ?hsz) F4 N4 (fun p hp => (hfx2 p hp).2.1) (off_cons (a := (d, o')) hdla (fun p hp => (List.mem_append.mp (show p ∈ [_, _, _] ++ wl from hp)).elim (fun h => (hnw p h).2.1) (hnl p))) ?_
              case hsz =>
                have e1 := hS.len_eq
                have e2 := hG2.len
                rw [List.length_map] at e1
                simp only [sizeLine_eq]
                omega
              clear F4 N4
              intro h' F' N'
              simp only [List.cons_append, List.nil_append] at N'
              k_steps
              unfold Stop
              rename Fr _ _ _ _ => F4
              rename News _ _ _ _ => N4
              rw [stepB_new hp0 hc2]
              exact IfEnd.intro F4 N4 (JR.grow (fx := [_, _]) (nw := [_, _, _]) hS hne hnl hfx2 hnw hDn hRn hGn hmem hlen ⟨r2.imp id (List.mem_append_right _), r3.imp id (List.mem_append_right _)⟩)
          · unfold Stop
            rename (_ != _) = false => hc
            have hp0 : ahead u p = [] := hinB.resolve_right fun e => by rw [enc_ne e] at hc; cases hc
            rename Fr _ _ _ _ => F4
            rename News _ _ _ _ => N4
            rw [stepB_nil hp0]
            exact IfEnd.intro (nx := (I2, oI2) :: (I, oI) :: _) F4 N4 ⟨o, kvs, wl, vl, n, rfl, hS, hne, hnl, hfx2, hD, hR, hG2, hmem, hlen, r2, r3⟩
        case nextB =>
          intro h' tk nx F N hJ
          rw [← hstep2] at hJ
          generalize (us.take (j + 1)).foldl (roundIn lo1 sh1 p) st = st4 at hJ
          obtain ⟨o, kvs, wl, vl, n, rfl, hS, hne, hnl, hfx2, hD, hR, hG2, hmem, hlen, r2, r3⟩ := hJ
          simp only [List.cons_append, List.nil_append] at N
          show wpAny _ _ _ _ _ _
          k_steps
          unfold Stop
          refine' TurnEnd.intro (nx := (I, oI) :: (la, PySem.W.listOf vl.toArray n) :: (d, o) :: wl) F N (fun p hp q hq => ?hoff) ⟨fun z hz => by simp only [if_neg hz.1, if_neg hz.2], o, kvs, wl, vl, n, rfl, hS, hne, hnl, (fun q hq => hfx2 q (.tail _ hq)), hD, hR, hG2, hmem, hlen, r2, r3⟩
          case hoff =>
            rw [List.mem_singleton.mp hq]
            have := hfx2 _ (.head _)
            exact off_cons (a := (I, oI)) (hI2 (I, oI) (.head _)) (off_cons (a := (la, _)) (Ne.symm this.2.1) (off_cons (a := (d, o)) (Ne.symm this.1) this.2.2)) p hp
    case done2 =>
      clear F4 N4 hD hR hne hnl hS hmem hlen
      intro m₁ news₁ h tk hJ F N
      obtain ⟨hm, o, kvs, wl, vl, n, rfl, hS, hne, hnl, hfx, hD, hR, hG2, hmem, hlen, -⟩ := hJ
      rw [hi.len_eq, List.length_map, List.take_length] at hS hR hG2 hmem hlen
      simp only [List.singleton_append] at N
      k_steps
      unfold Stop
      refine' TurnEnd.intro (nx := (la, PySem.W.listOf vl.toArray n) :: (d, o) :: wl) F N (fun p hp q hq => ?hoff2)
        ⟨fun z hz => (hm z ⟨hz.2.2.2.1, hz.2.2.2.2⟩).trans (by simp only [if_neg hz.1, if_neg hz.2.1, if_neg hz.2.2.1, if_neg hz.2.2.2.1, if_neg hz.2.2.2.2]), o, kvs, wl, vl, n, rfl, hstep ▸ hS, hne, hnl, (fun _ h => (nomatch h)), hD, hstep ▸ hR, hstep ▸ hG2, hstep ▸ hmem, hstep ▸ hlen, trivial⟩
      case hoff2 =>
        rw [List.mem_singleton.mp hq]
        have := hfx _ (.head _)
        exact off_cons (a := (la, _)) (Ne.symm this.2.1) (off_cons (a := (d, o)) (Ne.symm this.1) this.2.2) p hp
  case done =>
    clear F1 N1 hD hR
    intro m₁ news₁ h tk hJ F N
    obtain ⟨hm, o, kvs, wl, vl, n, rfl, hS, hne, hnl, hfx, hD, hR, hG2, hmem, hlen, -⟩ := hJ
    rw [hj.len_eq, List.length_map, List.take_length] at hS hR hG2 hmem hlen
    rw [forget5 (fun z a b c d e => hm z ⟨a, b, c, d, e⟩)] at F
    simp only [List.nil_append] at N
    k_steps
    refine ret _ ((la, PySem.W.listOf vl.toArray n) :: wl) o _ _ _ F (fun p hp => N p ?_) (off_cons (a := (la, _)) (Ne.symm hdla) hne) ⟨la, vl, n, kvs, wl, rfl, rfl, hS, hnl, hD, hR, hG2, hmem, hlen⟩
    simp only [List.mem_cons] at hp ⊢
    rcases hp with h | h | h <;> simp [h]
end
section
open PySem PySem.W PySem.Calls PySem.Spec PyProof.Rows
set_option maxRecDepth 100000
set_option maxHeartbeats 8000000
set_option linter.unusedVariables false
theorem slot_mdget : Slot "method_descriptor" "__get__" "method_descriptor.__get__" :=
  .of (owner := "method_descriptor") (n := "__get__") (by rw [typeLookup_type, builtinLookup_eq_fast]; kernel_rfl) (by decide +kernel) (by decide +kernel) (by decide +kernel)
    (by first | exact .inl (by decide +kernel) | exact .inr (by decide +kernel)) (by rw [isSubtype_type]; kernel_rfl)
theorem entry_mdget : entryFor table "method_descriptor.__get__" = some Builtin.«method_descriptor.__get__» := entryFor_of_tree (by kernel_rfl)
theorem args_mdget (a b c : Value) : argsOk "method_descriptor.__get__" ⟨[a, b, c], []⟩ := by unfold argsOk; kernel_rfl
theorem set_getattr_none : typeLookup (.type "set") "__getattr__" = pure none := by rw [typeLookup_type, builtinLookup_eq_fast]; kernel_rfl

/-- the set's own «in», bound -/
abbrev boundIn (a : Addr) : Obj := { cls := .type "builtin_function_or_method", data := .fields #[.builtin "set.__contains__", .ref a] }

theorem kind_contains : builtinKind "set.__contains__" = some .method := by decide +kernel
theorem md_no_set : typeLookup (.type "method_descriptor") "__set__" = pure none := by rw [typeLookup_type, builtinLookup_eq_fast]; kernel_rfl
theorem md_no_del : typeLookup (.type "method_descriptor") "__delete__" = pure none := by rw [typeLookup_type, builtinLookup_eq_fast]; kernel_rfl
theorem own_contains : ".".intercalate ("set.__contains__".cutAt '.').dropLast = "set" := by decide +kernel
section
variable {prog : Program} {w : World} {A : Around} {E : Value → Shared → Prop} {s : Shared}
theorem run_mdget {a : Addr} {P : Fin → Shared → Prop} (hT : s.TypeIs (.ref a) "set") (h : P (.done (.ret (.ref s.heap.objs.size))) { s with heap := s.heap.push (boundIn a) }) :
    wpAny (model prog w) A (Builtin.«method_descriptor.__get__» ⟨[.builtin "set.__contains__", .ref a, .type "set"], []⟩) P E s := by
  unfold Builtin.«method_descriptor.__get__»
  refine wpAny_bind (wpAny_of_eq (a := (.builtin "set.__contains__", some (.ref a), some (.type "set"))) (by first | rfl | kernel_rfl) ?_)
  have hsub := sub_set_self
  obtain ⟨hp, g, d, tk, os⟩ := s
  repeat (any_goals (first | assumption | wp_step))
  rw [own_contains]
  repeat (any_goals (first | assumption | wp_step))

theorem run_ga {a : Addr} {u : Tok} {P : Fin → Shared → Prop} {es : Array (Int × Value)} {ep : Nat} {t : SetTable} {sl : Array (Option Value)} (hob : s.heap.get? a = some { cls := .type "set", data := .set es ep t, slots := sl })
    (h : P (.done (.ret (.ref s.heap.objs.size))) { s with heap := s.heap.push (boundIn a) }) :
    wpAny (model prog w) A (Builtin.«object.__getattribute__» ⟨[.ref a, .str (Str.ofString "__contains__") u], []⟩) P E s := by
  unfold Builtin.«object.__getattribute__»
  have l1 := F.slot_set_contains.lookup
  have hT : s.TypeIs (.ref a) "set" := ⟨_, hob, rfl⟩
  have l2 := slot_mdget.lookup
  have l3 := md_no_set
  have l4 := md_no_del
  obtain ⟨hp, g, d, tk, os⟩ := s
  repeat (any_goals (first | assumption | (rw [kind_contains]) | ((with_reducible show wpAny _ _ (call (Value.builtin "method_descriptor.__get__") _ _) _ _ _); refine wpAny_call_entry slot_mdget F.type_set_contains entry_mdget (run_mdget hT ⟨_, rfl, ?_⟩) (args_mdget _ _ _)) | wp_step))

theorem attr_in {a : Addr} {o : Obj} {es : Array (Int × Value)} {ep : Nat} {t : SetTable} {Q : Value → Shared → Prop} (ho : s.heap.get? a = some o) (hx : o.ExactSet) (hd : o.data = .set es ep t)
    (h : ∀ tk, Q (.ref s.heap.objs.size) { s with heap := s.heap.push (boundIn a), toks := tk }) :
    wpAny (model prog w) A (getAttr (.ref a) (Str.ofString "__contains__") true) Q E s := by
  obtain ⟨c, dct, dat, sl⟩ := o
  obtain ⟨h1, h2, h3⟩ := hx
  simp only at h1 h2 h3 hd
  subst h1 h2 h3 hd
  obtain ⟨hp, g, d, tk, os⟩ := s
  have hT : ∀ tk', (⟨hp, g, d, tk', os⟩ : Shared).TypeIs (.ref a) "set" := fun _ => ⟨_, ho, rfl⟩
  have f3 := F.slot_set_getattribute.lookup
  have f4 := F.slot_set_getattribute.bind (.ref a)
  unfold getAttr getAttrBy
  repeat (any_goals (first | assumption | exact hT _ | ((with_reducible show wpAny _ _ (call (Value.builtin "set.__getattribute__") _ _) _ _ _); refine wpAny_call_entry F.slot_set_getattribute (hT _) F.entry_set_ga (run_ga ho ⟨_, rfl, ?_⟩) (F.args_set_getattribute_2 _ _)) | wp_step))
  exact h _
end
end
section
open PySem PySem.W PySem.Calls PySem.Spec PyProof.Rows
set_option maxRecDepth 100000
set_option maxHeartbeats 8000000
set_option linter.unusedVariables false
theorem quiet_contains {as : Args} : (Code.builtin "set.__contains__" as).quiet = true := Code.quiet_builtin _ (by decide +kernel)
theorem sig_contains : Manifest.signature? "set.__contains__" = some ⟨.oneArg, "set.__contains__", "__contains__", .self, [⟨"object", .posOnly, true⟩]⟩ := by
  rw [signature?_of (id := "set.__contains__") (n := ['_', '_', 's', 'n', 'i', 'a', 't', 'n', 'o', 'c', '_', '_']) (o := ['t', 'e', 's']) (by kernel_rfl) F.owner_set]; kernel_rfl
theorem set_no_module : isSubtype (.type "set") (.type "module") = pure false := by rw [isSubtype_type]; kernel_rfl
theorem set_no_type : isSubtype (.type "set") (.type "type") = pure false := by rw [isSubtype_type]; kernel_rfl
section
variable {prog : Program} {w : World} {A : Around} {E : Value → Shared → Prop} {s : Shared}
theorem check_contains {M : Model} {a : Addr} {x : PySem.Str} {t : Tok} {Q : Unit → Shared → Prop} {es : Array (Int × Value)} {ep : Nat} {tb : SetTable} {sl : Array (Option Value)} (hob : s.heap.get? a = some { cls := .type "set", data := .set es ep tb, slots := sl }) (h : Q () s) :
    wpAny M A (checkBoundCall "set.__contains__" ⟨[.ref a, .str x t], []⟩) Q E s := by
  unfold checkBoundCall
  rw [sig_contains, kind_contains]
  have hT : s.TypeIs (.ref a) "set" := ⟨_, hob, rfl⟩
  have h1 := set_no_module
  have h2 := set_no_type
  dsimp only
  refine wpAny_ite_split (fun hc => absurd hc (by decide)) (fun _ => ?_)
  refine wpAny_bind (wpAny_isInstance hT h1 ?_)
  refine wpAny_ite_split (fun hc => absurd hc (by decide +kernel)) (fun _ => ?_)
  refine wpAny_bind (m := isType (.ref a)) ?_
  unfold isType
  obtain ⟨hp, g, d, tk, os⟩ := s
  repeat (any_goals (first | assumption | (rw [if_neg (by decide +kernel)]) | wp_step))
theorem run_contains {a : Addr} {x : PySem.Str} {t : Tok} {S : PySem.Str → Bool} {n : Nat} {P : Fin → Shared → Prop} (hS : s.heap.SetOf (PySem.strKind prog w) a S n)
    (h : P (.done (.ret (.bool (S x)))) { s with toks := s.toks + 1 }) : wpAny (model prog w) A (Builtin.«frozenset.__contains__» ⟨[.ref a, .str x t], []⟩) P E s := by
  have hkey : (PySem.strKind prog w).is x (.str x t) = true := strKind_is prog w x t
  unfold Builtin.«frozenset.__contains__» Builtin.Frozenset.oneOther
  simp only [List.isEmpty_nil, bind_assoc]
  unfold Builtin.Frozenset.addrOf Builtin.Frozenset.withSetAsKey setContains
  refine wpAny_bind (wpAny_pure ?_)
  try dsimp only
  refine wpAny_bind (wpAny_pure ?_)
  try dsimp only
  refine wpAny_bind (wpAny_tryCatch ?_)
  refine wpAny_holding ?_
  refine wpAny_bind ((PySem.strKind prog w).pyHash hkey ?_)
  refine wpAny_bind (wpAny_setFind_of (s := { s with toks := s.toks + 1 }) hkey rfl hS fun r hr => ?_)
  refine wpAny_pure ?_
  show wpAny _ _ (ret (Value.bool r.isSome)) _ _ _
  rw [hr]
  exact wpAny_pure h

theorem call_bound {a b : Addr} {x : PySem.Str} {t : Tok} {S : PySem.Str → Bool} {n : Nat} {Q : Value → Shared → Prop} (hb : s.heap.get? b = some (boundIn a)) (hS : s.heap.SetOf (PySem.strKind prog w) a S n)
    (h : Q (.bool (S x)) { s with toks := s.toks + 1 }) : wpAny (model prog w) A (call (.ref b) [.str x t]) Q E s := by
  refine wpAny_call (codeAny_of_tree ?_)
  show wpAny _ A.in1 (callAny (.ref b) ⟨[.str x t], []⟩) _ _ s
  simp only [callAny]
  refine wpAny_bind (wpAny_load hb ?_)
  simp only [show (Value.type "builtin_function_or_method" == Value.type "method" || Value.type "builtin_function_or_method" == Value.type "builtin_function_or_method" || Value.type "builtin_function_or_method" == Value.type "method-wrapper") = true by decide, if_true]
  refine KFB.if_so (by decide) ?_
  have hS' := hS
  obtain ⟨o, es, ep, tb, ho, hx, hd, -⟩ := hS
  obtain ⟨c, dct, dat, sl⟩ := o
  obtain ⟨h1, h2, h3⟩ := hx
  simp only at h1 h2 h3 hd
  subst h1 h2 h3 hd
  refine wpAny_bind (check_contains ho ?_)
  refine wpAny_bind (wpAny_pure (wpAny_pure ?_))
  exact ⟨quiet_contains, codeAny_builtin entry_set_contains (run_contains hS' h)⟩
end
end
section
open PySem PySem.W PySem.Calls PySem.Spec PyProof.Rows
set_option maxRecDepth 100000
set_option maxHeartbeats 8000000
set_option linter.unusedVariables false
section
variable {prog : Program} {w : World} {A : Around} {R : Result → Shared → Prop} {I : Addr} {fp wr : List Addr} {G : Array GenState → Array GenState → Prop} {n : Nat} {P : Nat → Value → Prop} {St : Nat → Shared → Prop}

/-- the set's filling from a list of texts -/
theorem strs_loop (W : WalksS prog w A.in1 I fp wr G n P St) (D : Addr) (hDf : D ∉ fp) (xs : List PySem.Str) (hval : ∀ i v, P i v → ∃ x t, xs[i]? = some x ∧ v = Value.str x t) (hb : n + 1 < scanBound) :
    ∀ (k i : Nat) (s : Shared), n - i = k → i ≤ n → St i s → (∃ c, c ≤ i ∧ s.heap.SetOf (PySem.strKind prog w) D (fun x => (xs.take i).any (· == x)) c) →
      (∀ s', Moved (D :: wr) G s s' → (∃ c, c ≤ n ∧ s'.heap.SetOf (PySem.strKind prog w) D (fun x => (xs.take n).any (· == x)) c) → R (.ok (.ret .none)) s') →
      codeAny (model prog w) A (.builtin "set.update.loop" ⟨[.ref D, .ref I], []⟩) R s := by
  have hDw : D ∉ wr := fun h => hDf (W.sub _ h)
  have hsub : ∀ b ∈ wr, b ∈ D :: wr := fun b hb => List.mem_cons_of_mem _ hb
  have keepS : ∀ {s s' : Shared} {S : PySem.Str → Bool} {c : Nat}, Moved wr G s s' → s.heap.SetOf (PySem.strKind prog w) D S c → s'.heap.SetOf (PySem.strKind prog w) D S c :=
    fun hm ⟨o, es, ep, tb, ho, r⟩ => ⟨o, es, ep, tb, hm.heap D _ hDw ho, r⟩
  intro k
  induction k with
  | zero =>
    intro i s hk hi hst ⟨c, hc, hS⟩ hR
    obtain rfl : i = n := by omega
    refine codeAny_builtin F.entry_set_update_loop ?_
    rw [Around.under_plainId F.plain_set_update_loop _]
    show wpAny _ A.in1 (pyNext (.ref I) >>= _) _ _ s
    refine wpAny_bind (W.done s _ _ hst fun s' hm => ?_)
    show wpAny _ A.in1 (ret Value.none) _ _ s'
    exact wpAny_pure (hR s' (hm.mono hsub) ⟨c, hc, keepS hm hS⟩)
  | succ k ih =>
    intro i s hk hi hst ⟨c, hc, hS⟩ hR
    refine codeAny_builtin F.entry_set_update_loop ?_
    rw [Around.under_plainId F.plain_set_update_loop _]
    show wpAny _ A.in1 (pyNext (.ref I) >>= _) _ _ s
    refine wpAny_bind (W.item i s _ _ (by omega) hst fun v s' hP hst' hm => ?_)
    obtain ⟨x, t, hx, rfl⟩ := hval i v hP
    show wpAny _ A.in1 (holding [Value.str x t] (setAdd D (.str x t)) >>= _) _ _ s'
    refine wpAny_bind (wpAny_holding ?_)
    unfold setAdd
    have hS1 := keepS hm hS
    refine wpAny_holding (wpAny_bind ((PySem.strKind prog w).pyHash (k := x) (strKind_is prog w x t) ?_))
    refine wpAny_setAddHashed_of (knd := PySem.strKind prog w) (s := { s' with toks := s'.toks + 1 }) (strKind_is prog w x t) rfl hS1 (by omega) fun h' hsb hS2 => ?_
    have e : (fun k' => (xs.take i).any (· == k') || decide (k' = x)) = fun k' => (xs.take (i + 1)).any (· == k') := by
      funext k'
      rw [List.take_add_one, hx, List.any_append]
      congr 1
      by_cases q : k' = x
      · subst q; simp
      · have : (x == k') = false := beq_eq_false_iff_ne.mpr (Ne.symm q)
        simp [q, this]
    rw [e] at hS2
    refine wpAny_pure ⟨plainId_quiet F.plain_set_update_loop _, ih (i + 1) _ (by omega) (by omega) (W.frame _ s' _ _ hst' (Nat.le_succ _) fun b hb o e => ?_) ⟨_, ?_, hS2⟩ fun s'' hm'' hS'' => ?_⟩
    · rw [hsb.2 b (fun h : b = D => hDf (by rw [← h]; exact hb))]; exact e
    · split <;> omega
    · refine hR s'' (Moved.trans W.gtrans ((hm.mono hsub).then_heap (Nat.le_succ _) fun b o hb e => ?_) hm'') hS''
      rw [hsb.2 b (fun h : b = D => hb (by rw [h]; exact List.mem_cons_self))]; exact e
end

section
variable {prog : Program} {w : World} {A : Around} {E : Value → Shared → Prop} {s : Shared}
theorem call_set_strs {l : Addr} {items : Array Value} {xs : List PySem.Str} {Q : Value → Shared → Prop} (hh : A.handled = none) (hl : s.heap.IsList l items) (hi : StrsAre items.toList xs) (hb : items.size + 1 < scanBound)
    (h : ∀ (h' : Heap) (tk : Nat), (∃ c, c ≤ items.size ∧ h'.SetOf (PySem.strKind prog w) s.heap.objs.size (fun x => (xs.take items.size).any (· == x)) c) →
      (∀ b o, s.heap.get? b = some o → h'.get? b = some o) → Q (.ref s.heap.objs.size) { s with heap := h', toks := tk }) :
    wpAny (model prog w) A (call (.type "set") [.ref l]) Q E s := by
  obtain ⟨c₁, tl, hmro⟩ := F.called_set.mro
  have hmade := F.called_set.made
  have hsub := F.called_set.sub
  have h1 := F.called_set.notType
  have h2 := F.called_set.canCreate
  have hct := F.typeCall_set_1 (.ref l)
  obtain ⟨⟨c, dct, dt, sl⟩, hol, hc, nl, hd⟩ := hl
  simp only at hc hd
  subst hc hd
  refine wpAny_call (codeAny_of_tree ?_)
  show wpAny _ _ (callAny (.type "set") _) _ _ _
  refine wpAny_pure ⟨Code.quiet_builtin _ (by decide +kernel), codeAny_builtin F.entry_type_call ?_⟩
  rw [Around.under_plain (weight_type_call_type "set" [.ref l] []) rfl]
  repeat (any_goals (first | assumption | wp_step))
  refine codeAny_mono (code_set_new_1 (.ref l) (E := E) (Q₁ := fun obj s₁ => ∃ led : Bool, obj = .ref s.heap.objs.size ∧ s₁ = { s with heap := s.heap.push { cls := .type "set", dict := none, data := .set #[] 0 (.fresh 0 0 led) } }) fun led => ⟨led, rfl, rfl⟩) fun r s₁ hr => ?_
  rcases r with e | (_ | _ | _ | obj)
  · exact hr
  · exact hr.elim
  · exact hr.elim
  · exact hr.elim
  obtain ⟨led, rfl, rfl⟩ := hr
  have hS : (s.heap.push { cls := .type "set", dict := none, data := .set #[] 0 (.fresh 0 0 led) }).get? s.heap.objs.size = some { cls := .type "set", dict := none, data := .set #[] 0 (.fresh 0 0 led) } := Heap.get?_push_size _ rfl
  generalize hH : s.heap.push { cls := .type "set", dict := none, data := .set #[] 0 (.fresh 0 0 led) } = H at hS ⊢
  have hHs : H.objs.size = s.heap.objs.size + 1 := by rw [← hH, Heap.size_push]
  have hHk : ∀ b o, s.heap.get? b = some o → H.get? b = some o := fun b o e => hH ▸ Heap.get?_push_of_some _ e
  have hT : Shared.TypeIs { s with heap := H } (.ref s.heap.objs.size) "set" := ⟨_, hS, rfl⟩
  have hli := F.called_set.init.lookup
  have hbi := F.called_set.init.bind (.ref s.heap.objs.size)
  repeat (any_goals (first | assumption | wp_step))
  refine codeAny_mono (codeAny_call_builtin (R := wants (fun r s₂ => r = .none ∧ ∃ h' tk, s₂ = { s with heap := h', toks := tk } ∧ (∃ c, c ≤ items.size ∧ h'.SetOf (PySem.strKind prog w) s.heap.objs.size (fun x => (xs.take items.size).any (· == x)) c) ∧
      (∀ b o, s.heap.get? b = some o → h'.get? b = some o)) E) F.called_set.init.plain F.entry_set_init (check_set_init_1 hT ?_)) fun r₂ s₂ hr₂ => ?_
  · have hlS : l < s.heap.objs.size := Heap.lt_size hol
    have hol' := hHk _ _ hol
    have hl1 : H.IsList l items := ⟨_, hol', rfl, nl, rfl⟩
    have hsls := F.sub_list_set
    have hslf := F.sub_list_frozenset
    have hne : (Value.type "list" == Value.type "dict") = false := by decide
    unfold Builtin.«set.__init__» noKeywords Builtin.Frozenset.updateFrom
    generalize hPI : pyIter = PI
    wp_walk
    subst hPI
    refine wpAny_pyIter_list hl1 ?_
    refine wpAny_bind (wpAny_runValue ?_)
    have hneI : l ≠ H.objs.size := by rw [hHs]; exact Nat.ne_of_lt (Nat.lt_succ_of_lt hlS)
    refine strs_loop ((Walks.list (show A.in1.in1.in1.handled = none from hh) _ l hneI items).toS) s.heap.objs.size ?_ xs (fun i v hv => ?_) hb (items.size - 0) 0 _ (by omega) (Nat.zero_le _)
      ⟨⟨_, Heap.get?_push_size _ rfl, rfl, rfl⟩, (hl1.push _)⟩ ⟨0, Nat.le_refl _, ?_⟩ ?_
    · rw [hHs]
      simp only [List.mem_cons, List.not_mem_nil, or_false, not_or]
      exact ⟨Nat.ne_of_lt (Nat.lt_succ_self _), Nat.ne_of_gt hlS⟩
    · obtain ⟨x, t, e, hx⟩ := hi.item i v (by rw [Array.getElem?_toList]; exact hv)
      exact ⟨x, t, hx, e⟩
    · exact (PyProof.Rows.setObjOf_fresh (knd := PySem.strKind prog w) led).setOf (Heap.get?_push_of_some _ hS) (by unfold scanBound; omega)
    · rintro ⟨h', g', d', tk', os'⟩ hm hS'
      have eg : g' = s.gens := hm.gens
      have ed : d' = s.drawn := hm.drawn
      have eo : os' = s.os := hm.os
      subst eg; subst ed; subst eo
      show wpAny _ _ _ _ _ _
      refine wpAny_pure ?_
      show wpAny _ _ (ret Value.none) _ _ _
      refine wpAny_pure ⟨rfl, h', tk', rfl, hS', fun b o e => ?_⟩
      have hb := Heap.lt_size e
      refine hm.heap b o ?_ (Heap.get?_push_of_some _ (hHk b o e))
      rw [hHs]
      simp only [List.mem_cons, List.not_mem_nil, or_false, not_or]
      exact ⟨Nat.ne_of_lt hb, Nat.ne_of_lt (Nat.lt_succ_of_lt hb)⟩
  · rcases r₂ with e | (_ | _ | _ | r)
    · exact hr₂
    · exact hr₂.elim
    · exact hr₂.elim
    · exact hr₂.elim
    obtain ⟨rfl, h', tk, rfl, hS', hk'⟩ := hr₂
    repeat (any_goals (first | assumption | wp_step))
    exact h _ _ hS' hk'
end
end
section
open PySem PySem.W PySem.Calls PySem.Spec PyProof.Rows
set_option maxRecDepth 100000
set_option maxHeartbeats 8000000
set_option linter.unusedVariables false
section
variable {prog : Program} {w : World} {A : Around} {E : Value → Shared → Prop} {s : Shared} {h₀ : Heap} {L : Addr} {m : PySem.Str → Option Value} {news : List (Addr × Obj)}
theorem newSetStrs_N {l : Addr} {vs : List Value} {xs : List PySem.Str} {Q : Value → Shared → Prop} (hh : A.handled = none) (F : Fr h₀ L s.heap m) (N : News h₀ L s.heap news) (hl : s.heap.IsList l vs.toArray) (hi : StrsAre vs xs) (hb : vs.length ≤ 1000)
    (h : ∀ D o c h' tk, Fr h₀ L h' m → News h₀ L h' ((D, o) :: news) → (∀ p ∈ news, p.1 < D) → c ≤ 1000 → o.SetObjOf (PySem.strKind prog w) (fun x => xs.any (· == x)) c → Q (.ref D) { s with heap := h', toks := tk }) :
    wpAny (model prog w) A (call (.type "set") [.ref l]) Q E s := by
  refine call_set_strs (xs := xs) hh hl (by simpa using hi) (by rw [List.size_toArray]; unfold scanBound; omega) fun h' tk ⟨c, hc, hS⟩ hk => ?_
  have hsz : vs.toArray.size = vs.length := List.size_toArray
  rw [hsz] at hS hc
  rw [hi.len_eq, List.take_length] at hS
  obtain ⟨o, ho, hso⟩ := hS.objOf
  exact h _ o c h' tk (F.keeps hk) (news_pushed F N hk ho rfl) (fun p hp => Heap.lt_size (N p hp).1) (by omega) hso
theorem attrIn_N {a : Addr} {so : Obj} {S : PySem.Str → Bool} {c : Nat} {Q : Value → Shared → Prop} (F : Fr h₀ L s.heap m) (N : News h₀ L s.heap news) (hs : (a, so) ∈ news) (hso : so.SetObjOf (PySem.strKind prog w) S c) (hc : c ≤ 1000)
    (h : ∀ D h' tk, Fr h₀ L h' m → News h₀ L h' ((D, boundIn a) :: news) → (∀ p ∈ news, p.1 < D) → Q (.ref D) { s with heap := h', toks := tk }) :
    wpAny (model prog w) A (getAttr (.ref a) (Str.ofString "__contains__") true) Q E s := by
  obtain ⟨o, es, ep, t, ho, hx, hd, -⟩ := hso.setOf (N _ hs).1 (by unfold scanBound; omega)
  exact attr_in ho hx hd fun tk => h _ _ tk (F.push _) (News.push F N _) fun p hp => Heap.lt_size (N p hp).1
end
end
section
open PySem PySem.W PySem.Calls PySem.Spec PyProof.Rows
set_option maxRecDepth 100000
set_option maxHeartbeats 8000000
set_option linter.unusedVariables false
theorem slot_fnext : Slot "filter" "__next__" "filter.__next__" :=
  .of (owner := "filter") (n := "__next__") (by rw [typeLookup_type, builtinLookup_eq_fast]; kernel_rfl) (by decide +kernel) (by decide +kernel) (by decide +kernel)
    (by first | exact .inl (by decide +kernel) | exact .inr (by decide +kernel)) (by rw [isSubtype_type]; kernel_rfl)
theorem slot_finit : Slot "filter" "__init__" "object.__init__" :=
  .of (owner := "object") (n := "__init__") (by rw [typeLookup_type, builtinLookup_eq_fast]; kernel_rfl) (by decide +kernel) (by decide +kernel) (by decide +kernel)
    (by first | exact .inl (by decide +kernel) | exact .inr (by decide +kernel)) (by rw [isSubtype_type]; kernel_rfl)
theorem slot_fiter : Slot "filter" "__iter__" "filter.__iter__" :=
  .of (owner := "filter") (n := "__iter__") (by rw [typeLookup_type, builtinLookup_eq_fast]; kernel_rfl) (by decide +kernel) (by decide +kernel) (by decide +kernel)
    (by first | exact .inl (by decide +kernel) | exact .inr (by decide +kernel)) (by rw [isSubtype_type]; kernel_rfl)
theorem entry_fnext : entryFor table "filter.__next__" = some Builtin.«filter.__next__» := entryFor_of_tree (by kernel_rfl)
theorem entry_fnew : entryFor table "filter.__new__" = some Builtin.«filter.__new__» := entryFor_of_tree (by kernel_rfl)
theorem entry_fiter : entryFor table "filter.__iter__" = some Builtin.«dict_keyiterator.__iter__» :=
  entryFor_alias (id' := "dict_keyiterator.__iter__") (by kernel_rfl) (by first | rfl | decide +kernel | (unfold String.splitOn; simp +decide [String.splitOnAux])) (by decide +kernel) (by kernel_rfl)
theorem mro_f : mroOf (.type "filter") = pure [.type "filter", .type "object"] := by rw [mroOf_type]; kernel_rfl
theorem lookup_fnew : typeLookup (.type "filter") "__new__" = pure (some (.builtin "filter.__new__")) := by rw [typeLookup_type, builtinLookup_eq_fast]; kernel_rfl
theorem called_filter : TypeCalled "filter" "filter.__new__" "object.__init__" :=
  ⟨by decide +kernel, by decide +kernel, ⟨_, _, mro_f⟩, madeBy_type mro_f lookup_fnew (by decide +kernel), by decide +kernel, by rw [isSubtype_type]; kernel_rfl, slot_finit⟩
theorem typeCall_f (a b : Value) : checkTypeCall "filter" ⟨[a, b], []⟩ = pure () := by kernel_rfl
theorem newCall_f (a b : Value) : checkBuiltinCall "filter.__new__" ⟨[.type "filter", a, b], []⟩ = pure () := by kernel_rfl
theorem sub_f : isSubtype (.type "filter") (.type "filter") = pure true := by rw [isSubtype_type]; kernel_rfl
theorem owner_f : Manifest.owners.lookup (String.ofList ['r','e','t','l','i','f'].reverse) = some Manifest.sig_filter := by kernel_rfl
theorem args_fnext (a : Value) : argsOk "filter.__next__" ⟨[a], []⟩ := by first | (unfold argsOk; kernel_rfl) | rfl
theorem args_fiter (a : Value) : argsOk "filter.__iter__" ⟨[a], []⟩ := by first | (unfold argsOk; kernel_rfl) | rfl
theorem plain_fnext : plainId "filter.__next__" = true := by decide +kernel
theorem f_no_len : typeLookup (.type "filter") "__len__" = pure none := by rw [typeLookup_type, builtinLookup_eq_fast]; kernel_rfl
theorem f_no_hint : typeLookup (.type "filter") "__length_hint__" = pure none := by rw [typeLookup_type, builtinLookup_eq_fast]; kernel_rfl

abbrev filterO (b it : Addr) : Obj := { cls := .type "filter", data := .fields #[.ref b, .ref it] }
end
section
open PySem PySem.W PySem.Calls PySem.Spec PyProof.Rows
set_option maxRecDepth 100000
set_option maxHeartbeats 8000000
set_option linter.unusedVariables false
section
variable {prog : Program} {w : World} {A : Around} {E : Value → Shared → Prop} {s : Shared}

theorem special_item {it l : Addr} {i : Nat} {items : Array Value} {x : Value} {Q : Option Value → Shared → Prop} (hit : s.heap.IsListIter it l i) (hl : s.heap.IsList l items) (hx : items[i]? = some x)
    (hQ : ∀ h', h'.IsListIter it l (i + 1) → Heap.SameBut it s.heap h' → Q (some x) { s with heap := h' }) : wpAny (model prog w) A (callSpecial? (.ref it) (Str.ofString "__next__")) Q E s := by
  obtain ⟨o, ho, hc, hd⟩ := id hit
  obtain ⟨ol, hol, _, nl, hdl⟩ := hl
  refine wpAny_callSpecial?_slot (name := Str.ofString "__next__") hit.typeIs slot_listiter_next (wpAny_call_entry slot_listiter_next hit.typeIs entry_listiter_next ?_ (args_listiter_next _))
  show wpAny _ _ (field (.ref it) 0 >>= _) _ _ s
  refine wpAny_bind (wpAny_field ho hd (x := .ref l) rfl ?_)
  refine KFB.if_not (c := (Value.ref l == Value.none)) rfl ?_
  refine wpAny_bind (wpAny_field ho hd (x := .int i 0) rfl (wpAny_bind (wpAny_seqItems hol hdl ?_)))
  simp only [Int.toNat_natCast, hx]
  refine wpAny_bind (wpAny_setField ho hd (by simp) (wpAny_pure ⟨x, rfl, hQ _ ?_ (Heap.SameBut.update ..)⟩))
  exact ⟨_, Heap.get?_update_self _ ho (Obj.isFreed_of_fields (Obj.data_mapFields hd _)), (Obj.cls_mapFields ..).trans hc, by rw [Obj.data_mapFields hd]; simp [rawInt]⟩

theorem special_end {it l : Addr} {i : Nat} {items : Array Value} {Q : Option Value → Shared → Prop} (hh : A.handled = none) (hit : s.heap.IsListIter it l i) (hl : s.heap.IsList l items) (hx : items[i]? = none)
    (hE : ∀ h' e, Heap.ExtBut it s.heap h' → (∃ o, h'.get? e = some o ∧ o.cls = .type "StopIteration") → E (.ref e) { s with heap := h' }) :
    wpAny (model prog w) A (callSpecial? (.ref it) (Str.ofString "__next__")) Q E s := by
  obtain ⟨o, ho, hc, hd⟩ := id hit
  obtain ⟨ol, hol, _, nl, hdl⟩ := hl
  refine wpAny_callSpecial?_slot (name := Str.ofString "__next__") hit.typeIs slot_listiter_next (wpAny_call_entry slot_listiter_next hit.typeIs entry_listiter_next ?_ (args_listiter_next _))
  show wpAny _ _ (field (.ref it) 0 >>= _) _ _ s
  refine wpAny_bind (wpAny_field ho hd (x := .ref l) rfl ?_)
  refine KFB.if_not (c := (Value.ref l == Value.none)) rfl ?_
  refine wpAny_bind (wpAny_field ho hd (x := .int i 0) rfl (wpAny_bind (wpAny_seqItems hol hdl ?_)))
  simp only [Int.toNat_natCast, hx]
  refine wpAny_bind (wpAny_rule (wpAny_bind (wpAny_setField ho hd (by simp) (wpAny_bind ?_))))
  simp only [newExc, newTuple]
  refine wpAny_bind (wpAny_newObj_type (wpAny_bind (m := firstArgMember _ _) (wpAny_of_eq (a := Value.none) rfl (wpAny_newObj_type ?_ (by size_fits)))) (by size_fits))
  simp only [raiseNew]
  refine wpAny_bind (wpAny_handled ?_)
  rw [show A.in1.handled = none from hh]
  exact wpAny_bind (wpAny_pure (wpAny_throw (hE _ _ (((Heap.SameBut.update ..).extBut.push _).push _) ⟨_, Heap.get?_push_size _ rfl, rfl⟩)))

/-- what passes -/
noncomputable def passes (S : PySem.Str → Bool) (v : Value) : Bool := match v with | .str x _ => S x | _ => false

/-- what a filter over a list stands on -/
structure FOn (prog : Program) (w : World) (h : Heap) (f b it l a : Addr) (items : Array Value) (S : PySem.Str → Bool) (n j : Nat) : Prop where
  fil : h.get? f = some (filterO b it)
  bnd : h.get? b = some (boundIn a)
  set : h.SetOf (PySem.strKind prog w) a S n
  iter : h.IsListIter it l j
  list : h.IsList l items

theorem FOn.step {prog : Program} {w : World} {h h' : Heap} {f b it l a : Addr} {items : Array Value} {S : PySem.Str → Bool} {n j j' : Nat} (X : FOn prog w h f b it l a items S n j) (hi : h'.IsListIter it l j')
    (hk : ∀ c o, c ≠ it → h.get? c = some o → h'.get? c = some o) (hf : f ≠ it) (hb : b ≠ it) (ha : a ≠ it) (hl : l ≠ it) : FOn prog w h' f b it l a items S n j' :=
  ⟨hk _ _ hf X.fil, hk _ _ hb X.bnd, (let ⟨o, es, ep, t, ho, r⟩ := X.set; ⟨o, es, ep, t, hk _ _ ha ho, r⟩), hi, X.list.at fun o e => hk _ _ hl e⟩

theorem filter_loop {f b it l a : Addr} {items : Array Value} {S : PySem.Str → Bool} {n : Nat} {R : Result → Shared → Prop} (hh : A.handled = none) (hf : f ≠ it) (hb : b ≠ it) (ha : a ≠ it) (hl : l ≠ it) (hstr : ∀ v ∈ items.toList, ∃ x t, v = Value.str x t) :
    ∀ (rest : List Value) (j : Nat) (s : Shared), items.toList.drop j = rest → FOn prog w s.heap f b it l a items S n j →
      (match rest.filter (passes S) with
        | [] => ∀ h' tk e, (∀ c o, c ≠ it → s.heap.get? c = some o → h'.get? c = some o) → (∃ o, h'.get? e = some o ∧ o.cls = .type "StopIteration") → R (.error (.ref e)) { s with heap := h', toks := tk }
        | v :: tl => ∀ h' tk j', (items.toList.drop j').filter (passes S) = tl → h'.IsListIter it l j' → (∀ c o, c ≠ it → s.heap.get? c = some o → h'.get? c = some o) → R (.ok (.ret v)) { s with heap := h', toks := tk }) →
      wpAny (model prog w) A.in1 (Builtin.«filter.__next__» ⟨[.ref f], []⟩) (fun fin s' => match fin with | .done g => R (.ok g) s' | .again c' => c'.quiet = true ∧ codeAny (model prog w) A c' R s') (fun e s' => R (.error e) s') s := by
  intro rest
  induction rest with
  | nil =>
    intro j s hd X hR
    have hx : items[j]? = none := by
      have := List.drop_eq_nil_iff.mp hd
      simpa using this
    show wpAny _ _ (field (.ref f) 0 >>= _) _ _ s
    refine wpAny_bind (wpAny_field X.fil rfl (x := .ref b) rfl (wpAny_bind (wpAny_field X.fil rfl (x := .ref it) rfl ?_)))
    refine wpAny_bind (special_end (A := A.in1) hh X.iter X.list hx fun h' e hk he => ?_)
    exact hR h' _ e hk he
  | cons v rest ih =>
    intro j s hd X hR
    have hlt : j < items.toList.length := by
      rcases Nat.lt_or_ge j items.toList.length with h | h
      · exact h
      · rw [List.drop_eq_nil_iff.mpr h] at hd; cases hd
    have hx : items[j]? = some v := by
      have := List.drop_eq_getElem_cons hlt
      rw [hd] at this
      injection this with h1 h2
      rw [h1]; simp
    have hd' : items.toList.drop (j + 1) = rest := by
      have := List.drop_eq_getElem_cons hlt
      rw [hd] at this
      injection this with h1 h2
      exact h2.symm
    obtain ⟨x, t, rfl⟩ := hstr v (List.mem_of_mem_drop (i := j) (by rw [hd]; exact List.mem_cons_self))
    show wpAny _ _ (field (.ref f) 0 >>= _) _ _ s
    refine wpAny_bind (wpAny_field X.fil rfl (x := .ref b) rfl (wpAny_bind (wpAny_field X.fil rfl (x := .ref it) rfl ?_)))
    refine wpAny_bind (special_item X.iter X.list hx fun h' hi hs => ?_)
    have X' := X.step hi hs.extBut hf hb ha hl
    dsimp only
    refine wpAny_bind (wpAny_holding ?_)
    refine KFB.if_not (by simp) ?_
    refine wpAny_bind (call_bound X'.bnd X'.set (wpAny_holding (wpAny_truthy_bool ?_)))
    rw [List.filter_cons] at hR
    cases hp : S x with
    | true =>
      rw [show passes S (Value.str x t) = true from hp] at hR
      exact wpAny_pure (hR h' _ (j + 1) (by rw [hd']) hi hs.extBut)
    | false =>
      rw [show passes S (Value.str x t) = false from hp] at hR
      refine wpAny_pure ⟨plainId_quiet plain_fnext _, codeAny_builtin entry_fnext ?_⟩
      rw [Around.under_plainId plain_fnext _]
      refine ih (j + 1) _ hd' (X'.step (h' := h') hi (fun c o _ e => e) hf hb ha hl) ?_
      simp only [Bool.false_eq_true, if_false] at hR
      revert hR
      cases rest.filter (passes S) with
      | nil => exact fun hR h'' tk e hk he => hR h'' tk e (fun c o hc e => hk c o hc (hs.extBut c o hc e)) he
      | cons v tl => exact fun hR h'' tk j' hj hi' hk => hR h'' tk j' hj hi' (fun c o hc e => hk c o hc (hs.extBut c o hc e))
end
end
section
open PySem PySem.W PySem.Calls PySem.Spec PyProof.Rows
set_option maxRecDepth 100000
set_option maxHeartbeats 8000000
set_option linter.unusedVariables false
abbrev FSt (prog : Program) (w : World) (f b it l a : Addr) (items : Array Value) (S : PySem.Str → Bool) (n : Nat) (i : Nat) (h : Heap) : Prop :=
  ∃ j, FOn prog w h f b it l a items S n j ∧ (items.toList.drop j).filter (passes S) = (items.toList.filter (passes S)).drop i
theorem fmem {α : Type} {c x : α} {r : List α} (h : c ∈ r) : c ∈ x :: r := .tail _ h

section
variable {prog : Program} {w : World} {A : Around} {E : Value → Shared → Prop} {s : Shared}
theorem pyIter_filter {f : Addr} {o : Obj} {Q : Value → Shared → Prop} (ho : s.heap.get? f = some o) (hc : o.cls = .type "filter") (h : Q (.ref f) s) : wpAny (model prog w) A (pyIter (.ref f)) Q E s := by
  have hT : s.TypeIs (.ref f) "filter" := ⟨o, ho, hc⟩
  refine wpAny_pyIter_slot hT slot_fiter (wpAny_call_entry slot_fiter hT entry_fiter ?_ (args_fiter _))
  show wpAny _ _ (ret (.ref f)) _ _ s
  exact wpAny_pure ⟨_, rfl, "filter", _, hT, slot_fnext.lookup, h⟩

theorem call_fnext {f b it l a : Addr} {items : Array Value} {S : PySem.Str → Bool} {n j : Nat} {Q : Value → Shared → Prop} (hh : A.handled = none) (hf : f ≠ it) (hb : b ≠ it) (ha : a ≠ it) (hl : l ≠ it) (hstr : ∀ v ∈ items.toList, ∃ x t, v = Value.str x t)
    (X : FOn prog w s.heap f b it l a items S n j)
    (hR : match (items.toList.drop j).filter (passes S) with
        | [] => ∀ h' tk e, (∀ c o, c ≠ it → s.heap.get? c = some o → h'.get? c = some o) → (∃ o, h'.get? e = some o ∧ o.cls = .type "StopIteration") → E (.ref e) { s with heap := h', toks := tk }
        | v :: tl => ∀ h' tk j', (items.toList.drop j').filter (passes S) = tl → h'.IsListIter it l j' → (∀ c o, c ≠ it → s.heap.get? c = some o → h'.get? c = some o) → Q v { s with heap := h', toks := tk }) :
    wpAny (model prog w) A (call (.builtin "filter.__next__") [.ref f]) Q E s := by
  have hT : s.TypeIs (.ref f) "filter" := ⟨_, X.fil, rfl⟩
  refine wpAny_call (codeAny_call_builtin (R := fun r s' => match r with | .ok (.ret v) => Q v s' | .ok _ => False | .error e => E e s') slot_fnext.plain entry_fnext (slot_fnext.check _ _ _ _ _ _ _ _ hT (args_fnext _) ?_))
  refine filter_loop (R := fun r s' => match r with | .ok (.ret v) => Q v s' | .ok _ => False | .error e => E e s') hh hf hb ha hl hstr _ j s rfl X ?_
  revert hR
  cases (items.toList.drop j).filter (passes S) with
  | nil => exact id
  | cons v tl => exact id
theorem Walks.filter {f b it l a : Addr} {items : Array Value} {S : PySem.Str → Bool} {n : Nat} (hh : A.handled = none) (hf : f ≠ it) (hb : b ≠ it) (ha : a ≠ it) (hl : l ≠ it) (hstr : ∀ v ∈ items.toList, ∃ x t, v = Value.str x t) :
    Walks prog w A f [f, b, a, l, it] [it] (items.toList.filter (passes S)).length (fun i v => (items.toList.filter (passes S))[i]? = some v) (FSt prog w f b it l a items S n) where
  sub := fun c hc => by rw [List.mem_singleton.mp hc]; simp
  frame := fun i h h' ⟨j, X, e⟩ hk => ⟨j, ⟨hk _ (.head _) _ X.fil, hk _ (.tail _ (.head _)) _ X.bnd, (let ⟨o, es, ep, t, ho, r⟩ := X.set; ⟨o, es, ep, t, hk _ (by simp) _ ho, r⟩), X.iter.at fun o e => hk _ (by simp) o e, X.list.at fun o e => hk _ (by simp) o e⟩, e⟩
  item := fun i s Q E hi ⟨j, X, e⟩ hQ => by
    have hT : s.TypeIs (.ref f) "filter" := ⟨_, X.fil, rfl⟩
    unfold pyNext
    refine wpAny_bind (wpAny_attempt (wpAny_callSpecial?_slot (name := Str.ofString "__next__") hT slot_fnext (call_fnext hh hf hb ha hl hstr X ?_)))
    rw [e, List.drop_eq_getElem_cons hi]
    intro h' tk j' hj hit hk
    refine wpAny_pure (hQ _ h' tk (by simp [hi]) ⟨j', X.step hit hk hf hb ha hl, hj⟩ fun c o hc e => hk c o (fun q => hc (by simp [q])) e)
  done := fun s Q E ⟨j, X, e⟩ hQ => by
    have hT : s.TypeIs (.ref f) "filter" := ⟨_, X.fil, rfl⟩
    unfold pyNext
    refine wpAny_bind (wpAny_attempt (wpAny_callSpecial?_slot (name := Str.ofString "__next__") hT slot_fnext (call_fnext hh hf hb ha hl hstr X ?_)))
    rw [e, List.drop_length]
    intro h' tk e hk he
    obtain ⟨o, ho, hc⟩ := he
    refine wpAny_bind (wpAny_isInstance (T := "StopIteration") (b := true) ⟨o, ho, hc⟩ isSubtype_stop ?_)
    exact wpAny_pure (hQ h' tk fun c o hc e => hk c o (fun q => hc (by simp [q])) e)
  self := fun i s Q E ⟨j, X, e⟩ hQ => pyIter_filter X.fil rfl hQ
end

section
variable {prog : Program} {w : World} {A : Around} {E : Value → Shared → Prop} {s : Shared} {R : Result → Shared → Prop}
variable {I : Addr} {fp wr : List Addr} {n : Nat} {P : Nat → Value → Prop} {St : Nat → Heap → Prop}

/-- list(filter) : the filling -/
theorem extend_filter (W : Walks prog w A.in1 I fp wr n P St) (hT : ∀ i (s : Shared), St i s.heap → s.TypeIs (.ref I) "filter") (D : Addr) (res : Value) (c₀ : Nat) (hst : St 0 s.heap) (hDf : D ∉ fp) (hI : I ∈ fp)
    (hD : s.heap.get? D = some { cls := .type "list", data := .seq #[] c₀ }) (hn : n ≤ sizeLine)
    (hR : ∀ h' tk acc' c', (∀ b o, b ≠ D → b ∉ wr → s.heap.get? b = some o → h'.get? b = some o) → h'.get? D = some { cls := .type "list", dict := none, data := .seq acc' c', slots := #[] } → ItemsOf P acc' n → R (.ok (.ret res)) { s with heap := h', toks := tk }) :
    wpAny (model prog w) A.in1 (Builtin.List.listExtendWith (.ref D) (.ref I) res)
      (fun fin s' => match fin with | .done f => R (.ok f) s' | .again c' => c'.quiet = true ∧ codeAny (model prog w) A c' R s') (fun e s' => R (.error e) s') s := by
  have hDI : D ≠ I := fun e => hDf (e ▸ hI)
  unfold Builtin.List.listExtendWith
  refine wpAny_bind (wpAny_typeOf (hT 0 _ hst) ?_)
  refine KFB.if_not (by simp [Builtin.List.listSameRef, hDI]) ?_
  refine wpAny_bind (W.self 0 _ _ _ hst ?_)
  refine wpAny_bind (wpAny_holding ?_)
  unfold Builtin.List.listLengthHint
  refine wpAny_bind (wpAny_specialOf (hT 0 _ hst) f_no_len ?_)
  show wpAny _ A.in1 (specialOf (Value.ref I) (Str.ofString "__length_hint__") >>= _) _ _ _
  refine wpAny_bind (wpAny_specialOf (hT 0 _ hst) f_no_hint (wpAny_pure ?_))
  refine KFB.if_so rfl ?_
  refine wpAny_bind (wpAny_rule (wpAny_bind ?_))
  show wpAny _ A.in1 (updateSeq D (·.push .none) >>= fun _ => updateSeq D (·.pop)) _ _ _
  refine wpAny_bind (wpAny_updateSeq hD rfl ?_)
  have h2 := Heap.get?_update_self (Obj.mapSeq (·.push Value.none)) hD rfl
  refine wpAny_updateSeq (hz := by seq_fits) h2 rfl ?_
  have h3 := Heap.get?_update_self (Obj.mapSeq (·.pop)) h2 rfl
  have oth : ∀ b o, b ≠ D → s.heap.get? b = some o → ((s.heap.update D (Obj.mapSeq (·.push Value.none))).update D (Obj.mapSeq (·.pop))).get? b = some o :=
    fun b o hb e => (Heap.get?_update_other _ _ (Ne.symm hb)).trans ((Heap.get?_update_other _ _ (Ne.symm hb)).trans e)
  refine wpAny_pure ⟨plainId_quiet PySem.F.plain_extend_loop _, codeAny_extend_loopS W.toS hn _ hDf _ n 0 _ _ _ rfl (Nat.zero_le _)
    (W.frame 0 s.heap _ hst fun b hb o e => oth b o (fun h => hDf (h ▸ hb)) e) h3 (ItemsOf.nil P) fun s' acc' c' hm hD' hacc => ?_⟩
  rw [Moved.eq_with hm]
  exact hR s'.heap s'.toks acc' c' (fun b o hb hw e => hm.heap b o (by simp [hb, hw]) (oth b o hb e)) hD' hacc

theorem init_filter (W : Walks prog w A.in1 I fp wr n P St) (hT : ∀ i (s : Shared), St i s.heap → s.TypeIs (.ref I) "filter") (D : Addr) (hst : St 0 s.heap) (hDf : D ∉ fp) (hI : I ∈ fp)
    (hD : s.heap.get? D = some { cls := .type "list", data := .seq #[] }) (hn : n ≤ sizeLine)
    (hR : ∀ h' tk acc' c', (∀ b o, b ≠ D → b ∉ wr → s.heap.get? b = some o → h'.get? b = some o) → h'.get? D = some { cls := .type "list", dict := none, data := .seq acc' c', slots := #[] } → ItemsOf P acc' n → R (.ok (.ret .none)) { s with heap := h', toks := tk }) :
    wpAny (model prog w) A.in1 (Builtin.«list.__init__» ⟨[.ref D, .ref I], []⟩)
      (fun fin s' => match fin with | .done f => R (.ok f) s' | .again c' => c'.quiet = true ∧ codeAny (model prog w) A c' R s') (fun e s' => R (.error e) s') s := by
  show wpAny _ A.in1 (Builtin.List.listItems (.ref D) >>= fun old => Builtin.List.listUpdate (.ref D) (fun _ => #[]) >>= fun _ => letGo old.toList.reverse >>= fun _ => Builtin.List.listExtendWith (.ref D) (.ref I) .none) _ _ s
  refine wpAny_bind ?_
  unfold Builtin.List.listItems
  refine wpAny_bind (wpAny_seqItems hD rfl (wpAny_pure ?_))
  show wpAny _ _ (updateSeq D (fun _ => #[]) >>= fun _ => letGo (#[] : Array Value).toList.reverse >>= fun _ => Builtin.List.listExtendWith (.ref D) (.ref I) .none) _ _ s
  refine wpAny_bind (wpAny_updateSeq hD rfl (wpAny_bind (wpAny_letGo ?_)))
  have h2 := Heap.get?_update_self (Obj.mapSeq (fun _ => (#[] : Array Value))) hD rfl
  have oth : ∀ b o, b ≠ D → s.heap.get? b = some o → (s.heap.update D (Obj.mapSeq (fun _ => (#[] : Array Value)))).get? b = some o :=
    fun b o hb e => (Heap.get?_update_other _ _ (Ne.symm hb)).trans e
  exact extend_filter W hT D .none _ (W.frame 0 s.heap _ hst fun b hb o e => oth b o (fun h => hDf (h ▸ hb)) e) hDf hI h2 hn fun h' tk acc' c' hk hD' hacc =>
    hR h' tk acc' c' (fun b o hb hw e => hk b o hb hw (oth b o hb e)) hD' hacc

theorem call_list_filter {Q : Value → Shared → Prop} (W : Walks prog w A.in1.in1 I fp wr n P St) (hT : ∀ i (s : Shared), St i s.heap → s.TypeIs (.ref I) "filter") (hst : St 0 s.heap) (hfp : ∀ b ∈ fp, b < s.heap.objs.size) (hI : I ∈ fp) (hn : n ≤ sizeLine)
    (hQ : ∀ h' tk acc' c', (∀ b o, b ∉ wr → s.heap.get? b = some o → h'.get? b = some o) → h'.get? s.heap.objs.size = some { cls := .type "list", dict := none, data := .seq acc' c', slots := #[] } → ItemsOf P acc' n → Q (.ref s.heap.objs.size) { s with heap := h', toks := tk }) :
    wpAny (model prog w) A (call (.type "list") [.ref I]) Q E s := by
  have hSf : s.heap.objs.size ∉ fp := fun hm => Nat.lt_irrefl _ (hfp _ hm)
  refine callType_codes (Q₁ := fun obj s₁ => obj = .ref s.heap.objs.size ∧ s₁ = { s with heap := s.heap.push { cls := .type "list", data := .seq #[] } }) PySem.F.called_list (PySem.F.typeCall_list_1 _) PySem.F.entry_list_init
    (code_list_new _ ⟨rfl, rfl⟩) fun obj s₁ h₁ => ?_
  obtain ⟨rfl, rfl⟩ := h₁
  have hS : (s.heap.push { cls := .type "list", data := .seq #[] }).get? s.heap.objs.size = some { cls := .type "list", data := .seq #[] } := Heap.get?_push_size _ rfl
  refine ⟨⟨_, hS, rfl⟩, PySem.F.args_list_init_2 _ _, init_filter W hT _ (W.frame 0 s.heap _ hst fun b _ o e => Heap.get?_push_of_some _ e) hSf hI hS hn fun h' tk acc' c' hk hS' hacc => ?_⟩
  exact ⟨rfl, hQ h' tk acc' c' (fun b o hw e => hk b o (Nat.ne_of_lt (Heap.lt_size e)) hw (Heap.get?_push_of_some _ e)) hS' hacc⟩
end
end
section
open PySem PySem.W PySem.Calls PySem.Spec PyProof.Rows
set_option maxRecDepth 100000
set_option maxHeartbeats 8000000
set_option linter.unusedVariables false
abbrev iterO (l : Addr) : Obj := { cls := .type "list_iterator", data := .fields #[.ref l, .int 0 0] }
theorem meets_fnew (b l : Addr) (items : Array Value) (n : Nat) (dct : Option Addr) (sl : Array (Option Value)) :
    Meets (Builtin.«filter.__new__» ⟨[.type "filter", .ref b, .ref l], []⟩) (fun _ R s => s.heap.get? l = some { cls := .type "list", dict := dct, data := .seq items n, slots := sl } ∧
      R (.ok (.ret (.ref (s.heap.push (iterO l)).objs.size))) { s with heap := (s.heap.push (iterO l)).push (filterO b s.heap.objs.size) }) :=
  .of_wp fun prog w A R s h => by
    obtain ⟨hp, g, d, tk, os⟩ := s
    obtain ⟨hl, h⟩ := h
    have hsub := sub_f
    have hL : Heap.IsList (Shared.heap ⟨hp, g, d, tk, os⟩) l items := ⟨_, hl, rfl, n, rfl⟩
    repeat (any_goals (first | assumption | (refine wpAny_pyIter_list hL ?_) | wp_step))
    exact ⟨_, rfl, h⟩
section
variable {prog : Program} {w : World} {A : Around} {E : Value → Shared → Prop} {s : Shared} {h₀ : Heap} {L : Addr} {m : PySem.Str → Option Value} {news : List (Addr × Obj)}
theorem args_finit (a b c : Value) : argsOk "object.__init__" ⟨[a, b, c], []⟩ := PySem.F.args_object_init_3 a b c
theorem newFilter_N {b l : Addr} {items : Array Value} {Q : Value → Shared → Prop} (F : Fr h₀ L s.heap m) (N : News h₀ L s.heap news) (hl : s.heap.IsList l items)
    (h : ∀ it f h', Fr h₀ L h' m → News h₀ L h' ((f, filterO b it) :: (it, iterO l) :: news) → (∀ p ∈ news, p.1 < it) → (∀ p ∈ (it, iterO l) :: news, p.1 < f) → Q (.ref f) { s with heap := h' }) :
    wpAny (model prog w) A (call (.type "filter") [.ref b, .ref l]) Q E s := by
  obtain ⟨⟨c, dct, dt, sl⟩, hl, hc, n, hd⟩ := hl
  simp only at hc hd
  subst hc hd
  refine callType_new called_filter (by decide) (typeCall_f _ _) (newCall_f _ _) (fun obj => args_finit obj _ _) entry_fnew (meets_fnew b l items n dct sl) ⟨hl, ?_⟩
  have F1 := F.push (iterO l)
  have N1 := News.push F N (iterO l)
  refine ⟨⟨_, Heap.get?_push_size _ rfl, rfl⟩, h _ _ _ (F1.push _) (News.push F1 N1 _) (fun p hp => Heap.lt_size (N p hp).1) fun p hp => Heap.lt_size (N1 p hp).1⟩

theorem filtered_eq {vs : List Value} {acc : Array Value} (h : ItemsOf (fun i v => vs[i]? = some v) acc vs.length) : acc.toList = vs := by
  refine List.ext_getElem? fun j => ?_
  rw [Array.getElem?_toList]
  cases e : acc[j]? with
  | some v => exact (h.2 j v e).symm
  | none =>
    have : vs.length ≤ j := by rw [← h.1]; simpa using e
    exact (List.getElem?_eq_none this).symm

theorem listFilter_N {a b f it l : Addr} {so : Obj} {items : Array Value} {S : PySem.Str → Bool} {n : Nat} {rest : List (Addr × Obj)} {Q : Value → Shared → Prop} (hh : A.handled = none) (F : Fr h₀ L s.heap m) (N : News h₀ L s.heap news)
    (hf : (f, filterO b it) ∈ news) (hb : (b, boundIn a) ∈ news) (hs : (a, so) ∈ news) (hit : (it, iterO l) ∈ news) (hso : so.SetObjOf (PySem.strKind prog w) S n) (hn : n ≤ 1000) (hl : s.heap.IsList l items) (hstr : ∀ v ∈ items.toList, ∃ x t, v = Value.str x t) (hz : items.size ≤ 100000)
    (e1 : f ≠ it) (e2 : b ≠ it) (e3 : a ≠ it) (e4 : l ≠ it) (hrest : ∀ p ∈ rest, p ∈ news ∧ p.1 ≠ it)
    (h : ∀ D c h' tk, Fr h₀ L h' m → News h₀ L h' ((D, PySem.W.listOf (items.toList.filter (passes S)).toArray c) :: rest) → (∀ p ∈ news, p.1 < D) → Q (.ref D) { s with heap := h', toks := tk }) :
    wpAny (model prog w) A (call (.type "list") [.ref f]) Q E s := by
  have st : FSt prog w f b it l a items S n 0 s.heap := ⟨0, ⟨(N _ hf).1, (N _ hb).1, hso.setOf (N _ hs).1 (by unfold scanBound; omega), ⟨_, (N _ hit).1, rfl, rfl⟩, hl⟩, rfl⟩
  refine call_list_filter (Walks.filter (A := A.in1.in1) (show A.in1.in1.handled = none from hh) e1 e2 e3 e4 hstr) (fun i s hs => let ⟨j, X, _⟩ := hs; ⟨_, X.fil, rfl⟩) st ?_ (.head _) ?_ fun h' tk acc' c' hk hD hacc => ?_
  · intro c hc
    simp only [List.mem_cons, List.not_mem_nil, or_false] at hc
    rcases hc with rfl | rfl | rfl | rfl | rfl
    · exact Heap.lt_size (N _ hf).1
    · exact Heap.lt_size (N _ hb).1
    · exact Heap.lt_size (N _ hs).1
    · obtain ⟨o, ho, _⟩ := hl; exact Heap.lt_size ho
    · exact Heap.lt_size (N _ hit).1
  · have := List.length_filter_le (passes S) items.toList
    have e : items.toList.length = items.size := Array.length_toList
    rw [sizeLine_eq]; omega
  · have z := N _ hit
    have hk' : ∀ c o, c ≠ it → s.heap.get? c = some o → h'.get? c = some o := fun c o hc e => hk c o (by simpa using hc) e
    have F' : Fr h₀ L h' m := ⟨F.ns.at' fun o e => hk' _ o (Ne.symm z.2.1) e, fun c o e => hk' c o (fun q => by rw [q, z.2.2] at e; cases e) (F.keep c o e), F.above⟩
    have hacc' := filtered_eq hacc
    refine h _ c' h' tk F' (fun p hp => ?_) fun p hp => Heap.lt_size (N p hp).1
    rcases List.mem_cons.mp hp with e | hp
    · rw [e]
      refine ⟨?_, Nat.ne_of_gt F.ns.lt, none_at_size F⟩
      rw [hD, ← hacc', Array.toArray_toList]
    · exact ⟨hk' _ _ (hrest p hp).2 (N p (hrest p hp).1).1, (N p (hrest p hp).1).2⟩
theorem strs_filter {S : PySem.Str → Bool} : ∀ {vs : List Value} {xs : List PySem.Str}, StrsAre vs xs → StrsAre (vs.filter (passes S)) (xs.filter S)
  | _, _, .nil => .nil
  | _, _, .cons x t h => by
    rw [List.filter_cons, List.filter_cons]
    show StrsAre (if S x = true then _ else _) _
    split
    · exact .cons x t (strs_filter h)
    · exact strs_filter h
theorem strs_shape {vs : List Value} {xs : List PySem.Str} (h : StrsAre vs xs) : ∀ v ∈ vs, ∃ x t, v = Value.str x t := by
  induction h with
  | nil => exact fun v hv => (nomatch hv)
  | cons x t _ ih =>
    intro v hv
    rcases List.mem_cons.mp hv with e | hv
    · exact ⟨x, t, e⟩
    · exact ih v hv
theorem listFilter_T {a b f it l : Addr} {so : Obj} {vs : List Value} {xs : List PySem.Str} {nl : Nat} {S : PySem.Str → Bool} {n : Nat} {R : List (Addr × Obj)} {Q : Value → Shared → Prop} (hh : A.handled = none) (F : Fr h₀ L s.heap m)
    (N : News h₀ L s.heap ((f, filterO b it) :: (it, iterO l) :: R)) (hlt : ∀ p ∈ R, p.1 < it) (hlt2 : it < f) (hb : (b, boundIn a) ∈ R) (hs : (a, so) ∈ R) (hl : (l, PySem.W.listOf vs.toArray nl) ∈ R) (hso : so.SetObjOf (PySem.strKind prog w) S n) (hn : n ≤ 1000) (hi : StrsAre vs xs) (hz : vs.length ≤ 100)
    (h : ∀ D c h' tk (zs : List Value), Fr h₀ L h' m → News h₀ L h' ((D, PySem.W.listOf zs.toArray c) :: R) → (∀ p ∈ R, p.1 < D) → StrsAre zs (xs.filter S) → Q (.ref D) { s with heap := h', toks := tk }) :
    wpAny (model prog w) A (call (.type "list") [.ref f]) Q E s := by
  have hl' : (l, PySem.W.listOf vs.toArray nl) ∈ (f, filterO b it) :: (it, iterO l) :: R := .tail _ (.tail _ hl)
  refine listFilter_N (rest := R) (items := vs.toArray) hh F N (.head _) (.tail _ (.tail _ hb)) (.tail _ (.tail _ hs)) (.tail _ (.head _)) hso hn (N.isList hl') (by simpa using strs_shape hi) (by rw [List.size_toArray]; omega)
    (Nat.ne_of_gt hlt2) (Nat.ne_of_lt (hlt _ hb)) (Nat.ne_of_lt (hlt _ hs)) (Nat.ne_of_lt (hlt _ hl)) (fun p hp => ⟨.tail _ (.tail _ hp), Nat.ne_of_lt (hlt p hp)⟩) fun D c h' tk F' N' hD => ?_
  exact h D c h' tk (vs.filter (passes S)) F' (by simpa using N') (fun p hp => hD p (.tail _ (.tail _ hp))) (strs_filter hi)
end
end
section
open PySem PySem.W PySem.Calls PySem.Spec PyProof.Rows
set_option maxRecDepth 100000
set_option maxHeartbeats 8000000
set_option linter.unusedVariables false
/-- the contract of a def that knows the objects led, may change them, and leaves all else that stood before it -/
noncomputable def SpecG (w : World) (D U : Nat) (f : Addr) (args : List Value) (led : List (Addr × Obj)) (Pre : Heap → Prop) (Post : List (Addr × Obj) → Value → Prop) : Prop :=
  ∀ (loose : List PySem.Str) (mean : ExcName → Option Value) (mg mb : PySem.Str → Option Value) (env : Env) (outer : List Env) (A A₀ : Around) (base h₀ : Heap) (L : Addr) (m : PySem.Str → Option Value) (s : Shared) (Q E : Value → Shared → Prop),
    Below A₀ base outer h₀ → Fr h₀ L s.heap m → (hd.heap_39 w.params).In h₀ → Top hd.view_39 loose mean mg mb h₀ → A.handled = none → A.depth ≤ D → A.units ≤ U → A.frames = some (env :: outer) → env.frame = some L → env.scope.kind = .function →
    News h₀ L s.heap led → (∀ g : Heap, (∀ b ob, s.heap.get? b = some ob → b ∉ led.map (·.1) → g.get? b = some ob) → Pre g) →
    (∀ v led' h' tk, (∀ b ob, s.heap.get? b = some ob → b ∉ led.map (·.1) → h'.get? b = some ob) → (∀ p ∈ led', h'.get? p.1 = some p.2 ∧ (s.heap.get? p.1 = none ∨ p.1 ∈ led.map (·.1))) → Post led' v → Q v { s with heap := h', toks := tk }) →
    wpAny (model prog w) A (call (.ref f) args) Q E s

theorem SpecG.use {w : World} {D U : Nat} {f : Addr} {args : List Value} {led : List (Addr × Obj)} {Pre : Heap → Prop} {Post : List (Addr × Obj) → Value → Prop} (S : SpecG w D U f args led Pre Post)
    {loose : List PySem.Str} {mean : ExcName → Option Value} {mg mb : PySem.Str → Option Value} {env : Env} {outer : List Env} {A A₀ : Around} {base h₀ : Heap} {L : Addr} {m : PySem.Str → Option Value} {whole rest : List (Addr × Obj)} {s : Shared} {Q E : Value → Shared → Prop}
    (B : Below A₀ base outer h₀) (F : Fr h₀ L s.heap m) (X : (hd.heap_39 w.params).In h₀) (N : News h₀ L s.heap whole) (T : Top hd.view_39 loose mean mg mb h₀)
    (hh : A.handled = none) (hd : A.depth ≤ D) (hu : A.units ≤ U) (hA : A.frames = some (env :: outer)) (hf : env.frame = some L) (hk : env.scope.kind = .function)
    (hm : ∀ p ∈ led, p ∈ whole) (hs : ∀ p ∈ rest, p ∈ whole) (hne : ∀ p ∈ rest, p.1 ∉ led.map (·.1)) (pre : ∀ g : Heap, (∀ b ob, s.heap.get? b = some ob → b ∉ led.map (·.1) → g.get? b = some ob) → Pre g)
    (h : ∀ v led' h' tk, Fr h₀ L h' m → News h₀ L h' (led' ++ rest) → (∀ q ∈ rest, ∀ p ∈ led', q.1 ≠ p.1) → Post led' v → Q v { s with heap := h', toks := tk }) :
    wpAny (model prog w) A (call (.ref f) args) Q E s := by
  refine S _ _ _ _ _ _ A _ _ _ _ _ s Q E B F X T hh hd hu hA hf hk (fun p hp => N p (hm p hp)) pre fun v led' h' tk st hn hp => h v led' h' tk ?_ ?_ ?_ hp
  · obtain ⟨oL, es, ep, hL, r⟩ := F.ns
    refine ⟨⟨oL, es, ep, st _ _ hL fun q => ?_, r⟩, fun b ob e => st _ _ (F.keep b ob e) fun q => ?_, F.above⟩
    · obtain ⟨p, hp, e⟩ := List.mem_map.mp q
      exact (N p (hm p hp)).2.1 e
    · obtain ⟨p, hp, rfl⟩ := List.mem_map.mp q
      rw [(N p (hm p hp)).2.2] at e; cases e
  · intro p hp
    rcases List.mem_append.mp hp with q | q
    · obtain ⟨h1, h2⟩ := hn p q
      rcases h2 with h2 | h2
      · refine ⟨h1, fun e => ?_, ?_⟩
        · obtain ⟨oL, es, ep, hL, r⟩ := F.ns
          rw [e, hL] at h2; cases h2
        · cases e : h₀.get? p.1 with
          | none => rfl
          | some ob => have := F.keep _ _ e; rw [h2] at this; cases this
      · obtain ⟨p', hp', e⟩ := List.mem_map.mp h2
        have := N p' (hm p' hp')
        rw [e] at this
        exact ⟨h1, this.2.1, this.2.2⟩
    · exact ⟨st _ _ (N p (hs p q)).1 (hne p q), (N p (hs p q)).2⟩
  · intro q hq p hp e
    rcases (hn p hp).2 with h2 | h2
    · rw [← e, (N q (hs q hq)).1] at h2; cases h2
    · exact hne q hq (e ▸ h2)

theorem SpecG.of {w : World} {D U : Nat} {f : Addr} {args : List Value} {led : List (Addr × Obj)} {Pre : Heap → Prop} {Post : List (Addr × Obj) → Value → Prop}
    {name qual : PySem.Str} {params : Arguments} {body : List Stmt} {scope : Scope} {dV kV doc pm cdv ct oc : Value} {an od : Option Addr} {osl : Array (Option Value)} {binds : List (PySem.Str × Value)}
    (ho : (hd.heap_39 w.params).lookup f = some ⟨oc, od, .func (fnOf name qual params body scope dV kV doc pm an cdv ct), osl⟩) (hcd : codeIn (hd.heap_39 w.params) cdv qual = true) (hroom : D < recursionLimit)
    (hbind : ∀ s, BindsTo s (fnOf name qual params body scope dV kV doc pm an cdv ct) ⟨args, []⟩ binds) (hloc : ∀ y ∈ binds, scope.names.lookup y.1 = some .local)
    (hcell : ∀ x ∈ scope.names, x.2 ≠ .cell) (hco : scope.isCoroutine = false) (hgen : scope.isGenerator = false) (hk : scope.kind = .function)
    (h : ∀ (loose : List PySem.Str) (mean : ExcName → Option Value) (mg mb : PySem.Str → Option Value) (outer : List Env) (gd : Option (List Code)) (A : Around) (base g : Heap) (L' : Addr) (h₁ : Heap) (s : Shared) (Q : Value → Shared → Prop),
      Fr g L' h₁ (fun y => binds.reverse.lookup y) → News g L' h₁ led → Below A base outer g → (hd.heap_39 w.params).In g → Top hd.view_39 loose mean mg mb g → Pre g → (∀ p ∈ led, p.1 < L') →
      (∀ v led' h' tk m', Fr g L' h' m' → News g L' h' led' → Post led' v → Q v { s with heap := h', toks := tk }) →
      wpAny (model prog w) (Around.deeper { handled := none, depth := D, frames := some outer, guards := gd, units := U } (envOf qual scope L' f cdv)) (execs body (envOf qual scope L' f cdv))
        (fun fl s' => Back Q (ended fl) s') (fun _ _ => False) { s with heap := h₁, toks := s.toks + binds.length }) :
    SpecG w D U f args led Pre Post := by
  intro loose mean mg mb env outer A A₀ base h₀ L m s Q E B F X T hh hd' hu hA hf hke N pre ret
  refine around_mono (A' := { handled := none, depth := D, frames := some (env :: outer), guards := A.guards, units := U }) hh.symm hd' hA.symm rfl hu ?_
  refine wpAny_call ?_
  obtain ⟨FG, BG, st, -⟩ := groundX (A := { handled := none, depth := D, frames := some (env :: outer), guards := A.guards, units := U }) (R := fun _ _ => True) B F N rfl hf hke
  have hg : ∀ b ob, s.heap.get? b = some ob → b ∉ led.map (·.1) → (hideAll s.heap (led.map (·.1))).get? b = some ob := fun b ob e n => hideAll_get _ e n
  refine codeAny_call_def (fd := fnOf name qual params body scope dV kV doc pm an cdv ct) (body := body) (binds := binds) hroom ((X.keeps F.keep) _ _ ho) rfl (T.nolimit.keeps F.keep) (codeRec_of (X.keeps F.keep) hcd) rfl (hbind s) hcell hloc (fun h₁ hns hk₁ => ?_) hco hgen hk
  refine wpAny_mono (h loose mean mg mb (env :: outer) A.guards _ base (hideAll s.heap (led.map fun x : Addr × Obj => x.1)) s.heap.objs.size h₁ s (fun v s' => Q v s')
    ⟨hns, fun b ob e => hk₁ b ob (of_hideAll _ e), Nat.le_of_eq (hideAll_size _ _)⟩ (fun p hp => ?_) BG (X.keeps st) (T.keeps st) (pre _ hg) (fun p hp => Heap.lt_size (N p hp).1) fun v led' h' tk m' Fe Ne hp => ?_) (fun fl s' hl => hl) fun _ _ x => x.elim
  · have z := N p hp
    exact ⟨hk₁ _ _ z.1, Nat.ne_of_lt (Heap.lt_size z.1), hideAll_none _ (List.mem_map.mpr ⟨p, hp, rfl⟩)⟩
  · refine ret v led' h' tk (fun b ob e n => Fe.keep b ob (hg b ob e n)) (fun p hp => ⟨(Ne p hp).1, ?_⟩) hp
    have h1 := (Ne p hp).2.2
    by_cases q : p.1 ∈ led.map (·.1)
    · exact .inr q
    · refine .inl ?_
      cases e : s.heap.get? p.1 with
      | none => rfl
      | some ob => rw [hg _ _ e q] at h1; cases h1
end
section
open PySem PySem.W PySem.Calls PySem.Spec PyProof.Rows
set_option maxRecDepth 100000
set_option maxHeartbeats 8000000
set_option linter.unusedVariables false
local macro_rules | `(tactic| walk_at "idle") => `(tactic| skip)
local macro_rules | `(tactic| walk_at "idle") => `(tactic| skip)
theorem fresh_E12 : True := by
  w_top off
  trivial
abbrev recL (w : World) (x dx a b : Addr) (xs ys : List Value) (na nb : Nat) (t1 t2 t3 t4 : Tok) : List (Addr × Obj) :=
  [(x, instObj 95 dx), (dx, dictOf [⟨PyData.keyHash w.params (Str.ofString "useragents"), .str (Str.ofString "useragents") t1, .ref a⟩, ⟨PyData.keyHash w.params (Str.ofString "rulelines"), .str (Str.ofString "rulelines") t2, .ref b⟩,
      ⟨PyData.keyHash w.params (Str.ofString "delay"), .str (Str.ofString "delay") t3, .none⟩, ⟨PyData.keyHash w.params (Str.ofString "req_rate"), .str (Str.ofString "req_rate") t4, .none⟩] 4), (a, PySem.W.listOf xs.toArray na), (b, PySem.W.listOf ys.toArray nb)]
noncomputable def MergeNew (w : World) (led led' : List (Addr × Obj)) (v : Value) (as1 as2 : List PySem.Str) (ys : List Value) : Prop :=
  ∃ new zs, led' = new ++ led ∧ RecOf w (fun a o => (a, o) ∈ new) v zs ys ∧ StrsAre zs (as1.filter fun x => as2.any (· == x))

local macro_rules | `(tactic| walk_at "call type:set") => `(tactic| (k_here; refine stop_ ?_))
local macro_rules | `(tactic| walk_at "getAttr ref") => `(tactic| (k_here; (with_reducible show wpAny _ _ (getAttr (Value.ref _) (Str.ofString "__contains__") _) _ _ _); refine stop_ ?_))
local macro_rules | `(tactic| walk_at "binaryOp Add ref ref") => `(tactic| (k_here; refine stop_ ?_))
local macro_rules | `(tactic| walk_at "call type:filter") => `(tactic| (k_here; refine stop_ ?_))
local macro_rules | `(tactic| walk_at "call type:list") => `(tactic| (k_here; refine stop_ ?_))
theorem merge_spec {w : World} {x dx a b x2 dx2 a2 b2 : Addr} {xs ys xs2 ys2 : List Value} {na nb na2 nb2 : Nat} {t1 t2 t3 t4 u1 u2 u3 u4 : Tok} {as1 as2 : List PySem.Str} (h1 : StrsAre xs as1) (h2 : StrsAre xs2 as2) (hz1 : xs.length ≤ 100) (hz2 : xs2.length ≤ 100) (hz3 : ys.length ≤ 100) (hz4 : ys2.length ≤ 100) :
    SpecG w 450 450 106 [.ref x, .ref x2] (recL w x dx a b xs ys na nb t1 t2 t3 t4 ++ recL w x2 dx2 a2 b2 xs2 ys2 na2 nb2 u1 u2 u3 u4) (fun _ => True) (fun led' v => MergeNew w (recL w x dx a b xs ys na nb t1 t2 t3 t4 ++ recL w x2 dx2 a2 b2 xs2 ys2 na2 nb2 u1 u2 u3 u4) led' v as1 as2 (ys ++ ys2)) := by
  have _k : PySem.Challenge.rw_wn0042_01 = PySem.Challenge.rw_wn0042_01 ∧ hd.heap_39 = hd.heap_39 := ⟨rfl, rfl⟩
  revert _k
  k_fill
  intro _
  refine' SpecG.of (binds := [(Str.ofString "e1", .ref x), (Str.ofString "e2", .ref x2)]) ?a1 ?a2 ?a3 ?a4 ?a5 ?a6 ?a7 ?a8 ?a9 ?_
  case a1 => k_is
  case a2 => k_is
  case a3 => decide
  case a4 => exact fun _ => BindsTo.of_eq rfl
  case a5 => exact locs rfl
  case a6 => decide
  case a7 => rfl
  case a8 => rfl
  case a9 => rfl
  intro loose mean mg mb outer gd A base g L' h₁ s Q F N B X T pre hltL ret
  skip
  (try dsimp only)
  show wpAny _ _ _ _ _ _
  k_fold
  simp only [recL, List.cons_append, List.nil_append] at N hltL
  k_lt hltL
  show wpAny _ _ _ _ _ _
  k_steps
  unfold Stop
  rename Fr _ _ _ _ => F1
  rename News _ _ _ _ => N1
  refine' newSetStrs_N rfl F1 N1 (N1.isList (by k_mem)) h2 (by omega) ?_
  clear F1 N1
  intro D1 so c h' tk F' N' l1 hc hso
  k_lt l1
  k_steps
  unfold Stop
  rename Fr _ _ _ _ => F1
  rename News _ _ _ _ => N1
  refine' attrIn_N F1 N1 (by k_mem) hso hc ?_
  clear F1 N1
  intro D2 h' tk F' N' l1
  k_lt l1
  k_steps
  unfold Stop
  rename Fr _ _ _ _ => F1
  rename News _ _ _ _ => N1
  refine' newFilter_N F1 N1 (N1.isList (by k_mem)) ?_
  clear F1 N1
  intro D3 D4 h' F' N' l1 l2
  have l3 := l1
  have l4 := l2 _ (.head _)
  k_lt l1
  k_lt l2
  k_steps
  unfold Stop
  rename Fr _ _ _ _ => F1
  rename News _ _ _ _ => N1
  refine' listFilter_T rfl F1 N1 l3 l4 (by k_mem) (by k_mem) (by k_mem) hso hc h1 hz1 ?_
  clear F1 N1 l1 l2 l3 l4
  intro D5 c5 h' tk zs F' N' l1 hzs
  k_lt l1
  k_steps
  unfold Stop
  rename Fr _ _ _ _ => F1
  rename News _ _ _ _ => N1
  refine' kmk_add_lit (zs := ys ++ ys2) F1 N1 (N1.isList (by k_mem)) (N1.isList (by k_mem)) (by simp) ?_ ?z
  case z =>
    simp only [sizeLine_eq]
    first | omega | (simp; omega)
  clear F1 N1
  intro D6 h' F' N' l1
  k_lt l1
  k_steps
  refine' ret _ _ _ _ _ ?F ?N ?R
  case F => k_asm
  case N => k_asm
  case R =>
    refine' ⟨[_, _, _, _, _, _, _, _], zs, rfl, ?rr, hzs⟩
    case rr =>
      refine' RecOf.intro ?h1 ?h2 ?h3 ?h4
      case h1 => k_mem
      case h2 => k_mem
      case h3 => k_mem
      case h4 => k_mem

theorem merge_same {w : World} {x dx a b : Addr} {xs ys : List Value} {na nb : Nat} {t1 t2 t3 t4 : Tok} {as1 : List PySem.Str} (h1 : StrsAre xs as1) (hz1 : xs.length ≤ 100) (hz3 : ys.length ≤ 100) :
    SpecG w 450 450 106 [.ref x, .ref x] (recL w x dx a b xs ys na nb t1 t2 t3 t4) (fun _ => True) (fun led' v => MergeNew w (recL w x dx a b xs ys na nb t1 t2 t3 t4) led' v as1 as1 (ys ++ ys)) := by
  have _k : PySem.Challenge.rw_wn0042_01 = PySem.Challenge.rw_wn0042_01 ∧ hd.heap_39 = hd.heap_39 := ⟨rfl, rfl⟩
  revert _k
  k_fill
  intro _
  refine' SpecG.of (binds := [(Str.ofString "e1", .ref x), (Str.ofString "e2", .ref x)]) ?a1 ?a2 ?a3 ?a4 ?a5 ?a6 ?a7 ?a8 ?a9 ?_
  case a1 => k_is
  case a2 => k_is
  case a3 => decide
  case a4 => exact fun _ => BindsTo.of_eq rfl
  case a5 => exact locs rfl
  case a6 => decide
  case a7 => rfl
  case a8 => rfl
  case a9 => rfl
  intro loose mean mg mb outer gd A base g L' h₁ s Q F N B X T pre hltL ret
  skip
  (try dsimp only)
  show wpAny _ _ _ _ _ _
  k_fold
  simp only [recL] at N hltL
  k_lt hltL
  show wpAny _ _ _ _ _ _
  k_steps
  unfold Stop
  rename Fr _ _ _ _ => F1
  rename News _ _ _ _ => N1
  refine' newSetStrs_N rfl F1 N1 (N1.isList (by k_mem)) h1 (by omega) ?_
  clear F1 N1
  intro D1 so c h' tk F' N' l1 hc hso
  k_lt l1
  k_steps
  unfold Stop
  rename Fr _ _ _ _ => F1
  rename News _ _ _ _ => N1
  refine' attrIn_N F1 N1 (by k_mem) hso hc ?_
  clear F1 N1
  intro D2 h' tk F' N' l1
  k_lt l1
  k_steps
  unfold Stop
  rename Fr _ _ _ _ => F1
  rename News _ _ _ _ => N1
  refine' newFilter_N F1 N1 (N1.isList (by k_mem)) ?_
  clear F1 N1
  intro D3 D4 h' F' N' l1 l2
  have l3 := l1
  have l4 := l2 _ (.head _)
  k_lt l1
  k_lt l2
  k_steps
  unfold Stop
  rename Fr _ _ _ _ => F1
  rename News _ _ _ _ => N1
  refine' listFilter_T rfl F1 N1 l3 l4 (by k_mem) (by k_mem) (by k_mem) hso hc h1 hz1 ?_
  clear F1 N1 l1 l2 l3 l4
  intro D5 c5 h' tk zs F' N' l1 hzs
  k_lt l1
  k_steps
  unfold Stop
  rename Fr _ _ _ _ => F1
  rename News _ _ _ _ => N1
  refine' kmk_add_lit (zs := ys ++ ys) F1 N1 (N1.isList (by k_mem)) (N1.isList (by k_mem)) (by simp) ?_ ?z
  case z =>
    simp only [sizeLine_eq]
    first | omega | (simp; omega)
  clear F1 N1
  intro D6 h' F' N' l1
  k_lt l1
  k_steps
  refine' ret _ _ _ _ _ ?F ?N ?R
  case F => k_asm
  case N => k_asm
  case R =>
    refine' ⟨[_, _, _, _, _, _, _, _], zs, rfl, ?rr, hzs⟩
    case rr =>
      refine' RecOf.intro ?h1 ?h2 ?h3 ?h4
      case h1 => k_mem
      case h2 => k_mem
      case h3 => k_mem
      case h4 => k_mem
end
section
open PySem PySem.W PySem.Calls PySem.Spec PyProof.Rows PyProof.Rows.LCg
set_option maxRecDepth 100000
set_option maxHeartbeats 8000000
set_option linter.unusedVariables false
/-- the end of a test in a comprehension: all that was known stands -/
noncomputable def TestEnd (h₀ : Heap) (L : Addr) (m : PySem.Str → Option Value) (led : List (Addr × Obj)) (s₁ : Shared) (b ok : Bool) (s₃ : Shared) : Prop :=
  ok = b ∧ ∃ h' tk, s₃ = { s₁ with heap := h', toks := tk } ∧ Fr h₀ L h' m ∧ News h₀ L h' led
theorem TestEnd.intro {h₀ : Heap} {L : Addr} {m : PySem.Str → Option Value} {led : List (Addr × Obj)} {s₁ : Shared} {b ok : Bool} {h' : Heap} {tk : Nat} (e : ok = b) (F : Fr h₀ L h' m) (N : News h₀ L h' led) : TestEnd h₀ L m led s₁ b ok { s₁ with heap := h', toks := tk } :=
  ⟨e, h', tk, rfl, F, N⟩
section
variable {prog : Program} {w : World} {A : Around} {E : Value → Shared → Prop} {s : Shared} {h₀ : Heap} {L : Addr} {m : PySem.Str → Option Value} {env : Env}
/-- a comprehension over a list of triples whose test never holds -/
theorem comp_none3 {elt iter c : Expr} {x y z : PySem.Str} {px py pz tp : Pos} {kk : Nat} {scope : Scope} {cl : List (PySem.Str × Addr)} {pos : Pos} {Q : Value → Shared → Prop}
    (hh : A.handled = none) (hclos : closureFor scope env = pure cl) (hcell : ∀ y ∈ scope.names, y.2 ≠ .cell) (hkind : scope.kind = .function)
    (hnames : ∀ y ∈ scope.names, y.2 = .local → scope.names.lookup y.1 = some .local) (hx : scope.names.lookup x = some .local) (hy : scope.names.lookup y = some .local) (hz : scope.names.lookup z = some .local) (hxy : x ≠ y) (hxz : x ≠ z) (hyz : y ≠ z)
    (h : wpAny (model prog w) A (eval iter env) (fun xv s₁ => ∃ (news : List (Addr × Obj)) (ax : Addr) (its : List Value) (n : Nat), xv = .ref ax ∧ (ax, PySem.W.listOf its.toArray n) ∈ news ∧ its.length ≤ 1000 ∧ Fr h₀ L s₁.heap m ∧ News h₀ L s₁.heap news ∧
      (∀ v ∈ its, ∃ (t : Addr) (v1 v2 v3 : Value) (nt : Nat), v = .ref t ∧ (t, ({ cls := .type "tuple", data := .seq [v1, v2, v3].toArray nt } : Obj)) ∈ news ∧
        ∀ I oI C oC D m₂ h tk (E' : Value → Shared → Prop), NsObj oC m₂ → m₂ x = some v1 → m₂ y = some v2 → m₂ z = some v3 → Fr h₀ L h m → News h₀ L h ((I, oI) :: (C, oC) :: (D, lst []) :: news) → Off3 I C D news → ((@Ne Nat I C) ∧ (@Ne Nat I D) ∧ (@Ne Nat C D)) →
          wpAny (model prog w) A (isTrue c (compEnvC scope cl C env) (eval c (compEnvC scope cl C env))) (TestEnd h₀ L m ((I, oI) :: (C, oC) :: (D, lst []) :: news) { s₁ with heap := h, toks := tk } false) E' { s₁ with heap := h, toks := tk }) ∧
      (∀ D h' tk, Fr h₀ L h' m → News h₀ L h' ((D, lst []) :: news) → (∀ p ∈ news, p.1 ≠ D) → Q (.ref D) { s₁ with heap := h', toks := tk })) E s)
    (hs : ∀ x, foldedSetIterable iter env x = pure x) :
    wpAny (model prog w) A (eval (.ListComp elt [⟨.Tuple [.Name x px, .Name y py, .Name z pz] kk tp, iter, [c], 0⟩] scope pos) env) Q E s := by
  rw [eval_ListComp]
  refine wpAny_comprehension_free (use := none) rfl hs hclos hkind hnames (wpAny_mono h (fun xv s₁ h₁ => ?_) fun _ _ e => e)
  obtain ⟨news, ax, its, n, rfl, hax, hsz, F, N, hits, hQ⟩ := h₁
  have hl := N.isList hax
  have hlt : ax < s₁.heap.objs.size := Heap.lt_size (N _ hax).1
  refine wpAny_pyIter_list hl ?_
  have W := Walks.list (prog := prog) (w := w) hh s₁.heap.objs.size ax (Nat.ne_of_lt hlt) its.toArray
  have up0 : ∀ b o, s₁.heap.get? b = some o → (s₁.heap.push { cls := .type "list_iterator", data := .fields #[.ref ax, .int 0 0] }).get? b = some o := fun b o e => Heap.get?_push_of_some _ e
  have hI0 : (s₁.heap.push { cls := .type "list_iterator", data := .fields #[.ref ax, .int 0 0] }).get? s₁.heap.objs.size = some { cls := .type "list_iterator", data := .fields #[.ref ax, .int 0 0] } := Heap.get?_push_size _ rfl
  generalize hG : s₁.heap.push { cls := .type "list_iterator", data := .fields #[.ref ax, .int 0 0] } = G at up0 hI0 ⊢
  have hGs : (G.objs.size : Nat) = s₁.heap.objs.size + 1 := by rw [← hG, Heap.size_push]
  refine wpAny_newObj_type (wpAny_newFunctionEnv hcell (by intro y hy; simp at hy) (fun h₁ hns₁ hsb₁ => ?_) hkind)
  dsimp only at hns₁ hsb₁ ⊢
  generalize hH2 : G.push { cls := .type "list", dict := none, data := .seq ([] : List Value).toArray } = H2 at hns₁ hsb₁ ⊢
  have hC : (H2.objs.size : Nat) = s₁.heap.objs.size + 2 := by rw [← hH2, Heap.size_push, hGs]
  have up2 : ∀ b o, G.get? b = some o → H2.get? b = some o := fun b o e => hH2 ▸ Heap.get?_push_of_some _ e
  have hD2 : H2.get? G.objs.size = some (lst []) := hH2 ▸ Heap.get?_push_size _ rfl
  clear hH2 hG
  have szN : ∀ {h : Heap} {b : Addr} {o : Obj}, h.get? b = some o → @LT.lt Nat _ b h.objs.size := fun e => Heap.lt_size e
  generalize hIe : s₁.heap.objs.size = I at *
  generalize hDe : G.objs.size = D at *
  generalize hCe : H2.objs.size = C at *
  have hID : @Ne Nat I D := by omega
  have hIC : @Ne Nat I C := by omega
  have hDC : @Ne Nat D C := by omega
  have ltI : ∀ {b : Addr} {o : Obj}, s₁.heap.get? b = some o → @Ne Nat b I ∧ @Ne Nat b C ∧ @Ne Nat b D := fun e => by have := szN e; omega
  have old : ∀ b o, s₁.heap.get? b = some o → h₁.get? b = some o := fun b o e => hsb₁.extBut b o (ltI e).2.1 (Heap.get?_push_of_some _ (up2 b o (up0 b o e)))
  have hacc : h₁.get? D = some (lst []) := hsb₁.extBut _ _ hDC (Heap.get?_push_of_some _ hD2)
  have hI1 : h₁.get? I = some { cls := .type "list_iterator", data := .fields #[.ref ax, .int 0 0] } := hsb₁.extBut _ _ hIC (Heap.get?_push_of_some _ (up2 _ _ hI0))
  have fresh₀ : ∀ a : Addr, @LE.le Nat _ I a → h₀.get? a = none := fun a ha => by
    cases e : h₀.get? a with
    | none => rfl
    | some o' => have := szN (F.keep a o' e); omega
  have hI₀ := fresh₀ I (Nat.le_refl _)
  have hD₀ := fresh₀ D (by omega)
  have hC₀ := fresh₀ C (by omega)
  have hLlt : @LT.lt Nat _ L s₁.heap.objs.size := F.ns.lt
  have hLI : @Ne Nat L I := by omega
  have hLD : @Ne Nat L D := by omega
  have hLC : @Ne Nat L C := by omega
  have off : ∀ p ∈ news, p.1 ≠ I ∧ p.1 ≠ C ∧ p.1 ≠ D := fun p hp => ltI (N p hp).1
  have hfin : ∀ h' tk m', h'.Ns C m' → Fr h₀ L h' m → News h₀ L h' ((D, lst []) :: news) → compPost (model prog w) A E none Q (.ref D) C (.ok .next) { s₁ with heap := h', toks := tk } := by
    intro h' tk m' hn F' N'
    refine ⟨m', hn, fun h'' hs'' => hQ D h'' tk (F'.change hs'' (Ne.symm hLC) hC₀) (fun p hp => ⟨hs''.extBut _ _ ?_ (N' p hp).1, (N' p hp).2⟩) fun p hp => (off p hp).2.2⟩
    rcases List.mem_cons.mp hp with e | hp
    · rw [e]; exact hDC
    · exact (off p hp).2.1
  have loop : ∀ s₃ : Shared, s₃ = { s₁ with heap := h₁, toks := s₁.toks + ([] : List (PySem.Str × Value)).length } →
      codeAny (model prog w) A (.compLoop (.ListComp elt [⟨.Tuple [.Name x px, .Name y py, .Name z pz] kk tp, iter, [c], 0⟩] scope pos) 0 (.ref I) (.ref D) (compEnvC scope cl C env))
        (compPost (model prog w) A E none Q (.ref D) C) s₃ := by
    rintro s₃ rfl
    refine kct_loop (fun k s' => ∃ h' tk i m', s' = { s₁ with heap := h', toks := tk } ∧ i ≤ its.length ∧ k = its.length + 1 - i ∧ h'.IsListIter I ax i ∧ Fr h₀ L h' m ∧ h'.Ns C m' ∧ News h₀ L h' ((D, lst []) :: news)) ?_ (its.length + 1)
      ⟨h₁, _, 0, _, rfl, Nat.zero_le _, rfl, ⟨_, hI1, rfl, rfl⟩, F.keeps old, hns₁, fun p hp => ?_⟩
    · rintro k s' ⟨h', tk, i, m', rfl, hi, rfl, hit, F', hn', N'⟩
      have offD : ∀ p ∈ (D, lst []) :: news, p.1 ≠ I := fun p hp => by
        rcases List.mem_cons.mp hp with e | hp
        · rw [e]; exact Ne.symm hID
        · exact (off p hp).1
      by_cases hlt : i < its.length
      · refine W.item i _ _ _ (by simpa using hlt) ⟨hit, N'.isList (.tail _ hax)⟩ fun v h₂ tk₂ hPv hst₂ hk₂ => ?_
        obtain ⟨t, v1, v2, v3, nt, rfl, hmt, leaf⟩ := hits v (List.mem_of_getElem? (i := i) (by simpa using hPv))
        have N₂ : News h₀ L h₂ ((D, lst []) :: news) := news_but N' hk₂ offD
        have ht : IsTup h₂ t #[v1, v2, v3] := ⟨_, (N₂ _ (.tail _ hmt)).1, rfl, nt, rfl⟩
        refine wpAny_letOwnedTupleGo_listiter hst₂.1 ?_
        refine assign_Tuple_tuple hh ht rfl rfl fun h₅ he => ?_
        have he' : ∀ b o, h₂.get? b = some o → h₅.get? b = some o := fun b o e => he b o (Nat.ne_of_lt (Heap.lt_size e)) e
        refine assignInOrder_cons (wpAny_assign_Name (wpAny_storeName_local (lookup_relabel_local hx) ((hn'.at' fun o e => hk₂ _ o (by simpa using Ne.symm hIC) e).at' fun o e => he' _ o e) (fun h₆ hn₆ hs₆ => ?_) (by simp [compEnvC, relabel, hkind])))
        refine assignInOrder_cons (wpAny_assign_Name (wpAny_storeName_local (lookup_relabel_local hy) hn₆ (fun h₇ hn₇ hs₇ => ?_) (by simp [compEnvC, relabel, hkind])))
        refine assignInOrder_cons (wpAny_assign_Name (wpAny_storeName_local (lookup_relabel_local hz) hn₇ (fun h₃ hn₃ hs₃ => ?_) (by simp [compEnvC, relabel, hkind])))
        refine assignInOrder_nil ?_
        have old3 : ∀ b o, b ≠ C → h₂.get? b = some o → h₃.get? b = some o := fun b o hb e => hs₃.extBut b o hb (hs₇.extBut b o hb (hs₆.extBut b o hb (he' b o e)))
        have F₃ : Fr h₀ L h₃ m := ((((fr_but F' hk₂ hLI hI₀).keeps he').change hs₆ (Ne.symm hLC) hC₀).change hs₇ (Ne.symm hLC) hC₀).change hs₃ (Ne.symm hLC) hC₀
        obtain ⟨oI, heI, hcI, hdI⟩ := hst₂.1
        obtain ⟨oC, heC, hoC⟩ := ns_obj hn₃
        have N₃ : News h₀ L h₃ ((I, oI) :: (C, oC) :: (D, lst []) :: news) := fun p hp => by
          rcases List.mem_cons.mp hp with rfl | hp
          · exact ⟨old3 _ _ hIC heI, Ne.symm hLI, hI₀⟩
          rcases List.mem_cons.mp hp with rfl | hp
          · exact ⟨heC, Ne.symm hLC, hC₀⟩
          have zz := N₂ p hp
          refine ⟨old3 _ _ ?_ zz.1, zz.2⟩
          rcases List.mem_cons.mp hp with rfl | hp
          · exact hDC
          · exact (off p hp).2.1
        refine wpAny_mono (leaf I oI C oC D _ h₃ _ _ hoC (by simp [hxy, hxz]) (by simp [hyz]) (by simp) F₃ N₃ (Off3.of off) ⟨hIC, hID, Ne.symm hDC⟩) (fun ok s₃ h₃ => ?_) fun _ _ e => e
        obtain ⟨rfl, h₄, tk₄, rfl, F₄, N₄⟩ := h₃
        exact ⟨its.length + 1 - (i + 1), by omega, h₄, tk₄, i + 1, _, rfl, hlt, rfl, ⟨oI, (N₄ _ (.head _)).1, hcI, hdI⟩, F₄, hoC.ns (N₄ _ (.tail _ (.head _))).1, fun p hp => N₄ p (.tail _ (.tail _ hp))⟩
      · obtain rfl : i = its.length := by omega
        refine W.done _ _ _ (by simpa using ⟨hit, N'.isList (.tail _ hax)⟩) fun h₂ tk₂ hk₂ => ?_
        exact hfin h₂ tk₂ _ (hn'.at' fun o e => hk₂ _ o (by simpa using Ne.symm hIC) e) (fr_but F' hk₂ hLI hI₀) (news_but N' hk₂ offD)
    · rcases List.mem_cons.mp hp with rfl | hp
      · exact ⟨hacc, Ne.symm hLD, hD₀⟩
      · exact ⟨old _ _ (N p hp).1, (N p hp).2⟩
  exact codeAny_compStart_list (loop _ rfl) (W.self 0 _ _ _ ⟨⟨_, hI1, rfl, rfl⟩, (N.isList hax).at fun o e => old _ o e⟩ (loop _ rfl))
end
end
section
open PySem PySem.W PySem.Calls PySem.Spec PyProof.Rows
set_option maxRecDepth 100000
set_option maxHeartbeats 8000000
set_option linter.unusedVariables false
noncomputable def aloneCases (u : Wd) : List (PySem.Str × PySem.Str × Bool) :=
  [(enc u, Txt.upper (enc u), true), (Str.ofString "." ++ enc u, Str.ofString "." ++ Txt.upper (enc u), true), (enc u, Str.ofString "." ++ enc u, false), (Str.ofString "." ++ enc u, enc u, false),
   (Str.ofString "b" ++ enc u, enc u, false), (enc u, Str.ofString "", false), (Str.ofString "x." ++ enc u ++ Str.ofString ".", Str.ofString "." ++ enc u, false),
   (Str.ofString "x." ++ enc u ++ Str.ofString ".", Str.ofString "." ++ enc u ++ Str.ofString ".", true), (Str.ofString "x.7" ++ enc u ++ Str.ofString "7", Txt.upper (Str.ofString ".7" ++ enc u ++ Str.ofString "7"), true),
   (enc u ++ Str.ofString ".2026", Str.ofString ".2026", false), (Txt.upper (enc u) ++ Str.ofString ".2026", enc u ++ Str.ofString ".2026", true)]
noncomputable def okCase (p : PySem.Str × PySem.Str × Bool) : Bool :=
  match seek ipv4 (Txt.lower p.1) 100, seek ipv4 (Txt.lower p.2.1) 100 with
  | some a, some b => udmv p.1 p.2.1 a b == p.2.2 && decide (p.1.length ≤ 1000) && decide (p.2.1.length ≤ 1000)
  | _, _ => false
/-- the texts that are asked of one host, and whether a number stands at the end -/
noncomputable def tab (u : Wd) : List (PySem.Str × Bool) :=
  [(enc u, false), (Str.ofString "." ++ enc u, false), (Str.ofString "b" ++ enc u, false), (Str.ofString "", false), (Str.ofString "x." ++ enc u ++ Str.ofString ".", false), (Str.ofString "." ++ enc u ++ Str.ofString ".", false),
   (Str.ofString "x.7" ++ enc u ++ Str.ofString "7", false), (Str.ofString ".7" ++ enc u ++ Str.ofString "7", false), (enc u ++ Str.ofString ".2026", true), (Str.ofString ".2026", true)]
noncomputable def tabOk (u : Wd) : Bool := (tab u).all fun p => seek ipv4 p.1 100 == some p.2
noncomputable def inTab (u : Wd) (x : PySem.Str) : Option Bool := ((tab u).find? (·.1 == x)).map (·.2)
noncomputable def okTab (u : Wd) (p : PySem.Str × PySem.Str × Bool) : Bool :=
  match inTab u (Txt.lower p.1), inTab u (Txt.lower p.2.1) with
  | some a, some b => udmv p.1 p.2.1 a b == p.2.2 && decide (p.1.length ≤ 1000) && decide (p.2.1.length ≤ 1000)
  | _, _ => false
theorem tab_1 : ((bools 1).all tabOk) = true := by decide +kernel
theorem tab_20 : (((bools 2).take 2).all tabOk) = true := by decide +kernel
theorem tab_22 : (((bools 2).drop 2).all tabOk) = true := by decide +kernel
theorem tab_30 : (((bools 3).take 2).all tabOk) = true := by decide +kernel
theorem tab_32 : ((((bools 3).drop 2).take 2).all tabOk) = true := by decide +kernel
theorem tab_34 : ((((bools 3).drop 4).take 2).all tabOk) = true := by decide +kernel
theorem tab_36 : (((bools 3).drop 6).all tabOk) = true := by decide +kernel
theorem case_1 : ((bools 1 ++ bools 2).all fun u => (aloneCases u).all (okTab u)) = true := by decide +kernel
theorem case_30 : (((bools 3).take 4).all fun u => (aloneCases u).all (okTab u)) = true := by decide +kernel
theorem case_34 : (((bools 3).drop 4).all fun u => (aloneCases u).all (okTab u)) = true := by decide +kernel
theorem all_part {l a b : List Wd} {f : Wd → Bool} (e : l = a ++ b) (h1 : a.all f = true) (h2 : b.all f = true) : l.all f = true := by
  rw [e, List.all_append, h1, h2]; rfl
theorem tab_all : (W14.all tabOk) = true :=
  all_part (a := bools 1 ++ bools 2) (b := bools 3) rfl (all_part rfl tab_1 (all_part (a := (bools 2).take 2) (b := (bools 2).drop 2) rfl tab_20 tab_22))
    (all_part (a := (bools 3).take 2 ++ ((bools 3).drop 2).take 2) (b := ((bools 3).drop 4).take 2 ++ (bools 3).drop 6) rfl (all_part rfl tab_30 tab_32) (all_part rfl tab_34 tab_36))
theorem case_all : (W14.all fun u => (aloneCases u).all (okTab u)) = true :=
  all_part (a := bools 1 ++ bools 2) (b := bools 3) rfl case_1 (all_part (a := (bools 3).take 4) (b := (bools 3).drop 4) rfl case_30 case_34)
theorem seek_tab {u : Wd} (hu : u ∈ W14) {x : PySem.Str} {b : Bool} (h : inTab u x = some b) : seek ipv4 x 100 = some b := by
  unfold inTab at h
  cases hf : (tab u).find? (·.1 == x) with
  | none => rw [hf] at h; cases h
  | some p =>
    rw [hf] at h
    cases h
    have h1 := List.mem_of_find?_eq_some hf
    have h2 : p.1 = x := by simpa using List.find?_some hf
    subst h2
    have := List.all_eq_true.mp (mem_all tab_all hu) p h1
    exact beq_iff_eq.mp this
theorem ok_tab {u : Wd} (hu : u ∈ W14) {p : PySem.Str × PySem.Str × Bool} (h : okTab u p = true) : okCase p = true := by
  unfold okTab at h
  unfold okCase
  cases ha : inTab u (Txt.lower p.1) with
  | none => rw [ha] at h; cases h
  | some a =>
    cases hb : inTab u (Txt.lower p.2.1) with
    | none => rw [ha, hb] at h; cases h
    | some b =>
      rw [ha, hb] at h
      rw [seek_tab hu ha, seek_tab hu hb]
      exact h
theorem alone_all : (W14.all fun u => (aloneCases u).all okCase) = true := by
  rw [List.all_eq_true]
  intro u hu
  rw [List.all_eq_true]
  intro p hp
  exact ok_tab hu (List.all_eq_true.mp (mem_all case_all hu) p hp)
theorem udm_w {w : World} {x y : PySem.Str} {t t' : Tok} {due : Bool} (h : okCase (x, y, due) = true) : Spec w 600 600 57 [.str x t, .str y t'] (fun _ => True) (fun _ v => v = .bool due) := by
  unfold okCase at h
  dsimp only at h
  cases ha : seek ipv4 (Txt.lower x) 100 with
  | none => rw [ha] at h; cases h
  | some a =>
    cases hb : seek ipv4 (Txt.lower y) 100 with
    | none => rw [ha, hb] at h; cases h
    | some b =>
      rw [ha, hb] at h
      simp only [Bool.and_eq_true, beq_iff_eq, decide_eq_true_eq] at h
      have := udm_spec (w := w) (t := t) (u := t') h.1.2 h.2 ha hb
      rw [h.1.1] at this
      exact this
end
section
open PySem PySem.W PySem.Calls PySem.Spec PyProof.Rows
set_option maxRecDepth 100000
set_option maxHeartbeats 8000000
set_option linter.unusedVariables false
local macro_rules | `(tactic| walk_at "idle") => `(tactic| skip)
theorem fresh_E13 : True := by
  w_top off
  trivial
theorem name_led {g : Heap} {L : Addr} {h : Heap} {l : List (Addr × Obj)} (_N : News g L h l) : ∃ x : List (Addr × Obj), x = l := ⟨l, rfl⟩

local macro_rules | `(tactic| walk_at "call builtin:str.upper") => `(tactic| (refine SCL.upper (by (simp only [Str.length_append]); (try (have e1' : (Str.ofString "x.7").length = 3 := rfl)); (try (have e2' : (Str.ofString "7").length = 1 := rfl)); (try (have e3' : (Str.ofString ".7").length = 2 := rfl)); omega) ?_; intro _))
local macro_rules | `(tactic| walk_at "newTuple") => `(tactic| walk_at "own 2")
local macro_rules | `(tactic| walk_at "eval ListComp") => `(tactic| (k_here; refine stop_ ?_))
local macro_rules | `(tactic| walk_at "call ref") => `(tactic| (k_here; (with_reducible show wpAny _ _ (call (Value.ref 57) _) _ _ _); refine stop_ ?_))
local macro_rules | `(tactic| walk_at "call ref") => `(tactic| (k_here; (with_reducible show wpAny _ _ (call (Value.ref 57) _) _ _ _); k_dflt (refine' Spec.useV (udm_w ?hok) ?B ?F ?X ?N ?T ?khh ?khd ?khu ?khA ?khf ?khk ?pre ?_; (case hok => assumption); (case B | F | X | N | T => k_asm); (case khh => exact rfl); (case khd | khu => exact Nat.le_of_ble_eq_true rfl); (case khA | khf | khk => exact rfl); (case pre => trivial)); intro v' h' tk' F' N' e'; obtain ⟨new', e'⟩ := e'; subst e'; clear new'; (try k_sweep)))
local macro_rules | `(tactic| walk_at "Exists") => `(tactic| (k_here; refine stop_ ?_))
local macro_rules | `(tactic| walk_at "TestEnd") => `(tactic| (k_here; refine stop_ ?_))
theorem alone_spec {w : World} {u : Wd} {t : Tok} (hu : u ∈ W14) (hx : (enc u).length ≤ 100) :
    Spec w 450 450 154 [.str (enc u) t] (fun _ => True) (fun _ v => v = .bool true) := by
  have _k : PySem.Challenge.rw_wn0042_01 = PySem.Challenge.rw_wn0042_01 ∧ hd.heap_39 = hd.heap_39 := ⟨rfl, rfl⟩
  revert _k
  k_fill
  intro _
  refine' Spec.of (binds := [(Str.ofString "host", .str (enc u) t)]) ?a1 ?a2 ?a3 ?a4 ?a5 ?a6 ?a7 ?a8 ?a9 ?_
  case a1 => k_is
  case a2 => k_is
  case a3 => decide
  case a4 => exact fun _ => BindsTo.of_eq rfl
  case a5 => exact locs rfl
  case a6 => decide
  case a7 => rfl
  case a8 => rfl
  case a9 => rfl
  intro loose mean mg mb outer gd A base g L' h₁ s Q F N B X T pre ret
  skip
  (try dsimp only)
  k_fold
  k_steps
  unfold Stop
  refine' comp_none3 (h₀ := g) (L := L') (m := _) (cl := []) ?hh ?hclos ?hcell ?hkind ?hnames ?hx ?hy ?hz ?hxy ?hxz ?hyz ?h ?hs
  case hh => exact rfl
  case hclos => with_unfolding_all rfl
  case hcell => decide
  case hkind => exact rfl
  case hnames => decide
  case hx => exact rfl
  case hy => exact rfl
  case hz => exact rfl
  case hxy => decide
  case hxz => decide
  case hyz => decide
  case hs => intro _; with_unfolding_all rfl
  case h =>
    k_steps
    unfold Stop
    rename Fr _ _ _ _ => F2
    rename News _ _ _ _ => N2
    have hok : ∀ p ∈ aloneCases u, okCase p = true := List.all_eq_true.mp (mem_all alone_all hu)
    obtain ⟨led, hled⟩ := name_led N2
    rw [← hled] at N2
    refine' ⟨led, _, [_, _, _, _, _, _, _, _, _, _, _], _, rfl, ?hm, (by simp), F2, N2, ?hits, ?fin⟩
    case hm => (rw [hled]; exact List.mem_cons_self)
    case hits =>
      intro v hv
      have key : ∃ (t' : Addr) (x y : PySem.Str) (due : Bool) (t1 t2 : Tok), v = Value.ref t' ∧ (t', ({ cls := .type "tuple", data := .seq [Value.str x t1, Value.str y t2, Value.bool due].toArray 0 } : Obj)) ∈ led ∧ okCase (x, y, due) = true := by
        simp only [List.mem_cons, List.not_mem_nil, or_false] at hv
        rcases hv with rfl | rfl | rfl | rfl | rfl | rfl | rfl | rfl | rfl | rfl | rfl
        all_goals (refine' ⟨_, _, _, _, _, _, rfl, ?km, ?ko⟩; (case km => (rw [hled]; k_mem)); (case ko => (refine hok _ ?_; simp only [aloneCases, List.mem_cons, true_or, or_true])))
      obtain ⟨t', x, y, due, t1, t2, rfl, hm, hok1⟩ := key
      refine ⟨t', _, _, _, 0, rfl, hm, ?_⟩
      clear hm hled hv hok F2 N2
      intro I oI C oC D m₂ h tk E' hoC hx hy hz F N off3 hne
      k_steps
      unfold Stop
      rename Fr _ _ _ _ => F3
      rename News _ _ _ _ => N3
      exact TestEnd.intro (by cases due <;> rfl) F3 N3
    case fin =>
      clear F2 N2
      intro D h' tk' F' N' l1
      rw [hled] at N' l1
      k_steps
      exact ret _ _ _ _ _ (by k_asm) (by k_asm) rfl
end
section
open PySem PySem.W PySem.Calls PySem.Spec PyProof.Rows PyProof.Rows.LCg
set_option maxRecDepth 100000
set_option maxHeartbeats 8000000
set_option linter.unusedVariables false
theorem turn2_0 (elt t1 t2 iter iter2 : Expr) (ifs : List Expr) (scope : Scope) (pos : Pos) (it acc : Value) (env : Env) :
    compTurn (.ListComp elt [⟨t1, iter, [], 0⟩, ⟨t2, iter2, ifs, 0⟩] scope pos) 0 it acc env = (standAt iter.pos >>= fun _ => pyNext it >>= fun r => match r with
      | none => pure (.done .next)
      | some v => letOwnedTupleGo t1 it v >>= fun _ => assign t1 env v >>= fun _ => eval iter2 env >>= fun x => standAt iter2.pos >>= fun _ => foldedSetIterable iter2 env x >>= fun x =>
        holding [x] (pyIter x) >>= fun i2 => runOwn (.compStart (.ListComp elt [⟨t1, iter, [], 0⟩, ⟨t2, iter2, ifs, 0⟩] scope pos) 1 i2 acc env) env >>= fun _ =>
          again (.compLoop (.ListComp elt [⟨t1, iter, [], 0⟩, ⟨t2, iter2, ifs, 0⟩] scope pos) 0 it acc env)) := by rfl
theorem turn2_1 (elt t1 t2 iter iter2 : Expr) (ifs : List Expr) (scope : Scope) (pos : Pos) (it acc : Value) (env : Env) :
    compTurn (.ListComp elt [⟨t1, iter, [], 0⟩, ⟨t2, iter2, ifs, 0⟩] scope pos) 1 it acc env = (do
      standAt iter2.pos
      match ← pyNext it with
      | none => pure (.done .next)
      | some v =>
        letOwnedTupleGo t2 it v
        assign t2 env v
        let mut ok := true
        for c in ifs do
          if ok then ok ← isTrue c env (eval c env)
        if ok then
          (do let _ ← call (.builtin "list.append") [acc, ← eval elt env])
        again (.compLoop (.ListComp elt [⟨t1, iter, [], 0⟩, ⟨t2, iter2, ifs, 0⟩] scope pos) 1 it acc env)) := by rfl

section
variable {prog : Program} {w : World} {A : Around} {E : Value → Shared → Prop} {s : Shared}
theorem start2_1 {elt t1 t2 iter iter2 : Expr} {ifs : List Expr} {scope : Scope} {pos : Pos} {it acc : Value} {env : Env} {R : Result → Shared → Prop}
    (h0 : codeAny (model prog w) A (.compLoop (.ListComp elt [⟨t1, iter, [], 0⟩, ⟨t2, iter2, ifs, 0⟩] scope pos) 1 it acc env) R s)
    (h : wpAny (model prog w) A (pyIter it) (fun it' s' => codeAny (model prog w) A (.compLoop (.ListComp elt [⟨t1, iter, [], 0⟩, ⟨t2, iter2, ifs, 0⟩] scope pos) 1 it' acc env) R s') (notedBy (model prog w) A env fun x s' => R (.error x) s') s) :
    codeAny (model prog w) A (.compStart (.ListComp elt [⟨t1, iter, [], 0⟩, ⟨t2, iter2, ifs, 0⟩] scope pos) 1 it acc env) R s := by
  refine codeAny_of_tree ?_
  show wpAny _ _ ((compStart (.ListComp elt [⟨t1, iter, [], 0⟩, ⟨t2, iter2, ifs, 0⟩] scope pos) 1 it acc env).onRaise (fun x => do noteFrame x env; standAt theWindowsPlace)) _ _ s
  refine wpAny_notedAt ?_
  unfold compStart
  show wpAny _ _ (ask >>= _) _ _ s
  refine wpAny_bind (wpAny_askSetting (wpAny_ite ?_))
  split
  · first
      | exact wpAny_bind (wpAny_pure (wpAny_pure (And.intro rfl h0)))
      | exact wpAny_pure (And.intro rfl h0)
  · refine wpAny_bind (wpAny_rule ?_)
    show wpAny _ _ (standAt iter2.pos >>= _) _ _ s
    exact wpAny_bind (wpAny_standAt (wpAny_bind (wpAny_mono h (fun it' s' h' => wpAny_pure (And.intro rfl h')) fun _ _ x => x)))

/-- the inner loop of a comprehension of two clauses -/
theorem inner2 {elt iter iter2 c : Expr} {t1 : Expr} {y : PySem.Str} {py : Pos} {scope : Scope} {pos : Pos} {cenv : Env} {R : Result → Shared → Prop} {I ax D : Addr} {vs : List Value} {m : PySem.Str → Option Value} (p : Value → Bool) (f : Value → PyData) (ds : List PyData) (H : Heap)
    (hh : A.handled = none) (hy : cenv.kindOf y = some .local) (hp : (cenv.scope.kind == .class || (cenv.scope.kind == .module && cenv.locals != cenv.globals)) = false)
    (hne : ax ≠ I) (hDI : D ≠ I) (hCI : cenv.locals ≠ I) (hDC : D ≠ cenv.locals) (hax : ax ≠ D ∧ ax ≠ cenv.locals) (hH : ∀ b o, H.get? b = some o → b ≠ I ∧ b ≠ D ∧ b ≠ cenv.locals)
    (test : ∀ v s₂ m₂ E', v ∈ vs → s₂.heap.Ns cenv.locals m₂ → (∀ z, z ≠ y → m₂ z = m z) → m₂ y = some v → (∀ b o, H.get? b = some o → s₂.heap.get? b = some o) →
      wpAny (model prog w) A (isTrue c cenv (eval c cenv)) (fun ok s₃ => ok = p v ∧ Keeps s₂ s₃) E' s₂)
    (el : ∀ v s₂ m₂ E', v ∈ vs → p v = true → s₂.heap.Ns cenv.locals m₂ → (∀ z, z ≠ y → m₂ z = m z) → m₂ y = some v → (∀ b o, H.get? b = some o → s₂.heap.get? b = some o) →
      wpAny (model prog w) A (eval elt cenv) (fun r s₃ => Carried r (f v) ∧ Keeps s₂ s₃) E' s₂)
    (s : Shared) (ys : List Value) (k : Nat) (m₁ : PySem.Str → Option Value) (hit : s.heap.IsListIter I ax 0) (hl : s.heap.IsList ax vs.toArray) (hacc : s.heap.get? D = some { cls := .type "list", data := .seq ys.toArray k }) (hn : s.heap.Ns cenv.locals m₁) (hm : ∀ z, z ≠ y → m₁ z = m z)
    (hys : CarriedAll ys ds) (hsz : ys.length + vs.length ≤ sizeLine) (hk : ∀ b o, H.get? b = some o → s.heap.get? b = some o)
    (fin : ∀ h' tk ys' k' m', h'.Ns cenv.locals m' → (∀ z, z ≠ y → m' z = m z) → h'.get? D = some { cls := .type "list", data := .seq ys'.toArray k' } → CarriedAll ys' (ds ++ (vs.filter p).map f) → ys'.length ≤ ys.length + vs.length →
      (∀ b o, b ≠ I → b ≠ D → b ≠ cenv.locals → s.heap.get? b = some o → h'.get? b = some o) → R (.ok .next) { s with heap := h', toks := tk }) :
    codeAny (model prog w) A (.compLoop (.ListComp elt [⟨t1, iter, [], 0⟩, ⟨.Name y py, iter2, [c], 0⟩] scope pos) 1 (.ref I) (.ref D) cenv) R s := by
  have W := Walks.list (prog := prog) (w := w) hh I ax hne vs.toArray
  refine codeAny_loop rfl (fun n s' => ∃ h' tk i ys' k' m', s' = { s with heap := h', toks := tk } ∧ i ≤ vs.length ∧ n = vs.length + 1 - i ∧ h'.IsListIter I ax i ∧ h'.IsList ax vs.toArray ∧ h'.Ns cenv.locals m' ∧ (∀ z, z ≠ y → m' z = m z) ∧
      h'.get? D = some { cls := .type "list", data := .seq ys'.toArray k' } ∧ CarriedAll ys' (ds ++ ((vs.take i).filter p).map f) ∧ ys'.length ≤ ys.length + i ∧ (∀ b o, H.get? b = some o → h'.get? b = some o) ∧
      (∀ b o, b ≠ I → b ≠ D → b ≠ cenv.locals → s.heap.get? b = some o → h'.get? b = some o)) (fun n s' hI => ?_) (vs.length + 1)
    ⟨s.heap, s.toks, 0, ys, k, m₁, rfl, Nat.zero_le _, rfl, hit, hl, hn, hm, hacc, by simpa using hys, Nat.le_refl _, hk, fun _ _ _ _ _ e => e⟩
  obtain ⟨h', tk, i, ys', k', m', rfl, hi, rfl, hit', hl', hn', hm', hacc', hys', hlen, hk', hk2⟩ := hI
  show wpAny _ _ ((compTurn (.ListComp elt [⟨t1, iter, [], 0⟩, ⟨.Name y py, iter2, [c], 0⟩] scope pos) 1 (.ref I) (.ref D) cenv).onRaise (fun x => do noteFrame x cenv; theTreesLotGoes x)) _ _ _
  refine wpAny_noted ?_
  rw [turn2_1]
  refine wpAny_bind (wpAny_standAt (wpAny_bind ?_))
  by_cases hlt : i < vs.length
  · refine W.item i _ _ _ (by simpa using hlt) ⟨hit', hl'⟩ fun v h₂ tk₂ hPv hst₂ hk₂ => ?_
    have hv : vs[i]? = some v := by simpa using hPv
    have hvm := List.mem_of_getElem? hv
    refine wpAny_bind (wpAny_of_eq (a := ()) rfl (wpAny_bind ?_))
    refine wpAny_assign_Name (wpAny_storeName_local hy (hn'.at' fun o e => hk₂ _ o (by simpa using hCI) e) (fun h₃ hn₃ hs₃ => ?_) hp)
    have up₃ : ∀ b o, b ≠ I → b ≠ cenv.locals → h'.get? b = some o → h₃.get? b = some o := fun b o h1 h2 e => hs₃.extBut b o h2 (hk₂ b o (by simpa using h1) e)
    have hH₃ : ∀ b o, H.get? b = some o → h₃.get? b = some o := fun b o e => up₃ b o (hH b o e).1 (hH b o e).2.2 (hk' b o e)
    have hm₃ : ∀ z, z ≠ y → (fun z => if z = y then some v else m' z) z = m z := fun z hz => by simp only [if_neg hz]; exact hm' z hz
    refine wpAny_bind (wpAny_tests_one (wpAny_mono (test v _ _ _ hvm hn₃ hm₃ (by simp) hH₃) (fun ok s₄ h₄ => ?_) fun _ _ e => e))
    obtain ⟨rfl, h₄, tk₄, rfl, hk₄⟩ := h₄
    have hit₄ : h₄.IsListIter I ax (i + 1) := (hst₂.1.extBut hs₃.extBut (Ne.symm hCI)).at fun o e => hk₄ _ o e
    have hl₄ : h₄.IsList ax vs.toArray := (hl'.at fun o e => up₃ _ o hne hax.2 e).at fun o e => hk₄ _ o e
    have hacc₄ := hk₄ _ _ (up₃ _ _ hDI hDC hacc')
    have htake : (vs.take (i + 1)).filter p = (vs.take i).filter p ++ [v].filter p := by rw [List.take_add_one, hv, List.filter_append]; rfl
    cases hpv : p v with
    | false =>
      refine wpAny_pure ⟨rfl, vs.length + 1 - (i + 1), by omega, h₄, tk₄, i + 1, ys', k', _, rfl, hlt, rfl, hit₄, hl₄, hn₃.keeps hk₄, hm₃, hacc₄, ?_, by omega, fun b o e => hk₄ _ _ (hH₃ b o e), fun b o h1 h2 h3 e => hk₄ _ _ (up₃ _ _ h1 h3 (hk2 b o h1 h2 h3 e))⟩
      rw [htake]
      simpa [hpv] using hys'
    | true =>
      refine wpAny_bind (wpAny_bind (wpAny_mono (el v _ _ _ hvm hpv (hn₃.keeps hk₄) hm₃ (by simp) (fun b o e => hk₄ _ _ (hH₃ b o e))) (fun r s₅ h₅ => ?_) fun _ _ e => e))
      obtain ⟨hr, h₅, tk₅, rfl, hk₅⟩ := h₅
      refine wpAny_bind (append_at (hsz := by rw [List.size_toArray]; omega) (hk₅ _ _ hacc₄) fun h₆ hs₆ hD₆ => ?_)
      refine wpAny_pure (wpAny_pure ⟨rfl, vs.length + 1 - (i + 1), by omega, h₆, tk₅, i + 1, ys' ++ [r], k' + 1, _, rfl, hlt, rfl, ?_, ?_, ((hn₃.keeps hk₄).keeps hk₅).sameBut hs₆ (Ne.symm hDC), hm₃, ?_, ?_, by simp; omega, fun b o e => ?_, fun b o h1 h2 h3 e => ?_⟩)
      · exact (hit₄.at fun o e => hk₅ _ o e).extBut hs₆.extBut (Ne.symm hDI)
      · exact (hl₄.at fun o e => hk₅ _ o e).extBut hs₆.extBut hax.1
      · rw [hD₆, List.push_toArray]
      · rw [htake]
        have := hys'.snoc hr
        simpa [hpv] using this
      · exact hs₆.extBut _ _ (hH b o e).2.1 (hk₅ _ _ (hk₄ _ _ (hH₃ b o e)))
      · exact hs₆.extBut _ _ h2 (hk₅ _ _ (hk₄ _ _ (up₃ _ _ h1 h3 (hk2 b o h1 h2 h3 e))))
  · obtain rfl : i = vs.length := by omega
    refine W.done _ _ _ (by simpa using ⟨hit', hl'⟩) fun h₂ tk₂ hk₂ => ?_
    rw [List.take_length] at hys'
    exact wpAny_pure (fin h₂ tk₂ ys' k' m' (hn'.at' fun o e => hk₂ _ o (by simpa using hCI) e) hm' (hk₂ _ _ (by simpa using hDI) hacc') hys' hlen fun b o h1 h2 h3 e => hk₂ _ _ (by simpa using h1) (hk2 b o h1 h2 h3 e))
end
end
section
open PySem PySem.W PySem.Calls PySem.Spec PyProof.Rows PyProof.Rows.LCg
set_option maxRecDepth 100000
set_option maxHeartbeats 8000000
set_option linter.unusedVariables false
theorem carried_app {ys ds : List PyData} {vs : List Value} (h : CarriedAll vs (ys ++ ds)) : CarriedAll vs (ys ++ ds) := h
section
variable {prog : Program} {w : World} {A : Around} {E : Value → Shared → Prop} {s : Shared} {h₀ : Heap} {L : Addr} {m : PySem.Str → Option Value} {env : Env}
/-- a comprehension of two clauses over one list -/
theorem comp2 {elt iter iter2 c : Expr} {x y z : PySem.Str} {px py pz : Pos} {scope : Scope} {cl : List (PySem.Str × Addr)} {pos spos : Pos} {Q : Flow → Shared → Prop} {l : Addr} {vs : List Value} (p : Value → Value → Bool) (f : Value → Value → PyData)
    (hsw : swapsWith (.ListComp elt [⟨.Name x px, iter, [], 0⟩, ⟨.Name y py, iter2, [c], 0⟩] scope pos) (some (.Name z pz)) spos.line env = pure true) (hL : env.locals = L) (hz : env.kindOf z = some .local) (hzp : (env.scope.kind == .class || (env.scope.kind == .module && env.locals != env.globals)) = false)
    (hh : A.handled = none) (hclos : closureFor scope env = pure cl) (hcell : ∀ y ∈ scope.names, y.2 ≠ .cell) (hkind : scope.kind = .function)
    (hnames : ∀ y ∈ scope.names, y.2 = .local → scope.names.lookup y.1 = some .local) (hx : scope.names.lookup x = some .local) (hy : scope.names.lookup y = some .local) (hxy : x ≠ y)
    (h : wpAny (model prog w) A (eval iter env) (fun xv s₁ => ∃ news : List (Addr × Obj), xv = .ref l ∧ s₁.heap.IsList l vs.toArray ∧ vs.length ≤ 100 ∧ Fr h₀ L s₁.heap m ∧ News h₀ L s₁.heap news ∧
      (∀ C v s₂ m₂ E', s₁.heap.objs.size ≤ C → v ∈ vs → s₂.heap.Ns C m₂ → m₂ x = some v → (∀ b o, s₁.heap.get? b = some o → s₂.heap.get? b = some o) →
        wpAny (model prog w) A (eval iter2 (compEnvC scope cl C env)) (fun r s₃ => r = .ref l ∧ Keeps s₂ s₃) E' s₂) ∧
      (∀ C v u s₂ m₂ E', s₁.heap.objs.size ≤ C → v ∈ vs → u ∈ vs → s₂.heap.Ns C m₂ → m₂ x = some v → m₂ y = some u → (∀ b o, s₁.heap.get? b = some o → s₂.heap.get? b = some o) →
        wpAny (model prog w) A (isTrue c (compEnvC scope cl C env) (eval c (compEnvC scope cl C env))) (fun ok s₃ => ok = p v u ∧ Keeps s₂ s₃) E' s₂) ∧
      (∀ C v u s₂ m₂ E', s₁.heap.objs.size ≤ C → v ∈ vs → u ∈ vs → p v u = true → s₂.heap.Ns C m₂ → m₂ x = some v → m₂ y = some u → (∀ b o, s₁.heap.get? b = some o → s₂.heap.get? b = some o) →
        wpAny (model prog w) A (eval elt (compEnvC scope cl C env)) (fun r s₃ => Carried r (f v u) ∧ Keeps s₂ s₃) E' s₂) ∧
      (∀ D (ys : List Value) k h' tk, Fr h₀ L h' (fun a => if a = z then some (.ref D) else m a) → News h₀ L h' ((D, PySem.W.listOf ys.toArray k) :: news) → (∀ p ∈ news, p.1 < D) → CarriedAll ys (vs.flatMap fun v => (vs.filter (p v)).map (f v)) → Q .next { s₁ with heap := h', toks := tk })) E s)
    (hs : ∀ x, foldedSetIterable iter env x = pure x) (hs2 : ∀ C x, foldedSetIterable iter2 (compEnvC scope cl C env) x = pure x) :
    wpAny (model prog w) A (exec (.Assign [.Name z pz] (.ListComp elt [⟨.Name x px, iter, [], 0⟩, ⟨.Name y py, iter2, [c], 0⟩] scope pos) spos) env) Q E s := by
  rw [exec_Assign_Name_used _ _ _ _ hsw]
  refine wpAny_bind (wpAny_standAt (wpAny_bind ?_))
  show wpAny _ A (do let _ ← comprehension (.ListComp elt [⟨.Name x px, iter, [], 0⟩, ⟨.Name y py, iter2, [c], 0⟩] scope pos) scope env _ (newList []) false (eval iter env) (some (assign (.Name z pz) env))) _ _ s
  refine wpAny_bind (wpAny_mono (wpAny_comprehension_free (use := some (assign (.Name z pz) env)) (Q := fun _ s' => Q .next s') rfl hs hclos hkind hnames
    (wpAny_mono h (fun xv s₁ h₁ => ?_) fun _ _ e => e)) (fun _ s' hq => wpAny_pure (wpAny_pure hq)) fun _ _ e => e)
  obtain ⟨news, rfl, hl, hsz, F, N, leaf1, leaf2, leaf3, hQ⟩ := h₁
  have hlt : l < s₁.heap.objs.size := by obtain ⟨_, e, _⟩ := hl; exact Heap.lt_size e
  refine wpAny_pyIter_list hl ?_
  have W := Walks.list (prog := prog) (w := w) hh s₁.heap.objs.size l (Nat.ne_of_lt hlt) vs.toArray
  have up0 : ∀ b o, s₁.heap.get? b = some o → (s₁.heap.push { cls := .type "list_iterator", data := .fields #[.ref l, .int 0 0] }).get? b = some o := fun b o e => Heap.get?_push_of_some _ e
  have hI0 : (s₁.heap.push { cls := .type "list_iterator", data := .fields #[.ref l, .int 0 0] }).get? s₁.heap.objs.size = some { cls := .type "list_iterator", data := .fields #[.ref l, .int 0 0] } := Heap.get?_push_size _ rfl
  generalize hG : s₁.heap.push { cls := .type "list_iterator", data := .fields #[.ref l, .int 0 0] } = G at up0 hI0 ⊢
  have hGs : (G.objs.size : Nat) = s₁.heap.objs.size + 1 := by rw [← hG, Heap.size_push]
  refine wpAny_newObj_type (wpAny_newFunctionEnv hcell (by intro y hy; simp at hy) (fun h₁ hns₁ hsb₁ => ?_) hkind)
  dsimp only at hns₁ hsb₁ ⊢
  generalize hH2 : G.push { cls := .type "list", dict := none, data := .seq ([] : List Value).toArray } = H2 at hns₁ hsb₁ ⊢
  have hC : (H2.objs.size : Nat) = s₁.heap.objs.size + 2 := by rw [← hH2, Heap.size_push, hGs]
  have up2 : ∀ b o, G.get? b = some o → H2.get? b = some o := fun b o e => hH2 ▸ Heap.get?_push_of_some _ e
  have hD2 : H2.get? G.objs.size = some { cls := .type "list", data := .seq ([] : List Value).toArray 0 } := hH2 ▸ Heap.get?_push_size _ rfl
  clear hH2 hG
  have szN : ∀ {h : Heap} {b : Addr} {o : Obj}, h.get? b = some o → @LT.lt Nat _ b h.objs.size := fun e => Heap.lt_size e
  have hlN : @LT.lt Nat _ l s₁.heap.objs.size := hlt
  have hle1 : @LE.le Nat _ s₁.heap.objs.size H2.objs.size := by omega
  generalize hIe : s₁.heap.objs.size = I at *
  generalize hDe : G.objs.size = D at *
  generalize hCe : H2.objs.size = C at *
  have hID : @Ne Nat I D := by omega
  have hIC : @Ne Nat I C := by omega
  have hDC : @Ne Nat D C := by omega
  have ltI : ∀ {b : Addr} {o : Obj}, s₁.heap.get? b = some o → @Ne Nat b I ∧ @Ne Nat b C ∧ @Ne Nat b D := fun e => by have := szN e; omega
  have old : ∀ b o, s₁.heap.get? b = some o → h₁.get? b = some o := fun b o e => hsb₁.extBut b o (ltI e).2.1 (Heap.get?_push_of_some _ (up2 b o (up0 b o e)))
  have hacc : h₁.get? D = some { cls := .type "list", data := .seq ([] : List Value).toArray 0 } := hsb₁.extBut _ _ hDC (Heap.get?_push_of_some _ hD2)
  have hI1 : h₁.get? I = some { cls := .type "list_iterator", data := .fields #[.ref l, .int 0 0] } := hsb₁.extBut _ _ hIC (Heap.get?_push_of_some _ (up2 _ _ hI0))
  have fresh₀ : ∀ a : Addr, @LE.le Nat _ I a → h₀.get? a = none := fun a ha => by
    cases e : h₀.get? a with
    | none => rfl
    | some o' => have := szN (F.keep a o' e); omega
  have hI₀ := fresh₀ I (Nat.le_refl _)
  have hD₀ := fresh₀ D (by omega)
  have hC₀ := fresh₀ C (by omega)
  have hLlt : @LT.lt Nat _ L s₁.heap.objs.size := F.ns.lt
  have hLI : @Ne Nat L I := by omega
  have hLD : @Ne Nat L D := by omega
  have hLC : @Ne Nat L C := by omega
  have hlI : @Ne Nat l I := by omega
  have hlD : @Ne Nat l D := by omega
  have hlC : @Ne Nat l C := by omega
  have hle : @LE.le Nat _ I C := hle1
  let cenv := compEnvC scope cl C env
  have hcx : cenv.kindOf x = some .local := lookup_relabel_local hx
  have hcy : cenv.kindOf y = some .local := lookup_relabel_local hy
  have hcp : (cenv.scope.kind == .class || (cenv.scope.kind == .module && cenv.locals != cenv.globals)) = false := by simp [cenv, compEnvC, relabel, hkind]
  have hcl : cenv.locals = C := rfl
  have loop : ∀ s₃ : Shared, s₃ = { s₁ with heap := h₁, toks := s₁.toks + ([] : List (PySem.Str × Value)).length } →
      codeAny (model prog w) A (.compLoop (.ListComp elt [⟨.Name x px, iter, [], 0⟩, ⟨.Name y py, iter2, [c], 0⟩] scope pos) 0 (.ref I) (.ref D) cenv) (compPost (model prog w) A E (some (assign (.Name z pz) env)) (fun _ s' => Q .next s') (.ref D) C) s₃ := by
    rintro s₃ rfl
    refine codeAny_loop rfl (fun n s' => ∃ h' tk i ys k' m', s' = { s₁ with heap := h', toks := tk } ∧ i ≤ vs.length ∧ n = vs.length + 1 - i ∧ h'.IsListIter I l i ∧ h'.Ns C m' ∧
        h'.get? D = some { cls := .type "list", data := .seq ys.toArray k' } ∧ CarriedAll ys ((vs.take i).flatMap fun v => (vs.filter (p v)).map (f v)) ∧ ys.length ≤ i * vs.length ∧ (∀ b o, s₁.heap.get? b = some o → h'.get? b = some o)) (fun n s' hI => ?_) (vs.length + 1)
      ⟨h₁, _, 0, [], 0, _, rfl, Nat.zero_le _, rfl, ⟨_, hI1, rfl, rfl⟩, hns₁, hacc, .nil, Nat.zero_le _, old⟩
    obtain ⟨h', tk, i, ys, k', m', rfl, hi, rfl, hit', hn', hacc', hys', hlen, hk'⟩ := hI
    show wpAny _ _ ((compTurn (.ListComp elt [⟨.Name x px, iter, [], 0⟩, ⟨.Name y py, iter2, [c], 0⟩] scope pos) 0 (.ref I) (.ref D) cenv).onRaise (fun x => do noteFrame x cenv; theTreesLotGoes x)) _ _ _
    refine wpAny_noted ?_
    rw [turn2_0]
    refine wpAny_bind (wpAny_standAt (wpAny_bind ?_))
    by_cases hlt : i < vs.length
    · refine W.item i _ _ _ (by simpa using hlt) ⟨hit', hl.at fun o e => hk' _ o e⟩ fun v h₂ tk₂ hPv hst₂ hk₂ => ?_
      have hv : vs[i]? = some v := by simpa using hPv
      have hvm := List.mem_of_getElem? hv
      refine wpAny_bind (wpAny_of_eq (a := ()) rfl (wpAny_bind ?_))
      refine wpAny_assign_Name (wpAny_storeName_local hcx (hn'.at' fun o e => hk₂ _ o (by simpa using Ne.symm hIC) e) (fun h₃ hn₃ hs₃ => ?_) hcp)
      have up₃ : ∀ b o, b ≠ I → b ≠ C → h'.get? b = some o → h₃.get? b = some o := fun b o h1 h2 e => hs₃.extBut b o h2 (hk₂ b o (by simpa using h1) e)
      have hH₃ : ∀ b o, s₁.heap.get? b = some o → h₃.get? b = some o := fun b o e => up₃ b o (ltI e).1 (ltI e).2.1 (hk' b o e)
      have hmx : (fun z => if z = x then some v else m' z) x = some v := by simp
      refine wpAny_bind (wpAny_mono (leaf1 C v _ _ _ hle hvm hn₃ hmx hH₃) (fun r s₄ h₄ => ?_) fun _ _ e => e)
      obtain ⟨rfl, h₄, tk₄, rfl, hk₄⟩ := h₄
      have hH₄ : ∀ b o, s₁.heap.get? b = some o → h₄.get? b = some o := fun b o e => hk₄ _ _ (hH₃ b o e)
      have hit₄ : h₄.IsListIter I l (i + 1) := (hst₂.1.extBut hs₃.extBut hIC).at fun o e => hk₄ _ o e
      have hl₄ : h₄.IsList l vs.toArray := hl.at fun o e => hH₄ _ o e
      have hacc₄ := hk₄ _ _ (up₃ _ _ (Ne.symm hID) hDC hacc')
      have hn₄ := hn₃.keeps hk₄
      refine wpAny_bind (wpAny_standAt (wpAny_bind (wpAny_of_eq (hs2 C _) (wpAny_bind (wpAny_holding ?_)))))
      refine wpAny_pyIter_list hl₄ ?_
      have ltI2 : ∀ {b : Addr} {o : Obj}, h₄.get? b = some o → @Ne Nat b h₄.objs.size := fun e => by have := szN e; omega
      have hJ0 : (h₄.push { cls := .type "list_iterator", data := .fields #[.ref l, .int 0 0] }).get? h₄.objs.size = some { cls := .type "list_iterator", data := .fields #[.ref l, .int 0 0] } := Heap.get?_push_size _ rfl
      have upJ : ∀ b o, h₄.get? b = some o → (h₄.push { cls := .type "list_iterator", data := .fields #[.ref l, .int 0 0] }).get? b = some o := fun b o e => Heap.get?_push_of_some _ e
      obtain ⟨oI, heI, _⟩ := id hit₄
      have hIJ : @Ne Nat I h₄.objs.size := ltI2 heI
      have hCJ : @Ne Nat C h₄.objs.size := by obtain ⟨oc, _, _, ec, _⟩ := hn₄; exact ltI2 ec
      have hDJ : @Ne Nat D h₄.objs.size := ltI2 hacc₄
      have hlJ : @Ne Nat l h₄.objs.size := by obtain ⟨_, e, _⟩ := hl₄; exact ltI2 e
      have hHJ : ∀ b o, s₁.heap.get? b = some o → b ≠ h₄.objs.size ∧ b ≠ D ∧ b ≠ cenv.locals := fun b o e => ⟨ltI2 (hH₄ b o e), (ltI e).2.2, (ltI e).2.1⟩
      generalize h₄.push { cls := .type "list_iterator", data := .fields #[.ref l, .int 0 0] } = h₅ at hJ0 upJ ⊢
      generalize h₄.objs.size = J at *
      have hmul : i * vs.length + vs.length ≤ 10000 := by
        have h1 : i * vs.length ≤ vs.length * vs.length := Nat.mul_le_mul_right _ hi
        have h2 : (i + 1) * vs.length ≤ vs.length * vs.length := Nat.mul_le_mul_right _ hlt
        have h3 : vs.length * vs.length ≤ 100 * 100 := Nat.mul_le_mul hsz hsz
        rw [Nat.succ_mul] at h2
        omega
      have inner : ∀ (s₆ : Shared), s₆ = { s₁ with heap := h₅, toks := tk₄ } → codeAny (model prog w) A (.compLoop (.ListComp elt [⟨.Name x px, iter, [], 0⟩, ⟨.Name y py, iter2, [c], 0⟩] scope pos) 1 (.ref J) (.ref D) cenv)
          (fun r s' => match r with
            | .ok _ => ∃ h' tk ys' k' m', s' = { s₁ with heap := h', toks := tk } ∧ h'.IsListIter I l (i + 1) ∧ h'.Ns C m' ∧ h'.get? D = some { cls := .type "list", data := .seq ys'.toArray k' } ∧
                CarriedAll ys' (((vs.take i).flatMap fun v => (vs.filter (p v)).map (f v)) ++ (vs.filter (p v)).map (f v)) ∧ ys'.length ≤ ys.length + vs.length ∧ (∀ b o, s₁.heap.get? b = some o → h'.get? b = some o)
            | .error e => False) s₆ := by
        rintro s₆ rfl
        refine inner2 (m := fun z => if z = x then some v else m' z) (p v) (f v) _ s₁.heap hh hcy hcp hlJ hDJ hCJ hDC ⟨hlD, hlC⟩ hHJ (fun u s₂ m₂ E' hu h1 h2 h3 h4 => leaf2 C v u s₂ m₂ E' hle hvm hu h1 ?_ h3 h4) (fun u s₂ m₂ E' hu hp' h1 h2 h3 h4 => leaf3 C v u s₂ m₂ E' hle hvm hu hp' h1 ?_ h3 h4) _ ys k' _
          ⟨_, hJ0, rfl, rfl⟩ (hl₄.at fun o e => upJ _ o e) (upJ _ _ hacc₄) (hn₄.keeps upJ) (fun z _ => rfl) hys' (by rw [sizeLine_eq]; omega) (fun b o e => upJ _ _ (hH₄ b o e)) fun h' tk ys' k' m' hn' hm' hD' hys' hlen' hk' => ?_
        · rw [h2 x hxy]; exact hmx
        · rw [h2 x hxy]; exact hmx
        · exact ⟨h', tk, ys', k', m', rfl, (hit₄.at fun o e => upJ _ o e).at fun o e => hk' _ o hIJ hID hIC e, hn', hD', hys', hlen', fun b o e => hk' b o (hHJ b o e).1 (hHJ b o e).2.1 (hHJ b o e).2.2 (upJ _ _ (hH₄ b o e))⟩
      refine wpAny_bind ?_
      unfold runOwn
      refine wpAny_onRaise (wpAny_run (codeAny_mono (start2_1 (inner _ rfl) (wpAny_pyIter_listiter ⟨_, hJ0, rfl, rfl⟩ (inner _ rfl))) fun r s' hr => ?_))
      cases r with
      | error e => exact hr.elim
      | ok f0 =>
        obtain ⟨h', tk, ys', k', m', rfl, hit', hn', hD', hys', hlen', hk'⟩ := hr
        refine wpAny_pure ⟨rfl, vs.length + 1 - (i + 1), by omega, h', tk, i + 1, ys', k', m', rfl, hlt, rfl, hit', hn', hD', ?_, ?_, hk'⟩
        · rw [List.take_add_one, hv, List.flatMap_append]
          simpa using hys'
        · rw [Nat.succ_mul]; omega
    · obtain rfl : i = vs.length := by omega
      refine W.done _ _ _ (by simpa using ⟨hit', hl.at fun o e => hk' _ o e⟩) fun h₂ tk₂ hk₂ => ?_
      rw [List.take_length] at hys'
      refine wpAny_pure ?_
      show wpAny _ A (assign (.Name z pz) env (.ref D)) _ _ _
      have keep₂ : ∀ b o, s₁.heap.get? b = some o → h₂.get? b = some o := fun b o e => hk₂ b o (by simpa using (ltI e).1) (hk' b o e)
      have F₂ := F.keeps keep₂
      refine wpAny_assign_Name (wpAny_storeName_local hz (hL ▸ F₂.ns) (fun h₄ hn₄ hs₄ => ?_) hzp)
      rw [hL] at hn₄ hs₄
      refine ⟨m', (hn'.at' fun o e => hk₂ _ o (by simpa using Ne.symm hIC) e).sameBut hs₄ (Ne.symm hLC), fun h'' hs'' => ?_⟩
      have keepL : ∀ b o, b ≠ L → s₁.heap.get? b = some o → h''.get? b = some o := fun b o hb e => hs''.extBut b o (ltI e).2.1 (hs₄.extBut b o hb (keep₂ b o e))
      have hL₀ : ∀ b o, h₀.get? b = some o → b ≠ L := fun b o e q => by
        have e' : @LT.lt Nat _ b h₀.objs.size := Heap.lt_size e
        have : @LE.le Nat _ h₀.objs.size L := F.above
        have : @Eq Nat b L := q
        omega
      refine hQ D ys k' h'' _ ⟨hn₄.sameBut hs'' hLC, fun b o e => keepL b o (hL₀ b o e) (F.keep b o e), F.above⟩ (fun q hq => ?_) (fun q hq => ?_) hys'
      · rcases List.mem_cons.mp hq with e | hq
        · rw [e]
          exact ⟨hs''.extBut _ _ hDC (hs₄.extBut _ _ (Ne.symm hLD) (hk₂ _ _ (by simpa using Ne.symm hID) hacc')), Ne.symm hLD, hD₀⟩
        · exact ⟨keepL _ _ (N q hq).2.1 (N q hq).1, (N q hq).2⟩
      · have := szN (N q hq).1
        show @LT.lt Nat _ q.1 D
        omega
  exact codeAny_compStart_list (loop _ rfl) (W.self 0 _ _ _ ⟨⟨_, hI1, rfl, rfl⟩, hl.at fun o e => old _ o e⟩ (loop _ rfl))
theorem name_comp {C : Addr} {x : PySem.Str} {px : Pos} {v : Value} {m₂ : PySem.Str → Option Value} {scope : Scope} {cl : List (PySem.Str × Addr)} {Q : Value → Shared → Prop} (hn : s.heap.Ns C m₂) (hm : m₂ x = some v)
    (hkk : (compEnvC scope cl C env).scope.kind = .function) (hx : (compEnvC scope cl C env).kindOf x = some .local) (hb : (x == ("__debug__" : PySem.Str)) = false) (h : Q v s) : wpAny (model prog w) A (eval (.Name x px) (compEnvC scope cl C env)) Q E s :=
  wpAny_Name (wpAny_loadName_local hkk hx hn hm h) hb
end
end
section
open PySem PySem.W PySem.Calls PySem.Spec PyProof.Rows PyProof.Rows.LCg
set_option maxRecDepth 100000
set_option maxHeartbeats 8000000
set_option linter.unusedVariables false
section
variable {M : Model} {A : Around} {E : Value → Shared → Prop} {s : Shared} {h₀ : Heap} {L : Addr} {m : PySem.Str → Option Value} {env : Env}
theorem nameG_B {K : Frag} {mg mb : PySem.Str → Option Value} {p : Program} {loose : List PySem.Str} {x : PySem.Str} {pos : Pos} {v : Value} {Q : Value → Shared → Prop} {scope cs : Scope} {cl cl2 : List (PySem.Str × Addr)} {C a : Addr} {cn : PySem.Str} {ccd : Value} {L2 : Addr}
    (F : Fr h₀ L s.heap m) (X : K.In h₀) (T : TopRead p loose mg mb h₀) (e : nsIn K mainGlobals x = some none) (hv : bootBuiltins x = some v) (hn : x ≠ "__name__") (h : Q v s)
    (hk : (compEnvC scope cl C (envX cn cs L2 a ccd cl2)).scope.kind = .function) (hx : (compEnvC scope cl C (envX cn cs L2 a ccd cl2)).kindOf x = some .globalImplicit) (hd : (x == ("__debug__" : PySem.Str)) = false) :
    wpAny M A (eval (.Name x pos) (compEnvC scope cl C (envX cn cs L2 a ccd cl2))) Q E s :=
  Name_function_global hk hx (loadGlobal_builtin (env := compEnvC scope cl C (envX cn cs L2 a ccd cl2)) (T.g.keeps F.keep) (mg_none_of X T.g e) (T.b.keeps F.keep) ((T.builtins x hn).trans hv) h) hd
end
section
variable {prog : Program} {w : World} {A : Around} {E : Value → Shared → Prop} {s : Shared}
theorem slice_keep {value slice : Expr} {x : PySem.Str} {t ui : Tok} {i : Int} {Q : Value → Shared → Prop} (hsz : x.length ≤ 1000)
    (h : ∀ h' t' k, (∀ b o, s.heap.get? b = some o → h'.get? b = some o) → Q (.str (Txt.slice x (some i) none) t') { s with heap := h', toks := k })
    (hs : subscripted slice false (.str x t) (.ref s.heap.objs.size) = operate [.ref s.heap.objs.size, .str x t] (getItem (.str x t) (.ref s.heap.objs.size)) := by with_unfolding_all rfl)
    (ht : ∀ r, letTemporaryGo value (.str x t) r = pure () := by intro _; with_unfolding_all rfl) :
    wpAny (model prog w) A (subscriptTail value slice (.str x t) (.ref s.heap.objs.size)) Q E { s with heap := s.heap.push { cls := .type "slice", data := .fields #[.int i ui, .none, .none] } } :=
  tail_of_ItemOn (SBH.sliceItem_sn (P := fun h => ∀ b o, s.heap.get? b = some o → h.get? b = some o) (fun h ob p b o e => Heap.get?_push_of_some _ (p b o e)) (fun _ _ e => e) h (by rw [sizeLine_eq]; omega)) hs ht
end
end
section
open PySem PySem.W PySem.Calls PySem.Spec PyProof.Rows PyProof.Rows.LCg
set_option maxRecDepth 100000
set_option maxHeartbeats 8000000
set_option linter.unusedVariables false
theorem paired_eq {l l' : List Value} (h : Paired (fun v y => y = v) l l') : l' = l := by
  induction h with
  | nil => rfl
  | cons e _ ih => rw [e, ih]
section
variable {prog : Program} {w : World} {A : Around} {E : Value → Shared → Prop} {s : Shared} {h₀ : Heap} {L : Addr} {m : PySem.Str → Option Value} {env : Env}
/-- the items of a list that pass a test -/
theorem comp1 {iter c : Expr} {x : PySem.Str} {px px2 : Pos} {scope : Scope} {cl : List (PySem.Str × Addr)} {pos : Pos} {Q : Value → Shared → Prop} {l : Addr} {vs : List Value} (p : Value → Bool) (_F : Fr h₀ L s.heap m)
    (hh : A.handled = none) (hclos : closureFor scope env = pure cl) (hcell : ∀ y ∈ scope.names, y.2 ≠ .cell) (hkind : scope.kind = .function)
    (hnames : ∀ y ∈ scope.names, y.2 = .local → scope.names.lookup y.1 = some .local) (hx : scope.names.lookup x = some .local) (hxd : (x == ("__debug__" : PySem.Str)) = false)
    (h : wpAny (model prog w) A (eval iter env) (fun xv s₁ => ∃ news : List (Addr × Obj), xv = .ref l ∧ s₁.heap.IsList l vs.toArray ∧ vs.length ≤ 1000 ∧ Fr h₀ L s₁.heap m ∧ News h₀ L s₁.heap news ∧
      (∀ C v s₂ m₂ E', s₁.heap.objs.size ≤ C → v ∈ vs → s₂.heap.Ns C m₂ → m₂ x = some v → (∀ b o, s₁.heap.get? b = some o → s₂.heap.get? b = some o) →
        wpAny (model prog w) A (isTrue c (compEnvC scope cl C env) (eval c (compEnvC scope cl C env))) (fun ok s₃ => ok = p v ∧ Keeps s₂ s₃) E' s₂) ∧
      (∀ D k h' tk, Fr h₀ L h' m → News h₀ L h' ((D, PySem.W.listOf (vs.filter p).toArray k) :: news) → (∀ p ∈ news, p.1 ≠ D) → Q (.ref D) { s₁ with heap := h', toks := tk })) E s)
    (hs : ∀ x, foldedSetIterable iter env x = pure x) :
    wpAny (model prog w) A (eval (.ListComp (.Name x px2) [⟨.Name x px, iter, [c], 0⟩] scope pos) env) Q E s := by
  refine wpAny_ListComp_free p (fun v y => y = v) hclos hcell hkind hnames hx (wpAny_mono h (fun xv s₁ h₁ => ?_) fun _ _ e => e) hs
  obtain ⟨news, rfl, hl, hsz, F, N, leaf, hQ⟩ := h₁
  have hlt : l < s₁.heap.objs.size := by obtain ⟨_, e, _⟩ := hl; exact Heap.lt_size e
  have up : ∀ (g : Heap), (∀ b o, b ∉ [s₁.heap.objs.size] → (s₁.heap.push { cls := .type "list_iterator", data := .fields #[.ref l, .int 0 0] }).get? b = some o → g.get? b = some o) → ∀ b o, s₁.heap.get? b = some o → g.get? b = some o :=
    fun g hk b o e => hk b o (fun hm => by rw [List.mem_singleton.mp hm] at e; exact Nat.lt_irrefl _ (Heap.lt_size e)) (Heap.get?_push_of_some _ e)
  refine wpAny_pyIter_list hl ⟨s₁.heap.objs.size, [s₁.heap.objs.size, l], [s₁.heap.objs.size], vs.toArray.size, _, _, rfl, Walks.list hh _ _ (Nat.ne_of_lt hlt) vs.toArray, (by rw [List.size_toArray, sizeLine_eq]; omega), ⟨⟨_, Heap.get?_push_size _ rfl, rfl, rfl⟩, hl.push _⟩, ?_, ⟨?_, ?_⟩, ?_⟩
  · intro b hb
    show b < (s₁.heap.push _).objs.size
    rw [Heap.size_push]
    rcases List.mem_cons.mp hb with rfl | hb
    · exact Nat.lt_succ_self _
    · rw [List.mem_singleton.mp hb]; exact Nat.lt_succ_of_lt hlt
  · intro C i v s₃ m₃ E' hC hP hn hm hk _
    refine wpAny_tests_one (leaf C v s₃ m₃ E' ?_ (List.mem_of_getElem? (i := i) (by simpa using hP)) hn hm (up _ hk))
    rw [Heap.size_push] at hC
    exact Nat.le_of_succ_le hC
  · intro C i v s₃ m₃ E' _ hP hp hn hm hk _
    exact name_comp hn hm (by simp [compEnvC, relabel, hkind]) (lookup_relabel_local hx) hxd ⟨rfl, _, _, rfl, fun _ _ e => e⟩
  · intro D h' tk ys vs' hnew hlD hplD hlen hP hF hk
    have e : vs' = vs := by simpa using list_of_places hlen hP
    subst e
    have keep : ∀ b o, s₁.heap.get? b = some o → h'.get? b = some o := up h' hk
    have hys := paired_eq hF
    obtain ⟨k, hk0⟩ := hplD
    rw [show ys = (vs'.filter p).toArray by rw [← hys, Array.toArray_toList]] at hk0
    have hD₀ : h₀.get? D = none := by
      cases e : h₀.get? D with
      | none => rfl
      | some o' => rw [Heap.get?_push_of_some _ (F.keep _ _ e)] at hnew; cases hnew
    have hLD : D ≠ L := fun e => by
      obtain ⟨oL, _, _, ho, _⟩ := F.ns
      rw [e, Heap.get?_push_of_some _ ho] at hnew; cases hnew
    refine hQ D k h' tk (F.keeps keep) (fun q hq => ?_) (fun q hq e => by rw [← e, Heap.get?_push_of_some _ (N q hq).1] at hnew; cases hnew)
    rcases List.mem_cons.mp hq with e | hq
    · rw [e]; exact ⟨hk0, hLD, hD₀⟩
    · exact ⟨keep _ _ (N q hq).1, (N q hq).2⟩
/-- a while by an invariant over the frame's map and the ledger, and a measure -/
theorem while_grow {test : Expr} {body orelse : List Stmt} {pos : Pos} {Q : Flow → Shared → Prop} {m₀ : PySem.Str → Option Value} {news : List (Addr × Obj)} {n₀ : Nat} (J : Nat → (PySem.Str → Option Value) → List (Addr × Obj) → Prop)
    (hE : PassesOwn (model prog w) A env E) (F : Fr h₀ L s.heap m₀) (N : News h₀ L s.heap news) (hj : J n₀ m₀ news)
    (turn : ∀ n m₁ news₁ h tk, J n m₁ news₁ → Fr h₀ L h m₁ → News h₀ L h news₁ →
      wpAny (model prog w) A (isTrue test env (eval test env)) (fun b s₂ => WhlIf b (wpAny (model prog w) A (execs body env) (TurnEnd h₀ L [] (fun m' nx => ∃ k, k < n ∧ J k m' nx) s Q) E s₂) (wpAny (model prog w) A (execs orelse env) Q E s₂)) E { s with heap := h, toks := tk }) :
    wpAny (model prog w) A (exec (.While test body orelse pos) env) Q E s := by
  have key : ∀ (n : Nat) (m₁ : PySem.Str → Option Value) (news₁ : List (Addr × Obj)) (h : Heap) (tk : Nat), J n m₁ news₁ → Fr h₀ L h m₁ → News h₀ L h news₁ → WhlRest prog w A E env test body orelse Q 1 { s with heap := h, toks := tk } := by
    intro n
    induction n using Nat.strongRecOn with
    | ind n ih =>
      intro m₁ news₁ h tk hJ F₁ N₁
      refine whl_turn (k := 0) hE (wpAny_mono (turn n m₁ news₁ h tk hJ F₁ N₁) (fun b s₂ h₂ => ?_) fun _ _ e => e)
      unfold WhlIf at h₂ ⊢
      split
      · rename_i hb
        rw [if_pos hb] at h₂
        refine wpAny_mono h₂ (fun f s₃ h₃ => ?_) fun _ _ e => e
        have fin : (∃ h' tk m' nx, s₃ = { s with heap := h', toks := tk } ∧ Fr h₀ L h' m' ∧ News h₀ L h' ([] ++ nx) ∧ (∀ p ∈ nx, ∀ q ∈ ([] : List (Addr × Obj)), p.1 ≠ q.1) ∧ ∃ k, k < n ∧ J k m' nx) → WhlRest prog w A E env test body orelse Q 0 s₃ := by
          rintro ⟨h', tk', m', nx, rfl, F', N', -, k, hk, hJ'⟩
          exact ih k hk m' nx h' tk' hJ' F' N'
        cases f with
        | next => exact fin h₃
        | cont => exact fin h₃
        | brk => exact h₃
        | ret v => exact h₃
      · rename_i hb
        rw [if_neg hb] at h₂
        exact h₂
  exact whl_start 1 (key n₀ m₀ news s.heap s.toks hj F N)
end
end
section
open PySem PySem.W PySem.Calls PySem.Spec PyProof.Rows
set_option maxRecDepth 100000
set_option maxHeartbeats 8000000
set_option linter.unusedVariables false
theorem encw_len (u : Wd) : (encw u).length = u.length := by simp [encw, PySem.Str.length]
theorem w14_len : (W14.all fun u => decide (1 ≤ u.length) && decide (u.length ≤ 3)) = true := by decide
theorem w14_len' {u : Wd} (hu : u ∈ W14) : 1 ≤ u.length ∧ u.length ≤ 3 := by
  have := mem_all w14_len hu
  simpa only [Bool.and_eq_true, decide_eq_true_eq] using this
theorem w14_ne {u : Wd} (hu : u ∈ W14) : u ≠ [] := fun e => by have := (w14_len' hu).1; rw [e] at this; simp at this
theorem encw_le {u : Wd} (hu : u ∈ W14) : (encw u).length ≤ 100 := by have := w14_len' hu; rw [encw_len]; omega
theorem encw_inj' {u v : Wd} (h : encw u = encw v) : u = v := by
  have h2 : (u.map fun b => if b then 98 else 97) = (v.map fun b => if b then 98 else 97) := by
    have := congrArg (fun s : PySem.Str => s.cps.toList) h
    simpa [encw] using this
  exact (List.map_inj_right (f := fun b : Bool => if b then 98 else 97) (by intro x y; cases x <;> cases y <;> simp)).mp h2
theorem encw_beq (u v : Wd) : (encw u == encw v) = (u == v) := by
  by_cases h : u = v
  · subst h; simp
  · rw [beq_eq_false_iff_ne.mpr h, beq_eq_false_iff_ne.mpr fun e => h (encw_inj' e)]
theorem any_encw' (u : Wd) : ∀ (us : List Wd), (us.map encw).any (· == encw u) = us.contains u
  | [] => rfl
  | v :: r => by
    simp only [List.map_cons, List.any_cons, List.contains_cons, any_encw' u r, encw_beq]
    rw [Bool.beq_comm]
theorem start_all : (W14.all fun a => W14.all fun b => Txt.startswith (encw a) (encw b) == b.isPrefixOf a && (Txt.slice (encw a) (some ((encw b).length : Int)) none == encw (a.drop b.length))) = true := by decide +kernel
theorem start_encw {a b : Wd} (ha : a ∈ W14) (hb : b ∈ W14) : Txt.startswith (encw a) (encw b) = b.isPrefixOf a := by
  have := List.all_eq_true.mp (mem_all start_all ha) b hb
  simp only [Bool.and_eq_true, beq_iff_eq] at this
  exact this.1
theorem slice_encw {a b : Wd} (ha : a ∈ W14) (hb : b ∈ W14) : Txt.slice (encw a) (some ((encw b).length : Int)) none = encw (a.drop b.length) := by
  have := List.all_eq_true.mp (mem_all start_all ha) b hb
  simp only [Bool.and_eq_true, beq_iff_eq] at this
  exact this.2

/-- the rounds from the front, in plain -/
noncomputable def fpieces (us : List Wd) : List Wd := us.flatMap fun a => (us.filter fun b => a != b && b.isPrefixOf a).map fun b => a.drop b.length
noncomputable def rest1 (p w : Wd) : Wd := if w.isPrefixOf p then p.drop w.length else if p.isPrefixOf w then w.drop p.length else []
noncomputable def flaterIn (seen : List Wd) (p : Wd) (later : List Wd) (w : Wd) : List Wd := if (seen ++ later).contains (rest1 p w) then later else later ++ [rest1 p w]
noncomputable def flaterOut (us seen : List Wd) (later : List Wd) (p : Wd) : List Wd := us.foldl (flaterIn seen p) later
noncomputable def flater (us seen ps : List Wd) : List Wd := ps.foldl (flaterOut us seen) []
noncomputable def fewR (us : List Wd) : Nat → List Wd → List Wd → Nat → Nat
  | 0, _, _, _ => 0
  | f + 1, ps, seen, n => if ps = [] then 0 else if ps.any us.contains then n else fewR us f (flater us (seen ++ ps) ps) (seen ++ ps) (n + 1)
noncomputable def fewest (us : List Wd) : Nat := fewR us 16 (fpieces us) [[]] 3
noncomputable def left (seen : List Wd) : Nat := (W14.filter fun w => !seen.contains w).length

theorem rest1_all : (W14.all fun p => W14.all fun w => rest1 p w == [] || W14.contains (rest1 p w)) = true := by decide +kernel
theorem rest1_in {p w : Wd} (hp : p ∈ W14) (hw : w ∈ W14) : rest1 p w = [] ∨ rest1 p w ∈ W14 := by
  have := List.all_eq_true.mp (mem_all rest1_all hp) w hw
  simpa only [Bool.or_eq_true, beq_iff_eq, List.contains_iff_mem] using this
theorem piece_all : (W14.all fun a => W14.all fun b => !(a != b && b.isPrefixOf a) || W14.contains (a.drop b.length)) = true := by decide +kernel
theorem fpieces_in {us : List Wd} (hW : ∀ u ∈ us, u ∈ W14) : ∀ p ∈ fpieces us, p ∈ W14 := by
  intro p hp
  unfold fpieces at hp
  simp only [List.mem_flatMap, List.mem_map, List.mem_filter] at hp
  obtain ⟨a, ha, b, ⟨hb, hc⟩, rfl⟩ := hp
  have := List.all_eq_true.mp (mem_all piece_all (hW a ha)) b (hW b hb)
  rw [hc] at this
  simpa using this
theorem fpieces_len {us : List Wd} (hn : us.length ≤ 4) : (fpieces us).length ≤ 16 := by
  have key : ∀ (l : List Wd), (l.flatMap fun a => (us.filter fun b => a != b && b.isPrefixOf a).map fun b => a.drop b.length).length ≤ l.length * us.length := by
    intro l
    induction l with
    | nil => simp
    | cons a r ih =>
      rw [List.flatMap_cons, List.length_append, List.length_map, List.length_cons, Nat.succ_mul]
      have := List.length_filter_le (fun b => a != b && b.isPrefixOf a) us
      omega
  have := key us
  have h2 : us.length * us.length ≤ 4 * 4 := Nat.mul_le_mul hn hn
  unfold fpieces
  omega

structure GoodF (ps seen : List Wd) : Prop where
  ps : ∀ p ∈ ps, p ∈ W14 ∧ p ∉ seen
  nil : [] ∈ seen
theorem GoodF.first {us : List Wd} (hW : ∀ u ∈ us, u ∈ W14) : GoodF (fpieces us) [[]] :=
  ⟨fun p hp => ⟨fpieces_in hW p hp, fun h => w14_ne (fpieces_in hW p hp) (List.mem_singleton.mp h)⟩, .head _⟩
/-- what stands in later -/
structure GoodL (seen later : List Wd) : Prop where
  mem : ∀ p ∈ later, p ∈ W14 ∧ p ∉ seen
  nodup : later.Nodup
theorem GoodL.nil {seen : List Wd} : GoodL seen [] := ⟨fun _ h => (nomatch h), .nil⟩
theorem GoodL.len {seen later : List Wd} (h : GoodL seen later) : later.length ≤ 14 := nodup_len later W14 h.nodup fun x hx => (h.mem x hx).1
theorem GoodL.step {seen later : List Wd} {p w : Wd} (h : GoodL seen later) (hn : [] ∈ seen) (hp : p ∈ W14) (hw : w ∈ W14) : GoodL seen (flaterIn seen p later w) := by
  unfold flaterIn
  split
  · exact h
  · rename_i hc
    have hc' : rest1 p w ∉ seen ++ later := fun e => hc (List.contains_iff_mem.mpr e)
    have h1 : rest1 p w ∉ seen := fun e => hc' (List.mem_append_left _ e)
    have h2 : rest1 p w ∉ later := fun e => hc' (List.mem_append_right _ e)
    refine ⟨fun q hq => ?_, List.nodup_append.mpr ⟨h.nodup, by simp, fun a ha b hb e => h2 (by rw [← List.mem_singleton.mp hb, ← e]; exact ha)⟩⟩
    rcases List.mem_append.mp hq with q1 | q1
    · exact h.mem q q1
    · rw [List.mem_singleton.mp q1]
      exact ⟨(rest1_in hp hw).resolve_left fun e => h1 (e ▸ hn), h1⟩
theorem GoodL.inner {seen : List Wd} {p : Wd} (hn : [] ∈ seen) (hp : p ∈ W14) : ∀ (us : List Wd) {later : List Wd}, (∀ u ∈ us, u ∈ W14) → GoodL seen later → GoodL seen (us.foldl (flaterIn seen p) later)
  | [], _, _, h => h
  | u :: us, _, hW, h => GoodL.inner hn hp us (fun x hx => hW x (.tail _ hx)) (h.step hn hp (hW u (.head _)))
theorem GoodL.outer {seen us : List Wd} (hn : [] ∈ seen) (hW : ∀ u ∈ us, u ∈ W14) : ∀ (ps : List Wd) {later : List Wd}, (∀ p ∈ ps, p ∈ W14) → GoodL seen later → GoodL seen (ps.foldl (flaterOut us seen) later)
  | [], _, _, h => h
  | p :: ps, _, hP, h => GoodL.outer hn hW ps (fun x hx => hP x (.tail _ hx)) (GoodL.inner hn (hP p (.head _)) us hW h)
theorem GoodF.next {us ps seen : List Wd} (h : GoodF ps seen) (hW : ∀ u ∈ us, u ∈ W14) : GoodF (flater us (seen ++ ps) ps) (seen ++ ps) := by
  have hn : [] ∈ seen ++ ps := List.mem_append_left _ h.nil
  exact ⟨(GoodL.outer hn hW ps (fun p hp => (h.ps p hp).1) .nil).mem, hn⟩
theorem left_first : left [[]] = 14 := by decide
theorem left_next {ps seen : List Wd} (h : GoodF ps seen) (hp : ps ≠ []) : left (seen ++ ps) < left seen := by
  obtain ⟨p, r, rfl⟩ := List.exists_cons_of_ne_nil hp
  have hpp := h.ps p (.head _)
  unfold left
  have key : ∀ l : List Wd, (l.filter fun w => !(seen ++ p :: r).contains w).length ≤ (l.filter fun w => !seen.contains w).length ∧ (p ∈ l → (l.filter fun w => !(seen ++ p :: r).contains w).length < (l.filter fun w => !seen.contains w).length) := by
    intro l
    induction l with
    | nil => simp
    | cons a l ih =>
      have ha : (seen ++ p :: r).contains a = false → seen.contains a = false := fun e => by
        rw [← Bool.not_eq_true, List.contains_iff_mem] at e ⊢
        exact fun h => e (List.mem_append_left _ h)
      by_cases e : a = p
      · subst e
        have e1 : (seen ++ a :: r).contains a = true := List.contains_iff_mem.mpr (List.mem_append_right _ (.head _))
        have e2 : seen.contains a = false := by rw [← Bool.not_eq_true, List.contains_iff_mem]; exact hpp.2
        simp only [List.filter_cons, e1, e2, Bool.not_true, Bool.not_false, if_true, if_false, Bool.false_eq_true, List.length_cons]
        exact ⟨by omega, fun _ => by omega⟩
      · have hm : p ∈ a :: l ↔ p ∈ l := by simp [Ne.symm e]
        rw [hm]
        simp only [List.filter_cons]
        cases e1 : (seen ++ p :: r).contains a with
        | true =>
          cases e2 : seen.contains a with
          | true => simpa using ih
          | false => simp only [Bool.not_true, Bool.not_false, if_true, if_false, Bool.false_eq_true, List.length_cons]; exact ⟨by omega, fun h => by omega⟩
        | false =>
          rw [ha e1]
          simp only [Bool.not_false, if_true, List.length_cons]
          exact ⟨by omega, fun h => by have := ih.2 h; omega⟩
  exact (key W14).2 hpp.1
end
section
open PySem PySem.W PySem.Calls PySem.Spec PyProof.Rows PyProof.V
set_option maxRecDepth 100000
set_option maxHeartbeats 8000000
set_option linter.unusedVariables false
theorem es_can : ∀ ns : List PySem.Str, (∀ x ∈ ns, PyData.strOk x = true) → PyData.canLayAll0 (ns.map PyData.str) = true
  | [], _ => rfl
  | a :: r, h => by simp [PyData.canLayAll0, PyData.canLay0, h a (.head _), es_can r fun x hx => h x (.tail _ hx)]
theorem es_depth : ∀ ns : List PySem.Str, PyData.depthAll (ns.map PyData.str) = 0
  | [] => rfl
  | _ :: r => by simp [PyData.depthAll, PyData.depth, es_depth r]
theorem es_shaped (ns : List PySem.Str) (h : ∀ x ∈ ns, PyData.strOk x = true) : SeqAt.shaped (.list (ns.map PyData.str)) = true := by simp [SeqAt.shaped, PyData.canLay0, PyData.depth, es_can ns h, es_depth]
theorem es_all : ∀ ns ms : List PySem.Str, PySem.Spec.sameAll (ns.map PyData.str) (ms.map PyData.str) = decide (ns = ms)
  | [], [] => by simp [PySem.Spec.sameAll]
  | [], _ :: _ => by simp [PySem.Spec.sameAll]
  | _ :: _, [] => by simp [PySem.Spec.sameAll]
  | a :: r, b :: t => by
    simp only [List.map_cons, PySem.Spec.sameAll, PySem.Spec.same, es_all r t]
    by_cases h : a = b <;> by_cases h' : r = t <;> simp [h, h']
theorem es_same (ns ms : List PySem.Str) : PySem.Spec.same (.list (ns.map PyData.str)) (.list (ms.map PyData.str)) = decide (ns = ms) := by simp only [PySem.Spec.same]; exact es_all ns ms
theorem es_carried : ∀ {vs : List Value} {ns : List PySem.Str}, StrsAre vs ns → CarriedAll vs (ns.map PyData.str)
  | _, _, .nil => .nil
  | _, _, .cons _ t r => .cons (.str _ t) (es_carried r)
section
variable {prog : Program} {w : World} {A : Around} {E : Value → Shared → Prop} {s : Shared} {a b : Addr} {xs ys : List Value} {ns ms : List PySem.Str} {Q : Value → Shared → Prop}
theorem eq_strs (ha : s.heap.IsList a xs.toArray) (hb : s.heap.IsList b ys.toArray) (hi : StrsAre xs ns) (hj : StrsAre ys ms) (ok1 : ∀ x ∈ ns, PyData.strOk x = true) (ok2 : ∀ x ∈ ms, PyData.strOk x = true) (hu : A.units + 64 < cLine) (h : Q (.bool (decide (ns = ms))) s) :
    wpAny (model prog w) A (compareOp .Eq (.ref a) (.ref b)) Q E s :=
  eq_dataH_same (reads_newData ha (es_carried hi)) (reads_newData hb (es_carried hj)) (es_shaped _ ok1) (es_shaped _ ok2) hu (SeqAt.noMix_of_shape (.list .str) rfl _ _ (list_map_has fun _ => rfl) (list_map_has fun _ => rfl)) (by rw [es_same]; exact h)
theorem ne_strs (ha : s.heap.IsList a xs.toArray) (hb : s.heap.IsList b ys.toArray) (hi : StrsAre xs ns) (hj : StrsAre ys ms) (ok1 : ∀ x ∈ ns, PyData.strOk x = true) (ok2 : ∀ x ∈ ms, PyData.strOk x = true) (hu : A.units + 64 < cLine) (h : Q (.bool (!decide (ns = ms))) s) :
    wpAny (model prog w) A (compareOp .NotEq (.ref a) (.ref b)) Q E s :=
  ne_dataH_same (reads_newData ha (es_carried hi)) (reads_newData hb (es_carried hj)) (es_shaped _ ok1) (es_shaped _ ok2) hu (SeqAt.noMix_of_shape (.list .str) rfl _ _ (list_map_has fun _ => rfl) (list_map_has fun _ => rfl)) (by rw [es_same]; exact h)
theorem truthy_vals {l : Addr} {vs : List Value} {Q : Bool → Shared → Prop} (hl : s.heap.IsList l vs.toArray) (hz : vs.length ≤ 1000) (h : ∀ k, Q (!vs.isEmpty) { s with toks := k }) : wpAny (model prog w) A (truthy (.ref l)) Q E s := by
  refine wpAny_truthy_list hl (by rw [List.size_toArray]; omega) ?_
  have e : vs.toArray.isEmpty = vs.isEmpty := by cases vs <;> simp
  rw [e]
  exact h _
end
end
local macro_rules | `(tactic| walk_at "own 4") => `(tactic| (k_here; (with_reducible show wpAny _ _ (eval (Expr.Name _ _) (envOfC _ _ _ _ _)) _ _ _); k_dflt (first
  | (refine' nameX_C ?N ?c ?m ?d ?_ ?a ?b; (case a | b => rfl); (case N => k_asm); (case c => rfl); (case m => k_mem); (case d => k_asm); k_whole)
  | (refine' nameX_L ?F ?v ?_ ?a ?b; (case F => k_asm); (case a | b | v => rfl); k_whole))))
local macro_rules | `(tactic| walk_at "own 5") => `(tactic| (k_here; (with_reducible show wpAny _ _ (eval (Expr.Name _ _) (compEnvC _ _ _ _)) _ _ _); k_dflt (refine' nameG_B ?F ?X ?T ?e ?v ?n ?_ ?k ?x ?d; (case F | X | T => k_asm); (case k | x => rfl); (case d => decide); (case e => k_is); (case v => boot_fast); (case n => decide); k_whole)))
local macro_rules | `(tactic| walk_at "own 6") => `(tactic| (k_here; (with_reducible show wpAny _ _ (eval (Expr.Name _ _) (compEnvC _ _ _ _)) _ _ _); k_dflt (refine' name_comp ?hn ?hm ?hk ?hx ?hb ?_; (case hn | hm => assumption); (case hk | hx => exact rfl); (case hb => decide))))
section
open PySem PySem.W PySem.Calls PySem.Spec PyProof.Rows
set_option maxRecDepth 100000
set_option maxHeartbeats 8000000
set_option linter.unusedVariables false
theorem fresh_E14 : True := by
  w_top off
  trivial
noncomputable def pV (v u : Value) : Bool := match v, u with | .str a _, .str b _ => (a != b) && Txt.startswith a b | _, _ => false
theorem filter_strs (q : Value → Bool) (g : Value → PyData) (q' : Wd → Bool) (g' : Wd → Wd) : ∀ {vs : List Value} {us : List Wd}, StrsAre vs (us.map encw) → (∀ b t, b ∈ us → q (.str (encw b) t) = q' b ∧ g (.str (encw b) t) = .str (encw (g' b))) → (vs.filter q).map g = (((us.filter q').map g').map encw).map PyData.str
  | [], [], _, _ => rfl
  | _, u :: us, .cons _ t h, hq => by
    have ih := filter_strs q g q' g' h fun b t hb => hq b t (.tail _ hb)
    have h1 := hq u t (.head _)
    rw [List.filter_cons, List.filter_cons, h1.1]
    split
    · simp only [List.map_cons, ih, h1.2]
    · exact ih
noncomputable def fV (v u : Value) : PyData := match v, u with | .str a _, .str b _ => .str (Txt.slice a (some (b.length : Int)) none) | _, _ => .none
theorem pieces_carried {us : List Wd} (hW : ∀ u ∈ us, u ∈ W14) {vs : List Value} (hi : StrsAre vs (us.map encw)) : (vs.flatMap fun v => (vs.filter (pV v)).map (fV v)) = ((fpieces us).map encw).map PyData.str := by
  have key : ∀ {ws : List Value} {l : List Wd}, StrsAre ws (l.map encw) → (∀ a ∈ l, a ∈ W14) → (ws.flatMap fun v => (vs.filter (pV v)).map (fV v)) = ((l.flatMap fun a => (us.filter fun b => a != b && b.isPrefixOf a).map fun b => a.drop b.length).map encw).map PyData.str := by
    intro ws l h
    generalize hl : l.map encw = xs at h
    induction h generalizing l with
    | nil =>
      cases l with
      | nil => intro _; rfl
      | cons a r => cases hl
    | cons x t h ih =>
      cases l with
      | nil => cases hl
      | cons a r =>
        intro hl'
        simp only [List.map_cons, List.cons.injEq] at hl
        obtain ⟨rfl, hl⟩ := hl
        rw [List.flatMap_cons, List.flatMap_cons, ih hl fun b hb => hl' b (.tail _ hb), List.map_append, List.map_append]
        congr 1
        refine filter_strs _ _ _ _ hi fun b t' hb => ⟨?_, ?_⟩
        · show ((encw a != encw b) && Txt.startswith (encw a) (encw b)) = _
          rw [start_encw (hl' a (.head _)) (hW b hb), bne, encw_beq]
          rfl
        · show PyData.str _ = _
          rw [slice_encw (hl' a (.head _)) (hW b hb)]
  exact key hi hW
inductive JFew (us : List Wd) (target : Nat) (wc : Addr) (o' : Obj) (n : Nat) (m : PySem.Str → Option Value) (nx : List (Addr × Obj)) : Prop
  | mk (P S : Addr) (vp vS : List Value) (kp ks cnt : Nat) (tk : Tok) (ps seen : List Wd) (f : Nat) (h1 : nx = [(P, PySem.W.listOf vp.toArray kp), (S, PySem.W.listOf vS.toArray ks), (wc, o')]) (h2 : m (Str.ofString "pieces") = some (.ref P)) (h3 : m (Str.ofString "seen") = some (.ref S)) (h4 : m (Str.ofString "count") = some (.int (cnt : Int) tk)) (h5 : StrsAre vp (ps.map encw)) (h6 : StrsAre vS (seen.map encw)) (h7 : GoodF ps seen) (h8 : n = left seen) (h9 : left seen < f) (h10 : fewR us f ps seen cnt = target) (h11 : ps.length ≤ 16) (h12 : seen.length + 16 * left seen ≤ 225) (h13 : cnt + left seen ≤ 17) (h14 : @Ne Nat P wc) :
    JFew us target wc o' n m nx
theorem encw_nil : encw [] = Str.ofString "" := by decide +kernel
theorem seen0 (t : Tok) : StrsAre [Value.str (Str.ofString "") t] ([[]].map encw) := by
  show StrsAre _ [encw []]
  rw [encw_nil]
  exact .cons _ _ .nil
theorem swap12 {g h : Heap} {L : Addr} {a b : Addr × Obj} {r : List (Addr × Obj)} (N : News g L h (a :: b :: r)) : News g L h (b :: a :: r) := fun p hp => N p (by
  rcases List.mem_cons.mp hp with e | hp
  · rw [e]; exact .tail _ (.head _)
  rcases List.mem_cons.mp hp with e | hp
  · rw [e]; exact .head _
  · exact .tail _ (.tail _ hp))
theorem encw_ok (u : Wd) : PyData.strOk (encw u) = true := by
  simp only [PyData.strOk, encw, Array.all_eq_true']
  intro x hx
  simp only [List.mem_toArray, List.mem_map] at hx
  obtain ⟨b, -, rfl⟩ := hx
  cases b <;> decide
theorem encw_oks (l : List Wd) : ∀ x ∈ l.map encw, PyData.strOk x = true := by
  intro x hx
  obtain ⟨u, -, rfl⟩ := List.mem_map.mp hx
  exact encw_ok u
noncomputable def inV (us : List Wd) (v : Value) : Bool := match v with | .str x _ => (us.map encw).any (· == x) | _ => false
theorem inV_filter (us : List Wd) : ∀ {vs : List Value} {ps : List Wd}, StrsAre vs (ps.map encw) → StrsAre (vs.filter (inV us)) ((ps.filter us.contains).map encw)
  | [], [], _ => .nil
  | _, p :: ps, .cons _ t h => by
    have e : inV us (.str (encw p) t) = us.contains p := any_encw' p us
    rw [List.filter_cons, List.filter_cons, e]
    split
    · exact .cons _ t (inV_filter us h)
    · exact inV_filter us h
theorem rest_1 {p w : Wd} (hp : p ∈ W14) (hw : w ∈ W14) (h : Txt.startswith (encw p) (encw w) = true) : Txt.slice (encw p) (some ((encw w).length : Int)) none = encw (rest1 p w) := by
  rw [start_encw hp hw] at h
  rw [slice_encw hp hw, rest1, if_pos h]
theorem rest_2 {p w : Wd} (hp : p ∈ W14) (hw : w ∈ W14) (h : Txt.startswith (encw p) (encw w) = false) (h2 : Txt.startswith (encw w) (encw p) = true) : Txt.slice (encw w) (some ((encw p).length : Int)) none = encw (rest1 p w) := by
  rw [start_encw hp hw] at h
  rw [start_encw hw hp] at h2
  rw [slice_encw hw hp, rest1, if_neg (by rw [h]; decide), if_pos h2]
theorem rest_3 {p w : Wd} (hp : p ∈ W14) (hw : w ∈ W14) (h : Txt.startswith (encw p) (encw w) = false) (h2 : Txt.startswith (encw w) (encw p) = false) : Str.ofString "" = encw (rest1 p w) := by
  rw [start_encw hp hw] at h
  rw [start_encw hw hp] at h2
  rw [rest1, if_neg (by rw [h]; decide), if_neg (by rw [h2]; decide), encw_nil]
inductive JLat (m₀ : PySem.Str → Option Value) (keep : PySem.Str → Prop) (fx : List (Addr × Obj)) (La S wc : Addr) (sv : List Value) (k0 : Nat) (o' : Obj) (later : List Wd) (m : PySem.Str → Option Value) (nx : List (Addr × Obj)) : Prop
  | mk (h1 : ∀ z, keep z → m z = m₀ z) (vL : List Value) (kl : Nat) (h2 : nx = fx ++ [(La, PySem.W.listOf vL.toArray kl), (S, PySem.W.listOf sv.toArray k0), (wc, o')]) (h3 : StrsAre vL (later.map encw)) :
    JLat m₀ keep fx La S wc sv k0 o' later m nx
theorem mem3 {a b c : Addr × Obj} {l : List (Addr × Obj)} (h1 : a ∈ l) (h2 : b ∈ l) (h3 : c ∈ l) : ∀ p ∈ [a, b, c], p ∈ l := by
  intro p hp
  rcases List.mem_cons.mp hp with e | hp
  · rw [e]; exact h1
  rcases List.mem_cons.mp hp with e | hp
  · rw [e]; exact h2
  · rw [List.mem_singleton.mp hp]; exact h3
theorem name_obj {g : Heap} {L : Addr} {h : Heap} {a : Addr} {o : Obj} {r : List (Addr × Obj)} (_N : News g L h ((a, o) :: r)) : ∃ x : Obj, x = o := ⟨o, rfl⟩
theorem drop1 {g h : Heap} {L : Addr} {a : Addr × Obj} {r : List (Addr × Obj)} (N : News g L h (a :: r)) : News g L h r := fun p hp => N p (.tail _ hp)
theorem know3 {m : PySem.Str → Option Value} {a b c : PySem.Str} {x y z : Value} (h1 : m a = some x) (h2 : m b = some y) (h3 : m c = some z) : m = fun s => if s = a then some x else if s = b then some y else if s = c then some z else m s := by
  funext s
  by_cases e1 : s = a
  · rw [if_pos e1, e1, h1]
  by_cases e2 : s = b
  · rw [if_neg e1, if_pos e2, e2, h2]
  by_cases e3 : s = c
  · rw [if_neg e1, if_neg e2, if_pos e3, e3, h3]
  · rw [if_neg e1, if_neg e2, if_neg e3]

local macro_rules | `(tactic| walk_at "subscriptTail Name Slice str ref") => `(tactic| (k_here; refine stop_ ?_))
local macro_rules | `(tactic| walk_at "eval Name") => `(tactic| walk_at "own 4")
local macro_rules | `(tactic| walk_at "eval Name") => `(tactic| walk_at "own 5")
local macro_rules | `(tactic| walk_at "eval Name") => `(tactic| walk_at "own 6")
local macro_rules | `(tactic| walk_at "eval ListComp") => `(tactic| (k_here; refine stop_ ?_))
local macro_rules | `(tactic| walk_at "exec Assign cons ListComp") => `(tactic| (k_here; refine stop_ ?_))
local macro_rules | `(tactic| walk_at "truthy ref") => `(tactic| (k_here; refine stop_ ?_))
local macro_rules | `(tactic| walk_at "compareOp NotIn str ref") => `(tactic| (k_here; refine stop_ ?_))
local macro_rules | `(tactic| walk_at "compareOp In str ref") => `(tactic| (k_here; refine stop_ ?_))
local macro_rules | `(tactic| walk_at "compareOp NotEq ref ref") => `(tactic| (k_here; refine stop_ ?_))
local macro_rules | `(tactic| walk_at "binaryOp Add ref ref") => `(tactic| (k_here; refine stop_ ?_))
local macro_rules | `(tactic| walk_at "call builtin:list.append") => `(tactic| (k_here; refine stop_ ?_))
local macro_rules | `(tactic| walk_at "WhlIf") => `(tactic| (k_here; refine stop_ ?_))
local macro_rules | `(tactic| walk_at "exec While") => `(tactic| (k_here; refine stop_ ?_))
local macro_rules | `(tactic| walk_at "pyIter ref") => `(tactic| (k_here; refine stop_ ?_))
local macro_rules | `(tactic| walk_at "TurnEnd") => `(tactic| (k_here; refine stop_ ?_))
local macro_rules | `(tactic| walk_at "Exists") => `(tactic| (k_here; refine stop_ ?_))
local macro_rules | `(tactic| walk_at "exec For Name Name cons nil") => `(tactic| walk_at "own 3")
theorem fewest_spec {w : World} {l : Addr} {vs : List Value} {us : List Wd} (hn : us.length ≤ 4) (hi : StrsAre vs (us.map encw)) (hW : ∀ u ∈ us, u ∈ W14) :
    Spec w 450 450 116 [.ref l] (fun h => h.IsList l vs.toArray) (fun _ v => ∃ t, v = .int (fewest us : Int) t) := by
  have _k : PySem.Challenge.rw_wn0042_01 = PySem.Challenge.rw_wn0042_01 ∧ hd.heap_39 = hd.heap_39 := ⟨rfl, rfl⟩
  revert _k
  k_fill
  intro _
  refine' Spec.ofC (binds := [(Str.ofString "words", .ref l)]) ?a1 ?a2 ?a3 ?a4 ?a5 ?a6 ?a7 ?a8 ?a9 ?_
  case a1 => k_is
  case a2 => k_is
  case a3 => decide
  case a4 => exact fun _ => BindsTo.of_eq rfl
  case a5 => exact rfl
  case a6 => decide +kernel
  case a7 => rfl
  case a8 => rfl
  case a9 => rfl
  intro loose mean mg mb outer gd A base g L' h₁ tk cells s Q F N Y B X T pre ret
  k_cells Y
  skip
  (try dsimp only)
  show wpAny _ _ _ _ _ _
  k_fold
  obtain ⟨o', ho'⟩ := name_obj N
  subst ho'
  rename (Obj.data _ = _) => d1
  replace d1 : _ = Data.cell (some (Value.ref l)) := d1
  k_steps
  unfold Stop
  rename Fr _ _ _ _ => F1
  rename News _ _ _ _ => N1
  refine' comp2 (h₀ := g) (L := L') (l := l) (vs := vs) pV fV ?hsw ?hL ?hz ?hzp ?hh ?hclos ?hcell ?hkind ?hnames ?hx ?hy ?hxy ?h ?hs ?hs2
  case hsw => with_unfolding_all rfl
  case hL => exact rfl
  case hz => exact rfl
  case hzp => exact rfl
  case hh => exact rfl
  case hclos => with_unfolding_all rfl
  case hcell => decide
  case hkind => exact rfl
  case hnames => decide
  case hx => exact rfl
  case hy => exact rfl
  case hxy => decide
  case hs => intro _; with_unfolding_all rfl
  case hs2 => intro _ _; with_unfolding_all rfl
  case h =>
    refine' nameX_C N1 rfl (.head _) d1 ?_ rfl rfl
    rename Fr _ _ _ _ => F2
    rename News _ _ _ _ => N2
    have hvs : vs.length = us.length := by rw [hi.len_eq, List.length_map]
    refine' ⟨_, rfl, pre.at fun o e => F2.keep l o e, by omega, F2, N2, ?l1, ?l2, ?l3, ?fin⟩
    case l1 =>
      intro C v s₂ m₂ E' hC hv hn2 hm2 hk2
      have N3 : News g L' s₂.heap _ := fun p hp => ⟨hk2 _ _ (N2 p hp).1, (N2 p hp).2⟩
      refine kcf_cell N3 rfl (.head _) (by assumption) ?_
      exact ⟨rfl, _, _, rfl, fun _ _ e => e⟩
    case l2 =>
      intro C v u s₂ m₂ E' hC hv hu hn2 hm2 hm3 hk2
      obtain ⟨i1, hv⟩ := List.mem_iff_getElem?.mp hv
      obtain ⟨i2, hu⟩ := List.mem_iff_getElem?.mp hu
      obtain ⟨a, ta, ha, rfl⟩ := strs_at encw hi hv
      obtain ⟨b, tb, hb, rfl⟩ := strs_at encw hi hu
      clear hv hu hC
      k_steps
      all_goals first | exact ⟨_, _, rfl, fun _ _ e => e⟩ | simp_all [pV]
    case l3 =>
      intro C v u s₂ m₂ E' hC hv hu hpv hn2 hm2 hm3 hk2
      obtain ⟨i1, hv⟩ := List.mem_iff_getElem?.mp hv
      obtain ⟨i2, hu⟩ := List.mem_iff_getElem?.mp hu
      obtain ⟨a, ta, ha, rfl⟩ := strs_at encw hi hv
      obtain ⟨b, tb, hb, rfl⟩ := strs_at encw hi hu
      clear hv hu hC
      have hal := encw_le (hW a (List.mem_of_getElem? ha))
      have hbl := encw_le (hW b (List.mem_of_getElem? hb))
      k_compLift
      (try k_unmd)
      (try k_fold)
      k_steps
      unfold Stop
      refine' slice_keep (by omega) ?_
      intro h' t' k hk
      k_steps
      all_goals first | exact .str _ _ | exact ⟨_, _, rfl, hk⟩
    case fin =>
      intro D ys k h' tk F' N' l1 hys
      have hysS := StrsAre.of_carried (ys := (fpieces us).map encw) (by rw [← pieces_carried hW hi]; exact hys)
      clear hys
      k_steps
      unfold Stop
      rename Fr _ _ _ _ => F3
      rename News _ _ _ _ => N3
      refine' while_grow (L := L') (JFew us (fewest us) (L' + 1) _) (by passes_own) F3 (swap12 N3) ⟨D, _, ys, [_], k, 0, 3, _, fpieces us, [[]], 16, rfl, rfl, rfl, rfl, hysS, seen0 _, GoodF.first hW, rfl, (by rw [left_first]; decide), rfl, fpieces_len hn, (by rw [left_first]; decide), (by rw [left_first]; decide), Nat.ne_of_gt (l1 _ (.head _))⟩ ?turn
      case turn =>
        clear F3 N3 hysS
        intro n m₁ news₁ h tk hJ F N
        obtain ⟨P, S, vp, vS, kp, ks, cnt, tc, ps, seen, f, rfl, hm1, hm2, hm3, hsp, hsS, hgood, rfl, hf, htar, hlp, hls, hlc, hPw⟩ := hJ
        rw [know3 hm1 hm2 hm3] at F
        clear hm1 hm2 hm3
        show wpAny _ _ _ _ _ _
        obtain ⟨f, rfl⟩ : ∃ f', f = f' + 1 := ⟨f - 1, by omega⟩
        cases ps with
        | nil =>
          cases hsp
          have ht : fewest us = 0 := htar.symm.trans (by simp [fewR])
          k_steps
          unfold Stop
          refine' truthy_vals (vs := []) (N.isList (.head _)) (by simp) ?_
          intro tk2
          k_steps
          (try unfold Stop)
          refine WhlIf.no rfl ?_
          k_steps
          exact ret _ _ _ _ _ F N ⟨_, by rw [ht]; rfl⟩
        | cons p0 pr =>
          obtain ⟨v0, vr, rfl⟩ : ∃ v0 vr, vp = v0 :: vr := by cases hsp; exact ⟨_, _, rfl⟩
          have hvl := hsp.len_eq
          rw [List.length_map] at hvl
          k_steps
          unfold Stop
          refine' truthy_vals (vs := v0 :: vr) (N.isList (.head _)) (by omega) ?_
          intro tk2
          k_steps
          (try unfold Stop)
          refine WhlIf.yes rfl ?_
          generalize v0 :: vr = vp at *
          k_steps
          unfold Stop
          rename Fr _ _ _ _ => F3
          refine' comp1 (h₀ := g) (L := L') (l := P) (vs := vp) (inV us) F3 ?hh ?hclos ?hcell ?hkind ?hnames ?hx ?hxd ?h ?hs
          case hh => exact rfl
          case hclos => with_unfolding_all rfl
          case hcell => decide
          case hkind => exact rfl
          case hnames => decide
          case hx => exact rfl
          case hxd => decide
          case hs => intro _; with_unfolding_all rfl
          case h =>
            k_steps
            unfold Stop
            rename Fr _ _ _ _ => F4
            rename News _ _ _ _ => N4
            refine' ⟨_, rfl, N4.isList (.head _), by omega, F4, N4, ?leaf, ?fin⟩
            case leaf =>
              intro C v s₂ m₂ E' hC hv hn2 hm2 hk2
              obtain ⟨i1, hv⟩ := List.mem_iff_getElem?.mp hv
              obtain ⟨a, ta, ha, rfl⟩ := strs_at encw hsp hv
              have N5 : News g L' s₂.heap _ := fun p hp => ⟨hk2 _ _ (N4 p hp).1, (N4 p hp).2⟩
              have pre2 : s₂.heap.IsList l vs.toArray := pre.at fun o e => hk2 _ _ (F4.keep l o e)
              clear F4 N4
              k_steps
              unfold Stop
              refine' in_list_strs pre2 hi ?_
              k_steps
              all_goals first | exact ⟨_, _, rfl, fun _ _ e => e⟩ | exact rfl
            case fin =>
              clear F4 N4
              intro D2 k2 h' tk F' N' l1
              have hD2 := N' _ (.head _)
              k_steps
              unfold Stop
              rename Fr _ _ _ _ => F5
              rename News _ _ _ _ => N5
              refine' ne_strs (ms := []) (N5.isList (a := D2) (by k_mem)) (N5.isList (List.mem_cons_self ..)) (inV_filter us hsp) .nil (encw_oks _) (fun _ h => (nomatch h)) (by first | units_room | exact Nat.le_of_ble_eq_true rfl) ?_
              cases hany : (p0 :: pr).any us.contains with
              | true =>
                have hne : decide (((p0 :: pr).filter us.contains).map encw = []) = false := by
                  rw [decide_eq_false_iff_not, List.map_eq_nil_iff, List.filter_eq_nil_iff]
                  intro h
                  obtain ⟨x, hx, hc⟩ := List.any_eq_true.mp hany
                  exact h x hx hc
                have ht : fewest us = cnt := htar.symm.trans (by rw [fewR, if_neg (by simp), hany, if_pos rfl])
                rw [hne]
                k_steps
                unfold Stop
                rename Fr _ _ _ _ => F6
                rename News _ _ _ _ => N6
                exact ret _ _ _ _ _ F6 N6 ⟨_, by rw [ht]⟩
              | false =>
                have hne : decide (((p0 :: pr).filter us.contains).map encw = []) = true := by
                  rw [decide_eq_true_iff, List.map_eq_nil_iff, List.filter_eq_nil_iff]
                  intro x hx hc
                  rw [List.any_eq_true.mpr ⟨x, hx, hc⟩] at hany
                  cases hany
                have htar' : fewR us f (flater us (seen ++ p0 :: pr) (p0 :: pr)) (seen ++ p0 :: pr) (cnt + 1) = fewest us := by
                  rw [← htar, fewR, if_neg (by simp), hany, if_neg (by simp)]
                rw [hne]
                have hps : ∀ p ∈ p0 :: pr, p ∈ W14 := fun p hp => (hgood.ps p hp).1
                have hgn := hgood.next hW
                have hln := left_next hgood (by simp)
                generalize p0 :: pr = ps at *
                clear hne hany htar
                k_steps
                unfold Stop
                rename Fr _ _ _ _ => F6
                rename News _ _ _ _ => N6
                have hlS := hsS.len_eq
                have hlP := hsp.len_eq
                rw [List.length_map] at hlS hlP
                refine' kmk_add_lit (its := vS.toArray) (its2 := vp.toArray) (zs := vS ++ vp) F6 N6 (N6.isList (a := S) (by k_mem)) (N6.isList (a := P) (by k_mem)) (by first | rfl | simp) ?_ ?z
                case z =>
                  simp only [sizeLine_eq, List.toList_toArray]
                  omega
                clear F6 N6
                intro S2 h' F' N' l1
                k_lt l1
                have hsS2 : StrsAre (vS ++ vp) ((seen ++ ps).map encw) := by rw [List.map_append]; exact strsAre_append hsS hsp
                k_steps
                unfold Stop
                rename Fr _ _ _ _ => F6
                rename News _ _ _ _ => N6
                obtain ⟨La, hLa⟩ := name_head N6
                subst hLa
                rename (@LT.lt Nat _ S2 La ∧ _) => lLa
                have hSP : @Ne Nat S2 P := by omega
                have hLP : @Ne Nat La P := by omega
                have hLS : @Ne Nat S2 La := by omega
                have hLw : @Ne Nat (L' + 1) La := by omega
                refine' iter_growN (L := L') (vs := vp) (fun i => JLat _ (fun z => z ≠ Str.ofString "piece" ∧ z ≠ Str.ofString "word" ∧ z ≠ Str.ofString "rest") [] La S2 (L' + 1) (vS ++ vp) 0 o' ((ps.take i).foldl (flaterOut us (seen ++ ps)) [])) (news := [(La, PySem.W.listOf ([] : List Value).toArray 0), (S2, PySem.W.listOf (vS ++ vp).toArray 0), (L' + 1, o')]) rfl rfl F6 N6 (by k_mem) (mem3 (by k_mem) (by k_mem) (by k_mem)) (off_cons (a := (La, _)) hLP (off_cons (a := (S2, _)) hSP (off_cons (a := (L' + 1, _)) (Ne.symm hPw) (List.forall_mem_nil _)))) ⟨fun _ _ => rfl, [], 0, rfl, .nil⟩ ?turn ?done
                case turn =>
                  clear F6 N6
                  intro i v m₁ news₁ h tk I oI hv hJ hI hP F N
                  obtain ⟨hm, vL, kl, rfl, hsL⟩ := hJ
                  simp only [List.nil_append] at N
                  rw [forget3 (fun z a b c => hm z ⟨a, b, c⟩)] at F
                  generalize m₁ (Str.ofString "piece") = q1 at F
                  generalize m₁ (Str.ofString "word") = q2 at F
                  generalize m₁ (Str.ofString "rest") = q3 at F
                  clear hm m₁
                  obtain ⟨p, tp, hp, rfl⟩ := strs_at encw hsp hv
                  have hpW := hps p (List.mem_of_getElem? hp)
                  have hstep := fold_step (flaterOut us (seen ++ ps)) [] hp
                  have hgl : GoodL (seen ++ ps) ((ps.take i).foldl (flaterOut us (seen ++ ps)) []) := GoodL.outer hgn.nil hW _ (fun q hq => hps q (List.mem_of_mem_take hq)) .nil
                  generalize (ps.take i).foldl (flaterOut us (seen ++ ps)) [] = later at hsL hstep hgl
                  show wpAny _ _ _ _ _ _
                  k_steps
                  unfold Stop
                  rename Fr _ _ _ _ => F7
                  rename News _ _ _ _ => N7
                  have e1 := hI (La, _) (.head _)
                  have e2 := hI (S2, _) (.tail _ (.head _))
                  have e3 := hI (L' + 1, _) (.tail _ (.tail _ (.head _)))
                  refine' iter_grow (L := L') (fun j => JLat _ (fun z => z ≠ Str.ofString "word" ∧ z ≠ Str.ofString "rest") [(I, oI), (P, PySem.W.listOf vp.toArray kp)] La S2 (L' + 1) (vS ++ vp) 0 o' ((us.take j).foldl (flaterIn (seen ++ ps) p) later)) rfl rfl pre F7 N7 ⟨fun _ _ => rfl, vL, kl, rfl, hsL⟩ ?turn2 ?done2
                  case turn2 =>
                    clear F7 N7 hsL
                    intro j v m₁ news₁ h tk I2 oI2 hv hJ hI2 F N
                    obtain ⟨hm, vL, kl, rfl, hsL⟩ := hJ
                    rw [forget2 (fun z a b => hm z ⟨a, b⟩)] at F
                    generalize m₁ (Str.ofString "word") = q2 at F
                    generalize m₁ (Str.ofString "rest") = q3 at F
                    clear hm m₁
                    obtain ⟨u, tu, hu, rfl⟩ := strs_at encw hi hv
                    have huW := hW u (List.mem_of_getElem? hu)
                    simp only [List.cons_append, List.nil_append] at N
                    have hstep2 := fold_step (flaterIn (seen ++ ps) p) later hu
                    have hgl2 : GoodL (seen ++ ps) ((us.take j).foldl (flaterIn (seen ++ ps) p) later) := GoodL.inner hgn.nil hpW _ (fun q hq => hW q (List.mem_of_mem_take hq)) hgl
                    generalize (us.take j).foldl (flaterIn (seen ++ ps) p) later = later2 at hsL hstep2 hgl2
                    have hpl := encw_le hpW
                    have hul := encw_le huW
                    have hll := hgl2.len
                    have hlL := hsL.len_eq
                    rw [List.length_map] at hlL
                    show wpAny _ _ _ _ _ _
                    k_steps
                    · unfold Stop
                      rename (Txt.startswith _ _ = true) => hs1
                      rename Fr _ _ _ _ => F8
                      rename News _ _ _ _ => N8
                      refine' slice_strN_sn (hsz := by rw [sizeLine_eq]; omega) F8 N8 ?_
                      clear F8 N8
                      intro h' t' k F' N'
                      have hr := rest_1 hpW huW hs1
                      generalize Txt.slice (encw p) (some ((encw u).length : Int)) none = X at hr ⊢
                      subst hr
                      k_steps
                      unfold Stop
                      rename Fr _ _ _ _ => F8
                      rename News _ _ _ _ => N8
                      refine' kmk_add_lit (its := (vS ++ vp).toArray) (its2 := vL.toArray) (zs := (vS ++ vp) ++ vL) F8 N8 (N8.isList (a := S2) (by k_mem)) (N8.isList (a := La) (by k_mem)) (by first | rfl | simp) ?_ ?z
                      case z =>
                        simp only [sizeLine_eq, List.length_append]
                        omega
                      clear F8 N8
                      intro D3 h' F' N' l3
                      k_lt l3
                      k_steps
                      unfold Stop
                      rename Fr _ _ _ _ => F8
                      rename News _ _ _ _ => N8
                      refine' notin_list_strs (ys := ((seen ++ ps) ++ later2).map encw) (N8.isList (a := D3) (by k_mem)) (by rw [List.map_append]; exact strsAre_append hsS2 hsL) ?_
                      rw [any_encw']
                      k_steps
                      · unfold Stop
                        rename Fr _ _ _ _ => F8
                        rename News _ _ _ _ => N8
                        rename (List.contains _ _ = true) => hc
                        exact TurnEnd.intro (nx := [(I, oI), (P, PySem.W.listOf vp.toArray kp), _, _, _]) F8 (drop1 N8) (fun p hp q hq => by rw [List.mem_singleton.mp hq]; exact hI2 p hp)
                          ⟨fun z hz => by simp only [if_neg hz.1, if_neg hz.2], vL, kl, rfl, by rw [hstep2, flaterIn, if_pos hc]; exact hsL⟩
                      · unfold Stop
                        rename Fr _ _ _ _ => F8
                        rename News _ _ _ _ => N8
                        rename (List.contains _ _ = false) => hc
                        have hD3 : @Ne Nat D3 La := by omega
                        refine' append_in (own := [(D3, _), (I2, oI2), (I, oI), (P, PySem.W.listOf vp.toArray kp)]) (hsz := by rw [sizeLine_eq]; omega) F8 N8 ?own ?rest ?_
                        case own => exact off_cons (a := (D3, _)) hD3 (off_cons (a := (I2, _)) (Ne.symm (hI2 (La, _) (.tail _ (.tail _ (.head _))))) (off_cons (a := (I, _)) (Ne.symm e1) (off_cons (a := (P, _)) (Ne.symm hLP) (List.forall_mem_nil _))))
                        case rest => exact off_cons (a := (S2, _)) hLS (off_cons (a := (L' + 1, _)) hLw (List.forall_mem_nil _))
                        clear F8 N8
                        intro h' F' N'
                        simp only [List.cons_append, List.nil_append] at N'
                        k_steps
                        unfold Stop
                        rename Fr _ _ _ _ => F8
                        rename News _ _ _ _ => N8
                        exact TurnEnd.intro (nx := [(I, oI), (P, PySem.W.listOf vp.toArray kp), _, _, _]) F8 (drop1 N8) (fun p hp q hq => by
                            rw [List.mem_singleton.mp hq]
                            exact off_cons (a := (I, oI)) (hI2 _ (.head _)) (off_cons (a := (P, _)) (hI2 (P, _) (.tail _ (.head _))) (off_cons (a := (La, _)) (show La ≠ I2 from hI2 (La, _) (.tail _ (.tail _ (.head _)))) (off_cons (a := (S2, _)) (hI2 (S2, _) (.tail _ (.tail _ (.tail _ (.head _))))) (off_cons (a := (L' + 1, _)) (hI2 (L' + 1, _) (.tail _ (.tail _ (.tail _ (.tail _ (.head _)))))) (List.forall_mem_nil _))))) p hp)
                          ⟨fun z hz => by simp only [if_neg hz.1, if_neg hz.2], vL ++ [_], _, rfl, by rw [hstep2, flaterIn, if_neg (by rw [hc]; decide), List.map_append]; exact strsAre_append hsL (.cons _ _ .nil)⟩
                    · unfold Stop
                      rename (Txt.startswith _ _ = true) => hs2
                      rename (Txt.startswith _ _ = false) => hs1
                      rename Fr _ _ _ _ => F8
                      rename News _ _ _ _ => N8
                      refine' slice_strN_sn (hsz := by rw [sizeLine_eq]; omega) F8 N8 ?_
                      clear F8 N8
                      intro h' t' k F' N'
                      have hr := rest_2 hpW huW hs1 hs2
                      generalize Txt.slice (encw u) (some ((encw p).length : Int)) none = X at hr ⊢
                      subst hr
                      k_steps
                      unfold Stop
                      rename Fr _ _ _ _ => F8
                      rename News _ _ _ _ => N8
                      refine' kmk_add_lit (its := (vS ++ vp).toArray) (its2 := vL.toArray) (zs := (vS ++ vp) ++ vL) F8 N8 (N8.isList (a := S2) (by k_mem)) (N8.isList (a := La) (by k_mem)) (by first | rfl | simp) ?_ ?z
                      case z =>
                        simp only [sizeLine_eq, List.length_append]
                        omega
                      clear F8 N8
                      intro D3 h' F' N' l3
                      k_lt l3
                      k_steps
                      unfold Stop
                      rename Fr _ _ _ _ => F8
                      rename News _ _ _ _ => N8
                      refine' notin_list_strs (ys := ((seen ++ ps) ++ later2).map encw) (N8.isList (a := D3) (by k_mem)) (by rw [List.map_append]; exact strsAre_append hsS2 hsL) ?_
                      rw [any_encw']
                      k_steps
                      · unfold Stop
                        rename Fr _ _ _ _ => F8
                        rename News _ _ _ _ => N8
                        rename (List.contains _ _ = true) => hc
                        exact TurnEnd.intro (nx := [(I, oI), (P, PySem.W.listOf vp.toArray kp), _, _, _]) F8 (drop1 N8) (fun p hp q hq => by rw [List.mem_singleton.mp hq]; exact hI2 p hp)
                          ⟨fun z hz => by simp only [if_neg hz.1, if_neg hz.2], vL, kl, rfl, by rw [hstep2, flaterIn, if_pos hc]; exact hsL⟩
                      · unfold Stop
                        rename Fr _ _ _ _ => F8
                        rename News _ _ _ _ => N8
                        rename (List.contains _ _ = false) => hc
                        have hD3 : @Ne Nat D3 La := by omega
                        refine' append_in (own := [(D3, _), (I2, oI2), (I, oI), (P, PySem.W.listOf vp.toArray kp)]) (hsz := by rw [sizeLine_eq]; omega) F8 N8 ?own ?rest ?_
                        case own => exact off_cons (a := (D3, _)) hD3 (off_cons (a := (I2, _)) (Ne.symm (hI2 (La, _) (.tail _ (.tail _ (.head _))))) (off_cons (a := (I, _)) (Ne.symm e1) (off_cons (a := (P, _)) (Ne.symm hLP) (List.forall_mem_nil _))))
                        case rest => exact off_cons (a := (S2, _)) hLS (off_cons (a := (L' + 1, _)) hLw (List.forall_mem_nil _))
                        clear F8 N8
                        intro h' F' N'
                        simp only [List.cons_append, List.nil_append] at N'
                        k_steps
                        unfold Stop
                        rename Fr _ _ _ _ => F8
                        rename News _ _ _ _ => N8
                        exact TurnEnd.intro (nx := [(I, oI), (P, PySem.W.listOf vp.toArray kp), _, _, _]) F8 (drop1 N8) (fun p hp q hq => by
                            rw [List.mem_singleton.mp hq]
                            exact off_cons (a := (I, oI)) (hI2 _ (.head _)) (off_cons (a := (P, _)) (hI2 (P, _) (.tail _ (.head _))) (off_cons (a := (La, _)) (show La ≠ I2 from hI2 (La, _) (.tail _ (.tail _ (.head _)))) (off_cons (a := (S2, _)) (hI2 (S2, _) (.tail _ (.tail _ (.tail _ (.head _))))) (off_cons (a := (L' + 1, _)) (hI2 (L' + 1, _) (.tail _ (.tail _ (.tail _ (.tail _ (.head _)))))) (List.forall_mem_nil _))))) p hp)
                          ⟨fun z hz => by simp only [if_neg hz.1, if_neg hz.2], vL ++ [_], _, rfl, by rw [hstep2, flaterIn, if_neg (by rw [hc]; decide), List.map_append]; exact strsAre_append hsL (.cons _ _ .nil)⟩
                    · rename (Txt.startswith (encw u) (encw p) = false) => hs2
                      rename (Txt.startswith (encw p) (encw u) = false) => hs1
                      have hr := rest_3 hpW huW hs1 hs2
                      rename Fr _ _ _ _ => F8
                      rw [hr] at F8 ⊢
                      unfold Stop
                      rename Fr _ _ _ _ => F8
                      rename News _ _ _ _ => N8
                      refine' kmk_add_lit (its := (vS ++ vp).toArray) (its2 := vL.toArray) (zs := (vS ++ vp) ++ vL) F8 N8 (N8.isList (a := S2) (by k_mem)) (N8.isList (a := La) (by k_mem)) (by first | rfl | simp) ?_ ?z
                      case z =>
                        simp only [sizeLine_eq, List.length_append]
                        omega
                      clear F8 N8
                      intro D3 h' F' N' l3
                      k_lt l3
                      k_steps
                      unfold Stop
                      rename Fr _ _ _ _ => F8
                      rename News _ _ _ _ => N8
                      refine' notin_list_strs (ys := ((seen ++ ps) ++ later2).map encw) (N8.isList (a := D3) (by k_mem)) (by rw [List.map_append]; exact strsAre_append hsS2 hsL) ?_
                      rw [any_encw']
                      k_steps
                      · unfold Stop
                        rename Fr _ _ _ _ => F8
                        rename News _ _ _ _ => N8
                        rename (List.contains _ _ = true) => hc
                        exact TurnEnd.intro (nx := [(I, oI), (P, PySem.W.listOf vp.toArray kp), _, _, _]) F8 (drop1 N8) (fun p hp q hq => by rw [List.mem_singleton.mp hq]; exact hI2 p hp)
                          ⟨fun z hz => by simp only [if_neg hz.1, if_neg hz.2], vL, kl, rfl, by rw [hstep2, flaterIn, if_pos hc]; exact hsL⟩
                      · unfold Stop
                        rename Fr _ _ _ _ => F8
                        rename News _ _ _ _ => N8
                        rename (List.contains _ _ = false) => hc
                        have hD3 : @Ne Nat D3 La := by omega
                        refine' append_in (own := [(D3, _), (I2, oI2), (I, oI), (P, PySem.W.listOf vp.toArray kp)]) (hsz := by rw [sizeLine_eq]; omega) F8 N8 ?own ?rest ?_
                        case own => exact off_cons (a := (D3, _)) hD3 (off_cons (a := (I2, _)) (Ne.symm (hI2 (La, _) (.tail _ (.tail _ (.head _))))) (off_cons (a := (I, _)) (Ne.symm e1) (off_cons (a := (P, _)) (Ne.symm hLP) (List.forall_mem_nil _))))
                        case rest => exact off_cons (a := (S2, _)) hLS (off_cons (a := (L' + 1, _)) hLw (List.forall_mem_nil _))
                        clear F8 N8
                        intro h' F' N'
                        simp only [List.cons_append, List.nil_append] at N'
                        k_steps
                        unfold Stop
                        rename Fr _ _ _ _ => F8
                        rename News _ _ _ _ => N8
                        exact TurnEnd.intro (nx := [(I, oI), (P, PySem.W.listOf vp.toArray kp), _, _, _]) F8 (drop1 N8) (fun p hp q hq => by
                            rw [List.mem_singleton.mp hq]
                            exact off_cons (a := (I, oI)) (hI2 _ (.head _)) (off_cons (a := (P, _)) (hI2 (P, _) (.tail _ (.head _))) (off_cons (a := (La, _)) (show La ≠ I2 from hI2 (La, _) (.tail _ (.tail _ (.head _)))) (off_cons (a := (S2, _)) (hI2 (S2, _) (.tail _ (.tail _ (.tail _ (.head _))))) (off_cons (a := (L' + 1, _)) (hI2 (L' + 1, _) (.tail _ (.tail _ (.tail _ (.tail _ (.head _)))))) (List.forall_mem_nil _))))) p hp)
                          ⟨fun z hz => by simp only [if_neg hz.1, if_neg hz.2], vL ++ [_], _, rfl, by rw [hstep2, flaterIn, if_neg (by rw [hc]; decide), List.map_append]; exact strsAre_append hsL (.cons _ _ .nil)⟩
                  case done2 =>
                    clear F7 N7 hsL
                    intro m₁ news₁ h tk hJ F N
                    obtain ⟨hm, vL, kl, rfl, hsL⟩ := hJ
                    rw [hi.len_eq, List.length_map, List.take_length] at hsL
                    simp only [List.cons_append, List.nil_append] at N
                    k_steps
                    unfold Stop
                    exact TurnEnd.intro (nx := [_, _, _]) F N (fun p hp q hq => by
                        rcases List.mem_cons.mp hq with e | hq
                        · rw [e]; exact off_cons (a := (La, _)) (show La ≠ I from e1) (off_cons (a := (S2, _)) (show S2 ≠ I from e2) (off_cons (a := (L' + 1, _)) (show L' + 1 ≠ I from e3) (List.forall_mem_nil _))) p hp
                        · rw [List.mem_singleton.mp hq]; exact off_cons (a := (La, _)) hLP (off_cons (a := (S2, _)) hSP (off_cons (a := (L' + 1, _)) (Ne.symm hPw) (List.forall_mem_nil _))) p hp)
                      ⟨fun z hz => (hm z ⟨hz.2.1, hz.2.2⟩).trans (by simp only [if_neg hz.1, if_neg hz.2.1, if_neg hz.2.2]), vL, kl, rfl, by rw [hstep]; exact hsL⟩
                case done =>
                  clear F6 N6
                  intro m₁ news₁ h tk hJ F N
                  obtain ⟨hm, vL, kl, rfl, hsL⟩ := hJ
                  rw [hsp.len_eq, List.length_map, List.take_length] at hsL
                  rw [forget3 (fun z a b c => hm z ⟨a, b, c⟩)] at F
                  generalize m₁ (Str.ofString "piece") = q1 at F
                  generalize m₁ (Str.ofString "word") = q2 at F
                  generalize m₁ (Str.ofString "rest") = q3 at F
                  clear hm m₁
                  simp only [List.nil_append] at N
                  k_steps
                  unfold Stop
                  rename Fr _ _ _ _ => F8
                  rename News _ _ _ _ => N8
                  have hll := (GoodL.outer hgn.nil hW ps hps .nil).len
                  exact TurnEnd.intro (own := []) (nx := [_, _, _]) F8 N8 (fun p hp q hq => (nomatch hq))
                    ⟨left (seen ++ ps), hln, La, S2, vL, vS ++ vp, kl, 0, cnt + 1, _, flater us (seen ++ ps) ps, seen ++ ps, f, rfl, rfl, rfl, rfl, hsL, hsS2, hgn, rfl, by omega, htar', Nat.le_trans hll (by decide), by rw [List.length_append]; omega, by omega, Ne.symm hLw⟩
end
section
open PySem PySem.W PySem.Calls PySem.Spec PyProof.Rows
set_option maxRecDepth 100000
set_option maxHeartbeats 8000000
set_option linter.unusedVariables false
theorem SpecG.ofC {w : World} {D U : Nat} {f : Addr} {args : List Value} {led : List (Addr × Obj)} {Pre : Heap → Prop} {Post : List (Addr × Obj) → Value → Prop}
    {name qual : PySem.Str} {params : Arguments} {body : List Stmt} {scope : Scope} {dV kV doc pm cdv ct oc : Value} {an od : Option Addr} {osl : Array (Option Value)} {binds : List (PySem.Str × Value)}
    (ho : (hd.heap_39 w.params).lookup f = some ⟨oc, od, .func (fnOf name qual params body scope dV kV doc pm an cdv ct), osl⟩) (hcd : codeIn (hd.heap_39 w.params) cdv qual = true) (hroom : D < recursionLimit)
    (hbind : ∀ s, BindsTo s (fnOf name qual params body scope dV kV doc pm an cdv ct) ⟨args, []⟩ binds)
    (hkind : (binds.all fun y => scope.names.lookup y.1 == some .local || scope.names.lookup y.1 == some .cell) = true) (hnd : ((cellsFrom 0 scope.names []).map (·.1)).Nodup)
    (hco : scope.isCoroutine = false) (hgen : scope.isGenerator = false) (hk : scope.kind = .function)
    (h : ∀ (loose : List PySem.Str) (mean : ExcName → Option Value) (mg mb : PySem.Str → Option Value) (outer : List Env) (gd : Option (List Code)) (A : Around) (base g : Heap) (L' : Addr) (h₁ : Heap) (tk : Nat) (cells : List (Addr × Obj)) (s : Shared) (Q : Value → Shared → Prop),
      Fr g L' h₁ (bindL (envOfC qual scope L' f cdv).kindOf binds fun _ => none) → News g L' h₁ (cells ++ led) → CellsAre (bindC (envOfC qual scope L' f cdv).kindOf binds fun _ => none) (cellsFrom (L' + 1) scope.names []) cells →
      Below A base outer g → (hd.heap_39 w.params).In g → Top hd.view_39 loose mean mg mb g → Pre g → (∀ p ∈ led, p.1 < L') →
      (∀ v led' h' tk m', Fr g L' h' m' → News g L' h' led' → Post led' v → Q v { s with heap := h', toks := tk }) →
      wpAny (model prog w) (Around.deeper { handled := none, depth := D, frames := some outer, guards := gd, units := U } (envOfC qual scope L' f cdv)) (execs body (envOfC qual scope L' f cdv))
        (fun fl s' => Back Q (ended fl) s') (fun _ _ => False) { s with heap := h₁, toks := tk }) :
    SpecG w D U f args led Pre Post := by
  intro loose mean mg mb env outer A A₀ base h₀ L m s Q E B F X T hh hd' hu hA hf hke N pre ret
  refine around_mono (A' := { handled := none, depth := D, frames := some (env :: outer), guards := A.guards, units := U }) hh.symm hd' hA.symm rfl hu ?_
  refine wpAny_call ?_
  obtain ⟨FG, BG, st, -⟩ := groundX (A := { handled := none, depth := D, frames := some (env :: outer), guards := A.guards, units := U }) (R := fun _ _ => True) B F N rfl hf hke
  have hg : ∀ b ob, s.heap.get? b = some ob → b ∉ led.map (·.1) → (hideAll s.heap (led.map (·.1))).get? b = some ob := fun b ob e n => hideAll_get _ e n
  refine codeAny_call_function (fd := fnOf name qual params body scope dV kV doc pm an cdv ct) hroom ((X.keeps F.keep) _ _ ho) rfl hco hgen rfl (codeRec_of (X.keeps F.keep) hcd) (hbind s _ _ _ _ ?_)
  refine wpAny_newFunctionEnv_cells hk (kindsX hkind _) fun env' he s' x => ?_
  subst he
  refine ⟨(T.nolimit.keeps F.keep).keeps x.toInCall.keep, codeAny_func ?_⟩
  obtain ⟨h₁, tk, rfl, _⟩ := x.done
  have hk₁ := x.toInCall.keep
  have hsz : (hideAll s.heap (led.map (·.1))).objs.size = s.heap.objs.size := hideAll_size _ _
  obtain ⟨cells, NC, Y⟩ := Cl.news (h₀ := hideAll s.heap (led.map (·.1))) (Nat.le_of_eq hsz) fun n c hm => ⟨x.cell n c (lookup_of_mem_nodup (cellsFrom_names scope.names 0 (s.heap.objs.size + 1) [] [] rfl ▸ hnd) hm), x.above n c hm⟩
  refine wpAny_mono (h loose mean mg mb (env :: outer) A.guards _ base (hideAll s.heap (led.map fun x : Addr × Obj => x.1)) s.heap.objs.size h₁ tk cells s (fun v s' => Q v s')
    ⟨x.toInCall.ns, fun b ob e => hk₁ b ob (of_hideAll _ e), Nat.le_of_eq (hideAll_size _ _)⟩ (fun p hp => ?_) Y BG (X.keeps st) (T.keeps st) (pre _ hg) (fun p hp => Heap.lt_size (N p hp).1) fun v led' h' tk m' Fe Ne hp => ?_) (fun fl s' hl => hl) fun _ _ x => x.elim
  · rcases List.mem_append.mp hp with hp | hp
    · exact NC p hp
    · have z := N p hp
      exact ⟨hk₁ _ _ z.1, Nat.ne_of_lt (Heap.lt_size z.1), hideAll_none _ (List.mem_map.mpr ⟨p, hp, rfl⟩)⟩
  · refine ret v led' h' tk (fun b ob e n => Fe.keep b ob (hg b ob e n)) (fun p hp => ⟨(Ne p hp).1, ?_⟩) hp
    have h1 := (Ne p hp).2.2
    by_cases q : p.1 ∈ led.map (·.1)
    · exact .inr q
    · refine .inl ?_
      cases e : s.heap.get? p.1 with
      | none => rfl
      | some ob => rw [hg _ _ e q] at h1; cases h1
end
section
open PySem PySem.W PySem.Calls PySem.Spec PyProof.Rows
set_option maxRecDepth 100000
set_option maxHeartbeats 8000000
set_option linter.unusedVariables false
/-- the rounds from behind, in plain -/
noncomputable def toldR (us : List Wd) : Nat → List Wd → Ways → Nat → Nat
  | 0, _, _, _ => 0
  | f + 1, ps, W, n => if ps = [] then 0 else if ps.any us.contains then n else toldR us f (round ps us W).2 (round ps us W).1 (n + 1)
noncomputable def told (us : List Wd) : Nat := toldR us 32 ((first us).map (·.1)) (first us) 3
noncomputable def leftT (ps : List Wd) (W : Ways) : Nat := 2 * (14 - W.length) + (if ps = [] then 0 else 1)

theorem stepA_both {lo sh : List Wd} {p u : Wd} (st : RSt) : (stepA lo sh p st u).1.length + st.2.length = st.1.length + (stepA lo sh p st u).2.length := by
  unfold stepA; split <;> simp <;> omega
theorem stepB_both {lo sh : List Wd} {p u : Wd} (st : RSt) : (stepB lo sh p st u).1.length + st.2.length = st.1.length + (stepB lo sh p st u).2.length := by
  unfold stepB; split <;> simp <;> omega
theorem roundIn_both {lo sh : List Wd} {p : Wd} : ∀ (us : List Wd) (st : RSt), (us.foldl (roundIn lo sh p) st).1.length + st.2.length = st.1.length + (us.foldl (roundIn lo sh p) st).2.length
  | [], st => rfl
  | u :: us, st => by
    have h1 := stepA_both (lo := lo) (sh := sh) (p := p) (u := u) st
    have h2 := stepB_both (lo := lo) (sh := sh) (p := p) (u := u) (stepA lo sh p st u)
    have h3 := roundIn_both us (roundIn lo sh p st u) (lo := lo) (sh := sh) (p := p)
    rw [List.foldl_cons]
    have e : roundIn lo sh p st u = stepB lo sh p (stepA lo sh p st u) u := rfl
    rw [e] at h3 ⊢
    omega
theorem round_both (us : List Wd) : ∀ (ps : List Wd) (st : RSt), (ps.foldl (roundOut us) st).1.length + st.2.length = st.1.length + (ps.foldl (roundOut us) st).2.length
  | [], st => rfl
  | p :: ps, st => by
    have h1 := roundIn_both (lo := (rowOf st.1 p).1) (sh := (rowOf st.1 p).2) (p := p) us st
    have h2 := round_both us ps (roundOut us st p)
    rw [List.foldl_cons]
    unfold roundOut at h2 ⊢
    omega
theorem leftT_next {us ps : List Wd} {W : Ways} (hp : ps ≠ []) (h14 : (round ps us W).1.length ≤ 14) : leftT (round ps us W).2 (round ps us W).1 < leftT ps W := by
  have h := round_both us ps (W, [])
  unfold leftT
  rw [if_neg hp]
  change (round ps us W).1.length + 0 = W.length + (round ps us W).2.length at h
  split
  · rename_i e; rw [e] at h; simp at h; omega
  · rename_i e
    have : 1 ≤ (round ps us W).2.length := by cases hq : (round ps us W).2 with | nil => exact absurd hq e | cons a r => simp
    omega

section
variable {prog : Program} {w : World} {A : Around} {E : Value → Shared → Prop} {s : Shared} {h₀ : Heap} {L d : Addr} {m : PySem.Str → Option Value} {news : List (Addr × Obj)} {o : Obj} {kvs : List (PySem.Str × Value)} {G : Addr → Obj → Prop} {W : Ways}
theorem strs_places : ∀ {kvs : List (PySem.Str × Value)} {vs : List Value}, vs.length = kvs.length → (∀ (j : Nat) (v : Value), vs[j]? = some v → ∃ (k : PySem.Str) (x : Value), kvs[j]? = some (k, x) ∧ ∃ t : Tok, v = Value.str k t) → StrsAre vs (kvs.map (·.1))
  | [], [], _, _ => .nil
  | q :: r, v :: vs, hl, hv => by
    obtain ⟨k, x, e, t, ev⟩ := hv 0 v rfl
    simp only [List.getElem?_cons_zero, Option.some.injEq] at e
    subst e; subst ev
    exact .cons k t (strs_places (kvs := r) (by simpa using hl) fun j u hu => by simpa using hv (j + 1) u (by simpa using hu))
  | [], _ :: _, hl, _ => by simp at hl
  | _ :: _, [], hl, _ => by simp at hl
theorem list_ways {Q : Value → Shared → Prop} (hh : A.handled = none) (F : Fr h₀ L s.heap m) (N : News h₀ L s.heap news) (hm : (d, o) ∈ news) (hD : o.IsDictOf (PySem.strKind prog w) kvs) (lo : (d == sysModules) = false) (hR : WaysAre G kvs W) (hG : WGood W)
    (h : ∀ B c h' tk vs, Fr h₀ L h' m → News h₀ L h' ((B, PySem.W.listOf vs.toArray c) :: news) → (∀ q ∈ news, q.1 < B) → StrsAre vs ((W.map (·.1)).map enc) → Q (.ref B) { s with heap := h', toks := tk }) :
    wpAny (model prog w) A (call (.type "list") [.ref d]) Q E s := by
  obtain ⟨ep, hat⟩ := (Heap.dictOf_iff.mpr ⟨o, (N _ hm).1, hD⟩).dictAt
  refine kdl_N (kdl_dict (knd := PySem.strKind prog w) (kvs := kvs) (ep := ep) lo) hh F N hat (by rw [hR.length, sizeLine_eq]; have := hG.len; omega) fun B c h' tk vs F' N' l1 hl hv => ?_
  refine h B c h' tk vs F' N' l1 ?_
  have := strs_places hl fun j v hj => by
    obtain ⟨k, x, hx, hk⟩ := hv j v hj
    exact ⟨k, x, hx, Value.isStrOf_shape hk⟩
  rw [hR.keys] at this
  rw [List.map_map]
  exact this
end
end
section
open PySem PySem.W PySem.Calls PySem.Spec PyProof.Rows
set_option maxRecDepth 100000
set_option maxHeartbeats 8000000
set_option linter.unusedVariables false
local macro_rules | `(tactic| walk_at "idle") => `(tactic| skip)
local macro_rules | `(tactic| walk_at "idle") => `(tactic| skip)
theorem fresh_E15 : True := by
  w_top off
  trivial
inductive ToldNew (w : World) (G : Addr → Obj → Prop) (d : Addr) (C4 : List (Addr × Obj)) (n : Nat) (led' : List (Addr × Obj)) (v : Value) : Prop
  | mk (o' : Obj) (kvs' : List (PySem.Str × Value)) (wl : List (Addr × Obj)) (W' : Ways) (t : Tok) (h1 : v = Value.int (n : Int) t) (h2 : led' = (d, o') :: (C4 ++ wl)) (h3 : ∀ p ∈ wl, p.1 ≠ d ∧ ∀ q ∈ C4, p.1 ≠ q.1) (h4 : o'.IsDictOf (strKind prog w) kvs') (h5 : WaysAre (fun a o => G a o ∨ (a, o) ∈ wl) kvs' W') (h6 : WGood W') :
    ToldNew w G d C4 n led' v
theorem pick1 (v : Value) (r : List Value) : kms_pick (v :: r) none (some 1) = [v] := by
  unfold kms_pick kms_lo kms_hi
  simp
theorem item0 {prog : Program} {w : World} {A : Around} {E : Value → Shared → Prop} {s : Shared} {value slice : Expr} {l : Addr} {v : Value} {r : List Value} {u : Tok} {Q : Value → Shared → Prop} (hl : s.heap.IsList l (v :: r).toArray) (h : Q v s)
    (hs : subscripted slice false (.ref l) (.int 0 u) = operate [.ref l, .int 0 u] (getItem (.ref l) (.int 0 u)) := by with_unfolding_all rfl) : wpAny (model prog w) A (subscriptTail value slice (.ref l) (.int 0 u)) Q E s :=
  tail_any hl.typeIs slot_list_getitem.lookup (wpAny_getItem_list hl (by decide) (by decide) (by simp) h) hs
theorem name_head2 {g : Heap} {L : Addr} {h : Heap} {a : Addr} {o : Obj} {r : List (Addr × Obj)} (_N : News g L h ((a, o) :: r)) : ∃ x : Addr, x = a := ⟨a, rfl⟩
noncomputable def agS (ps : List Wd) (p0 : Wd) : List PySem.Str := ps.map enc ++ [enc p0] ++ [Txt.upper (enc p0), Str.ofString "*"]
theorem agS_are {vp : List Value} {ps : List Wd} {p0 : Wd} {t0 a b : Tok} (h : StrsAre vp (ps.map enc)) : StrsAre (vp ++ [Value.str (enc p0) t0] ++ [Value.str (Txt.upper (enc p0)) a, Value.str (Str.ofString "*") b]) (agS ps p0) :=
  strsAre_append (strsAre_append h (.cons _ _ .nil)) (.cons _ _ (.cons _ _ .nil))
theorem led_of {g h : Heap} {L : Addr} {new news l : List (Addr × Obj)} (N : News g L h (new ++ news)) (hl : ∀ p ∈ l, p ∈ new) : News g L h (l ++ news) := fun p hp => N p (by
  rcases List.mem_append.mp hp with q | q
  · exact List.mem_append_left _ (hl p q)
  · exact List.mem_append_right _ q)
theorem mem4 {a b c d : Addr × Obj} {l : List (Addr × Obj)} (h1 : a ∈ l) (h2 : b ∈ l) (h3 : c ∈ l) (h4 : d ∈ l) : ∀ p ∈ [a, b, c, d], p ∈ l := by
  intro p hp
  rcases List.mem_cons.mp hp with e | hp
  · rw [e]; exact h1
  rcases List.mem_cons.mp hp with e | hp
  · rw [e]; exact h2
  rcases List.mem_cons.mp hp with e | hp
  · rw [e]; exact h3
  · rw [List.mem_singleton.mp hp]; exact h4
theorem enc_oks_all : (W14.all fun u => PyData.strOk (enc u) && PyData.strOk (Txt.upper (enc u)) && W14.all fun v => !(Txt.upper (enc u) == enc v) && !(Str.ofString "*" == enc v)) = true := by decide +kernel
theorem enc_ok {u : Wd} (hu : u ∈ W14) : PyData.strOk (enc u) = true ∧ PyData.strOk (Txt.upper (enc u)) = true ∧ ∀ v ∈ W14, Txt.upper (enc u) ≠ enc v ∧ Str.ofString "*" ≠ enc v := by
  have := mem_all enc_oks_all hu
  simp only [Bool.and_eq_true, List.all_eq_true, Bool.not_eq_true', beq_eq_false_iff_ne] at this
  exact ⟨this.1.1, this.1.2, this.2⟩
theorem enc_oks {l : List Wd} (h : ∀ u ∈ l, u ∈ W14) : ∀ x ∈ l.map enc, PyData.strOk x = true := by
  intro x hx
  obtain ⟨u, hu, rfl⟩ := List.mem_map.mp hx
  exact (enc_ok (h u hu)).1
theorem agS_ok {ps : List Wd} {p0 : Wd} (h : ∀ u ∈ ps, u ∈ W14) (h0 : p0 ∈ W14) : ∀ x ∈ agS ps p0, PyData.strOk x = true := by
  intro x hx
  simp only [agS, List.mem_append, List.mem_cons, List.not_mem_nil, or_false] at hx
  rcases hx with (hx | hx) | hx | hx
  · exact enc_oks h x hx
  · rw [hx]; exact (enc_ok h0).1
  · rw [hx]; exact (enc_ok h0).2.1
  · rw [hx]; decide +kernel
theorem any_enc {us : List Wd} (hW : ∀ u ∈ us, u ∈ W14) {p : Wd} (hp : p ∈ W14) : (us.map enc).any (· == enc p) = us.contains p := by
  rw [Bool.eq_iff_iff, List.any_eq_true, List.contains_iff_mem]
  constructor
  · rintro ⟨x, hx, e⟩
    obtain ⟨u, hu, rfl⟩ := List.mem_map.mp hx
    exact (enc_eq (hW u hu) hp).mp (beq_iff_eq.mp e) ▸ hu
  · intro h
    exact ⟨enc p, List.mem_map.mpr ⟨p, h, rfl⟩, beq_self_eq_true _⟩
theorem any_rev (us : List Wd) (x : PySem.Str) : (us.reverse.map enc).any (· == x) = (us.map enc).any (· == x) := by
  rw [List.map_reverse, List.any_reverse]
noncomputable def inE (us : List Wd) (v : Value) : Bool := match v with | .str x _ => (us.map enc).any (· == x) | _ => false
theorem ag_nil {us ps : List Wd} {p0 : Wd} (hW : ∀ u ∈ us, u ∈ W14) (hp : ∀ u ∈ ps, u ∈ W14) (h0 : p0 ∈ ps) : decide ((agS ps p0).filter (fun x => (us.map enc).any (· == x)) = []) = !ps.any us.contains := by
  have e : (ps.any us.contains = true) ↔ ∃ x ∈ agS ps p0, (us.map enc).any (· == x) = true := by
    rw [List.any_eq_true]
    constructor
    · rintro ⟨p, hpp, hc⟩
      exact ⟨enc p, by unfold agS; simp only [List.mem_append, List.mem_map]; exact .inl (.inl ⟨p, hpp, rfl⟩), by rw [any_enc hW (hp p hpp)]; exact hc⟩
    · rintro ⟨x, hx, hc⟩
      simp only [agS, List.mem_append, List.mem_map, List.mem_cons, List.not_mem_nil, or_false] at hx
      rcases hx with (⟨p, hpp, rfl⟩ | rfl) | rfl | rfl
      · exact ⟨p, hpp, by rw [any_enc hW (hp p hpp)] at hc; exact hc⟩
      · exact ⟨p0, h0, by rw [any_enc hW (hp p0 h0)] at hc; exact hc⟩
      · obtain ⟨y, hy, e⟩ := List.any_eq_true.mp hc
        obtain ⟨v, hv, rfl⟩ := List.mem_map.mp hy
        exact absurd (beq_iff_eq.mp e).symm ((enc_ok (hp p0 h0)).2.2 v (hW v hv)).1
      · obtain ⟨y, hy, e⟩ := List.any_eq_true.mp hc
        obtain ⟨v, hv, rfl⟩ := List.mem_map.mp hy
        exact absurd (beq_iff_eq.mp e).symm ((enc_ok (hp p0 h0)).2.2 v (hW v hv)).2
  cases h : ps.any us.contains with
  | true =>
    obtain ⟨x, hx, hc⟩ := e.mp h
    simp only [Bool.not_true, decide_eq_false_iff_not]
    intro hn
    rw [List.filter_eq_nil_iff] at hn
    exact hn x hx hc
  | false =>
    simp only [Bool.not_false, decide_eq_true_eq]
    rw [List.filter_eq_nil_iff]
    intro x hx hc
    rw [e.mpr ⟨x, hx, hc⟩] at h
    cases h
theorem inE_filter (us : List Wd) : ∀ {vs : List Value} {xs : List PySem.Str}, StrsAre vs xs → StrsAre (vs.filter (inE us)) (xs.filter fun x => (us.map enc).any (· == x))
  | [], [], _ => .nil
  | _, x :: xs, .cons _ t h => by
    rw [List.filter_cons, List.filter_cons]
    show StrsAre (if (us.map enc).any (· == x) = true then _ else _) _
    split
    · exact .cons _ t (inE_filter us h)
    · exact inE_filter us h
theorem strs_item : ∀ {vs : List Value} {xs : List PySem.Str}, StrsAre vs xs → ∀ {v : Value}, v ∈ vs → ∃ x t, v = Value.str x t
  | _, _, .cons x t h, v, hv => by
    rcases List.mem_cons.mp hv with e | hv
    · exact ⟨x, t, e⟩
    · exact strs_item h hv
theorem oks_append {a b : List PySem.Str} (h : ∀ x ∈ a, PyData.strOk x = true) (h' : ∀ x ∈ b, PyData.strOk x = true) : ∀ x ∈ a ++ b, PyData.strOk x = true := fun x hx => (List.mem_append.mp hx).elim (h x) (h' x)
inductive JTold (w : World) (G : Addr → Obj → Prop) (d cx wc : Addr) (C4 : List (Addr × Obj)) (co : Obj) (us : List Wd) (target : Nat) (n : Nat) (m : PySem.Str → Option Value) (nx : List (Addr × Obj)) : Prop
  | mk (P : Addr) (vp : List Value) (kp cnt : Nat) (tk : Tok) (ps : List Wd) (W : Ways) (f : Nat) (o : Obj) (kvs : List (PySem.Str × Value)) (wl : List (Addr × Obj)) (h1 : nx = (P, PySem.W.listOf vp.toArray kp) :: (d, o) :: (wc, co) :: (C4 ++ wl)) (h2 : m (Str.ofString "pieces") = some (.ref P)) (h3 : m (Str.ofString "count") = some (.int (cnt : Int) tk)) (h4 : m (Str.ofString "code") = some (.ref cx)) (h5 : m (Str.ofString "ways") = some (.ref d)) (h6 : StrsAre vp (ps.map enc)) (h7 : ∀ p ∈ ps, W.has p = true) (h8 : WGood W) (h9 : o.IsDictOf (strKind prog w) kvs) (h10 : WaysAre (fun a o => G a o ∨ (a, o) ∈ wl) kvs W) (h11 : ∀ p ∈ wl, p.1 ≠ d ∧ ∀ q ∈ C4, p.1 ≠ q.1) (h12 : P ≠ d) (h13 : ∀ q ∈ C4, P ≠ q.1) (h14 : ps.length ≤ W.length) (h15 : n = leftT ps W) (h16 : leftT ps W < f) (h17 : toldR us f ps W cnt = target) (h18 : cnt + leftT ps W ≤ 32) :
    JTold w G d cx wc C4 co us target n m nx
theorem know4 {m : PySem.Str → Option Value} {a b c d : PySem.Str} {x y z v : Value} (h1 : m a = some x) (h2 : m b = some y) (h3 : m c = some z) (h4 : m d = some v) : m = fun s => if s = a then some x else if s = b then some y else if s = c then some z else if s = d then some v else m s := by
  funext s
  by_cases e1 : s = a
  · rw [if_pos e1, e1, h1]
  by_cases e2 : s = b
  · rw [if_neg e1, if_pos e2, e2, h2]
  by_cases e3 : s = c
  · rw [if_neg e1, if_neg e2, if_pos e3, e3, h3]
  by_cases e4 : s = d
  · rw [if_neg e1, if_neg e2, if_neg e3, if_pos e4, e4, h4]
  · rw [if_neg e1, if_neg e2, if_neg e3, if_neg e4]

local macro_rules | `(tactic| walk_at "eval Name") => `(tactic| walk_at "own 4")
local macro_rules | `(tactic| walk_at "eval Name") => `(tactic| walk_at "own 5")
local macro_rules | `(tactic| walk_at "eval Name") => `(tactic| walk_at "own 6")
local macro_rules | `(tactic| walk_at "eval ListComp") => `(tactic| (k_here; refine stop_ ?_))
local macro_rules | `(tactic| walk_at "truthy ref") => `(tactic| (k_here; refine stop_ ?_))
local macro_rules | `(tactic| walk_at "compareOp In str ref") => `(tactic| (k_here; refine stop_ ?_))
local macro_rules | `(tactic| walk_at "compareOp NotEq ref ref") => `(tactic| (k_here; refine stop_ ?_))
local macro_rules | `(tactic| walk_at "binaryOp Add ref ref") => `(tactic| (k_here; refine stop_ ?_))
local macro_rules | `(tactic| walk_at "call ref") => `(tactic| (k_here; refine stop_ ?_))
local macro_rules | `(tactic| walk_at "call type:list") => `(tactic| (k_here; refine stop_ ?_))
local macro_rules | `(tactic| walk_at "WhlIf") => `(tactic| (k_here; refine stop_ ?_))
local macro_rules | `(tactic| walk_at "exec While") => `(tactic| (k_here; refine stop_ ?_))
local macro_rules | `(tactic| walk_at "subscriptTail Name Slice ref ref") => `(tactic| (k_here; refine stop_ ?_))
local macro_rules | `(tactic| walk_at "subscriptTail Name Constant ref int") => `(tactic| (k_here; refine stop_ ?_))
local macro_rules | `(tactic| walk_at "call builtin:str.upper") => `(tactic| (refine SCL.upper (by omega) ?_; intro _))
local macro_rules | `(tactic| walk_at "TurnEnd") => `(tactic| (k_here; refine stop_ ?_))
local macro_rules | `(tactic| walk_at "Exists") => `(tactic| (k_here; refine stop_ ?_))
theorem told_spec {w : World} {G : Addr → Obj → Prop} {lh d cx cdx ca cb : Addr} {o : Obj} {vh xs ys : List Value} {us : List Wd} {kvs : List (PySem.Str × Value)} {W : Ways} {na nb : Nat} {t1 t2 t3 t4 : Tok} (hn : us.length ≤ 4) (hi : StrsAre vh (us.map enc)) (hW : ∀ u ∈ us, u ∈ W14) (lo : (d == sysModules) = false) (hD : o.IsDictOf (strKind prog w) kvs) (hR : WaysAre G kvs W) (hG : WGood W) (hx : StrsAre xs (us.reverse.map enc)) (hy : StrsAre ys (us.map enc)) (hd4 : ∀ q ∈ recL w cx cdx ca cb xs ys na nb t1 t2 t3 t4, d ≠ q.1) :
    SpecG w 400 400 149 [.ref lh, .ref cx, .ref d] ((d, o) :: recL w cx cdx ca cb xs ys na nb t1 t2 t3 t4) (fun h => h.IsList lh vh.toArray ∧ ∀ a o, G a o → h.get? a = some o) (ToldNew w G d (recL w cx cdx ca cb xs ys na nb t1 t2 t3 t4) (toldR us 32 (W.map (·.1)) W 3)) := by
  have _k : PySem.Challenge.rw_wn0042_01 = PySem.Challenge.rw_wn0042_01 ∧ hd.heap_39 = hd.heap_39 := ⟨rfl, rfl⟩
  revert _k
  k_fill
  intro _
  refine' SpecG.ofC (binds := [(Str.ofString "hosts", .ref lh), (Str.ofString "code", .ref cx), (Str.ofString "ways", .ref d)]) ?a1 ?a2 ?a3 ?a4 ?a5 ?a6 ?a7 ?a8 ?a9 ?_
  case a1 => k_is
  case a2 => k_is
  case a3 => decide
  case a4 => exact fun _ => BindsTo.of_eq rfl
  case a5 => exact rfl
  case a6 => decide +kernel
  case a7 => rfl
  case a8 => rfl
  case a9 => rfl
  intro loose mean mg mb outer gd A base g L' h₁ tk cells s Q F N Y B X T pre hltL ret
  k_cells Y
  obtain ⟨preH, preG⟩ := pre
  (try dsimp only)
  show wpAny _ _ _ _ _ _
  k_fold
  simp only [recL, List.cons_append, List.nil_append] at N hltL
  have hw4 : ∀ q ∈ recL w cx cdx ca cb xs ys na nb t1 t2 t3 t4, L' + 1 ≠ q.1 := fun q hq => Nat.ne_of_gt (Nat.lt_succ_of_lt (hltL q (.tail _ hq)))
  have hw1 : L' + 1 ≠ d := Nat.ne_of_gt (Nat.lt_succ_of_lt (hltL _ (.head _)))
  k_lt hltL
  have hlvh : vh.length = us.length := by have := hi.len_eq; rw [List.length_map] at this; exact this
  obtain ⟨o', ho'⟩ := name_obj N
  subst ho'
  rename (Obj.data _ = Data.cell _) => d1
  replace d1 : _ = Data.cell (some (Value.ref lh)) := d1
  k_steps
  unfold Stop
  rename Fr _ _ _ _ => F1
  rename News _ _ _ _ => N1
  refine' list_ways rfl F1 N1 (by k_mem) hD lo hR hG ?_
  clear F1 N1
  intro B1 c1 h' tk vs F' N' l1 hvs
  have hBd := l1 (d, o) (.tail _ (.head _))
  have hBw := l1 (L' + 1, o') (.head _)
  have hB4 : ∀ q ∈ recL w cx cdx ca cb xs ys na nb t1 t2 t3 t4, B1 ≠ q.1 := fun q hq => Nat.ne_of_gt (l1 q (.tail _ (.tail _ hq)))
  k_lt l1
  k_steps
  unfold Stop
  rename Fr _ _ _ _ => F3
  rename News _ _ _ _ => N3
  have hmem0 : ∀ p ∈ W.map (·.1), W.has p = true := fun p hp => Ways.has_iff.mpr hp
  have hl14 := hG.len
  have hlt0 : leftT (W.map (·.1)) W ≤ 29 := by unfold leftT; split <;> omega
  have N4 : News g L' _ ((B1, PySem.W.listOf vs.toArray c1) :: (d, o) :: (L' + 1, o') :: (recL w cx cdx ca cb xs ys na nb t1 t2 t3 t4 ++ [])) := fun p hp => N3 p (by
    exact sub15_1 _ hp)
  refine' while_grow (L := L') (JTold w G d cx (L' + 1) (recL w cx cdx ca cb xs ys na nb t1 t2 t3 t4) o' us (toldR us 32 (W.map (·.1)) W 3)) (by passes_own) F3 N4
    ⟨B1, vs, c1, 3, _, W.map (·.1), W, 32, o, kvs, [], rfl, rfl, rfl, rfl, rfl, hvs, hmem0, hG, hD, hR.mono fun _ _ h => .inl h, List.forall_mem_nil _, Nat.ne_of_gt hBd, hB4, by rw [List.length_map]; exact Nat.le_refl _, rfl, by omega, rfl, by omega⟩ ?turn
  case turn =>
    clear F3 N3 N4 hvs hmem0 hl14 hlt0 hD hR hBd hBw hB4
    generalize htg : toldR us 32 (W.map (·.1)) W 3 = target at *
    intro n m₁ news₁ h tk hJ F N
    obtain ⟨P, vp, kp, cnt, tc, ps, W, f, o, kvs, wl, rfl, hm1, hm2, hm3, hm4, hsp, hhas, hG, hD, hR, hwl, hPd, hP4, hpl, rfl, hf, htar, hcl⟩ := hJ
    rw [know4 hm1 hm2 hm3 hm4] at F
    clear hm1 hm2 hm3 hm4
    simp only [recL, List.cons_append, List.nil_append] at N
    obtain ⟨f, rfl⟩ : ∃ f', f = f' + 1 := ⟨f - 1, by omega⟩
    show wpAny _ _ _ _ _ _
    cases ps with
    | nil =>
      cases hsp
      have ht : target = 0 := htar.symm.trans (by simp [toldR])
      k_steps
      unfold Stop
      refine' truthy_vals (vs := []) (N.isList (.head _)) (by simp) ?_
      intro tk2
      k_steps
      (try unfold Stop)
      refine WhlIf.no rfl ?_
      k_steps
      exact ret _ ((d, o) :: (recL w cx cdx ca cb xs ys na nb t1 t2 t3 t4 ++ wl)) _ _ _ F (fun p hp => N p (by
        exact sub15_2 _ hp)) ⟨o, kvs, wl, W, _, by rw [ht]; rfl, rfl, hwl, hD, hR, hG⟩
    | cons p0 pr =>
      obtain ⟨v0, vr, rfl⟩ : ∃ v0 vr, vp = v0 :: vr := by cases hsp; exact ⟨_, _, rfl⟩
      obtain ⟨t0, rfl, hsr⟩ : ∃ t0, v0 = Value.str (enc p0) t0 ∧ StrsAre vr (pr.map enc) := by cases hsp; exact ⟨_, rfl, by assumption⟩
      have hvl := hsp.len_eq
      have hl14 := hG.len
      rw [List.length_map] at hvl
      have hlps : (p0 :: pr).length ≤ 14 := Nat.le_trans hpl hl14
      have hvr : vr.length ≤ 13 := by simp only [List.length_cons] at hvl hlps; omega
      k_steps
      unfold Stop
      refine' truthy_vals (vs := _ :: vr) (N.isList (.head _)) (by rw [hvl]; have := hlps; omega) ?_
      intro tk2
      k_steps
      (try unfold Stop)
      refine WhlIf.yes rfl ?_
      k_steps
      unfold Stop
      rename Fr _ _ _ _ => F4
      rename News _ _ _ _ => N4
      refine' kms_slice_lit F4 N4 (N4.isList (.head _)) .none (.int _ _) (pick1 _ _) ?_ (by with_unfolding_all rfl) (by intro _; with_unfolding_all rfl) (by rw [sizeLine_eq]; simp; omega)
      clear F4 N4
      intro D1 h' F' N' l1
      k_lt l1
      k_steps
      unfold Stop
      rename Fr _ _ _ _ => F4
      rename News _ _ _ _ => N4
      refine' kmk_add_lit (its := (Value.str (enc p0) t0 :: vr).toArray) (its2 := [Value.str (enc p0) t0].toArray) (zs := (Value.str (enc p0) t0 :: vr) ++ [Value.str (enc p0) t0]) F4 N4 (N4.isList (a := P) (by k_mem)) (N4.isList (a := D1) (by k_mem)) (by first | rfl | simp) ?_ ?z
      case z =>
        rw [sizeLine_eq]
        simp
        omega
      clear F4 N4
      intro D2 h' F' N' l2
      k_lt l2
      have hp0W : p0 ∈ W14 := by
        obtain ⟨x, hx, rfl⟩ := List.mem_map.mp (Ways.has_iff.mp (hhas p0 (.head _)))
        exact hG.keys x hx
      have hp0l : (enc p0).length ≤ 100 := by
        have := mem_all enc_all hp0W
        simp only [Bool.and_eq_true, decide_eq_true_eq] at this
        exact this.1.1.1
      k_steps
      unfold Stop
      rename News _ _ _ _ => N4
      refine' item0 (N4.isList (a := P) (by k_mem)) ?_
      k_steps
      unfold Stop
      rename Fr _ _ _ _ => F4
      rename News _ _ _ _ => N4
      obtain ⟨D3, hD3⟩ := name_head2 N4
      subst hD3
      refine' kmk_add_lit (its := ((Value.str (enc p0) t0 :: vr) ++ [Value.str (enc p0) t0]).toArray) (its2 := [_, _].toArray) (zs := ((Value.str (enc p0) t0 :: vr) ++ [Value.str (enc p0) t0]) ++ [_, _]) F4 N4 (N4.isList (a := D2) (by k_mem)) (N4.isList (a := D3) (by k_mem)) (by first | rfl | simp) ?_ ?z
      case z =>
        rw [sizeLine_eq]
        simp
        omega
      clear F4 N4
      intro Ag h' F' N' l3
      have hag : StrsAre _ (agS (p0 :: pr) p0) := agS_are (t0 := t0) (a := tk2 + 1 + 1) (b := tk2 + 1 + 1 + 1) hsp
      have hP3 := l3 (P, _) (.tail _ (.tail _ (.tail _ (.head _))))
      have hd3 := l3 (d, _) (.tail _ (.tail _ (.tail _ (.tail _ (.head _)))))
      have hAg4 : ∀ q ∈ recL w cx cdx ca cb xs ys na nb t1 t2 t3 t4, Ag ≠ q.1 := fun q hq => Nat.ne_of_gt (l3 q (.tail _ (.tail _ (.tail _ (.tail _ (.tail _ (.tail _ (List.mem_append_left wl hq))))))))
      generalize hva : ((Value.str (enc p0) t0 :: vr) ++ [Value.str (enc p0) t0]) ++ [Value.str (Txt.upper (enc p0)) (tk2 + 1 + 1), Value.str (Str.ofString "*") (tk2 + 1 + 1 + 1)] = va at N' hag
      have hval : va.length ≤ 17 := by rw [← hva]; simp; omega
      clear hva l1 l2
      k_lt l3
      generalize Value.str (enc p0) t0 :: vr = vp at *
      clear hsr
      k_steps
      unfold Stop
      rename Fr _ _ _ _ => F5
      rename News _ _ _ _ => N5
      replace N5 : News g L' _ ((Ag, PySem.W.listOf va.toArray 0) :: (P, PySem.W.listOf vp.toArray kp) :: (d, o) :: (L' + 1, o') :: (recL w cx cdx ca cb xs ys na nb t1 t2 t3 t4 ++ wl)) := fun p hp => N5 p (by
        exact sub15_3 _ hp)
      refine' Spec.use (rec_spec (xs := va) (ys := vp) (n1 := 0) (n2 := kp) (by omega) (by omega)) ?B F5 ?X N5 ?T ?khh ?khd ?khu ?khA ?khf ?khk ⟨?pr1, ?pr2⟩ ?_
      case B => k_asm
      case X => k_asm
      case T => k_asm
      case khh => exact rfl
      case khd => exact Nat.le_of_ble_eq_true rfl
      case khu => exact Nat.le_of_ble_eq_true rfl
      case khA => exact rfl
      case khf => exact rfl
      case khk => exact rfl
      case pr1 => exact (N5 (Ag, _) (by k_mem)).1
      case pr2 => exact (N5 (P, _) (by k_mem)).1
      intro v new h' tk3 F' N' hdis hpost
      obtain ⟨ax, adx, aa, ab, na2, nb2, s1, s2, s3, s4, rfl, r1, r2, r3, r4⟩ := hpost
      replace N' := led_of (l := recL w ax adx aa ab va vp na2 nb2 s1 s2 s3 s4) N' (mem4 r1 r2 r3 r4)
      have hdA : ∀ q ∈ recL w ax adx aa ab va vp na2 nb2 s1 s2 s3 s4, q ∈ new := mem4 r1 r2 r3 r4
      have dN : ∀ q ∈ ((Ag, PySem.W.listOf va.toArray 0) :: (P, PySem.W.listOf vp.toArray kp) :: (d, o) :: (L' + 1, o') :: (recL w cx cdx ca cb xs ys na nb t1 t2 t3 t4 ++ wl)), ∀ p ∈ recL w ax adx aa ab va vp na2 nb2 s1 s2 s3 s4, q.1 ≠ p.1 := fun q hq p hp => hdis q hq p (hdA p hp)
      clear hdis hdA r1 r2 r3 r4 F5 N5
      simp only [recL, List.cons_append, List.nil_append] at N'
      k_steps
      unfold Stop
      rename Fr _ _ _ _ => F6
      rename News _ _ _ _ => N6
      have hlx := hx.len_eq
      have hly := hy.len_eq
      rw [List.length_map] at hlx hly
      rw [List.length_reverse] at hlx
      refine' SpecG.use (rest := (Ag, PySem.W.listOf va.toArray 0) :: (P, PySem.W.listOf vp.toArray kp) :: (d, o) :: (L' + 1, o') :: wl) (merge_spec (x := ax) (dx := adx) (a := aa) (b := ab) (xs := va) (ys := vp) (na := na2) (nb := nb2) (t1 := s1) (t2 := s2) (t3 := s3) (t4 := s4) (x2 := cx) (dx2 := cdx) (a2 := ca) (b2 := cb) (xs2 := xs) (ys2 := ys) (na2 := na) (nb2 := nb) (u1 := t1) (u2 := t2) (u3 := t3) (u4 := t4) hag hx (by omega) (by omega) (by omega) (by omega)) ?B F6 ?X N6 ?T ?khh ?khd ?khu ?khA ?khf ?khk ?hm ?hs ?hne (fun _ _ => trivial) ?_
      case B => k_asm
      case X => k_asm
      case T => k_asm
      case khh => exact rfl
      case khd => exact Nat.le_of_ble_eq_true rfl
      case khu => exact Nat.le_of_ble_eq_true rfl
      case khA => exact rfl
      case khf => exact rfl
      case khk => exact rfl
      case hm =>
        intro p hp
        exact sub15_4 _ hp
      case hs =>
        intro p hp
        exact sub15_5 _ hp
      case hne =>
        intro p hp hmem
        obtain ⟨q, hq, e⟩ := List.mem_map.mp hmem
        rcases List.mem_append.mp hq with hq | hq
        · refine dN p ?_ q hq e.symm
          exact sub15_6 _ hp
        · simp only [List.mem_cons] at hp
          rcases hp with rfl | rfl | rfl | rfl | h
          · exact hAg4 q hq e.symm
          · exact hP4 q hq e.symm
          · exact hd4 q hq e.symm
          · exact hw4 q hq e.symm
          · exact (hwl p h).2 q hq e.symm
      clear F6 N6 dN
      intro v led' h' tk4 F' N' hdis hpost
      obtain ⟨new2, zs, rfl, hrec, hzs⟩ := hpost
      obtain ⟨mx, mdx, ma, mb, na3, nb3, v1, v2, v3, v4, rfl, r1, r2, r3, r4⟩ := hrec
      rw [List.append_assoc] at N'
      replace N' := led_of (l := recL w mx mdx ma mb zs (vp ++ ys) na3 nb3 v1 v2 v3 v4) N' (mem4 r1 r2 r3 r4)
      clear hdis r1 r2 r3 r4 new2 new
      simp only [recL, List.cons_append, List.nil_append] at N'
      have hpsW : ∀ p ∈ p0 :: pr, p ∈ W14 := fun p hp => by
        obtain ⟨x, hx, rfl⟩ := List.mem_map.mp (Ways.has_iff.mp (hhas p hp))
        exact hG.keys x hx
      have hagok := agS_ok hpsW hp0W
      have hpsok := enc_oks hpsW
      have hysok := enc_oks hW
      have hzs' : StrsAre zs ((agS (p0 :: pr) p0).filter fun x => (us.map enc).any (· == x)) := by simpa only [any_rev] using hzs
      have hagnil := ag_nil (p0 := p0) hW hpsW (.head _)
      clear hzs
      generalize hps : p0 :: pr = ps at *
      have hps0 : ps ≠ [] := by rw [← hps]; simp
      k_steps
      unfold Stop
      rename News _ _ _ _ => N7
      refine' ne_strs (N7.isList (a := aa) (by k_mem)) (N7.isList (a := Ag) (by k_mem)) hag hag hagok hagok (by first | units_room | exact Nat.le_of_ble_eq_true rfl) ?_
      rw [decide_eq_true rfl]
      k_steps
      unfold Stop
      rename News _ _ _ _ => N7
      refine' ne_strs (N7.isList (a := ab) (by k_mem)) (N7.isList (a := P) (by k_mem)) hsp hsp hpsok hpsok (by first | units_room | exact Nat.le_of_ble_eq_true rfl) ?_
      rw [decide_eq_true rfl]
      k_steps
      unfold Stop
      rename Fr _ _ _ _ => F8
      refine' comp1 (h₀ := g) (L := L') (l := Ag) (vs := va) (inE us) F8 ?hh ?hclos ?hcell ?hkind ?hnames ?hx ?hxd ?h ?hs
      case hh => exact rfl
      case hclos => with_unfolding_all rfl
      case hcell => decide
      case hkind => exact rfl
      case hnames => decide
      case hx => exact rfl
      case hxd => decide
      case hs => intro _; with_unfolding_all rfl
      case h =>
        k_steps
        unfold Stop
        rename Fr _ _ _ _ => F4
        rename News _ _ _ _ => N4
        refine' ⟨_, rfl, N4.isList (a := Ag) (by k_mem), by omega, F4, N4, ?leaf, ?fin⟩
        case leaf =>
          intro C v s₂ m₂ E' hC hv hn2 hm2 hk2
          obtain ⟨x0, ta, rfl⟩ := strs_item hag hv
          have N5 : News g L' s₂.heap _ := fun p hp => ⟨hk2 _ _ (N4 p hp).1, (N4 p hp).2⟩
          have pre2 : s₂.heap.IsList lh vh.toArray := preH.at fun o e => hk2 _ _ (F4.keep lh o e)
          clear F4 N4
          k_steps
          unfold Stop
          refine' in_list_strs pre2 hi ?_
          k_steps
          all_goals first | exact ⟨_, _, rfl, fun _ _ e => e⟩ | exact rfl
        case fin =>
          clear F4 N4
          intro D9 k2 h' tk9 F' N' l9
          have hD9 := N' _ (.head _)
          clear l9
          k_steps
          unfold Stop
          rename Fr _ _ _ _ => F5
          rename News _ _ _ _ => N5
          have hzok : ∀ x ∈ (agS ps p0).filter (fun x => (us.map enc).any (· == x)), PyData.strOk x = true := fun x hx => hagok x (List.mem_filter.mp hx).1
          refine' ne_strs (N5.isList (a := ma) (by k_mem)) (N5.isList (a := D9) (by k_mem)) hzs' (inE_filter us hag) hzok hzok (by first | units_room | exact Nat.le_of_ble_eq_true rfl) ?_
          rw [decide_eq_true rfl]
          k_steps
          unfold Stop
          rename Fr _ _ _ _ => F5
          rename News _ _ _ _ => N5
          refine' kmk_add_lit (its := vp.toArray) (its2 := vh.toArray) (zs := vp ++ vh) F5 N5 (N5.isList (a := P) (by k_mem)) (preH.at fun o e => F5.keep lh o e) (by first | rfl | simp) ?_ ?z
          case z =>
            rw [sizeLine_eq]
            simp
            omega
          clear F5 N5
          intro D8 h' F' N' l8
          clear l8
          k_steps
          unfold Stop
          rename Fr _ _ _ _ => F5
          rename News _ _ _ _ => N5
          refine' ne_strs (ns := ps.map enc ++ us.map enc) (ms := ps.map enc ++ us.map enc) (N5.isList (a := mb) (by k_mem)) (N5.isList (a := D8) (by k_mem)) (strsAre_append hsp hy) (strsAre_append hsp hi) (oks_append hpsok hysok) (oks_append hpsok hysok) (by first | units_room | exact Nat.le_of_ble_eq_true rfl) ?_
          rw [decide_eq_true rfl]
          k_steps
          unfold Stop
          rename Fr _ _ _ _ => F5
          rename News _ _ _ _ => N5
          refine' ne_strs (ms := []) (N5.isList (a := ma) (by k_mem)) (N5.isList (List.mem_cons_self ..)) hzs' .nil hzok (fun _ h => (nomatch h)) (by first | units_room | exact Nat.le_of_ble_eq_true rfl) ?_
          rw [hagnil, Bool.not_not]
          cases hany : ps.any us.contains with
          | true =>
            have ht : target = cnt := htar.symm.trans (by unfold toldR; rw [if_neg hps0, if_pos hany])
            k_steps
            unfold Stop
            rename Fr _ _ _ _ => F6
            rename News _ _ _ _ => N6
            refine ret _ ((d, o) :: (recL w cx cdx ca cb xs ys na nb t1 t2 t3 t4 ++ wl)) _ _ _ F6 (fun p hp => N6 p ?mem) ⟨o, kvs, wl, W, _, by rw [ht], rfl, hwl, hD, hR, hG⟩
            exact sub15_7 _ hp
          | false =>
            k_steps
            unfold Stop
            rename Fr _ _ _ _ => F6
            rename News _ _ _ _ => N6
            have hlhd : ∀ ob, g.get? lh = some ob → lh ≠ d := fun ob e q => by rw [q, (N6 (d, o) (by k_mem)).2.2] at e; cases e
            refine' SpecM.use (rest := (L' + 1, o') :: (recL w cx cdx ca cb xs ys na nb t1 t2 t3 t4 ++ wl)) (round_spec (G := fun a o => G a o ∨ (a, o) ∈ wl) hn hi hW hsp hhas lo hD hR hG) ?B F6 ?X N6 ?T ?khh ?khd ?khu ?khA ?khf ?khk ?hm ?hs ?hne ?hpre ?_
            case B => k_asm
            case X => k_asm
            case T => k_asm
            case khh => exact rfl
            case khd => exact Nat.le_of_ble_eq_true rfl
            case khu => exact Nat.le_of_ble_eq_true rfl
            case khA => exact rfl
            case khf => exact rfl
            case khk => exact rfl
            case hm => k_mem
            case hs =>
              intro p hp
              exact sub15_8 _ hp
            case hne =>
              intro p hp
              rcases List.mem_cons.mp hp with e | hp
              · rw [e]; exact hw1
              rcases List.mem_append.mp hp with e | e
              · exact (hd4 p e).symm
              · exact (hwl p e).1
            case hpre =>
              intro g2 hk2
              refine ⟨(N6.isList (a := P) (by k_mem)).at fun ob e => hk2 _ _ e hPd, preH.at fun ob e => hk2 _ _ (F6.keep lh ob e) (hlhd ob e), fun a ob e => ?_⟩
              rcases e with e | e
              · exact hk2 _ _ (F6.keep a ob (preG a ob e)) fun q => by
                  have := preG a ob e
                  rw [q, (N6 (d, o) (by k_mem)).2.2] at this; cases this
              · exact hk2 _ _ (N6 (a, ob) (by simp [e])).1 (hwl _ e).1
            clear F6 N6
            intro v new o2 h' tk9 F' N' hnd hdis hpost
            obtain ⟨la, vs2, n2, kvs2, wl2, rfl, rfl, hs2, hla, hD2, hR2, hG2, hhas2, hlen2⟩ := hpost
            simp only [recL, List.cons_append, List.nil_append] at N'
            k_steps
            unfold Stop
            rename Fr _ _ _ _ => F6
            rename News _ _ _ _ => N6
            have hnx := leftT_next (us := us) hps0 hG2.len
            have hR3 : WaysAre (fun a o => G a o ∨ (a, o) ∈ wl2 ++ wl) kvs2 (round ps us W).1 := hR2.mono fun a ob e => by
              rcases e with (e | e) | e
              · exact .inl e
              · exact .inr (List.mem_append_right _ e)
              · exact .inr (List.mem_append_left _ e)
            have hC : ∀ q ∈ recL w cx cdx ca cb xs ys na nb t1 t2 t3 t4, q ∈ (L' + 1, o') :: (recL w cx cdx ca cb xs ys na nb t1 t2 t3 t4 ++ wl) := fun q hq => .tail _ (List.mem_append_left _ hq)
            refine TurnEnd.intro (own := []) (nx := (la, PySem.W.listOf vs2.toArray n2) :: (d, o2) :: (L' + 1, o') :: (recL w cx cdx ca cb xs ys na nb t1 t2 t3 t4 ++ (wl2 ++ wl))) F6 (fun p hp => N6 p ?mem2) (fun _ _ _ h => (nomatch h)) ⟨leftT (round ps us W).2 (round ps us W).1, hnx, la, vs2, n2, cnt + 1, _, (round ps us W).2, (round ps us W).1, f, o2, kvs2, wl2 ++ wl, rfl, rfl, rfl, rfl, rfl, hs2, hhas2, hG2, hD2, hR3, ?j1, hnd _ (.head _), fun q hq => (hdis q (hC q hq) _ (.head _)).symm, hlen2, rfl, ?j2, ?j3, ?j4⟩
            case mem2 =>
              exact sub15_9 _ hp
            case j1 =>
              intro p hp
              rcases List.mem_append.mp hp with e | e
              · exact ⟨hnd _ (.tail _ e), fun q hq => (hdis q (hC q hq) _ (.tail _ e)).symm⟩
              · exact hwl p e
            case j2 => omega
            case j3 =>
              rw [← htar]
              conv => rhs; unfold toldR
              rw [if_neg hps0, if_neg (by rw [hany]; simp)]
            case j4 => omega
end
section
open PySem PySem.W PySem.Calls PySem.Spec PyProof.Rows PyProof.Rows.LCg
set_option maxRecDepth 100000
set_option maxHeartbeats 8000000
set_option linter.unusedVariables false
theorem filter_yes (l : List Value) : l.filter (fun _ => true) = l := by simp
section
variable {prog : Program} {w : World} {A : Around} {E : Value → Shared → Prop} {s : Shared} {h₀ : Heap} {L : Addr} {m : PySem.Str → Option Value} {env : Env}
/-- a comprehension over a text, within another -/
theorem compS {elt iter : Expr} {x : PySem.Str} {px : Pos} {scope : Scope} {cl : List (PySem.Str × Addr)} {pos : Pos} {Q : Value → Shared → Prop} (d : PySem.Str → PyData)
    (hh : A.handled = none) (hclos : closureFor scope env = pure cl) (hcell : ∀ y ∈ scope.names, y.2 ≠ .cell) (hkind : scope.kind = .function)
    (hnames : ∀ y ∈ scope.names, y.2 = .local → scope.names.lookup y.1 = some .local) (hx : scope.names.lookup x = some .local)
    (h : wpAny (model prog w) A (eval iter env) (fun xv s₁ => ∃ y t, xv = .str y t ∧ y.length ≤ sizeLine ∧
      (∀ C a t s₂ m₂ E', s₂.heap.Ns C m₂ → m₂ x = some (.str a t) → wpAny (model prog w) A (eval elt (compEnvC scope cl C env)) (fun r s₃ => Carried r (d a) ∧ Keeps s₂ s₃) E' s₂) ∧
      (∀ D (ys : List Value) h' tk, h'.IsList D ys.toArray → CarriedAll ys ((signs y).map d) → (∀ b o, s₁.heap.get? b = some o → h'.get? b = some o) → Q (.ref D) { s₁ with heap := h', toks := tk })) E s)
    (hs : ∀ x, foldedSetIterable iter env x = pure x) :
    wpAny (model prog w) A (eval (.ListComp elt [⟨.Name x px, iter, [], 0⟩] scope pos) env) Q E s := by
  refine wpAny_ListComp_free (ItemKind.str.lift fun _ => true) (fun v r => ∃ a, ItemKind.str.is a v ∧ Carried r (d a)) hclos hcell hkind hnames hx (wpAny_mono h (fun xv s₁ h₁ => ?_) fun _ _ e => e) hs
  obtain ⟨y, t, rfl, hsz, helt, hQ⟩ := h₁
  refine wpAny_pyIter_str fun o St W hst => ?_
  have up : ∀ (h' : Heap), (∀ b o', b ∉ [s₁.heap.objs.size] → (s₁.heap.push o).get? b = some o' → h'.get? b = some o') → ∀ b o', s₁.heap.get? b = some o' → h'.get? b = some o' :=
    fun h' hk b o' e => hk b o' (old_not_new e) (Heap.get?_push_of_some _ e)
  refine ⟨s₁.heap.objs.size, [s₁.heap.objs.size], [s₁.heap.objs.size], y.cps.size, SignAt y, St, rfl, W A hh, hsz, hst, ?_, ⟨?_, ?_⟩, ?_⟩
  · intro b hb
    show b < (s₁.heap.push o).objs.size
    rw [Heap.size_push, List.mem_singleton.mp hb]
    exact Nat.lt_succ_self _
  · intro C i v s₃ m₃ E' hC hP hn hm _ _
    obtain ⟨c, u, _, rfl⟩ := hP
    have ha : ItemKind.str.is ⟨#[c]⟩ (.str ⟨#[c]⟩ u) := ⟨u, rfl⟩
    rw [List.forIn_nil, ItemKind.lift_is ha]
    exact wpAny_pure ⟨rfl, s₃.heap, s₃.toks, rfl, fun _ _ e => e⟩
  · intro C i v s₃ m₃ E' hC hP hp hn hm _ _
    obtain ⟨c, u, _, rfl⟩ := hP
    exact wpAny_mono (helt C ⟨#[c]⟩ u s₃ m₃ E' hn hm) (fun r s₄ h₄ => ⟨⟨_, ⟨u, rfl⟩, h₄.1⟩, h₄.2⟩) fun _ _ e => e
  · intro D h' tk ys vs hnew hlD hplD hlen hP hF hk
    refine hQ D ys.toList h' tk (by rw [Array.toArray_toList]; exact hlD) ?_ (up h' hk)
    have e : (signs y).filter (fun _ => true) = signs y := by simp
    have := (areOf_signs hlen hP).paired (fun _ => true) d ys.toList hF
    rw [e] at this
    exact this
/-- x = [elt for y in a list] -/
theorem compA {elt iter : Expr} {x z : PySem.Str} {px pz : Pos} {scope : Scope} {cl : List (PySem.Str × Addr)} {pos spos : Pos} {Q : Flow → Shared → Prop} {l : Addr} {vs : List Value} (R : Value → Value → Prop) (_F : Fr h₀ L s.heap m)
    (hsw : swapsWith (.ListComp elt [⟨.Name x px, iter, [], 0⟩] scope pos) (some (.Name z pz)) spos.line env = pure true) (hL : env.locals = L) (hz : env.kindOf z = some .local) (hzp : (env.scope.kind == .class || (env.scope.kind == .module && env.locals != env.globals)) = false)
    (hh : A.handled = none) (hclos : closureFor scope env = pure cl) (hcell : ∀ y ∈ scope.names, y.2 ≠ .cell) (hkind : scope.kind = .function)
    (hnames : ∀ y ∈ scope.names, y.2 = .local → scope.names.lookup y.1 = some .local) (hx : scope.names.lookup x = some .local)
    (h : wpAny (model prog w) A (eval iter env) (fun xv s₁ => ∃ news : List (Addr × Obj), xv = .ref l ∧ s₁.heap.IsList l vs.toArray ∧ vs.length ≤ 1000 ∧ Fr h₀ L s₁.heap m ∧ News h₀ L s₁.heap news ∧
      (∀ C v s₂ m₂ E', s₁.heap.objs.size ≤ C → v ∈ vs → s₂.heap.Ns C m₂ → m₂ x = some v → (∀ b o, s₁.heap.get? b = some o → s₂.heap.get? b = some o) →
        wpAny (model prog w) A (eval elt (compEnvC scope cl C env)) (fun r s₃ => R v r ∧ Keeps s₂ s₃) E' s₂) ∧
      (∀ D ys k h' tk, Fr h₀ L h' (fun a => if a = z then some (.ref D) else m a) → News h₀ L h' ((D, PySem.W.listOf ys.toArray k) :: news) → (∀ p ∈ news, p.1 ≠ D) → Paired R vs ys → Q .next { s₁ with heap := h', toks := tk })) E s)
    (hs : ∀ x, foldedSetIterable iter env x = pure x) :
    wpAny (model prog w) A (exec (.Assign [.Name z pz] (.ListComp elt [⟨.Name x px, iter, [], 0⟩] scope pos) spos) env) Q E s := by
  refine wpAny_Assign_ListComp_free (fun _ => true) R hsw hclos hcell hkind hnames hx hz hzp (wpAny_mono h (fun xv s₁ h₁ => ?_) fun _ _ e => e) hs
  obtain ⟨news, rfl, hl, hsz, F, N, leaf, hQ⟩ := h₁
  have hlt : l < s₁.heap.objs.size := by obtain ⟨_, e, _⟩ := hl; exact Heap.lt_size e
  have hLlt : @LT.lt Nat _ L s₁.heap.objs.size := F.ns.lt
  have up : ∀ (g : Heap), (∀ b o, b ∉ [s₁.heap.objs.size] → (s₁.heap.push { cls := .type "list_iterator", data := .fields #[.ref l, .int 0 0] }).get? b = some o → g.get? b = some o) → ∀ b o, s₁.heap.get? b = some o → g.get? b = some o :=
    fun g hk b o e => hk b o (fun hm => by rw [List.mem_singleton.mp hm] at e; exact Nat.lt_irrefl _ (Heap.lt_size e)) (Heap.get?_push_of_some _ e)
  refine wpAny_pyIter_list hl ⟨s₁.heap.objs.size, [s₁.heap.objs.size, l], [s₁.heap.objs.size], vs.toArray.size, _, _, _, rfl, Walks.list hh _ _ (Nat.ne_of_lt hlt) vs.toArray, (by rw [List.size_toArray, sizeLine_eq]; omega), ⟨⟨_, Heap.get?_push_size _ rfl, rfl, rfl⟩, hl.push _⟩, ?_, ?_, hL ▸ (F.push _).ns, ⟨?_, ?_⟩, ?_⟩
  · intro b hb
    show b < (s₁.heap.push _).objs.size
    rw [Heap.size_push]
    rcases List.mem_cons.mp hb with rfl | hb
    · exact Nat.lt_succ_self _
    · rw [List.mem_singleton.mp hb]; exact Nat.lt_succ_of_lt hlt
  · rw [hL]
    intro hm
    exact absurd F.ns.lt ((List.mem_singleton.mp hm) ▸ Nat.lt_irrefl _)
  · intro C i v s₃ m₃ E' hC hP hn hm hk _
    rw [List.forIn_nil]
    exact wpAny_pure ⟨rfl, s₃.heap, s₃.toks, rfl, fun _ _ e => e⟩
  · intro C i v s₃ m₃ E' hC hP hp hn hm hk _
    rw [Heap.size_push] at hC
    exact leaf C v s₃ m₃ E' (Nat.le_of_succ_le hC) (List.mem_of_getElem? (i := i) (by simpa using hP)) hn hm (up _ hk)
  · intro D h' tk ys vs' hnew hlD hplD hlen hP hF hn' hk
    have e : vs' = vs := by simpa using list_of_places hlen hP
    subst e
    rw [filter_yes] at hF
    rw [hL] at hn' hk
    have hk0 : ∀ b o, b ≠ L → s₁.heap.get? b = some o → h'.get? b = some o := fun b o hb e => hk b o hb (fun hm => by rw [List.mem_singleton.mp hm] at e; exact Nat.lt_irrefl _ (Heap.lt_size e)) (Heap.get?_push_of_some _ e)
    obtain ⟨k, hkD⟩ := hplD
    have hLD : D ≠ L := fun e => by
      obtain ⟨oL, _, _, ho, _⟩ := F.ns
      rw [e, Heap.get?_push_of_some _ ho] at hnew; cases hnew
    have hD₀ : h₀.get? D = none := by
      cases e : h₀.get? D with
      | none => rfl
      | some o' => rw [Heap.get?_push_of_some _ (F.keep _ _ e)] at hnew; cases hnew
    refine hQ D ys.toList k h' tk ⟨hn', fun b o e => hk0 b o ?_ (F.keep b o e), F.above⟩ (fun q hq => ?_) (fun q hq e => by rw [← e, Heap.get?_push_of_some _ (N q hq).1] at hnew; cases hnew) hF
    · rintro rfl
      have := Heap.lt_size e
      exact absurd F.above (Nat.not_le.mpr this)
    rcases List.mem_cons.mp hq with e | hq
    · rw [e]; exact ⟨by rw [Array.toArray_toList]; exact hkD, hLD, hD₀⟩
    · exact ⟨hk0 _ _ (N q hq).2.1 (N q hq).1, (N q hq).2⟩
end
end
section
open PySem PySem.W PySem.Calls PySem.Spec PyProof.Rows PyProof.V
set_option maxRecDepth 100000
set_option maxHeartbeats 8000000
set_option linter.unusedVariables false
noncomputable def tupD (ns ms : List PySem.Str) : PyData := .tuple [.list (ns.map PyData.str), .list (ms.map PyData.str), .none, .none]
theorem tupD_shaped {ns ms : List PySem.Str} (h1 : ∀ x ∈ ns, PyData.strOk x = true) (h2 : ∀ x ∈ ms, PyData.strOk x = true) : SeqAt.shaped (tupD ns ms) = true := by
  simp [tupD, SeqAt.shaped, PyData.canLay0, PyData.canLayAll0, PyData.depth, PyData.depthAll, es_can ns h1, es_can ms h2, es_depth]
theorem tupD_same (ns ms : List PySem.Str) : PySem.Spec.same (tupD ns ms) (tupD ns ms) = true := by
  simp only [tupD, PySem.Spec.same, PySem.Spec.sameAll, es_all]
  simp
theorem tupD_mix (ns ms : List PySem.Str) : SeqAt.noMix (tupD ns ms) (tupD ns ms) = true :=
  SeqAt.noMix_of_shape (.tuple [.list .str, .list .str, .none, .none]) rfl _ _ (by simp [tupD, Shape.has, Shape.hasAll]) (by simp [tupD, Shape.has, Shape.hasAll])
section
variable {prog : Program} {w : World} {A : Around} {E : Value → Shared → Prop} {s : Shared} {a b la lb ma mb : Addr} {xs ys zs ws : List Value} {ns ms : List PySem.Str} {n k : Nat} {Q : Value → Shared → Prop}
theorem ne_tup4 (ha : s.heap.get? a = some { cls := .type "tuple", data := .seq #[.ref la, .ref lb, .none, .none] n }) (hb : s.heap.get? b = some { cls := .type "tuple", data := .seq #[.ref ma, .ref mb, .none, .none] k })
    (h1 : s.heap.IsList la xs.toArray) (h2 : s.heap.IsList lb ys.toArray) (h3 : s.heap.IsList ma zs.toArray) (h4 : s.heap.IsList mb ws.toArray)
    (s1 : StrsAre xs ns) (s2 : StrsAre ys ms) (s3 : StrsAre zs ns) (s4 : StrsAre ws ms) (ok1 : ∀ x ∈ ns, PyData.strOk x = true) (ok2 : ∀ x ∈ ms, PyData.strOk x = true) (hu : A.units + 64 < cLine) (h : Q (.bool false) s) :
    wpAny (model prog w) A (compareOp .NotEq (.ref a) (.ref b)) Q E s :=
  ne_dataH_same (da := tupD ns ms) (db := tupD ns ms)
    (reads_tuple_at ha rfl rfl (.cons (reads_newData h1 (es_carried s1)) (.cons (reads_newData h2 (es_carried s2)) (.cons .none (.cons .none .nil)))))
    (reads_tuple_at hb rfl rfl (.cons (reads_newData h3 (es_carried s3)) (.cons (reads_newData h4 (es_carried s4)) (.cons .none (.cons .none .nil)))))
    (tupD_shaped ok1 ok2) (tupD_shaped ok1 ok2) hu (tupD_mix ns ms) (by rw [tupD_same]; exact h)
end
end
section
open PySem PySem.W PySem.Calls PySem.Spec PyProof.Rows
set_option maxRecDepth 100000
set_option maxHeartbeats 8000000
set_option linter.unusedVariables false
section
variable {prog : Program} {w : World} {A : Around} {E : Value → Shared → Prop} {s : Shared} {env : Env} {h₀ : Heap} {x : PySem.Str} {body : List Stmt} {Q : Flow → Shared → Prop}
/-- a for over the keys of a dict that stands still -/
theorem iter_dict {l L : Addr} {o : Obj} {kvs : List (PySem.Str × Value)} {m₀ : PySem.Str → Option Value} {led news : List (Addr × Obj)} (J : Nat → (PySem.Str → Option Value) → List (Addr × Obj) → Prop)
    (hL : env.locals = L) (hh : A.handled = none) (F : Fr h₀ L s.heap m₀) (N : News h₀ L s.heap led) (hm : (l, o) ∈ led) (hsub : ∀ p ∈ news, p ∈ led) (hoffl : ∀ p ∈ news, p.1 ≠ l) (lo : (l == sysModules) = false) (hD : o.IsDictOf (PySem.strKind prog w) kvs) (hj : J 0 m₀ news)
    (turn : ∀ i k y t m₁ news₁ h tk I oI, kvs[i]? = some (k, y) → J i m₁ news₁ → (∀ p ∈ news₁, p.1 ≠ I) → (∀ p ∈ news₁, p.1 ≠ l) → Fr h₀ L h (fun y => if y = x then some (.str k t) else m₁ y) → News h₀ L h ((I, oI) :: (l, o) :: news₁) →
      wpAny (model prog w) A (execs body env) (TurnEnd h₀ L [(I, oI), (l, o)] (J (i + 1)) { s with heap := h, toks := tk } Q) E { s with heap := h, toks := tk })
    (done : ∀ m₁ news₁ h tk, J kvs.length m₁ news₁ → Fr h₀ L h m₁ → News h₀ L h news₁ → Q .next { s with heap := h, toks := tk }) :
    wpAny (model prog w) A (pyIter (.ref l)) (fun it s₂ => LoopAtV prog w A h₀ env x body Q E it s₂) E s := by
  subst hL
  have hol := (N _ hm).1
  have hlL : l ≠ env.locals := (N _ hm).2.1
  obtain ⟨ep, hat⟩ := (Heap.dictOf_iff.mpr ⟨o, hol, hD⟩).dictAt
  have hne : l ≠ s.heap.objs.size := Nat.ne_of_lt (Heap.lt_size hol)
  refine wpAny_pyIter_dict lo hat ?_
  have W := Walks.dictKeys (knd := PySem.strKind prog w) hh s.heap.objs.size l hne kvs ep
  let J' : Nat → (PySem.Str → Option Value) → List (Addr × Obj) → Prop := fun i m nx => (l, o) ∈ nx ∧ ∃ nx', (∀ p ∈ nx', p ∈ nx) ∧ (∀ p ∈ nx', p.1 ≠ l) ∧ J i m nx'
  refine ⟨_, _, _, _, _, _, m₀, led, J', rfl, W, ?_, ?_, ?_, ⟨⟨_, Heap.get?_push_size _ rfl, rfl, rfl⟩, hat.push _⟩, F.push _, (fun p hp => ⟨Heap.get?_push_of_some _ (N p hp).1, (N p hp).2⟩), ⟨hm, news, hsub, hoffl, hj⟩, ?_, ?_⟩
  · intro hm
    rcases List.mem_cons.mp hm with e | hm
    · exact absurd F.ns.lt (e ▸ Nat.lt_irrefl _)
    · exact hlL (List.mem_singleton.mp hm).symm
  · intro b hb
    rw [List.mem_singleton.mp hb]
    exact next_is_new F
  · intro p hp hI
    exact absurd (Heap.lt_size (N p hp).1) ((List.mem_singleton.mp hI) ▸ Nat.lt_irrefl _)
  · rintro i v m₁ news₁ s₁ own ⟨hh', tk', rfl⟩ hin hP ⟨hml, nx, hs, hol', hJ⟩ hoff hown hheap hall st F₁ N₁
    obtain ⟨oI, hoI, _⟩ := st.1
    have hI : (s.heap.objs.size, oI) ∈ own := hall _ (.head _) (next_is_new F) oI hoI
    obtain ⟨key, y, hv, hkey⟩ := hP
    obtain ⟨t, rfl⟩ := Value.isStrOf_shape hkey
    have hoff' : ∀ p ∈ nx, p.1 ≠ s.heap.objs.size := fun p hp e => hoff p (hs p hp) (e ▸ .head _)
    have hlI : hh'.get? l = some o := (N₁ _ (List.mem_append_right _ hml)).1
    have only : ∀ p ∈ own, p = (s.heap.objs.size, oI) ∨ p = (l, o) := by
      intro p hp
      have h2 := hheap p hp
      rcases List.mem_cons.mp (hown p hp) with e | e
      · rw [e] at h2
        exact .inl (Prod.ext e (Option.some.inj (h2.symm.trans hoI)))
      · have e := List.mem_singleton.mp e
        rw [e] at h2
        exact .inr (Prod.ext e (Option.some.inj (h2.symm.trans hlI)))
    have N₂ : News h₀ env.locals hh' ((s.heap.objs.size, oI) :: (l, o) :: nx) := fun p hp => N₁ p (by
      rcases List.mem_cons.mp hp with e | hp
      · exact List.mem_append_left _ (e ▸ hI)
      · rcases List.mem_cons.mp hp with e | hp
        · exact List.mem_append_right _ (e ▸ hml)
        · exact List.mem_append_right _ (hs p hp))
    refine wpAny_mono (turn i key y t m₁ nx hh' tk' s.heap.objs.size oI hv hJ hoff' hol' F₁ N₂) (fun f s₂ p => ?_) fun _ _ e => e
    have fin : (∃ h' tk m' nx', s₂ = { { s with heap := hh', toks := tk' } with heap := h', toks := tk } ∧ Fr h₀ env.locals h' m' ∧ News h₀ env.locals h' ([(s.heap.objs.size, oI), (l, o)] ++ nx') ∧ (∀ p ∈ nx', ∀ q ∈ [(s.heap.objs.size, oI), (l, o)], p.1 ≠ q.1) ∧ J (i + 1) m' nx') →
        LoopStepU h₀ env.locals [s.heap.objs.size] own (J' (i + 1)) { s with heap := hh', toks := tk' } .next s₂ := by
      rintro ⟨h', tk, m', nx', e, F', N', hn, hm'⟩
      refine ⟨rfl, h', tk, m', (l, o) :: nx', e, F', fun p hp => ?_, fun p hp hq => ?_, .head _, nx', fun p hp => .tail _ hp, fun p hp => hn p hp _ (.tail _ (.head _)), hm'⟩
      · rcases List.mem_append.mp hp with q | q
        · rcases only p q with e | e
          · exact N' p (e ▸ .head _)
          · exact N' p (e ▸ .tail _ (.head _))
        · rcases List.mem_cons.mp q with e | q
          · exact N' p (e ▸ .tail _ (.head _))
          · exact N' p (List.mem_append_right _ q)
      · rcases List.mem_cons.mp hp with e | q
        · have := List.mem_singleton.mp hq
          rw [e] at this
          exact hne this
        · exact hn p q _ (.head _) (List.mem_singleton.mp hq)
    cases f with
    | ret v => exact .ret p
    | brk => exact .brk p
    | next => exact .next (fin p)
    | cont => exact .cont (fin p)
  · rintro h' tk m' news' F' N' _ ⟨_, nx, hs, _, hJ⟩
    have hJ' : J kvs.length m' nx := hJ
    exact done m' nx h' tk hJ' F' fun p hp => N' p (hs p hp)

end
end
section
open PySem PySem.W PySem.Calls PySem.Spec PyProof.Rows
set_option maxRecDepth 100000
set_option maxHeartbeats 8000000
set_option linter.unusedVariables false
theorem sjoin_app (sep : PySem.Str) : ∀ (a b : List PySem.Str), a ≠ [] → b ≠ [] → Str.join sep (a ++ b) = Str.join sep a ++ sep ++ Str.join sep b
  | [], _, h, _ => absurd rfl h
  | [x], [], _, h => absurd rfl h
  | [x], y :: r, _, _ => rfl
  | x :: y :: r, b, _, hb => by
    show x ++ sep ++ Str.join sep (y :: r ++ b) = (x ++ sep ++ Str.join sep (y :: r)) ++ sep ++ Str.join sep b
    rw [sjoin_app sep (y :: r) b (by simp) hb]
    simp only [Str.append_assoc]
theorem txt_join (sep : PySem.Str) (l : List PySem.Str) : Txt.join sep l = Str.join sep l := StrLaws.glued_eq_join sep l
theorem enc_app {u v : Wd} (hu : u ≠ []) (hv : v ≠ []) : enc (u ++ v) = enc u ++ Str.ofString "." ++ enc v := by
  unfold enc
  rw [txt_join, txt_join, txt_join, List.map_append]
  exact sjoin_app _ _ _ (by simpa using hu) (by simpa using hv)
theorem join_encs : ∀ us : List Wd, us ≠ [] → (∀ u ∈ us, u ≠ []) → Txt.join (Str.ofString ".") (us.map enc) = enc us.flatten
  | [], h, _ => absurd rfl h
  | [u], _, _ => by rw [txt_join]; simp [Str.join]
  | u :: v :: r, _, h => by
    have ih := join_encs (v :: r) (by simp) fun x hx => h x (.tail _ hx)
    rw [txt_join] at ih ⊢
    show enc u ++ Str.ofString "." ++ Str.join (Str.ofString ".") ((v :: r).map enc) = _
    rw [ih, List.flatten_cons (l := u), enc_app (h u (.head _))]
    have := h v (.tail _ (.head _))
    simp only [List.flatten_cons]
    intro e
    exact this (List.append_eq_nil_iff.mp e).1
theorem w14_nn {u : Wd} (h : u ∈ W14) : u ≠ [] := by
  rintro rfl
  revert h
  decide
theorem sum_len : ∀ xs : List PySem.Str, (∀ x ∈ xs, x.length ≤ 100) → (xs.map (·.length)).sum ≤ 100 * xs.length
  | [], _ => by simp
  | x :: r, h => by
    have h1 := h x (.head _)
    have h2 := sum_len r fun y hy => h y (.tail _ hy)
    simp only [List.map_cons, List.sum_cons, List.length_cons]
    omega
theorem enc_len {u : Wd} (h : u ∈ W14) : (enc u).length ≤ 100 := by
  have := mem_all enc_all h
  simp only [Bool.and_eq_true, decide_eq_true_eq] at this
  exact this.1.1.1
theorem encs_weight {us : List Wd} (hW : ∀ u ∈ us, u ∈ W14) (hl : us.length ≤ 100) : ((us.map enc).map (·.length)).sum + (us.map enc).length ≤ 1048576 := by
  have := sum_len (us.map enc) fun x hx => by obtain ⟨u, hu, rfl⟩ := List.mem_map.mp hx; exact enc_len (hW u hu)
  rw [List.length_map] at this ⊢
  omega
theorem rows_eq {lo sh : List Wd} {p : Wd} (h1 : lo ≠ []) (hlo : ∀ u ∈ lo, u ∈ W14) (hp : p ∈ W14) (hsh : ∀ u ∈ sh, u ∈ W14) (hf : lo.flatten = p ++ sh.flatten) :
    Txt.join (Str.ofString ".") (lo.map enc) = Txt.join (Str.ofString ".") ((p :: sh).map enc) := by
  rw [join_encs lo h1 fun u hu => w14_nn (hlo u hu), join_encs (p :: sh) (by simp) fun u hu => by
    rcases List.mem_cons.mp hu with rfl | hu
    · exact w14_nn hp
    · exact w14_nn (hsh u hu), hf, List.flatten_cons]
end
section
set_option maxRecDepth 100000
set_option linter.unusedVariables false
/-- the two ways to put words together -/
structure Cat (c : Wd → Wd → Wd) : Prop where
  assoc : ∀ a b d, c (c a b) d = c a (c b d)
  unit : ∀ a, c a [] = a
  unitL : ∀ a, c [] a = a
  cancel : ∀ a b d, c a b = c a d → b = d
  nil : ∀ a b, c a b = [] → a = []
  two : ∀ p x w y, c p x = c w y → (∃ r, p = c w r ∧ y = c r x) ∨ (∃ r, w = c p r ∧ x = c r y)
noncomputable def catA (a b : Wd) : Wd := a ++ b
noncomputable def catB (a b : Wd) : Wd := b ++ a
theorem Cat.A : Cat catA where
  assoc := fun a b d => List.append_assoc a b d
  unit := fun a => List.append_nil a
  unitL := fun a => rfl
  cancel := fun a b d h => List.append_cancel_left h
  nil := fun a b h => (List.append_eq_nil_iff.mp h).1
  two := fun p x w y h => by
    rcases List.append_eq_append_iff.mp h with ⟨r, e1, e2⟩ | ⟨r, e1, e2⟩
    · exact .inr ⟨r, e1, e2⟩
    · exact .inl ⟨r, e1, e2⟩
theorem Cat.B : Cat catB where
  assoc := fun a b d => (List.append_assoc d b a).symm
  unit := fun a => rfl
  unitL := fun a => List.append_nil a
  cancel := fun a b d h => List.append_cancel_right h
  nil := fun a b h => (List.append_eq_nil_iff.mp h).2
  two := fun p x w y h => by
    rcases List.append_eq_append_iff.mp h with ⟨r, e1, e2⟩ | ⟨r, e1, e2⟩
    · exact .inl ⟨r, e2, e1⟩
    · exact .inr ⟨r, e2, e1⟩
section
variable {c : Wd → Wd → Wd} {us : List Wd}
noncomputable def cf (c : Wd → Wd → Wd) : List Wd → Wd
  | [] => []
  | a :: r => c a (cf c r)
noncomputable def Init (c : Wd → Wd → Wd) (us : List Wd) (r : Wd) : Prop := r ≠ [] ∧ ∃ a ∈ us, ∃ b ∈ us, a = c b r
noncomputable def StepTo (c : Wd → Wd → Wd) (us : List Wd) (p r : Wd) : Prop := r ≠ [] ∧ ∃ w ∈ us, p = c w r ∨ w = c p r
noncomputable def Reach (c : Wd → Wd → Wd) (us : List Wd) : Nat → Wd → Prop
  | 0, r => Init c us r
  | k + 1, r => ∃ p, Reach c us k p ∧ StepTo c us p r
noncomputable def Hit (c : Wd → Wd → Wd) (us : List Wd) (k : Nat) : Prop := ∃ p ∈ us, Reach c us k p
noncomputable def Amb (c : Wd → Wd → Wd) (us : List Wd) (n : Nat) : Prop :=
  ∃ A B : List Wd, (∀ a ∈ A, a ∈ us) ∧ (∀ b ∈ B, b ∈ us) ∧ A ≠ B ∧ cf c A = cf c B ∧ A.length + B.length = n

theorem cf_app (C : Cat c) (p : Wd) : ∀ A : List Wd, cf c (A ++ [p]) = c (cf c A) p
  | [] => by show c p [] = c [] p; rw [C.unit, C.unitL]
  | a :: A => by show c a (cf c (A ++ [p])) = c (c a (cf c A)) p; rw [cf_app C p A, C.assoc]
theorem reach_ne : ∀ {k : Nat} {p : Wd}, Reach c us k p → p ≠ []
  | 0, _, h => h.1
  | _ + 1, _, ⟨_, _, h⟩ => h.1
theorem all_snoc {A : List Wd} {w : Wd} (h : ∀ a ∈ A, a ∈ us) (hw : w ∈ us) : ∀ a ∈ A ++ [w], a ∈ us := fun a ha => by
  rcases List.mem_append.mp ha with h1 | h1
  · exact h a h1
  · rw [List.mem_singleton.mp h1]; exact hw
theorem reach_rows (C : Cat c) : ∀ {k : Nat} {p : Wd}, Reach c us k p → ∃ a A b B, a ≠ b ∧ (∀ x ∈ a :: A, x ∈ us) ∧ (∀ x ∈ b :: B, x ∈ us) ∧ cf c (a :: A) = c (cf c (b :: B)) p ∧ A.length + B.length = k
  | 0, p, ⟨hp, a, ha, b, hb, e⟩ => by
    refine ⟨a, [], b, [], fun h => ?_, fun x hx => by rw [List.mem_singleton.mp hx]; exact ha, fun x hx => by rw [List.mem_singleton.mp hx]; exact hb, ?_, rfl⟩
    · subst h
      exact hp (C.cancel a p [] (by rw [C.unit]; exact e.symm))
    · show c a [] = c (c b []) p
      rw [C.unit, C.unit]; exact e
  | k + 1, r, ⟨p, hk, hr, w, hw, e⟩ => by
    obtain ⟨a, A, b, B, hab, hA, hB, hc, hl⟩ := reach_rows C hk
    rcases e with e | e
    · refine ⟨a, A, b, B ++ [w], hab, hA, all_snoc (A := b :: B) hB hw, ?_, by simp only [List.length_append, List.length_singleton]; omega⟩
      have := cf_app C w (b :: B)
      rw [List.cons_append] at this
      rw [this, C.assoc, ← e]; exact hc
    · refine ⟨b, B ++ [w], a, A, Ne.symm hab, all_snoc (A := b :: B) hB hw, hA, ?_, by simp only [List.length_append, List.length_singleton]; omega⟩
      have := cf_app C w (b :: B)
      rw [List.cons_append] at this
      rw [this, hc, C.assoc, ← e]
theorem hit_amb (C : Cat c) {k : Nat} (h : Hit c us k) : Amb c us (k + 3) := by
  obtain ⟨p, hp, hr⟩ := h
  obtain ⟨a, A, b, B, hab, hA, hB, hc, hl⟩ := reach_rows C hr
  have := cf_app C p (b :: B)
  refine ⟨a :: A, (b :: B) ++ [p], hA, all_snoc hB hp, fun e => hab ?_, by rw [this]; exact hc, by simp only [List.length_append, List.length_cons, List.length_nil]; omega⟩
  rw [List.cons_append] at e
  exact (List.cons.inj e).1
theorem run_amb (C : Cat c) : ∀ (n k : Nat) (p : Wd) (A B : List Wd), A.length + B.length = n → Reach c us k p → (∀ a ∈ A, a ∈ us) → (∀ b ∈ B, b ∈ us) → c p (cf c A) = cf c B → ∃ j, j + 1 ≤ k + n ∧ Hit c us j
  | n, k, p, A, [], _, hr, _, _, e => absurd (C.nil _ _ e) (reach_ne hr)
  | 0, k, p, A, w :: B, hl, _, _, _, _ => by simp at hl
  | n + 1, k, p, A, w :: B, hl, hr, hA, hB, e => by
    have hw := hB w (.head _)
    have hB' : ∀ b ∈ B, b ∈ us := fun b hb => hB b (.tail _ hb)
    simp only [List.length_cons] at hl
    rcases C.two _ _ _ _ e with ⟨r, e1, e2⟩ | ⟨r, e1, e2⟩
    · by_cases hr0 : r = []
      · subst hr0
        rw [C.unit] at e1
        exact ⟨k, by omega, p, e1 ▸ hw, hr⟩
      · obtain ⟨j, hj, hh⟩ := run_amb C n (k + 1) r A B (by omega) ⟨p, hr, hr0, w, hw, .inl e1⟩ hA hB' e2.symm
        exact ⟨j, by omega, hh⟩
    · by_cases hr0 : r = []
      · subst hr0
        rw [C.unit] at e1
        exact ⟨k, by omega, p, e1 ▸ hw, hr⟩
      · obtain ⟨j, hj, hh⟩ := run_amb C n (k + 1) r B A (by omega) ⟨p, hr, hr0, w, hw, .inr e1⟩ hB' hA e2.symm
        exact ⟨j, by omega, hh⟩
theorem amb_hit (C : Cat c) (hne : ∀ u ∈ us, u ≠ []) : ∀ (A B : List Wd), (∀ a ∈ A, a ∈ us) → (∀ b ∈ B, b ∈ us) → A ≠ B → cf c A = cf c B → ∃ j, j + 3 ≤ A.length + B.length ∧ Hit c us j
  | [], [], _, _, h, _ => absurd rfl h
  | [], b :: B, _, hB, _, e => absurd (C.nil _ _ e.symm) (hne b (hB b (.head _)))
  | a :: A, [], hA, _, _, e => absurd (C.nil _ _ e) (hne a (hA a (.head _)))
  | a :: A, b :: B, hA, hB, h, e => by
    have hA' : ∀ x ∈ A, x ∈ us := fun x hx => hA x (.tail _ hx)
    have hB' : ∀ x ∈ B, x ∈ us := fun x hx => hB x (.tail _ hx)
    by_cases hab : a = b
    · subst hab
      obtain ⟨j, hj, hh⟩ := amb_hit C hne A B hA' hB' (fun e => h (e ▸ rfl)) (C.cancel _ _ _ e)
      exact ⟨j, by simp only [List.length_cons]; omega, hh⟩
    · rcases C.two _ _ _ _ e with ⟨r, e1, e2⟩ | ⟨r, e1, e2⟩
      · have hr0 : r ≠ [] := fun q => hab (by rw [q, C.unit] at e1; exact e1)
        obtain ⟨j, hj, hh⟩ := run_amb C _ 0 r A B rfl ⟨hr0, a, hA a (.head _), b, hB b (.head _), e1⟩ hA' hB' e2.symm
        exact ⟨j, by simp only [List.length_cons]; omega, hh⟩
      · have hr0 : r ≠ [] := fun q => hab (by rw [q, C.unit] at e1; exact e1.symm)
        obtain ⟨j, hj, hh⟩ := run_amb C _ 0 r B A rfl ⟨hr0, b, hB b (.head _), a, hA a (.head _), e1⟩ hB' hA' e2.symm
        exact ⟨j, by simp only [List.length_cons]; omega, hh⟩
end
theorem cf_rev1 : ∀ A : List Wd, cf catB A.reverse = cf catA A
  | [] => rfl
  | a :: A => by rw [List.reverse_cons, cf_app Cat.B, cf_rev1 A]; rfl
theorem cf_rev2 : ∀ A : List Wd, cf catA A.reverse = cf catB A
  | [] => rfl
  | a :: A => by rw [List.reverse_cons, cf_app Cat.A, cf_rev2 A]; rfl
theorem amb_AB {us : List Wd} {n : Nat} (h : Amb catA us n) : Amb catB us n := by
  obtain ⟨A, B, hA, hB, hab, e, hl⟩ := h
  exact ⟨A.reverse, B.reverse, fun a ha => hA a (List.mem_reverse.mp ha), fun a ha => hB a (List.mem_reverse.mp ha), fun q => hab (List.reverse_inj.mp q), by rw [cf_rev1, cf_rev1]; exact e, by simpa using hl⟩
theorem amb_BA {us : List Wd} {n : Nat} (h : Amb catB us n) : Amb catA us n := by
  obtain ⟨A, B, hA, hB, hab, e, hl⟩ := h
  exact ⟨A.reverse, B.reverse, fun a ha => hA a (List.mem_reverse.mp ha), fun a ha => hB a (List.mem_reverse.mp ha), fun q => hab (List.reverse_inj.mp q), by rw [cf_rev2, cf_rev2]; exact e, by simpa using hl⟩
theorem hit_AB {us : List Wd} (hne : ∀ u ∈ us, u ≠ []) {k : Nat} (h : Hit catA us k) : ∃ j, j ≤ k ∧ Hit catB us j := by
  obtain ⟨A, B, hA, hB, hab, e, hl⟩ := amb_AB (hit_amb Cat.A h)
  obtain ⟨j, hj, hh⟩ := amb_hit Cat.B hne A B hA hB hab e
  exact ⟨j, by omega, hh⟩
theorem hit_BA {us : List Wd} (hne : ∀ u ∈ us, u ≠ []) {k : Nat} (h : Hit catB us k) : ∃ j, j ≤ k ∧ Hit catA us j := by
  obtain ⟨A, B, hA, hB, hab, e, hl⟩ := amb_BA (hit_amb Cat.B h)
  obtain ⟨j, hj, hh⟩ := amb_hit Cat.A hne A B hA hB hab e
  exact ⟨j, by omega, hh⟩

noncomputable def Least (R : Nat → Prop) (m : Nat) : Prop := (m = 0 ∧ ∀ k, ¬ R k) ∨ ∃ k, m = k + 3 ∧ R k ∧ ∀ j, j < k → ¬ R j
theorem least_eq {R S : Nat → Prop} {m n : Nat} (h1 : Least R m) (h2 : Least S n) (rs : ∀ k, R k → ∃ j, j ≤ k ∧ S j) (sr : ∀ k, S k → ∃ j, j ≤ k ∧ R j) : m = n := by
  rcases h1 with ⟨rfl, h1⟩ | ⟨k, rfl, hk, hj⟩
  · rcases h2 with ⟨rfl, _⟩ | ⟨k, rfl, hk, _⟩
    · rfl
    · obtain ⟨j, _, hr⟩ := sr k hk
      exact absurd hr (h1 j)
  · rcases h2 with ⟨rfl, h2⟩ | ⟨l, rfl, hl, hi⟩
    · obtain ⟨j, _, hr⟩ := rs k hk
      exact absurd hr (h2 j)
    · obtain ⟨a, ha, hsa⟩ := rs k hk
      obtain ⟨b, hb, hrb⟩ := sr l hl
      have h3 : ¬ a < l := fun q => hi a q hsa
      have h4 : ¬ b < k := fun q => hj b q hrb
      omega

section
variable {c : Wd → Wd → Wd} {us : List Wd}
structure Inv (c : Wd → Wd → Wd) (us : List Wd) (k : Nat) (ps : List Wd) (S : Wd → Prop) : Prop where
  r : ∀ p ∈ ps, Reach c us k p
  s : ∀ j, j ≤ k → ∀ p, Reach c us j p → S p
  cl : ∀ p, S p → p ∈ ps ∨ (p ∉ us ∧ ∀ q, StepTo c us p q → S q)
  no : ∀ j, j < k → ¬ Hit c us j
theorem Inv.next {k : Nat} {ps ps' : List Wd} {S S' : Wd → Prop} (h : Inv c us k ps S) (hno : ∀ p ∈ ps, p ∉ us) (h1 : ∀ q ∈ ps', ∃ p ∈ ps, StepTo c us p q) (h2 : ∀ q, S q → S' q)
    (h3 : ∀ p ∈ ps, ∀ q, StepTo c us p q → S' q) (h4 : ∀ q, S' q → S q ∨ q ∈ ps') : Inv c us (k + 1) ps' S' := by
  refine ⟨fun q hq => ?_, fun j hj q hq => ?_, fun q hq => ?_, fun j hj => ?_⟩
  · obtain ⟨p, hp, hs⟩ := h1 q hq
    exact ⟨p, h.r p hp, hs⟩
  · by_cases e : j = k + 1
    · subst e
      obtain ⟨p, hp, hs⟩ := hq
      rcases h.cl p (h.s k (Nat.le_refl _) p hp) with q1 | q1
      · exact h3 p q1 q hs
      · exact h2 q (q1.2 q hs)
    · exact h2 q (h.s j (by omega) q hq)
  · rcases h4 q hq with q1 | q1
    · rcases h.cl q q1 with q2 | q2
      · exact .inr ⟨hno q q2, h3 q q2⟩
      · exact .inr ⟨q2.1, fun r hr => h2 r (q2.2 r hr)⟩
    · exact .inl q1
  · by_cases e : j = k
    · subst e
      rintro ⟨p, hp, hr⟩
      rcases h.cl p (h.s j (Nat.le_refl _) p hr) with q1 | q1
      · exact hno p q1 hp
      · exact q1.1 hp
    · exact h.no j (by omega)
theorem Inv.stop {k : Nat} {S : Wd → Prop} (h : Inv c us k [] S) (j : Nat) : ¬ Hit c us j := by
  have key : ∀ (j : Nat) (p : Wd), Reach c us j p → S p := by
    intro j
    induction j with
    | zero => exact fun p hp => h.s 0 (Nat.zero_le _) p hp
    | succ j ih =>
      rintro q ⟨p, hp, hs⟩
      rcases h.cl p (ih p hp) with q1 | q1
      · cases q1
      · exact q1.2 q hs
  rintro ⟨p, hp, hr⟩
  rcases h.cl p (key j p hr) with q1 | q1
  · cases q1
  · exact q1.1 hp
end

noncomputable def add (S L : List Wd) (q : Wd) : List Wd := if (S ++ L).contains q then L else L ++ [q]
theorem mem_adds {S : List Wd} {q : Wd} : ∀ (qs : List Wd) {L : List Wd}, q ∈ qs.foldl (add S) L ↔ q ∈ L ∨ (q ∈ qs ∧ q ∉ S)
  | [], L => by simp
  | x :: qs, L => by
    rw [List.foldl_cons, mem_adds qs]
    unfold add
    split
    · rename_i hc
      rw [List.contains_iff_mem, List.mem_append] at hc
      constructor
      · rintro (h | ⟨h, h'⟩)
        · exact .inl h
        · exact .inr ⟨.tail _ h, h'⟩
      · rintro (h | ⟨h, h'⟩)
        · exact .inl h
        · rcases List.mem_cons.mp h with rfl | h
          · rcases hc with hc | hc
            · exact absurd hc h'
            · exact .inl hc
          · exact .inr ⟨h, h'⟩
    · rename_i hc
      rw [List.contains_iff_mem, List.mem_append, not_or] at hc
      constructor
      · rintro (h | ⟨h, h'⟩)
        · rcases List.mem_append.mp h with h | h
          · exact .inl h
          · rw [List.mem_singleton.mp h]; exact .inr ⟨.head _, hc.1⟩
        · exact .inr ⟨.tail _ h, h'⟩
      · rintro (h | ⟨h, h'⟩)
        · exact .inl (List.mem_append_left _ h)
        · rcases List.mem_cons.mp h with rfl | h
          · exact .inl (List.mem_append_right _ (.head _))
          · exact .inr ⟨h, h'⟩
theorem nodup_adds {S : List Wd} : ∀ (qs : List Wd) {L : List Wd}, L.Nodup → (qs.foldl (add S) L).Nodup
  | [], _, h => h
  | x :: qs, L, h => by
    rw [List.foldl_cons]
    refine nodup_adds qs ?_
    unfold add
    split
    · exact h
    · rename_i hc
      rw [List.contains_iff_mem, List.mem_append, not_or] at hc
      exact List.nodup_append.mpr ⟨h, by simp, fun a ha b hb e => hc.2 (by rw [← List.mem_singleton.mp hb, ← e]; exact ha)⟩
theorem fold_flat {α β γ : Type} (f : α → List β) (g : γ → β → γ) : ∀ (l : List α) (b : γ), (l.flatMap f).foldl g b = l.foldl (fun b a => (f a).foldl g b) b
  | [], _ => rfl
  | a :: l, b => by rw [List.flatMap_cons, List.foldl_append, fold_flat f g l, List.foldl_cons]
theorem fold_map {α β γ : Type} (f : α → β) (g : γ → β → γ) : ∀ (l : List α) (b : γ), (l.map f).foldl g b = l.foldl (fun b a => g b (f a)) b
  | [], _ => rfl
  | a :: l, b => by rw [List.map_cons, List.foldl_cons, fold_map f g l, List.foldl_cons]
theorem flater_is (us S ps : List Wd) : flater us S ps = (ps.flatMap fun p => us.map (rest1 p)).foldl (add S) [] := by
  rw [fold_flat]
  unfold flater flaterOut
  congr 1
  funext b p
  rw [fold_map]
  rfl
theorem mem_flater {us S ps : List Wd} {q : Wd} : q ∈ flater us S ps ↔ (∃ p ∈ ps, ∃ w ∈ us, q = rest1 p w) ∧ q ∉ S := by
  rw [flater_is, mem_adds]
  simp only [List.not_mem_nil, false_or, List.mem_flatMap, List.mem_map]
  constructor
  · rintro ⟨⟨p, hp, w, hw, e⟩, h⟩
    exact ⟨⟨p, hp, w, hw, e.symm⟩, h⟩
  · rintro ⟨⟨p, hp, w, hw, e⟩, h⟩
    exact ⟨⟨p, hp, w, hw, e.symm⟩, h⟩
theorem rest1_eq {p w r : Wd} (h : rest1 p w = r) (hr : r ≠ []) : p = w ++ r ∨ w = p ++ r := by
  unfold rest1 at h
  split at h
  · rename_i hp
    rw [List.isPrefixOf_iff_prefix, List.prefix_iff_eq_append] at hp
    rw [h] at hp
    exact .inl hp.symm
  · split at h
    · rename_i hp
      rw [List.isPrefixOf_iff_prefix, List.prefix_iff_eq_append] at hp
      rw [h] at hp
      exact .inr hp.symm
    · exact absurd h.symm hr
theorem eq_rest1 {p w r : Wd} (h : p = w ++ r ∨ w = p ++ r) (hr : r ≠ []) : rest1 p w = r := by
  unfold rest1
  rcases h with rfl | rfl
  · rw [if_pos (by rw [List.isPrefixOf_iff_prefix]; exact List.prefix_append _ _)]
    simp
  · rw [if_neg, if_pos (by rw [List.isPrefixOf_iff_prefix]; exact List.prefix_append _ _)]
    · simp
    · rw [List.isPrefixOf_iff_prefix]
      intro hp
      have := hp.length_le
      rw [List.length_append] at this
      have h0 : r.length = 0 := by omega
      exact hr (List.length_eq_zero_iff.mp h0)
theorem mem_fpieces {us : List Wd} {r : Wd} (h : r ∈ fpieces us) : Init catA us r := by
  unfold fpieces at h
  simp only [List.mem_flatMap, List.mem_map, List.mem_filter, Bool.and_eq_true] at h
  obtain ⟨a, ha, b, ⟨hb, hc, hp⟩, rfl⟩ := h
  rw [List.isPrefixOf_iff_prefix, List.prefix_iff_eq_append] at hp
  refine ⟨fun e => ?_, a, ha, b, hb, hp.symm⟩
  rw [e, List.append_nil] at hp
  rw [hp] at hc
  simp at hc
theorem fpieces_mem {us : List Wd} {r : Wd} (h : Init catA us r) : r ∈ fpieces us := by
  obtain ⟨hr, a, ha, b, hb, e⟩ := h
  unfold fpieces
  simp only [List.mem_flatMap, List.mem_map, List.mem_filter, Bool.and_eq_true]
  have e : a = b ++ r := e
  refine ⟨a, ha, b, ⟨hb, ?_, ?_⟩, ?_⟩
  · rw [bne_iff_ne]
    intro q
    rw [q] at e
    have h2 : b ++ [] = b ++ r := by rw [List.append_nil]; exact e
    exact hr (List.append_cancel_left h2).symm
  · rw [e, List.isPrefixOf_iff_prefix]; exact List.prefix_append _ _
  · rw [e]; simp
theorem fewR_least {us : List Wd} (hW : ∀ u ∈ us, u ∈ W14) : ∀ (f : Nat) (ps seen : List Wd) (k : Nat), GoodF ps seen → Inv catA us k ps (fun p => p ≠ [] ∧ p ∈ seen ++ ps) → left seen < f → Least (Hit catA us) (fewR us f ps seen (k + 3))
  | 0, _, _, _, _, _, h => absurd h (Nat.not_lt_zero _)
  | f + 1, ps, seen, k, hG, hI, hf => by
    unfold fewR
    split
    · rename_i e
      subst e
      exact .inl ⟨rfl, hI.stop⟩
    · rename_i hps
      split
      · rename_i hany
        obtain ⟨p, hp, hc⟩ := List.any_eq_true.mp hany
        exact .inr ⟨k, rfl, ⟨p, List.contains_iff_mem.mp hc, hI.r p hp⟩, hI.no⟩
      · rename_i hany
        have hno : ∀ p ∈ ps, p ∉ us := fun p hp hu => hany (List.any_eq_true.mpr ⟨p, hp, List.contains_iff_mem.mpr hu⟩)
        have hl := left_next hG hps
        refine fewR_least hW f (flater us (seen ++ ps) ps) (seen ++ ps) (k + 1) (hG.next hW) (hI.next hno ?_ ?_ ?_ ?_) (by omega)
        · intro q hq
          obtain ⟨⟨p, hp, w, hw, e⟩, hn⟩ := mem_flater.mp hq
          have hq0 : q ≠ [] := fun h0 => hn (h0 ▸ List.mem_append_left _ hG.nil)
          exact ⟨p, hp, hq0, w, hw, rest1_eq e.symm hq0⟩
        · exact fun q hq => ⟨hq.1, List.mem_append_left _ hq.2⟩
        · rintro p hp q ⟨hq0, w, hw, e⟩
          refine ⟨hq0, ?_⟩
          by_cases hs : q ∈ seen ++ ps
          · exact List.mem_append_left _ hs
          · exact List.mem_append_right _ (mem_flater.mpr ⟨⟨p, hp, w, hw, (eq_rest1 e hq0).symm⟩, hs⟩)
        · rintro q ⟨hq0, hq⟩
          rcases List.mem_append.mp hq with h | h
          · exact .inl ⟨hq0, h⟩
          · exact .inr h
theorem fewest_least {us : List Wd} (hW : ∀ u ∈ us, u ∈ W14) : Least (Hit catA us) (fewest us) := by
  refine fewR_least hW 16 (fpieces us) [[]] 0 (GoodF.first hW) ⟨fun p hp => mem_fpieces hp, fun j hj p hp => ?_, fun p hp => ?_, fun j hj => absurd hj (Nat.not_lt_zero _)⟩ (by rw [left_first]; decide)
  · obtain rfl : j = 0 := by omega
    exact ⟨reach_ne hp, List.mem_append_right _ (fpieces_mem hp)⟩
  · rcases List.mem_append.mp hp.2 with h | h
    · exact absurd (List.mem_singleton.mp h) hp.1
    · exact .inl h

/-- from behind -/
theorem eq_ahead {u v r : Wd} (h : u = r ++ v) (hr : r ≠ []) : ahead u v = r := by
  subst h
  unfold ahead
  have h0 : 0 < r.length := List.length_pos_iff.mpr hr
  have e : (r ++ v).length - v.length = r.length := by rw [List.length_append]; omega
  rw [e, List.drop_left, List.take_left, if_pos]
  rw [List.length_append]
  simp
  exact h0
noncomputable def keysOf (W : Ways) : List Wd := W.map (·.1)
theorem has_keys (W : Ways) (q : Wd) : W.has q = (keysOf W).contains q := by
  rw [Bool.eq_iff_iff, Ways.has_iff, List.contains_iff_mem]
  exact Iff.rfl
theorem add_cond (K L : List Wd) (q : Wd) : (([] :: K) ++ L).contains q = !(q != [] && !(K ++ L).contains q) := by
  rw [List.cons_append, List.contains_cons]
  cases h : (K ++ L).contains q <;> cases h2 : q == ([] : Wd) <;> simp [h2, bne]
theorem firstIn_keys (a : Wd) (W : Ways) (b : Wd) : keysOf (firstIn a W b) = add [[]] (keysOf W) (ahead a b) := by
  unfold firstIn add
  have := add_cond [] (keysOf W) (ahead a b)
  simp only [List.nil_append] at this
  rw [this, has_keys]
  cases h : (ahead a b != [] && !(keysOf W).contains (ahead a b)) <;> simp [keysOf]
theorem fold_keys (a : Wd) : ∀ (us : List Wd) (W : Ways), keysOf (us.foldl (firstIn a) W) = us.foldl (fun K b => add [[]] K (ahead a b)) (keysOf W)
  | [], _ => rfl
  | b :: us, W => by rw [List.foldl_cons, fold_keys a us, firstIn_keys, List.foldl_cons]
theorem fold_keys2 (us : List Wd) : ∀ (as : List Wd) (W : Ways), keysOf (as.foldl (firstOut us) W) = as.foldl (fun K a => us.foldl (fun K b => add [[]] K (ahead a b)) K) (keysOf W)
  | [], _ => rfl
  | a :: as, W => by rw [List.foldl_cons, fold_keys2 us as, List.foldl_cons]; unfold firstOut; rw [fold_keys]
theorem first_keys (us : List Wd) : keysOf (first us) = (us.flatMap fun a => us.map (ahead a)).foldl (add [[]]) [] := by
  unfold first
  rw [fold_keys2, fold_flat]
  congr 1
  funext K a
  rw [fold_map]
structure Sim (K L : List Wd) (st : RSt) : Prop where
  k : keysOf st.1 = K ++ L
  l : st.2 = L
theorem Sim.a {K L : List Wd} {st : RSt} (h : Sim K L st) (lo sh : List Wd) (p u : Wd) : Sim K (add ([] :: K) L (ahead p u)) (stepA lo sh p st u) := by
  unfold stepA add
  rw [has_keys, h.k, add_cond]
  cases hc : (ahead p u != [] && !(K ++ L).contains (ahead p u))
  · simp only [Bool.not_false, if_true, Bool.false_eq_true, if_false]; exact h
  · simp only [Bool.not_true, if_true, Bool.false_eq_true, if_false]
    exact ⟨by show keysOf (st.1 ++ _) = _; unfold keysOf; rw [List.map_append]; have := h.k; unfold keysOf at this; rw [this]; simp, by show st.2 ++ _ = _; rw [h.l]⟩
theorem Sim.b {K L : List Wd} {st : RSt} (h : Sim K L st) (lo sh : List Wd) (p u : Wd) : Sim K (add ([] :: K) L (ahead u p)) (stepB lo sh p st u) := by
  unfold stepB add
  rw [has_keys, h.k, add_cond]
  cases hc : (ahead u p != [] && !(K ++ L).contains (ahead u p))
  · simp only [Bool.not_false, if_true, Bool.false_eq_true, if_false]; exact h
  · simp only [Bool.not_true, if_true, Bool.false_eq_true, if_false]
    exact ⟨by show keysOf (st.1 ++ _) = _; unfold keysOf; rw [List.map_append]; have := h.k; unfold keysOf at this; rw [this]; simp, by show st.2 ++ _ = _; rw [h.l]⟩
theorem Sim.inn {K : List Wd} (lo sh : List Wd) (p : Wd) : ∀ (us : List Wd) {L : List Wd} {st : RSt}, Sim K L st → Sim K ((us.flatMap fun u => [ahead p u, ahead u p]).foldl (add ([] :: K)) L) (us.foldl (roundIn lo sh p) st)
  | [], _, _, h => h
  | u :: us, _, _, h => by
    rw [List.flatMap_cons, List.foldl_append, List.foldl_cons]
    exact Sim.inn lo sh p us ((h.a lo sh p u).b lo sh p u)
theorem Sim.out {K us : List Wd} : ∀ (ps : List Wd) {L : List Wd} {st : RSt}, Sim K L st → Sim K ((ps.flatMap fun p => us.flatMap fun u => [ahead p u, ahead u p]).foldl (add ([] :: K)) L) (ps.foldl (roundOut us) st)
  | [], _, _, h => h
  | p :: ps, _, _, h => by
    rw [List.flatMap_cons, List.foldl_append, List.foldl_cons]
    exact Sim.out ps (Sim.inn _ _ p us h)
theorem round_sim (ps us : List Wd) (W : Ways) : Sim (keysOf W) ((ps.flatMap fun p => us.flatMap fun u => [ahead p u, ahead u p]).foldl (add ([] :: keysOf W)) []) (round ps us W) :=
  Sim.out ps ⟨by rw [List.append_nil], rfl⟩
theorem mem_round {ps us : List Wd} {W : Ways} {q : Wd} : q ∈ (round ps us W).2 ↔ (∃ p ∈ ps, ∃ u ∈ us, q = ahead p u ∨ q = ahead u p) ∧ q ≠ [] ∧ q ∉ keysOf W := by
  rw [(round_sim ps us W).l, mem_adds]
  simp only [List.not_mem_nil, false_or, List.mem_flatMap, List.mem_cons, or_false, not_or]
theorem round_keys (ps us : List Wd) (W : Ways) : keysOf (round ps us W).1 = keysOf W ++ (round ps us W).2 := by
  rw [(round_sim ps us W).k, (round_sim ps us W).l]
theorem round_nodup {ps us : List Wd} {W : Ways} (h : (keysOf W).Nodup) : (keysOf (round ps us W).1).Nodup := by
  rw [round_keys]
  refine List.nodup_append.mpr ⟨h, by rw [(round_sim ps us W).l]; exact nodup_adds _ .nil, fun a ha b hb e => (mem_round.mp hb).2.2 (e ▸ ha)⟩
theorem toldR_least {us : List Wd} (hW : ∀ u ∈ us, u ∈ W14) : ∀ (f : Nat) (ps : List Wd) (W : Ways) (k : Nat), (keysOf W).Nodup → (∀ q ∈ keysOf W, q ∈ W14) → (∀ p ∈ ps, p ∈ W14) → Inv catB us k ps (fun p => p ∈ keysOf W) → leftT ps W < f → Least (Hit catB us) (toldR us f ps W (k + 3))
  | 0, _, _, _, _, _, _, _, h => absurd h (Nat.not_lt_zero _)
  | f + 1, ps, W, k, hN, hK, hP, hI, hf => by
    unfold toldR
    split
    · rename_i e
      subst e
      exact .inl ⟨rfl, hI.stop⟩
    · rename_i hps
      split
      · rename_i hany
        obtain ⟨p, hp, hc⟩ := List.any_eq_true.mp hany
        exact .inr ⟨k, rfl, ⟨p, List.contains_iff_mem.mp hc, hI.r p hp⟩, hI.no⟩
      · rename_i hany
        have hno : ∀ p ∈ ps, p ∉ us := fun p hp hu => hany (List.any_eq_true.mpr ⟨p, hp, List.contains_iff_mem.mpr hu⟩)
        have hP' : ∀ q ∈ (round ps us W).2, q ∈ W14 := fun q hq => by
          obtain ⟨⟨p, hp, u, hu, e⟩, hq0, _⟩ := mem_round.mp hq
          rcases e with e | e
          · exact e ▸ (ahead_in (hP p hp) (hW u hu)).resolve_left fun h0 => hq0 (e.trans h0)
          · exact e ▸ (ahead_in (hW u hu) (hP p hp)).resolve_left fun h0 => hq0 (e.trans h0)
        have hK' : ∀ q ∈ keysOf (round ps us W).1, q ∈ W14 := fun q hq => by
          rw [round_keys] at hq
          exact (List.mem_append.mp hq).elim (hK q) (hP' q)
        have hN' := round_nodup (ps := ps) (us := us) hN
        have h14 : (round ps us W).1.length ≤ 14 := by
          have := nodup_len _ W14 hN' hK'
          unfold keysOf at this
          rw [List.length_map] at this
          exact this
        have hl := leftT_next hps h14
        refine toldR_least hW f (round ps us W).2 (round ps us W).1 (k + 1) hN' hK' hP' (hI.next hno ?_ ?_ ?_ ?_) (by omega)
        · intro q hq
          obtain ⟨⟨p, hp, u, hu, e⟩, hq0, _⟩ := mem_round.mp hq
          refine ⟨p, hp, hq0, u, hu, ?_⟩
          rcases e with e | e
          · exact .inl (e ▸ ahead_eq (e ▸ hq0))
          · exact .inr (e ▸ ahead_eq (e ▸ hq0))
        · intro q hq
          rw [round_keys]
          exact List.mem_append_left _ hq
        · rintro p hp q ⟨hq0, w, hw, e⟩
          show q ∈ keysOf (round ps us W).1
          rw [round_keys]
          by_cases hs : q ∈ keysOf W
          · exact List.mem_append_left _ hs
          · refine List.mem_append_right _ (mem_round.mpr ⟨⟨p, hp, w, hw, ?_⟩, hq0, hs⟩)
            rcases e with e | e
            · exact .inl (eq_ahead e hq0).symm
            · exact .inr (eq_ahead e hq0).symm
        · intro q hq
          have hq : q ∈ keysOf (round ps us W).1 := hq
          rw [round_keys] at hq
          exact List.mem_append.mp hq
theorem mem_first {us : List Wd} {q : Wd} : q ∈ keysOf (first us) ↔ Init catB us q := by
  rw [first_keys, mem_adds]
  simp only [List.not_mem_nil, false_or, List.mem_flatMap, List.mem_map, List.mem_cons, or_false]
  constructor
  · rintro ⟨⟨a, ha, b, hb, e⟩, hq⟩
    exact ⟨hq, a, ha, b, hb, by rw [← e]; exact ahead_eq (e.symm ▸ hq)⟩
  · rintro ⟨hq, a, ha, b, hb, e⟩
    exact ⟨⟨a, ha, b, hb, eq_ahead e hq⟩, hq⟩
theorem told_least {us : List Wd} (hW : ∀ u ∈ us, u ∈ W14) : Least (Hit catB us) (told us) := by
  have hK : ∀ q ∈ keysOf (first us), q ∈ W14 := fun q hq => by
    obtain ⟨hq0, a, ha, b, hb, e⟩ := mem_first.mp hq
    have e2 := eq_ahead e hq0
    exact e2 ▸ (ahead_in (hW a ha) (hW b hb)).resolve_left fun h0 => hq0 (e2.symm.trans h0)
  refine toldR_least hW 32 (keysOf (first us)) (first us) 0 (by rw [first_keys]; exact nodup_adds _ .nil) hK hK ⟨fun p hp => mem_first.mp hp, fun j hj p hp => ?_, fun p hp => .inl hp, fun j hj => absurd hj (Nat.not_lt_zero _)⟩ (by unfold leftT; split <;> omega)
  obtain rfl : j = 0 := by omega
  exact mem_first.mpr hp
theorem told_fewest {us : List Wd} (hW : ∀ u ∈ us, u ∈ W14) : told us = fewest us :=
  have hne : ∀ u ∈ us, u ≠ [] := fun u hu => w14_ne (hW u hu)
  least_eq (told_least hW) (fewest_least hW) (fun _ => hit_BA hne) (fun _ => hit_AB hne)
end
section
open PySem PySem.W PySem.Calls PySem.Spec PyProof.Rows
set_option maxRecDepth 100000
set_option maxHeartbeats 8000000
set_option linter.unusedVariables false
local macro_rules | `(tactic| walk_at "idle") => `(tactic| skip)
theorem fresh_E16 : True := by
  w_top off
  trivial
theorem strs_word {us : List Wd} : ∀ {vs : List Value} {v : Value}, StrsAre vs (us.map encw) → v ∈ vs → ∃ u t, u ∈ us ∧ v = Value.str (encw u) t := by
  induction us with
  | nil => intro vs v h hv; cases h; cases hv
  | cons a r ih =>
    intro vs v h hv
    cases h with
    | cons x t h =>
      rcases List.mem_cons.mp hv with e | hv
      · exact ⟨a, t, .head _, e⟩
      · obtain ⟨u, t, hu, e⟩ := ih h hv
        exact ⟨u, t, .tail _ hu, e⟩
theorem strs_rev {us : List Wd} {vs : List Value} (h : StrsAre vs (us.map enc)) : StrsAre vs.reverse (us.reverse.map enc) := by
  rw [List.map_reverse]
  generalize us.map enc = xs at h
  induction h with
  | nil => exact .nil
  | cons x t _ ih => simp only [List.reverse_cons]; exact strsAre_append ih (.cons x t .nil)
theorem off_led {a : Addr} {l : List (Addr × Obj)} (h : ∀ q ∈ l, a ≠ q.1) : a ∉ l.map (·.1) := fun hm => by
  obtain ⟨q, hq, e⟩ := List.mem_map.mp hm
  exact h q hq e.symm
theorem filter_self (l : List PySem.Str) : (l.filter fun x => l.any (· == x)) = l := by
  rw [List.filter_eq_self]
  exact fun x hx => List.any_eq_true.mpr ⟨x, hx, beq_self_eq_true _⟩
noncomputable def JSame (key : PySem.Str) (m₀ : PySem.Str → Option Value) (fx : List (Addr × Obj)) (m : PySem.Str → Option Value) (nx : List (Addr × Obj)) : Prop := (∀ z, z ≠ key → m z = m₀ z) ∧ nx = fx
noncomputable def JPair (m₀ : PySem.Str → Option Value) (fx : List (Addr × Obj)) (m : PySem.Str → Option Value) (nx : List (Addr × Obj)) : Prop := (∀ z, (z ≠ Str.ofString "piece" ∧ z ≠ Str.ofString "longer" ∧ z ≠ Str.ofString "shorter") → m z = m₀ z) ∧ nx = fx
theorem way_at {G : Addr → Obj → Prop} {kvs : List (PySem.Str × Value)} {W : Ways} (hR : WaysAre G kvs W) {i : Nat} {k : PySem.Str} {y : Value} (h : kvs[i]? = some (k, y)) : ∃ p, k = enc p ∧ W.has p = true := by
  have hm : k ∈ kvs.map (·.1) := List.mem_map.mpr ⟨_, List.mem_of_getElem? h, rfl⟩
  rw [hR.keys] at hm
  obtain ⟨x, hx, rfl⟩ := List.mem_map.mp hm
  exact ⟨x.1, rfl, Ways.has_iff.mpr (List.mem_map.mpr ⟨x, hx, rfl⟩)⟩
noncomputable def HostIs (v y : Value) : Prop := ∃ u t t', v = Value.str (encw u) t ∧ u ∈ W14 ∧ y = Value.str (enc u) t'
theorem hosts_are {us : List Wd} (hW : ∀ u ∈ us, u ∈ W14) : ∀ {vs ys : List Value}, StrsAre vs (us.map encw) → Paired HostIs vs ys → StrsAre ys (us.map enc) := by
  induction us with
  | nil => intro vs ys h hp; cases h; cases hp; exact .nil
  | cons a r ih =>
    intro vs ys h hp
    cases h with
    | cons x t h =>
      cases hp with
      | cons e hp =>
        obtain ⟨u, t1, t2, e1, hu, rfl⟩ := e
        injection e1 with e2 _
        have : a = u := by
          have := encw_eq (hW a (.head _)) hu
          rw [e2, beq_self_eq_true] at this
          exact beq_iff_eq.mp this.symm
        subst this
        exact .cons _ t2 (ih (fun x hx => hW x (.tail _ hx)) h hp)
noncomputable def hl (a : PySem.Str) : PySem.Str := if a = Str.ofString "b" then Str.ofString "ba" else Str.ofString "a"
theorem join_all : (W14.all fun u => decide (Txt.join (Str.ofString ".") ((signs (encw u)).map hl) = enc u) && decide ((((signs (encw u)).map hl).map (·.length)).sum + ((signs (encw u)).map hl).length ≤ 1000) && decide ((encw u).length ≤ 3)) = true := by decide +kernel
theorem join_is {u : Wd} (hu : u ∈ W14) : Txt.join (Str.ofString ".") ((signs (encw u)).map hl) = enc u ∧ (((signs (encw u)).map hl).map (·.length)).sum + ((signs (encw u)).map hl).length ≤ 1000 ∧ (encw u).length ≤ 3 := by
  have := mem_all join_all hu
  simp only [Bool.and_eq_true, decide_eq_true_eq] at this
  exact ⟨this.1.1, this.1.2, this.2⟩

section
variable {prog : Program} {w : World} {A : Around} {E : Value → Shared → Prop} {s : Shared} {h₀ : Heap} {L l : Addr} {m : PySem.Str → Option Value} {news : List (Addr × Obj)} {value slice : PySem.Expr} {vs : List Value} {vk : Value} {ops : List Value} {Q : Value → Shared → Prop}
theorem krvV (F : Fr h₀ L s.heap m) (N : News h₀ L s.heap news) (hl : s.heap.IsList l vs.toArray) (pk : IsPart vk (some (-1)))
    (h : ∀ D h', Fr h₀ L h' m → News h₀ L h' ((D, PySem.W.listOf vs.reverse.toArray 0) :: news) → (∀ p ∈ news, p.1 < D) → Q (.ref D) { s with heap := h' })
    (hs : subscripted slice false (.ref l) (.ref s.heap.objs.size) = operate ops (getItem (.ref l) (.ref s.heap.objs.size))) (ht : ∀ r, letTemporaryGo value (.ref l) r = pure ()) (hz : vs.toArray.size ≤ sizeLine) :
    wpAny (model prog w) A (subscriptTail value slice (.ref l) (.ref s.heap.objs.size)) Q E { s with heap := s.heap.push { cls := .type "slice", data := .fields #[.none, .none, vk] } } :=
  krv_lit (its := vs.toArray) (zs := vs.reverse) F N hl pk rfl h hs ht hz
end

local macro_rules | `(tactic| walk_at "eval Name") => `(tactic| walk_at "own 6")
local macro_rules | `(tactic| walk_at "call ref") => `(tactic| (k_here; refine stop_ ?_))
local macro_rules | `(tactic| walk_at "exec Assign cons ListComp") => `(tactic| (k_here; refine stop_ ?_))
local macro_rules | `(tactic| walk_at "eval ListComp") => `(tactic| (k_here; refine stop_ ?_))
local macro_rules | `(tactic| walk_at "call builtin:str.join") => `(tactic| (k_here; refine stop_ ?_))
local macro_rules | `(tactic| walk_at "binaryOp Add ref ref") => `(tactic| (k_here; refine stop_ ?_))
local macro_rules | `(tactic| walk_at "compareOp NotEq ref ref") => `(tactic| (k_here; refine stop_ ?_))
local macro_rules | `(tactic| walk_at "pyIter ref") => `(tactic| (k_here; refine stop_ ?_))
local macro_rules | `(tactic| walk_at "exec For Name Name cons nil") => `(tactic| walk_at "own 3")
local macro_rules | `(tactic| walk_at "subscriptTail Name Name ref str") => `(tactic| (k_here; refine stop_ ?_))
local macro_rules | `(tactic| walk_at "TurnEnd") => `(tactic| (k_here; refine stop_ ?_))
local macro_rules | `(tactic| walk_at "subscriptTail Name Slice ref ref") => `(tactic| (k_here; k_dflt (refine' krvV ?F ?N ?l ?k ?_ ?s ?t ?z; (case F | N => k_asm); (case l => kmk_list); (case k => exact IsPart.int _ _); (case s => with_unfolding_all rfl); (case t => kmk_pure); (case z => (simp only [List.size_toArray]; rw [sizeLine_eq]; omega))); intro D' h' F' N' l1; (try k_lt l1); (try k_sweep)))
local macro_rules | `(tactic| walk_at "Exists") => `(tactic| (k_here; refine stop_ ?_))
theorem law_holds : PySem.Challenge.rw_wn0042_01.Holds := hd (by
  k_go0
  all_goals try k_fold
  rename World => w
  rename IntsAre _ _ => hI
  rename Heap.IsList _ _ _ => hL
  rename List Int => ns
  have hn : ns.length ≤ 63 := by omega
  k_steps
  unfold Stop
  rename Fr _ _ _ _ => F1
  rename News _ _ _ _ => N1
  refine' Spec.use (words_spec hn hI) ?B F1 ?X N1 ?T ?khh ?khd ?khu ?khA ?khf ?khk (hL.at fun o e => F1.keep _ o e) ?_
  case B => k_asm
  case X => k_asm
  case T => k_asm
  case khh => exact rfl
  case khd => exact Nat.le_of_ble_eq_true rfl
  case khu => exact Nat.le_of_ble_eq_true rfl
  case khA => exact rfl
  case khf => exact rfl
  case khk => exact rfl
  clear F1 N1
  intro v new h' tk F' N' hdis hpost
  obtain ⟨us, wl, vs, n, rfl, rfl, hS, hnd, hW, hl4, hne⟩ := hpost
  clear hdis
  have hlv : vs.length = us.length := by have := hS.len_eq; rw [List.length_map] at this; exact this
  k_steps
  unfold Stop
  rename Fr _ _ _ _ => F1
  refine' compA (l := wl) (vs := vs) HostIs F1 ?hsw ?hL ?hz ?hzp ?hh ?hclos ?hcell ?hkind ?hnames ?hx ?h ?hs
  case hsw => with_unfolding_all rfl
  case hL => exact rfl
  case hz => exact rfl
  case hzp => exact rfl
  case hh => exact rfl
  case hclos => with_unfolding_all rfl
  case hcell => decide
  case hkind => exact rfl
  case hnames => decide
  case hx => exact rfl
  case hs => intro _; with_unfolding_all rfl
  case h =>
    k_steps
    unfold Stop
    rename Fr _ _ _ _ => F2
    rename News _ _ _ _ => N2
    refine' ⟨_, rfl, N2.isList (a := wl) (by k_mem), by omega, F2, N2, ?leaf, ?fin⟩
    case leaf =>
      clear F2 N2
      intro C v s₂ m₂ E' hC hv hn2 hm2 hk2
      obtain ⟨u, t, hu, rfl⟩ := strs_word hS hv
      obtain ⟨hj1, hj2, hj3⟩ := join_is (hW u hu)
      k_steps
      unfold Stop
      refine' compS (fun a => .str (hl a)) ?hh ?hclos ?hcell ?hkind ?hnames ?hx ?h ?hs
      case hh => exact rfl
      case hclos => with_unfolding_all rfl
      case hcell => decide
      case hkind => exact rfl
      case hnames => decide
      case hx => exact rfl
      case hs => intro _; with_unfolding_all rfl
      case h =>
        k_steps
        unfold Stop
        refine' ⟨_, _, rfl, by rw [sizeLine_eq]; omega, ?leaf2, ?fin2⟩
        case leaf2 =>
          intro C2 a t2 s₃ m₃ E3 hn3 hm3
          k_steps
          all_goals first | exact ⟨_, _, rfl, fun _ _ e => e⟩ | skip
          · rename (_ == _) = true => e
            have e := beq_iff_eq.mp e
            subst e
            exact .str _ _
          · rename (_ == _) = false => e
            have e := beq_eq_false_iff_ne.mp e
            have : hl a = Str.ofString "a" := if_neg e
            rw [this]
            exact .str _ _
        case fin2 =>
          intro D ys h' tk hD hC hk
          k_steps
          unfold Stop
          have hSy := StrsAre.of_carried (vs := ys) (ys := (signs (encw u)).map hl) (by simpa [List.map_map, Function.comp_def] using hC)
          refine' join_listW hD hSy (by decide) (Nat.le_trans hj2 (by decide)) ?_
          intro t' k'
          rw [hj1]
          k_steps
          · exact ⟨u, t, t', rfl, hW u hu, rfl⟩
          · exact ⟨_, _, rfl, hk⟩
    case fin =>
      clear F2 N2
      intro D ys k h' tk F' N' hDn hP
      have hH := hosts_are hW hS hP
      have hly : ys.length = us.length := by have := hH.len_eq; rw [List.length_map] at this; exact this
      have hwD : wl ≠ D := hDn (wl, _) (.head _)
      clear hP hDn hL hI
      simp only [List.cons_append, List.nil_append] at N'
      k_steps
      unfold Stop
      rename Fr _ _ _ _ => F1
      rename News _ _ _ _ => N1
      obtain ⟨D1, hD1⟩ := name_head2 N1
      subst hD1
      refine' Spec.use (rec_spec (xs := ys.reverse) (ys := ys) (n1 := 0) (n2 := k) (by rw [List.length_reverse]; omega) (by omega)) ?B F1 ?X N1 ?T ?khh ?khd ?khu ?khA ?khf ?khk ⟨?pr1, ?pr2⟩ ?_
      case B => k_asm
      case X => k_asm
      case T => k_asm
      case khh => exact rfl
      case khd => exact Nat.le_of_ble_eq_true rfl
      case khu => exact Nat.le_of_ble_eq_true rfl
      case khA => exact rfl
      case khf => exact rfl
      case khk => exact rfl
      case pr1 => exact (N1 (D1, _) (by k_mem)).1
      case pr2 => exact (N1 (D, _) (by k_mem)).1
      clear F1
      intro v new h' tk3 F' N' hdis hpost
      obtain ⟨cx, cdx, ca, cb, na, nb, t1, t2, t3, t4, rfl, r1, r2, r3, r4⟩ := hpost
      replace N' := led_of (l := recL w cx cdx ca cb ys.reverse ys na nb t1 t2 t3 t4) N' (mem4 r1 r2 r3 r4)
      have hdA : ∀ q ∈ recL w cx cdx ca cb ys.reverse ys na nb t1 t2 t3 t4, q ∈ new := mem4 r1 r2 r3 r4
      have hd4 : ∀ q ∈ recL w cx cdx ca cb ys.reverse ys na nb t1 t2 t3 t4, D ≠ q.1 ∧ wl ≠ q.1 := fun q hq => ⟨hdis (D, _) (by k_mem) q (hdA q hq), hdis (wl, _) (by k_mem) q (hdA q hq)⟩
      clear hdis hdA r1 r2 r3 r4 N1
      simp only [recL, List.cons_append, List.nil_append] at N'
      k_steps
      unfold Stop
      rename Fr _ _ _ _ => F1
      rename News _ _ _ _ => N1
      refine' Spec.use (first_spec hl4 hH hW) ?B F1 ?X N1 ?T ?khh ?khd ?khu ?khA ?khf ?khk (N1.isList (a := D) (by k_mem)) ?_
      case B => k_asm
      case X => k_asm
      case T => k_asm
      case khh => exact rfl
      case khd => exact Nat.le_of_ble_eq_true rfl
      case khu => exact Nat.le_of_ble_eq_true rfl
      case khA => exact rfl
      case khf => exact rfl
      case khk => exact rfl
      clear F1
      intro v new h' tk4 F' N' hdis hpost
      obtain ⟨d, o, kvs, wl2, rfl, rfl, lo, hwd, hDi, hR, hG⟩ := hpost
      have hdC : ∀ q ∈ recL w cx cdx ca cb ys.reverse ys na nb t1 t2 t3 t4, d ≠ q.1 ∧ ∀ p ∈ wl2, p.1 ≠ q.1 := fun q hq => by
        have hdq := hdis q (by
          exact sub16_1 _ hq)
        exact ⟨(hdq (d, o) (.head _)).symm, fun p hp => (hdq p (.tail _ hp)).symm⟩
      have hdD : d ≠ D ∧ ∀ p ∈ wl2, p.1 ≠ D := ⟨(hdis (D, _) (by k_mem) (d, o) (.head _)).symm, fun p hp => (hdis (D, _) (by k_mem) p (.tail _ hp)).symm⟩
      have hdW : d ≠ wl ∧ ∀ p ∈ wl2, p.1 ≠ wl := ⟨(hdis (wl, _) (by k_mem) (d, o) (.head _)).symm, fun p hp => (hdis (wl, _) (by k_mem) p (.tail _ hp)).symm⟩
      clear hdis N1
      k_steps
      unfold Stop
      rename Fr _ _ _ _ => F1
      rename News _ _ _ _ => N1
      replace N1 : News _ _ _ ((d, o) :: (recL w cx cdx ca cb ys.reverse ys na nb t1 t2 t3 t4 ++ ((D, PySem.W.listOf ys.toArray k) :: (wl, PySem.W.listOf vs.toArray n) :: wl2))) := fun p hp => N1 p (by
        exact sub16_2 _ hp)
      refine' SpecG.use (rest := (D, PySem.W.listOf ys.toArray k) :: (wl, PySem.W.listOf vs.toArray n) :: wl2) (told_spec hl4 hH hW lo hDi hR hG (strs_rev hH) hH (fun q hq => (hdC q hq).1)) ?B F1 ?X N1 ?T ?khh ?khd ?khu ?khA ?khf ?khk ?hm ?hs ?hne ?hpre ?_
      case B => k_asm
      case X => k_asm
      case T => k_asm
      case khh => exact rfl
      case khd => exact Nat.le_of_ble_eq_true rfl
      case khu => exact Nat.le_of_ble_eq_true rfl
      case khA => exact rfl
      case khf => exact rfl
      case khk => exact rfl
      case hm =>
        intro p hp
        rcases List.mem_cons.mp hp with e | hp
        · exact e ▸ .head _
        · exact .tail _ (List.mem_append_left _ hp)
      case hs => exact fun p hp => .tail _ (List.mem_append_right _ hp)
      case hne =>
        intro p hp hmem
        obtain ⟨q, hq, e⟩ := List.mem_map.mp hmem
        rcases List.mem_cons.mp hp with rfl | hp
        · rcases List.mem_cons.mp hq with rfl | hq
          · exact hdD.1 e
          · exact (hd4 q hq).1 e.symm
        rcases List.mem_cons.mp hp with rfl | hp
        · rcases List.mem_cons.mp hq with rfl | hq
          · exact hdW.1 e
          · exact (hd4 q hq).2 e.symm
        · rcases List.mem_cons.mp hq with rfl | hq
          · exact hwd p hp e.symm
          · exact (hdC q hq).2 p hp e.symm
      case hpre =>
        intro g2 hk2
        have hmD : (D, PySem.W.listOf ys.toArray k) ∈ (d, o) :: (recL w cx cdx ca cb ys.reverse ys na nb t1 t2 t3 t4 ++ ((D, PySem.W.listOf ys.toArray k) :: (wl, PySem.W.listOf vs.toArray n) :: wl2)) := .tail _ (List.mem_append_right _ (.head _))
        refine ⟨(N1.isList hmD).at fun ob e => hk2 _ _ e ?_, fun a ob e => hk2 _ _ (N1 (a, ob) (.tail _ (List.mem_append_right _ (.tail _ (.tail _ e))))).1 ?_⟩
        · exact off_led (a := D) (fun q hq => by
            rcases List.mem_cons.mp hq with rfl | hq
            · exact hdD.1.symm
            · exact (hd4 q hq).1)
        · exact off_led (a := a) (fun q hq => by
            rcases List.mem_cons.mp hq with rfl | hq
            · exact hwd _ e
            · exact (hdC q hq).2 _ e)
      clear F1 N1
      intro v led' h' tk5 F' N' hdis hpost
      obtain ⟨o', kvs', wl3, W', tt, rfl, rfl, hw3, hD2, hR2, hG2⟩ := hpost
      have hdis3 : ∀ q ∈ (D, PySem.W.listOf ys.toArray k) :: (wl, PySem.W.listOf vs.toArray n) :: wl2, q.1 ≠ d ∧ ∀ p ∈ wl3, q.1 ≠ p.1 := fun q hq => ⟨hdis q hq _ (.head _), fun p hp => hdis q hq p (.tail _ (List.mem_append_right _ hp))⟩
      clear hdis
      k_steps
      unfold Stop
      rename Fr _ _ _ _ => F1
      rename News _ _ _ _ => N1
      replace N1 : News _ _ _ (recL w cx cdx ca cb ys.reverse ys na nb t1 t2 t3 t4 ++ ((d, o') :: (D, PySem.W.listOf ys.toArray k) :: (wl, PySem.W.listOf vs.toArray n) :: (wl3 ++ wl2))) := fun p hp => N1 p (by
        exact sub16_3 _ hp)
      have hrl : ys.reverse.length = us.length := by rw [List.length_reverse, hly]
      refine' SpecG.use (rest := (d, o') :: (D, PySem.W.listOf ys.toArray k) :: (wl, PySem.W.listOf vs.toArray n) :: (wl3 ++ wl2)) (merge_same (x := cx) (dx := cdx) (a := ca) (b := cb) (xs := ys.reverse) (ys := ys) (na := na) (nb := nb) (t1 := t1) (t2 := t2) (t3 := t3) (t4 := t4) (strs_rev hH) (by omega) (by omega)) ?B F1 ?X N1 ?T ?khh ?khd ?khu ?khA ?khf ?khk ?hm ?hs ?hne ?hpre ?_
      case B => k_asm
      case X => k_asm
      case T => k_asm
      case khh => exact rfl
      case khd => exact Nat.le_of_ble_eq_true rfl
      case khu => exact Nat.le_of_ble_eq_true rfl
      case khA => exact rfl
      case khf => exact rfl
      case khk => exact rfl
      case hm => exact fun p hp => List.mem_append_left _ hp
      case hs => exact fun p hp => List.mem_append_right _ hp
      case hpre => exact fun _ _ => trivial
      case hne =>
        intro p hp
        rcases List.mem_cons.mp hp with rfl | hp
        · exact off_led (a := d) fun q hq => (hdC q hq).1
        rcases List.mem_cons.mp hp with rfl | hp
        · exact off_led (a := D) fun q hq => (hd4 q hq).1
        rcases List.mem_cons.mp hp with rfl | hp
        · exact off_led (a := wl) fun q hq => (hd4 q hq).2
        rcases List.mem_append.mp hp with hp | hp
        · exact off_led (a := p.1) fun q hq => (hw3 p hp).2 q hq
        · exact off_led (a := p.1) fun q hq => (hdC q hq).2 p hp
      clear F1 N1
      intro v led' h' tk6 F' N' hdis hpost
      obtain ⟨new2, zs, rfl, hrec, hzs⟩ := hpost
      obtain ⟨mx, mdx, ma, mb, na3, nb3, v1, v2, v3, v4, rfl, r1, r2, r3, r4⟩ := hrec
      have hzs' : StrsAre zs (us.reverse.map enc) := by rw [filter_self] at hzs; exact hzs
      rw [List.append_assoc] at N'
      replace N' := led_of (l := recL w mx mdx ma mb zs (ys ++ ys) na3 nb3 v1 v2 v3 v4) N' (mem4 r1 r2 r3 r4)
      clear hdis r1 r2 r3 r4 new2 hzs hdC
      simp only [recL, List.cons_append, List.nil_append] at N'
      have hok1 := enc_oks hW
      have hok2 : ∀ x ∈ us.reverse.map enc, PyData.strOk x = true := enc_oks fun u hu => hW u (List.mem_reverse.mp hu)
      k_steps
      unfold Stop
      rename Fr _ _ _ _ => F1
      rename News _ _ _ _ => N1
      refine' kmk_add_lit (its := ys.toArray) (its2 := ys.toArray) (zs := ys ++ ys) F1 N1 (N1.isList (a := D) (by k_mem)) (N1.isList (a := D) (by k_mem)) (by first | rfl | simp) ?_ ?z
      case z =>
        rw [sizeLine_eq]
        simp
        omega
      clear F1 N1
      intro D5 h' F' N' l5
      k_lt l5
      k_steps
      unfold Stop
      rename News _ _ _ _ => N1
      refine' ne_tup4 (la := ma) (lb := mb) (xs := zs) (ys := ys ++ ys) (zs := ys.reverse) (ws := ys ++ ys) (ns := us.reverse.map enc) (ms := us.map enc ++ us.map enc) (N1 (_, { cls := .type "tuple", data := .seq #[.ref ma, .ref mb, .none, .none] 0 }) (by k_mem)).1 (N1 _ (.head _)).1 (N1.isList (a := ma) (by k_mem)) (N1.isList (a := mb) (by k_mem)) (N1.isList (by k_mem)) (N1.isList (a := D5) (by k_mem))
        hzs' (strsAre_append hH hH) (strs_rev hH) (strsAre_append hH hH) hok2 (oks_append hok1 hok1) (by first | units_room | exact Nat.le_of_ble_eq_true rfl) ?_
      k_steps
      unfold Stop
      rename News _ _ _ _ => N1
      refine' ne_strs (N1.isList (a := ca) (by k_mem)) (N1.isList (List.mem_cons_self ..)) (strs_rev hH) (strs_rev hH) hok2 hok2 (by first | units_room | exact Nat.le_of_ble_eq_true rfl) ?_
      rw [decide_eq_true rfl]
      k_steps
      unfold Stop
      rename News _ _ _ _ => N1
      refine' ne_strs (N1.isList (a := cb) (by k_mem)) (N1.isList (a := D) (by k_mem)) hH hH hok1 hok1 (by first | units_room | exact Nat.le_of_ble_eq_true rfl) ?_
      rw [decide_eq_true rfl]
      k_steps
      unfold Stop
      rename Fr _ _ _ _ => F1
      rename News _ _ _ _ => N1
      refine' iter_growN (l := D) (vs := ys) (n := k) (news := (d, o') :: (wl, PySem.W.listOf vs.toArray n) :: (wl3 ++ wl2)) (fun _ => JSame (Str.ofString "host") _ ((d, o') :: (wl, PySem.W.listOf vs.toArray n) :: (wl3 ++ wl2))) rfl rfl F1 N1 (by k_mem) ?sub ?off ⟨fun _ _ => rfl, rfl⟩ ?turn ?done
      case sub =>
        intro p hp
        exact sub16_4 _ hp
      case off =>
        intro p hp
        rcases List.mem_cons.mp hp with rfl | hp
        · exact hdD.1
        rcases List.mem_cons.mp hp with rfl | hp
        · exact hwD
        rcases List.mem_append.mp hp with hp | hp
        · exact ((hdis3 _ (.head _)).2 p hp).symm
        · exact hdD.2 p hp
      case turn =>
        clear F1 N1
        intro i v m₁ news₁ h tk I oI hv hJ hI hl2 F N
        obtain ⟨hm, rfl⟩ := hJ
        rw [forget1 hm] at F
        generalize m₁ (Str.ofString "host") = q1 at F
        clear hm m₁
        obtain ⟨u, tu, hu, rfl⟩ := strs_at enc hH hv
        have hu' : u ∈ W14 := hW u (List.mem_of_getElem? hu)
        show wpAny _ _ _ _ _ _
        k_steps
        unfold Stop
        rename Fr _ _ _ _ => F2
        rename News _ _ _ _ => N2
        refine' Spec.use (alone_spec hu' (enc_len hu')) ?B F2 ?X N2 ?T ?khh ?khd ?khu ?khA ?khf ?khk trivial ?_
        case B => k_asm
        case X => k_asm
        case T => k_asm
        case khh => exact rfl
        case khd => exact Nat.le_of_ble_eq_true rfl
        case khu => exact Nat.le_of_ble_eq_true rfl
        case khA => exact rfl
        case khf => exact rfl
        case khk => exact rfl
        clear F2 N2
        intro v new h' tk7 F' N' hdis hpost
        subst hpost
        replace N' : News _ _ _ ((I, oI) :: (D, PySem.W.listOf ys.toArray k) :: (d, o') :: (wl, PySem.W.listOf vs.toArray n) :: (wl3 ++ wl2)) := fun p hp => N' p (List.mem_append_right _ hp)
        clear hdis
        k_steps
        unfold Stop
        rename Fr _ _ _ _ => F2
        rename News _ _ _ _ => N2
        refine TurnEnd.intro (nx := (d, o') :: (wl, PySem.W.listOf vs.toArray n) :: (wl3 ++ wl2)) F2 N2 (fun p hp q hq => ?offq) ⟨fun z hz => by simp only [if_neg hz], rfl⟩
        rcases List.mem_cons.mp hq with rfl | hq
        · exact hI p hp
        · rw [List.mem_singleton.mp hq]; exact hl2 p hp
      case done =>
        clear F1 N1
        intro m₁ news₁ h tk hJ F N
        obtain ⟨hm, rfl⟩ := hJ
        rw [forget1 hm] at F
        generalize m₁ (Str.ofString "host") = q1 at F
        clear hm m₁
        show wpAny _ _ _ _ _ _
        k_steps
        unfold Stop
        rename Fr _ _ _ _ => F1
        rename News _ _ _ _ => N1
        refine' iter_dict (l := d) (o := o') (kvs := kvs') (news := (wl, PySem.W.listOf vs.toArray n) :: (wl3 ++ wl2)) (fun _ => JPair _ ((wl, PySem.W.listOf vs.toArray n) :: (wl3 ++ wl2))) rfl rfl F1 N1 (.head _) (fun p hp => .tail _ hp) ?off lo hD2 ⟨fun _ _ => rfl, rfl⟩ ?turn ?done
        case off =>
          intro p hp
          rcases List.mem_cons.mp hp with rfl | hp
          · exact hdW.1.symm
          rcases List.mem_append.mp hp with hp | hp
          · exact (hw3 p hp).1
          · exact hwd p hp
        case turn =>
          clear F1 N1
          intro i key y tk8 m₁ news₁ h tk I oI hv hJ hI hl2 F N
          obtain ⟨hm, rfl⟩ := hJ
          rw [forget3 (fun z a b c => hm z ⟨a, b, c⟩)] at F
          generalize m₁ (Str.ofString "piece") = q1 at F
          generalize m₁ (Str.ofString "longer") = q2 at F
          generalize m₁ (Str.ofString "shorter") = q3 at F
          clear hm m₁
          obtain ⟨p, rfl, hhas⟩ := way_at hR2 hv
          have hpW : p ∈ W14 := by
            obtain ⟨x, hx, rfl⟩ := List.mem_map.mp (Ways.has_iff.mp hhas)
            exact hG2.keys x hx
          obtain ⟨hf, hlo, hsh, hloW, hshW, hfl, hll⟩ := rowOf_spec hG2 hhas
          generalize (rowOf W' p).1 = lo1 at hf hlo hloW hfl hll
          generalize (rowOf W' p).2 = sh1 at hf hsh hshW hfl hll
          have hl14 := hG2.len
          show wpAny _ _ _ _ _ _
          k_steps
          unfold Stop
          rename Fr _ _ _ _ => F2
          rename News _ _ _ _ => N2
          refine' dict_item N2 (by k_mem) hD2 hR2 hG2 hpW hf ?_
          intro v hr
          obtain ⟨ta, la1, lb1, vs1, vs2, nt, na, nb, rfl, r1, r2, r3, s1, s2⟩ := hr
          have at2 : ∀ a o, ((a, o) ∈ wl2 ∨ (a, o) ∈ wl3) → (a, o) ∈ wl3 ++ wl2 := fun a o q => q.elim (List.mem_append_right _) (List.mem_append_left _)
          have at3 : ∀ a o, ((a, o) ∈ wl2 ∨ (a, o) ∈ wl3) → h.get? a = some o := fun a o q => (N2 (a, o) (.tail _ (.tail _ (.tail _ (at2 a o q))))).1
          refine' pair_assign F2 N2 rfl rfl (at3 _ _ r1) rfl rfl rfl ?_
          clear at3 r1 F2 N2
          intro h' tk F3 N3
          k_steps
          unfold Stop
          rename Fr _ _ _ _ => F4
          rename News _ _ _ _ => N4
          refine' join_listW (N4.isList (a := la1) (.tail _ (.tail _ (.tail _ (at2 _ _ r2))))) s1 (by decide) (encs_weight hloW (by omega)) ?_
          intro t' k'
          k_steps
          unfold Stop
          rename Fr _ _ _ _ => F4
          rename News _ _ _ _ => N4
          have hs2l := s2.len_eq
          rw [List.length_map] at hs2l
          obtain ⟨D7, hD7⟩ := name_head2 N4
          subst hD7
          refine' kmk_add_lit (its := [_].toArray) (its2 := vs2.toArray) (zs := _ :: vs2) F4 N4 (N4.isList (a := D7) (.head _)) (N4.isList (a := lb1) (.tail _ (.tail _ (.tail _ (.tail _ (at2 _ _ r3)))))) (by first | rfl | simp) ?_ ?z
          case z =>
            rw [sizeLine_eq]
            simp
            omega
          clear F4 N4
          intro D8 h' F' N' l8
          clear l8
          k_steps
          unfold Stop
          rename Fr _ _ _ _ => F4
          rename News _ _ _ _ => N4
          refine' join_listW (ys := (p :: sh1).map enc) (N4.isList (.head _)) (.cons _ _ s2) (by decide) (encs_weight (us := p :: sh1) (fun u hu => by
            rcases List.mem_cons.mp hu with rfl | hu
            · exact hpW
            · exact hshW u hu) (by simp only [List.length_cons]; omega)) ?_
          intro t9 k9
          rw [rows_eq hlo hloW hpW hshW hfl]
          generalize Txt.join (Str.ofString ".") ((p :: sh1).map enc) = jt
          k_steps
          · rename (_ != _) = true => hc
            simp at hc
          · unfold Stop
            rename Fr _ _ _ _ => F5
            rename News _ _ _ _ => N5
            refine TurnEnd.intro (nx := (wl, PySem.W.listOf vs.toArray n) :: (wl3 ++ wl2)) F5 (fun p hp => N5 p (.tail _ (.tail _ hp))) (fun p hp q hq => ?offr) ⟨fun z hz => by simp only [if_neg hz.1, if_neg hz.2.1, if_neg hz.2.2], rfl⟩
            rcases List.mem_cons.mp hq with rfl | hq
            · exact hI p hp
            · rw [List.mem_singleton.mp hq]; exact hl2 p hp
        case done =>
          clear F1 N1
          intro m₁ news₁ h tk hJ F N
          obtain ⟨hm, rfl⟩ := hJ
          rw [forget3 (fun z a b c => hm z ⟨a, b, c⟩)] at F
          generalize m₁ (Str.ofString "piece") = q1 at F
          generalize m₁ (Str.ofString "longer") = q2 at F
          generalize m₁ (Str.ofString "shorter") = q3 at F
          clear hm m₁
          show wpAny _ _ _ _ _ _
          have htf : toldR us 32 ((first us).map (·.1)) (first us) 3 = fewest us := told_fewest hW
          k_steps
          unfold Stop
          rename Fr _ _ _ _ => F1
          rename News _ _ _ _ => N1
          refine' Spec.use (fewest_spec hl4 hS hW) ?B F1 ?X N1 ?T ?khh ?khd ?khu ?khA ?khf ?khk (N1.isList (a := wl) (.head _)) ?_
          case B => k_asm
          case X => k_asm
          case T => k_asm
          case khh => exact rfl
          case khd => exact Nat.le_of_ble_eq_true rfl
          case khu => exact Nat.le_of_ble_eq_true rfl
          case khA => exact rfl
          case khf => exact rfl
          case khk => exact rfl
          clear F1 N1
          intro v new h' tk9 F' N' hdis hpost
          obtain ⟨t9, rfl⟩ := hpost
          rw [htf]
          clear htf hdis
          k_steps
)
end
end Mine
open PySem PySem.W PyProof.Rows
set_option maxRecDepth 100000 in
set_option maxHeartbeats 8000000 in
theorem PySem.Challenge.cw_wn0042_01_holds : PySem.Challenge.rw_wn0042_01.Holds := by
  exact Mine.law_holds

