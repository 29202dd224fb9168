import PyProof.Rows.All
import Wide.All
import OpenK.AllK
import Wide.FinOn
import Lean
import PySem.Challenge.RW_ph0127_01
set_option Elab.async false
set_option maxRecDepth 100000
set_option maxHeartbeats 8000000
set_option linter.unusedVariables false

section -- Hd
open PySem PySem.W PyProof.Rows
namespace Mine
def vw : Program := PySem.W.view Challenge.rw_ph0127_01.prog [1, 2, 3, 4, 5, 6, 8, 9, 11, 12, 14, 15, 16, 17, 18]
abbrev rr : RowW := OpenRow.toRowW (OpenLaw.row Challenge.rw_ph0127_01)
end Mine
local macro_rules | `(tactic| o_head (kmHook $K $a $f $_)) => `(tactic| (
  refine holds_open (q := Mine.vw) (loose := []) (Xt := fun s => xlAt Mine.vw [] s && recOk (RowW.records Mine.rr) s) (XP := XL Mine.vw []) (Yf := Hook.obs (kmHook $K $a $f [72, 37, 30])) (Ya := Hook.val (kmHook $K $a $f [72, 37, 30])) (YP := Hook.says (kmHook $K $a $f [72, 37, 30])) (N := 1174) ?hl (Hook.of (kmHook $K $a $f [72, 37, 30])) (Hook.keeps (kmHook $K $a $f [72, 37, 30])) (fun s e => xl_of s (Bool.and_eq_true_iff.mp e).1) XL.keeps (by rfl) (by rfl) (by rfl) (fun s e => recFacts_of (Bool.and_eq_true_iff.mp e).2) (by rfl) (by first | assumption | decide +kernel) (by decide +kernel) ⟨rfl, rfl, rfl, rfl, rfl, by decide +kernel⟩ ?hw ?hc
  case hl => intro w; kernel_rfl))
theorem Mine.law_said : OpenLaw.wellSaid Challenge.rw_ph0127_01 = true := by
  unfold OpenLaw.wellSaid
  repeat' (with_reducible refine look_both ?_ ?_)
  all_goals try (unfold OpenRow.wellSaid OpenRow.partSaid looksOpen; repeat' (with_reducible refine look_both ?_ ?_))
  all_goals decide +kernel
local macro_rules | `(tactic| o_law) => `(tactic| refine holds_law Mine.law_said fun said => ?_)
namespace Mine
open_top hd for PySem.Challenge.rw_ph0127_01
end Mine
end

theorem Mine.topOff : True := by w_top off; trivial
section -- Base
open PySem PySem.W PySem.Spec PySem.Calls PyProof.Rows
namespace Mine
abbrev lawProg : Program := (Challenge.rw_ph0127_01.row).prog

end Mine
end

section -- Loop1
open PySem PySem.W PySem.Spec PySem.Calls PyProof.Rows
namespace Mine
theorem sub_cons {α : Type} {a : α} {l l' : List α} (h : a ∈ l') (t : ∀ p ∈ l, p ∈ l') : ∀ p ∈ a :: l, p ∈ l' := List.forall_mem_cons.mpr ⟨h, t⟩
theorem sub_app {α : Type} {l₁ l₂ l' : List α} (h : ∀ p ∈ l₁, p ∈ l') (t : ∀ p ∈ l₂, p ∈ l') : ∀ p ∈ l₁ ++ l₂, p ∈ l' := fun p hp => (List.mem_append.mp hp).elim (h p) (t p)
theorem sub_tail {α : Type} {a : α} {l l' : List α} (t : ∀ p ∈ l, p ∈ l') : ∀ p ∈ l, p ∈ a :: l' := fun p hp => .tail _ (t p hp)
theorem sub_right {α : Type} {l₁ l₂ l : List α} (t : ∀ p ∈ l, p ∈ l₂) : ∀ p ∈ l, p ∈ l₁ ++ l₂ := fun p hp => List.mem_append_right _ (t p hp)
theorem sub_nil {α : Type} {l : List α} : ∀ p ∈ ([] : List α), p ∈ l := List.forall_mem_nil _
abbrev tup (vs : List Value) : Obj := { cls := .type "tuple", data := .seq vs.toArray }
def Halt (P : Prop) : Prop := P
theorem Halt.out {P : Prop} (h : Halt P) : P := h
theorem Halt.on {P : Prop} (h : P) : Halt P := h
theorem gtk {α : Type} {M : Model} {A : Around} {t : Sem α} {Q : α → Shared → Prop} {E : Value → Shared → Prop} {h : Heap} {g : Array GenState} {d : Drawn} {os : OsState} {X : Nat} (hX : 0 < X) (k : ∀ tk, 0 < tk → wpAny M A t Q E ⟨h, g, d, tk, os⟩) : wpAny M A t Q E ⟨h, g, d, X, os⟩ := k X hX
theorem gtk1 {α : Type} {M : Model} {A : Around} {t : Sem α} {Q : α → Shared → Prop} {E : Value → Shared → Prop} {h : Heap} {g : Array GenState} {d : Drawn} {os : OsState} {n : Nat} (k : ∀ tk, 0 < tk → wpAny M A t Q E ⟨h, g, d, tk, os⟩) : wpAny M A t Q E ⟨h, g, d, n + 1, os⟩ := k (n + 1) (Nat.succ_pos n)

section
variable {prog : Program} {w : World} {A : Around} {s : Shared} {env : Env} {h₀ : Heap}

/-- what a turn of a loop leaves -/
def GStep (h₀ : Heap) (L : Addr) (wr : List Addr) (own : List (Addr × Obj)) (Jn : (Str → Option Value) → List (Addr × Obj) → Array GenState → Prop) (d : Drawn) (os : OsState) (Q : Flow → Shared → Prop) (f : Flow) (s₂ : Shared) : Prop :=
  match f with
  | .ret v => Q (.ret v) s₂
  | .brk => Q .next s₂
  | _ => ∃ h' tk' g' m' news', s₂ = ⟨h', g', d, tk', os⟩ ∧ Fr h₀ L h' m' ∧ News h₀ L h' (own ++ news') ∧ (∀ p ∈ news', p.1 ∉ wr) ∧ Jn m' news' g'

theorem GStep.next {L : Addr} {wr : List Addr} {own : List (Addr × Obj)} {Jn : (Str → Option Value) → List (Addr × Obj) → Array GenState → Prop} {d : Drawn} {os : OsState} {Q : Flow → Shared → Prop} {h' : Heap} {tk' : Nat} {g' : Array GenState} {m' : Str → Option Value} {news' : List (Addr × Obj)}
    (F : Fr h₀ L h' m') (N : News h₀ L h' (own ++ news')) (ha : ∀ p ∈ news', p.1 ∉ wr) (hJ : Jn m' news' g') : GStep h₀ L wr own Jn d os Q .next ⟨h', g', d, tk', os⟩ :=
  ⟨h', tk', g', m', news', rfl, F, N, ha, hJ⟩

theorem for_walk {R : Result → Shared → Prop} {x : Str} {px : Pos} {body : List Stmt} {I : Addr} {fp wr : List Addr} {n : Nat} {P : Nat → Value → Prop} {St : Nat → Heap → Prop} {m : Str → Option Value}
    {news : List (Addr × Obj)} (W : Walks prog w A I fp wr n P St) (hx : env.kindOf x = some .local)
    (hp : (env.scope.kind == .class || (env.scope.kind == .module && env.locals != env.globals)) = false)
    (hLf : env.locals ∉ fp) (hwr : ∀ b ∈ wr, h₀.get? b = none) (hnw : ∀ p ∈ news, p.1 ∉ wr)
    (hst : St 0 s.heap) (F : Fr h₀ env.locals s.heap m) (N : News h₀ env.locals s.heap news)
    (J : Nat → (Str → Option Value) → List (Addr × Obj) → Array GenState → Prop) (h0 : J 0 m news s.gens)
    (step : ∀ i v m₁ news₁ h tk g own, i < n → P i v → J i m₁ news₁ g → (∀ p ∈ news₁, p.1 ∉ wr) → (∀ p ∈ own, p.1 ∈ fp) → (∀ b ∈ fp, h₀.get? b = none → ∀ o, h.get? b = some o → (b, o) ∈ own) → St (i + 1) h → 0 < tk →
      Fr h₀ env.locals h (fun y => if y = x then some v else m₁ y) → News h₀ env.locals h (own ++ news₁) →
      wpAny (model prog w) A (execs body env) (GStep h₀ env.locals wr own (J (i + 1)) s.drawn s.os (fun f s' => R (.ok f) s')) (notedBy (model prog w) A env fun e s' => R (.error e) s') ⟨h, g, s.drawn, tk, s.os⟩)
    (hR : ∀ h' tk g m' news', Fr h₀ env.locals h' m' → News h₀ env.locals h' news' → J n m' news' g → R (.ok .next) ⟨h', g, s.drawn, tk, s.os⟩) :
    codeAny (model prog w) A (.forLoop (.Name x px) (.ref I) body [] env) R s := by
  have hLw : env.locals ∉ wr := fun h => hLf (W.sub _ h)
  have old : ∀ b o, h₀.get? b = some o → b ∉ wr := fun b o e hb => by rw [hwr b hb] at e; cases e
  refine codeAny_forLoop
    (fun k s' => ∃ h' tk g' m' news' i, s' = ⟨h', g', s.drawn, tk, s.os⟩ ∧ St i h' ∧ Fr h₀ env.locals h' m' ∧ News h₀ env.locals h' news' ∧ (∀ p ∈ news', p.1 ∉ wr) ∧ J i m' news' g' ∧ i ≤ n ∧ k = n + 1 - i) ?_ (n + 1)
    ⟨s.heap, s.toks, s.gens, m, news, 0, rfl, hst, F, N, hnw, h0, Nat.zero_le _, rfl⟩
  rintro k s' ⟨h', tk, g', m', news', i, rfl, hst', F', N', hnw', hJ, hi, rfl⟩
  have next : ∀ h₁ : Heap, (∀ b o, b ∉ wr → h'.get? b = some o → h₁.get? b = some o) → Fr h₀ env.locals h₁ m' ∧ News h₀ env.locals h₁ news' := fun h₁ hk₁ =>
    ⟨⟨F'.ns.at' fun o e => hk₁ _ o hLw e, fun b o e => hk₁ b o (old b o e) (F'.keep b o e), F'.above⟩, fun p hp => ⟨hk₁ _ _ (hnw' p hp) (N' p hp).1, (N' p hp).2⟩⟩
  by_cases hlt : i < n
  · refine W.item i _ _ _ hlt hst' fun v h₁ tk₁ hP hst₁ hk₁ => ?_
    obtain ⟨F₁, N₁⟩ := next h₁ hk₁
    refine wpAny_assign_Name (wpAny_storeName_local hx F₁.ns (fun h₂ hn₂ hs₂ => ?_) hp)
    have F₂ := F₁.set hn₂ hs₂
    have Nown : News h₀ env.locals h₂ (ownOf h₀ fp h₂) := news_ownOf hLf
    have hst₂ : St (i + 1) h₂ := W.frame _ _ _ hst₁ fun b hb o e => (hs₂.2 b fun q => hLf (q ▸ hb)).trans e
    refine wpAny_mono (step i v m' news' h₂ _ g' (ownOf h₀ fp h₂) hlt hP hJ hnw' ownOf_sub (fun b hb hn o e => mem_ownOf hb hn e) hst₂ (Nat.succ_pos _) F₂ (Nown.append (N₁.set hs₂))) (fun f s₃ h₃ => ?_) fun _ _ e => e
    have fin : (∃ h' tk' g' m' news', s₃ = (⟨h', g', s.drawn, tk', s.os⟩ : Shared) ∧ Fr h₀ env.locals h' m' ∧ News h₀ env.locals h' (ownOf h₀ fp h₂ ++ news') ∧ (∀ p ∈ news', p.1 ∉ wr) ∧ J (i + 1) m' news' g') →
        ∃ k, k < n + 1 - i ∧ ∃ h' tk g' m' news' i, s₃ = (⟨h', g', s.drawn, tk, s.os⟩ : Shared) ∧ St i h' ∧ Fr h₀ env.locals h' m' ∧ News h₀ env.locals h' news' ∧ (∀ p ∈ news', p.1 ∉ wr) ∧ J i m' news' g' ∧ i ≤ n ∧ k = n + 1 - i := by
      intro h₃
      obtain ⟨h₃', tk₃, g₃, m₂, news₂, rfl, F₃, N₃, ha₃, hJ₃⟩ := h₃
      refine ⟨n + 1 - (i + 1), by omega, h₃', tk₃, g₃, m₂, news₂, i + 1, rfl, ?_, F₃, N₃.right, ha₃, hJ₃, hlt, rfl⟩
      refine W.frame _ _ _ hst₁ fun b hb o e => ?_
      have e₂ : h₂.get? b = some o := (hs₂.2 b fun q => hLf (q ▸ hb)).trans e
      cases hn : h₀.get? b with
      | some o₀ =>
        have : o₀ = o := by have := F₂.keep b o₀ hn; rw [e₂] at this; exact (Option.some.inj this).symm
        exact this ▸ F₃.keep b o₀ hn
      | none => exact (N₃ _ (List.mem_append_left _ (mem_ownOf hb hn e₂))).1
    cases f with
    | ret v => exact h₃
    | brk => exact h₃
    | cont => exact fin h₃
    | next => exact fin h₃
  · have hin : i = n := by omega
    subst hin
    refine W.done _ _ _ hst' fun h₁ tk₁ hk₁ => wpAny_execs_nil ?_
    obtain ⟨F₁, N₁⟩ := next h₁ hk₁
    exact hR h₁ tk₁ g' m' news' F₁ N₁ hJ

/-- a loop over a list, by an invariant over the frame's names, the ledger and the generators -/
theorem for_list {E : Value → Shared → Prop} {Q : Flow → Shared → Prop} {x : Str} {px : Pos} {body : List Stmt} {l : Addr} {vs : List Value} {m : Str → Option Value} {news : List (Addr × Obj)}
    (hh : A.handled = none) (hx : env.kindOf x = some .local)
    (hp : (env.scope.kind == .class || (env.scope.kind == .module && env.locals != env.globals)) = false)
    (F : Fr h₀ env.locals s.heap m) (N : News h₀ env.locals s.heap news) (hl : s.heap.IsList l vs.toArray) (hlL : l ≠ env.locals)
    (hE : PassesOwn (model prog w) A env E)
    (J : Nat → (Str → Option Value) → List (Addr × Obj) → Array GenState → Prop) (h0 : J 0 m news s.gens)
    (step : ∀ i v m₁ news₁ h tk g own, vs[i]? = some v → J i m₁ news₁ g → (∀ p ∈ news₁, p.1 ≠ s.heap.objs.size) → (∃ io, (s.heap.objs.size, io) ∈ own) → (∀ p ∈ own, p.1 = s.heap.objs.size ∨ p.1 = l) → 0 < tk →
      Fr h₀ env.locals h (fun y => if y = x then some v else m₁ y) → News h₀ env.locals h (own ++ news₁) →
      wpAny (model prog w) A (execs body env) (GStep h₀ env.locals [s.heap.objs.size] own (J (i + 1)) s.drawn s.os Q) E ⟨h, g, s.drawn, tk, s.os⟩)
    (hQ : ∀ h' tk g m' news', Fr h₀ env.locals h' m' → News h₀ env.locals h' news' → J vs.length m' news' g → Q .next ⟨h', g, s.drawn, tk, s.os⟩) :
    wpAny (model prog w) A (pyIter (.ref l)) (fun it s₂ => codeAny (model prog w) A (.forLoop (.Name x px) it body [] env) (fun r s' => match r with | .ok f => Q f s' | .error e => cameBackBy (model prog w) A env E e s') s₂) E s := by
  have hne : l ≠ s.heap.objs.size := by obtain ⟨o, ho, _⟩ := hl; exact Nat.ne_of_lt (Heap.lt_size ho)
  refine wpAny_pyIter_list hl ?_
  have W := Walks.list (prog := prog) (w := w) hh s.heap.objs.size l hne vs.toArray
  rw [List.size_toArray] at W
  have nope : h₀.get? s.heap.objs.size = none := by
    cases q : h₀.get? s.heap.objs.size with
    | none => rfl
    | some o => exact absurd (Heap.lt_size (F.keep _ _ q)) (Nat.lt_irrefl _)
  refine for_walk (h₀ := h₀) (s := { s with heap := s.heap.push _ }) (R := fun r s' => match r with | .ok f => Q f s' | .error e => cameBackBy (model prog w) A env E e s') W hx hp ?_ ?_ ?_ ⟨⟨_, Heap.get?_push_size _ rfl, rfl, rfl⟩, hl.at fun o e => Heap.get?_push_of_some _ e⟩ (F.push _) (fun p hp => ⟨Heap.get?_push_of_some _ (N p hp).1, (N p hp).2⟩) J h0 ?_ ?_
  · intro hm
    rcases List.mem_cons.mp hm with e | hm
    · exact absurd F.ns.lt (e ▸ Nat.lt_irrefl _)
    · exact hlL (List.mem_singleton.mp hm).symm
  · intro b hb; rw [List.mem_singleton.mp hb]; exact nope
  · intro p hp hI
    exact absurd (Heap.lt_size (N p hp).1) ((List.mem_singleton.mp hI) ▸ Nat.lt_irrefl _)
  · intro i v m₁ news₁ h tk g own hi hP hJ hnw hown hall hst htk F₁ N₁
    exact wpAny_passesOwn hE (step i v m₁ news₁ h tk g own (by simpa using hP) hJ (fun p hp q => hnw p hp (by rw [q]; exact .head _)) (by
      obtain ⟨⟨o, ho, _⟩, _⟩ := hst
      exact ⟨o, hall _ (.head _) nope o ho⟩) (fun p hp => by
      rcases List.mem_cons.mp (hown p hp) with e | e
      · exact .inl e
      · exact .inr (List.mem_singleton.mp e)) htk F₁ N₁)
  · intro h' tk g m' news' F' N' hJ
    exact hQ h' tk g m' news' F' N' hJ
end
end Mine
end

section -- Loop2
open PySem PySem.W PySem.Spec PySem.Calls PyProof.Rows
namespace Mine
section
variable {prog : Program} {w : World} {A : Around} {s : Shared} {env : Env} {h₀ : Heap}
abbrev itemIt (d : Addr) (i n ep : Nat) (ok ov : Value) : Obj := { cls := .type "dict_itemiterator", dict := none, data := .fields #[.none, .bool false, .ref d, .int i 0, .int n 0, .int ep 0, ok, ov], slots := #[] }

theorem for_items {E : Value → Shared → Prop} {Q : Flow → Shared → Prop} {x y : Str} {px py tp : Pos} {kk : Nat} {body : List Stmt} {v d : Addr} {kvs : List (Int × Value)} {ep : Nat} {od : Obj} {m : Str → Option Value} {news : List (Addr × Obj)}
    (hh : A.handled = none) (hx : env.kindOf x = some .local) (hy : env.kindOf y = some .local)
    (hp : (env.scope.kind == .class || (env.scope.kind == .module && env.locals != env.globals)) = false)
    (F : Fr h₀ env.locals s.heap m) (N : News h₀ env.locals s.heap news) (hv : s.heap.IsItemsView v d) (hod : KdkAt (intKind prog w) od kvs ep) (hd : s.heap.get? d = some od)
    (hE : PassesOwn (model prog w) A env E)
    (J : Nat → (Str → Option Value) → List (Addr × Obj) → Array GenState → Prop) (h0 : J 0 m news s.gens)
    (hJd : ∀ i m news g, J i m news g → (d, od) ∈ news ∨ h₀.get? d = some od)
    (step : ∀ i k t u m₁ news₁ h tk g io, kvs[i]? = some (k, u) → J i m₁ news₁ g → (∀ p ∈ news₁, p.1 ≠ s.heap.objs.size) →
      Fr h₀ env.locals h (fun z => if z = y then some u else if z = x then some (.int k t) else m₁ z) → News h₀ env.locals h ([(s.heap.objs.size, io)] ++ news₁) →
      wpAny (model prog w) A (execs body env) (GStep h₀ env.locals [s.heap.objs.size] [(s.heap.objs.size, io)] (J (i + 1)) s.drawn s.os Q) E ⟨h, g, s.drawn, tk, s.os⟩)
    (hQ : ∀ h' tk g m' news', Fr h₀ env.locals h' m' → News h₀ env.locals h' news' → J kvs.length m' news' g → Q .next ⟨h', g, s.drawn, tk, s.os⟩) :
    wpAny (model prog w) A (pyIter (.ref v)) (fun it s₂ => codeAny (model prog w) A (.forLoop (.Tuple [.Name x px, .Name y py] kk tp) it body [] env) (fun r s' => match r with | .ok f => Q f s' | .error e => cameBackBy (model prog w) A env E e s') s₂) E s := by
  have nope : h₀.get? s.heap.objs.size = none := by
    cases q : h₀.get? s.heap.objs.size with
    | none => rfl
    | some o => exact absurd (Heap.lt_size (F.keep _ _ q)) (Nat.lt_irrefl _)
  have hLI : env.locals ≠ s.heap.objs.size := Nat.ne_of_lt F.ns.lt
  have hdI : d ≠ s.heap.objs.size := Nat.ne_of_lt (Heap.lt_size hd)
  refine wpAny_pyIter_items hv (hod.dictAt hd) ?_
  generalize hI : s.heap.objs.size = I at *
  refine codeAny_forLoop_any
    (fun k s' => ∃ h' tk g' m' news' i ok ov, s' = ⟨h', g', s.drawn, tk, s.os⟩ ∧ IsItemIter h' I d i kvs.length ep ok ov ∧ Fr h₀ env.locals h' m' ∧ News h₀ env.locals h' news' ∧ (∀ p ∈ news', p.1 ≠ I) ∧ J i m' news' g' ∧ i ≤ kvs.length ∧ k = kvs.length + 1 - i) ?_ (kvs.length + 1)
    ⟨_, s.toks, s.gens, m, news, 0, .none, .none, rfl, ?_, F.push _, (fun p hp => ⟨Heap.get?_push_of_some _ (N p hp).1, (N p hp).2⟩), ?_, h0, Nat.zero_le _, rfl⟩
  · rintro k s' ⟨h', tk, g', m', news', i, ok, ov, rfl, hit, F', N', hnw', hJ, hi, rfl⟩
    have hdd : h'.get? d = some od := (hJd _ _ _ _ hJ).elim (fun hm => (N' _ hm).1) fun e => F'.keep _ _ e
    have old : ∀ b o, h₀.get? b = some o → b ≠ I := fun b o e q => by rw [q, nope] at e; cases e
    have next : ∀ h₁ : Heap, (∀ b o, b ≠ I → h'.get? b = some o → h₁.get? b = some o) → Fr h₀ env.locals h₁ m' ∧ News h₀ env.locals h₁ news' := fun h₁ hk₁ =>
      ⟨⟨F'.ns.at' fun o e => hk₁ _ o hLI e, fun b o e => hk₁ b o (old b o e) (F'.keep b o e), F'.above⟩, fun p hp => ⟨hk₁ _ _ (hnw' p hp) (N' p hp).1, (N' p hp).2⟩⟩
    by_cases hlt : i < kvs.length
    · obtain ⟨k, u, hxi⟩ : ∃ k u, kvs[i]? = some (k, u) := ⟨kvs[i].1, kvs[i].2, List.getElem?_eq_getElem hlt⟩
      refine wpAny_pyNext_items_item (s := ⟨h', g', s.drawn, tk, s.os⟩) hit (hod.dictAt hdd) hxi fun key h₁ hkey hout htup hsz hk₁ => ?_
      refine wpAny_letOwnedTupleGo_items hout fun h₂ hit₂ hs₂ => ?_
      have hT2 : h₂.IsTuple h'.objs.size #[key, u] := by
        refine ⟨_, (hs₂.2 _ ?_).trans htup, rfl, 0, rfl⟩
        exact Nat.ne_of_gt (Heap.lt_size hit)
      have hk₂ : ∀ b o, b ≠ I → h'.get? b = some o → h₂.get? b = some o := fun b o hb e => (hs₂.2 b hb).trans (hk₁ b o hb e)
      obtain ⟨F₂, N₂⟩ := next h₂ hk₂
      refine kcp_assign hh hT2 hx hy hp F₂.ns fun h₃ tk₃ hn₃ hk₃ => ?_
      have F₃ : Fr h₀ env.locals h₃ (fun z => if z = y then some u else if z = x then some key else m' z) := ⟨hn₃, fun b o e => hk₃ b o (Nat.ne_of_lt (Nat.lt_of_lt_of_le (Heap.lt_size e) F₂.above)) (F₂.keep b o e), F₂.above⟩
      have hit₃ : h₃.get? I = some (itemIt d (i + 1) kvs.length ep key u) := hk₃ _ _ (Ne.symm hLI) hit₂
      have N₃ : News h₀ env.locals h₃ ([(I, itemIt d (i + 1) kvs.length ep key u)] ++ news') := by
        intro p hp
        rcases List.mem_append.mp hp with hp | hp
        · rw [List.mem_singleton.mp hp]; exact ⟨hit₃, Ne.symm hLI, nope⟩
        · exact ⟨hk₃ _ _ (N₂ p hp).2.1 (N₂ p hp).1, (N₂ p hp).2⟩
      obtain ⟨t, rfl⟩ : ∃ t, key = .int k t := by
        exact Value.isInt_shape hkey
      refine wpAny_mono (wpAny_passesOwn hE (step i k t u m' news' h₃ tk₃ g' _ hxi hJ hnw' F₃ N₃)) (fun f s₄ h₄ => ?_) fun _ _ e => e
      have fin : (∃ h' tk' g' m' news', s₄ = (⟨h', g', s.drawn, tk', s.os⟩ : Shared) ∧ Fr h₀ env.locals h' m' ∧ News h₀ env.locals h' ([(I, itemIt d (i + 1) kvs.length ep (.int k t) u)] ++ news') ∧ (∀ p ∈ news', p.1 ∉ [I]) ∧ J (i + 1) m' news' g') →
          ∃ k, k < kvs.length + 1 - i ∧ ∃ h' tk g' m' news' i ok ov, s₄ = (⟨h', g', s.drawn, tk, s.os⟩ : Shared) ∧ IsItemIter h' I d i kvs.length ep ok ov ∧ Fr h₀ env.locals h' m' ∧ News h₀ env.locals h' news' ∧ (∀ p ∈ news', p.1 ≠ I) ∧ J i m' news' g' ∧ i ≤ kvs.length ∧ k = kvs.length + 1 - i := by
        rintro ⟨h₅, tk₅, g₅, m₅, news₅, rfl, F₅, N₅, ha₅, hJ₅⟩
        exact ⟨kvs.length + 1 - (i + 1), by omega, h₅, tk₅, g₅, m₅, news₅, i + 1, _, _, rfl, (N₅ _ (.head _)).1, F₅, N₅.right, fun p hp q => ha₅ p hp (by rw [q]; exact .head _), hJ₅, hlt, rfl⟩
      cases f with
      | ret v => exact h₄
      | brk => exact h₄
      | cont => exact fin h₄
      | next => exact fin h₄
    · have hin : i = kvs.length := by omega
      subst hin
      refine wpAny_pyNext_items_end (s := ⟨h', g', s.drawn, tk, s.os⟩) hh hit (hod.dictAt hdd) (by simp) fun h₁ he₁ => wpAny_execs_nil ?_
      obtain ⟨F₁, N₁⟩ := next h₁ he₁
      exact hQ h₁ tk g' m' news' F₁ N₁ hJ
  · rw [← hI]; exact Heap.get?_push_size _ rfl
  · intro p hp q
    exact absurd (Heap.lt_size (N p hp).1) (by rw [q, ← hI]; exact Nat.lt_irrefl _)
end
end Mine
namespace Mine
section
variable {prog : Program} {w : World} {A : Around} {E : Value → Shared → Prop} {s : Shared} {h₀ : Heap} {L : Addr} {m : Str → Option Value}
/-- a ledger's object is changed -/
theorem news_head_set {h h' : Heap} {d : Addr} {o o' : Obj} {post : List (Addr × Obj)} (N : News h₀ L h ((d, o) :: post)) (hb : ∀ p ∈ post, p.1 ≠ d) (hs : Heap.SameBut d h h') (ho : h'.get? d = some o') : News h₀ L h' ((d, o') :: post) := by
  intro p hp
  rcases List.mem_cons.mp hp with rfl | hp
  · exact ⟨ho, (N _ (.head _)).2⟩
  · exact ⟨(hs.2 _ (hb p hp)).trans (N p (.tail _ hp)).1, (N p (.tail _ hp)).2⟩
theorem dict_set {d : Addr} {o : Obj} {post : List (Addr × Obj)} {kvs : List (Int × Value)} {k : Int} {t : Tok} {v : Value} {Q : Unit → Shared → Prop} (F : Fr h₀ L s.heap m) (N : News h₀ L s.heap ((d, o) :: post)) (hb : ∀ p ∈ post, p.1 ≠ d) (hd : o.IsDictOf (intKind prog w) kvs) (hsz : kvs.length ≤ sizeLine)
    (h : ∀ h' o', Fr h₀ L h' m → News h₀ L h' ((d, o') :: post) → o'.IsDictOf (intKind prog w) (stored kvs k v) → Q () { s with heap := h', toks := s.toks + 1 }) : wpAny (model prog w) A (setItem (.ref d) (.int k t) v) Q E s := by
  have hm := N (d, o) (.head _)
  refine wpAny_setItem_pairs (knd := intKind prog w) (k := k) (hsz := hsz) (by simp [intKind, Value.isInt]) (Heap.dictOf_iff.mpr ⟨o, hm.1, hd⟩) fun h' hmm hs => ?_
  obtain ⟨o', ho', hd'⟩ := Heap.dictOf_iff.mp hmm
  exact h h' o' (F.change hs hm.2.1 hm.2.2) (news_head_set N hb hs ho') hd'
theorem pull1 {h : Heap} {a0 a1 : Addr × Obj} {t : List (Addr × Obj)} (N : News h₀ L h (a0 :: a1 :: t)) : News h₀ L h (a1 :: a0 :: t) := News.perm N (by repeat (first | (with_reducible exact fun _ h => h) | (with_reducible exact fun _ h => List.mem_append_left _ h) | (with_reducible exact sub_nil) | (with_reducible refine sub_cons (by repeat (first | (with_reducible exact List.mem_cons_self) | (with_reducible refine List.mem_cons_of_mem _ ?_) | (with_reducible exact List.mem_append_left _ List.mem_cons_self) | (with_reducible refine List.mem_append_right _ ?_))) ?_) | (with_reducible refine sub_app ?_ ?_) | (with_reducible refine sub_tail ?_) | (with_reducible refine sub_right ?_)))
theorem pull2 {h : Heap} {a0 a1 a2 : Addr × Obj} {t : List (Addr × Obj)} (N : News h₀ L h (a0 :: a1 :: a2 :: t)) : News h₀ L h (a2 :: a0 :: a1 :: t) := News.perm N (by repeat (first | (with_reducible exact fun _ h => h) | (with_reducible exact fun _ h => List.mem_append_left _ h) | (with_reducible exact sub_nil) | (with_reducible refine sub_cons (by repeat (first | (with_reducible exact List.mem_cons_self) | (with_reducible refine List.mem_cons_of_mem _ ?_) | (with_reducible exact List.mem_append_left _ List.mem_cons_self) | (with_reducible refine List.mem_append_right _ ?_))) ?_) | (with_reducible refine sub_app ?_ ?_) | (with_reducible refine sub_tail ?_) | (with_reducible refine sub_right ?_)))
theorem pull3 {h : Heap} {a0 a1 a2 a3 : Addr × Obj} {t : List (Addr × Obj)} (N : News h₀ L h (a0 :: a1 :: a2 :: a3 :: t)) : News h₀ L h (a3 :: a0 :: a1 :: a2 :: t) := News.perm N (by repeat (first | (with_reducible exact fun _ h => h) | (with_reducible exact fun _ h => List.mem_append_left _ h) | (with_reducible exact sub_nil) | (with_reducible refine sub_cons (by repeat (first | (with_reducible exact List.mem_cons_self) | (with_reducible refine List.mem_cons_of_mem _ ?_) | (with_reducible exact List.mem_append_left _ List.mem_cons_self) | (with_reducible refine List.mem_append_right _ ?_))) ?_) | (with_reducible refine sub_app ?_ ?_) | (with_reducible refine sub_tail ?_) | (with_reducible refine sub_right ?_)))
theorem pull4 {h : Heap} {a0 a1 a2 a3 a4 : Addr × Obj} {t : List (Addr × Obj)} (N : News h₀ L h (a0 :: a1 :: a2 :: a3 :: a4 :: t)) : News h₀ L h (a4 :: a0 :: a1 :: a2 :: a3 :: t) := News.perm N (by repeat (first | (with_reducible exact fun _ h => h) | (with_reducible exact fun _ h => List.mem_append_left _ h) | (with_reducible exact sub_nil) | (with_reducible refine sub_cons (by repeat (first | (with_reducible exact List.mem_cons_self) | (with_reducible refine List.mem_cons_of_mem _ ?_) | (with_reducible exact List.mem_append_left _ List.mem_cons_self) | (with_reducible refine List.mem_append_right _ ?_))) ?_) | (with_reducible refine sub_app ?_ ?_) | (with_reducible refine sub_tail ?_) | (with_reducible refine sub_right ?_)))
theorem pull5 {h : Heap} {a0 a1 a2 a3 a4 a5 : Addr × Obj} {t : List (Addr × Obj)} (N : News h₀ L h (a0 :: a1 :: a2 :: a3 :: a4 :: a5 :: t)) : News h₀ L h (a5 :: a0 :: a1 :: a2 :: a3 :: a4 :: t) := News.perm N (by repeat (first | (with_reducible exact fun _ h => h) | (with_reducible exact fun _ h => List.mem_append_left _ h) | (with_reducible exact sub_nil) | (with_reducible refine sub_cons (by repeat (first | (with_reducible exact List.mem_cons_self) | (with_reducible refine List.mem_cons_of_mem _ ?_) | (with_reducible exact List.mem_append_left _ List.mem_cons_self) | (with_reducible refine List.mem_append_right _ ?_))) ?_) | (with_reducible refine sub_app ?_ ?_) | (with_reducible refine sub_tail ?_) | (with_reducible refine sub_right ?_)))
theorem pull6 {h : Heap} {a0 a1 a2 a3 a4 a5 a6 : Addr × Obj} {t : List (Addr × Obj)} (N : News h₀ L h (a0 :: a1 :: a2 :: a3 :: a4 :: a5 :: a6 :: t)) : News h₀ L h (a6 :: a0 :: a1 :: a2 :: a3 :: a4 :: a5 :: t) := News.perm N (by repeat (first | (with_reducible exact fun _ h => h) | (with_reducible exact fun _ h => List.mem_append_left _ h) | (with_reducible exact sub_nil) | (with_reducible refine sub_cons (by repeat (first | (with_reducible exact List.mem_cons_self) | (with_reducible refine List.mem_cons_of_mem _ ?_) | (with_reducible exact List.mem_append_left _ List.mem_cons_self) | (with_reducible refine List.mem_append_right _ ?_))) ?_) | (with_reducible refine sub_app ?_ ?_) | (with_reducible refine sub_tail ?_) | (with_reducible refine sub_right ?_)))
theorem pull7 {h : Heap} {a0 a1 a2 a3 a4 a5 a6 a7 : Addr × Obj} {t : List (Addr × Obj)} (N : News h₀ L h (a0 :: a1 :: a2 :: a3 :: a4 :: a5 :: a6 :: a7 :: t)) : News h₀ L h (a7 :: a0 :: a1 :: a2 :: a3 :: a4 :: a5 :: a6 :: t) := News.perm N (by repeat (first | (with_reducible exact fun _ h => h) | (with_reducible exact fun _ h => List.mem_append_left _ h) | (with_reducible exact sub_nil) | (with_reducible refine sub_cons (by repeat (first | (with_reducible exact List.mem_cons_self) | (with_reducible refine List.mem_cons_of_mem _ ?_) | (with_reducible exact List.mem_append_left _ List.mem_cons_self) | (with_reducible refine List.mem_append_right _ ?_))) ?_) | (with_reducible refine sub_app ?_ ?_) | (with_reducible refine sub_tail ?_) | (with_reducible refine sub_right ?_)))
theorem pull8 {h : Heap} {a0 a1 a2 a3 a4 a5 a6 a7 a8 : Addr × Obj} {t : List (Addr × Obj)} (N : News h₀ L h (a0 :: a1 :: a2 :: a3 :: a4 :: a5 :: a6 :: a7 :: a8 :: t)) : News h₀ L h (a8 :: a0 :: a1 :: a2 :: a3 :: a4 :: a5 :: a6 :: a7 :: t) := News.perm N (by repeat (first | (with_reducible exact fun _ h => h) | (with_reducible exact fun _ h => List.mem_append_left _ h) | (with_reducible exact sub_nil) | (with_reducible refine sub_cons (by repeat (first | (with_reducible exact List.mem_cons_self) | (with_reducible refine List.mem_cons_of_mem _ ?_) | (with_reducible exact List.mem_append_left _ List.mem_cons_self) | (with_reducible refine List.mem_append_right _ ?_))) ?_) | (with_reducible refine sub_app ?_ ?_) | (with_reducible refine sub_tail ?_) | (with_reducible refine sub_right ?_)))
theorem pull9 {h : Heap} {a0 a1 a2 a3 a4 a5 a6 a7 a8 a9 : Addr × Obj} {t : List (Addr × Obj)} (N : News h₀ L h (a0 :: a1 :: a2 :: a3 :: a4 :: a5 :: a6 :: a7 :: a8 :: a9 :: t)) : News h₀ L h (a9 :: a0 :: a1 :: a2 :: a3 :: a4 :: a5 :: a6 :: a7 :: a8 :: t) := News.perm N (by repeat (first | (with_reducible exact fun _ h => h) | (with_reducible exact fun _ h => List.mem_append_left _ h) | (with_reducible exact sub_nil) | (with_reducible refine sub_cons (by repeat (first | (with_reducible exact List.mem_cons_self) | (with_reducible refine List.mem_cons_of_mem _ ?_) | (with_reducible exact List.mem_append_left _ List.mem_cons_self) | (with_reducible refine List.mem_append_right _ ?_))) ?_) | (with_reducible refine sub_app ?_ ?_) | (with_reducible refine sub_tail ?_) | (with_reducible refine sub_right ?_)))
theorem pull10 {h : Heap} {a0 a1 a2 a3 a4 a5 a6 a7 a8 a9 a10 : Addr × Obj} {t : List (Addr × Obj)} (N : News h₀ L h (a0 :: a1 :: a2 :: a3 :: a4 :: a5 :: a6 :: a7 :: a8 :: a9 :: a10 :: t)) : News h₀ L h (a10 :: a0 :: a1 :: a2 :: a3 :: a4 :: a5 :: a6 :: a7 :: a8 :: a9 :: t) := News.perm N (by repeat (first | (with_reducible exact fun _ h => h) | (with_reducible exact fun _ h => List.mem_append_left _ h) | (with_reducible exact sub_nil) | (with_reducible refine sub_cons (by repeat (first | (with_reducible exact List.mem_cons_self) | (with_reducible refine List.mem_cons_of_mem _ ?_) | (with_reducible exact List.mem_append_left _ List.mem_cons_self) | (with_reducible refine List.mem_append_right _ ?_))) ?_) | (with_reducible refine sub_app ?_ ?_) | (with_reducible refine sub_tail ?_) | (with_reducible refine sub_right ?_)))
theorem pull11 {h : Heap} {a0 a1 a2 a3 a4 a5 a6 a7 a8 a9 a10 a11 : Addr × Obj} {t : List (Addr × Obj)} (N : News h₀ L h (a0 :: a1 :: a2 :: a3 :: a4 :: a5 :: a6 :: a7 :: a8 :: a9 :: a10 :: a11 :: t)) : News h₀ L h (a11 :: a0 :: a1 :: a2 :: a3 :: a4 :: a5 :: a6 :: a7 :: a8 :: a9 :: a10 :: t) := News.perm N (by repeat (first | (with_reducible exact fun _ h => h) | (with_reducible exact fun _ h => List.mem_append_left _ h) | (with_reducible exact sub_nil) | (with_reducible refine sub_cons (by repeat (first | (with_reducible exact List.mem_cons_self) | (with_reducible refine List.mem_cons_of_mem _ ?_) | (with_reducible exact List.mem_append_left _ List.mem_cons_self) | (with_reducible refine List.mem_append_right _ ?_))) ?_) | (with_reducible refine sub_app ?_ ?_) | (with_reducible refine sub_tail ?_) | (with_reducible refine sub_right ?_)))
theorem pull12 {h : Heap} {a0 a1 a2 a3 a4 a5 a6 a7 a8 a9 a10 a11 a12 : Addr × Obj} {t : List (Addr × Obj)} (N : News h₀ L h (a0 :: a1 :: a2 :: a3 :: a4 :: a5 :: a6 :: a7 :: a8 :: a9 :: a10 :: a11 :: a12 :: t)) : News h₀ L h (a12 :: a0 :: a1 :: a2 :: a3 :: a4 :: a5 :: a6 :: a7 :: a8 :: a9 :: a10 :: a11 :: t) := News.perm N (by repeat (first | (with_reducible exact fun _ h => h) | (with_reducible exact fun _ h => List.mem_append_left _ h) | (with_reducible exact sub_nil) | (with_reducible refine sub_cons (by repeat (first | (with_reducible exact List.mem_cons_self) | (with_reducible refine List.mem_cons_of_mem _ ?_) | (with_reducible exact List.mem_append_left _ List.mem_cons_self) | (with_reducible refine List.mem_append_right _ ?_))) ?_) | (with_reducible refine sub_app ?_ ?_) | (with_reducible refine sub_tail ?_) | (with_reducible refine sub_right ?_)))
theorem pullA {h : Heap} {l r : List (Addr × Obj)} (N : News h₀ L h (l ++ r)) : News h₀ L h (r ++ l) := News.perm N (by repeat (first | (with_reducible exact fun _ h => h) | (with_reducible exact fun _ h => List.mem_append_left _ h) | (with_reducible exact sub_nil) | (with_reducible refine sub_cons (by repeat (first | (with_reducible exact List.mem_cons_self) | (with_reducible refine List.mem_cons_of_mem _ ?_) | (with_reducible exact List.mem_append_left _ List.mem_cons_self) | (with_reducible refine List.mem_append_right _ ?_))) ?_) | (with_reducible refine sub_app ?_ ?_) | (with_reducible refine sub_tail ?_) | (with_reducible refine sub_right ?_)))
end
end Mine
end

section -- ZipT
open PySem PySem.W PySem.Spec PySem.Calls PyProof.Rows
namespace Mine
section
variable {prog : Program} {w : World} {A : Around} {E : Value → Shared → Prop} {s : Shared}

/-- the next item of a tuple's iterator, as zip asks for it -/
theorem tupIter_item {it t : Addr} {i : Nat} {items : Array Value} {x : Value} {Q : Value → Shared → Prop} (hit : s.heap.IsTupleIter it t i) (ht : s.heap.IsTuple t items) (hx : items[i]? = some x)
    (hQ : ∀ h', h'.IsTupleIter it t (i + 1) → Heap.SameBut it s.heap h' → Q x { s with heap := h' }) : wpAny (model prog w) A (Builtin.SmallTypes.nextOf (.ref it)) Q E s := by
  obtain ⟨o, ho, hc, hd⟩ := id hit
  obtain ⟨ol, hol, _, nl, hdl⟩ := ht
  unfold Builtin.SmallTypes.nextOf
  refine wpAny_bind (wpAny_callSpecial?_slot (name := Str.ofString "__next__") hit.typeIs PySem.F.slot_tuple_iterator_next
    (wpAny_call_entry PySem.F.slot_tuple_iterator_next hit.typeIs PySem.F.entry_tuple_iterator_next ?_ (PySem.F.args_tuple_iterator_next_1 _)))
  show wpAny _ _ (field (.ref it) 0 >>= _) _ _ s
  refine wpAny_bind (wpAny_field ho hd (x := .ref t) rfl ?_)
  show wpAny _ _ (if (Value.ref t == Value.none) = true then _ else _) _ _ s
  rw [if_neg (show ¬ ((Value.ref t == Value.none) = true) from Bool.false_ne_true)]
  show wpAny _ _ (field (.ref it) 1 >>= _) _ _ s
  refine wpAny_bind (wpAny_field ho hd (x := .int i 0) rfl ?_)
  show wpAny _ _ (seqItems? (.ref t) >>= _) _ _ s
  refine wpAny_bind (wpAny_seqItems hol hdl ?_)
  simp only [Int.toNat_natCast, hx]
  refine wpAny_bind (wpAny_setField ho hd (by simp) (wpAny_pure ⟨x, rfl, wpAny_pure (hQ _ ?_ (Heap.SameBut.update ..))⟩))
  exact ⟨_, Heap.get?_update_self _ ho (Obj.isFreed_of_fields (Obj.data_mapFields hd _)), (Obj.cls_mapFields ..).trans hc, by
    rw [Obj.data_mapFields hd]; simp [rawInt]⟩
theorem tupIter_end {it t : Addr} {i : Nat} {items : Array Value} {Q : Value → Shared → Prop} (hh : A.handled = none) (hit : s.heap.IsTupleIter it t i) (ht : s.heap.IsTuple t items) (hx : items[i]? = none)
    (hE : ∀ h' e, Heap.ExtBut it s.heap h' → (∃ o, h'.get? e = some o ∧ o.cls = .type "StopIteration") → E (.ref e) { s with heap := h' }) : wpAny (model prog w) A (Builtin.SmallTypes.nextOf (.ref it)) Q E s := by
  obtain ⟨o, ho, hc, hd⟩ := id hit
  obtain ⟨ol, hol, _, nl, hdl⟩ := ht
  unfold Builtin.SmallTypes.nextOf
  refine wpAny_bind (wpAny_callSpecial?_slot (name := Str.ofString "__next__") hit.typeIs PySem.F.slot_tuple_iterator_next
    (wpAny_call_entry PySem.F.slot_tuple_iterator_next hit.typeIs PySem.F.entry_tuple_iterator_next ?_ (PySem.F.args_tuple_iterator_next_1 _)))
  show wpAny _ _ (field (.ref it) 0 >>= _) _ _ s
  refine wpAny_bind (wpAny_field ho hd (x := .ref t) rfl ?_)
  show wpAny _ _ (if (Value.ref t == Value.none) = true then _ else _) _ _ s
  rw [if_neg (show ¬ ((Value.ref t == Value.none) = true) from Bool.false_ne_true)]
  show wpAny _ _ (field (.ref it) 1 >>= _) _ _ s
  refine wpAny_bind (wpAny_field ho hd (x := .int i 0) rfl ?_)
  show wpAny _ _ (seqItems? (.ref t) >>= _) _ _ s
  refine wpAny_bind (wpAny_seqItems hol hdl ?_)
  simp only [Int.toNat_natCast, hx]
  refine wpAny_bind (wpAny_rule (wpAny_bind (wpAny_setField ho hd (by simp) ?_)))
  show wpAny _ _ (newExc (.type "StopIteration") [] >>= _) _ _ _
  refine wpAny_bind ?_
  simp only [newExc, newTuple]
  refine wpAny_bind (wpAny_newObj_type ?_ (by size_fits))
  refine wpAny_bind (m := firstArgMember _ _) (wpAny_of_eq (a := Value.none) (by first | rfl | (simp only [firstArgMember]; rfl)) ?_)
  refine wpAny_newObj_type ?_ (by size_fits)
  simp only [raiseNew]
  refine wpAny_bind (wpAny_handled ?_)
  first | rw [show A.in1.handled = none from hh] | rw [hh]
  refine wpAny_bind (wpAny_pure (wpAny_throw ?_))
  exact hE _ _ (((Heap.SameBut.update ..).extBut.push _).push _) ⟨_, Heap.get?_push_size _ rfl, rfl⟩

theorem draws_tuple (hh : A.handled = none) (it t : Addr) (hne : t ≠ it) (items : Array Value) :
    Draws prog w A it [it, t] items.size (fun i v => items[i]? = some v) (fun i h => h.IsTupleIter it t i ∧ h.IsTuple t items) where
  live := fun _ _ st => let ⟨o, ho, _⟩ := st.1; ⟨o, ho⟩
  frame := fun _ _ _ st hk => ⟨let ⟨o, ho, r⟩ := st.1; ⟨o, hk it (by simp) o ho, r⟩, let ⟨o, ho, r⟩ := st.2; ⟨o, hk t (by simp) o ho, r⟩⟩
  item := fun i s Q E hi st hQ => by
    refine tupIter_item st.1 st.2 (x := items[i]) (by simp [hi]) fun h' hit' hs' => ?_
    exact hQ _ h' s.toks (by simp [hi]) ⟨hit', st.2.extBut hs'.extBut hne⟩ hs'
  done := fun s Q E st hE => tupIter_end hh st.1 st.2 (by simp) hE

structure ZipOff (z TI TO i1 i2 : Addr) (fp1 fp2 : List Addr) : Prop where
  TIz : TI ≠ z
  TOz : TO ≠ z
  TITO : TI ≠ TO
  m1 : i1 ∈ fp1
  m2 : i2 ∈ fp2
  z1 : z ∉ fp1
  z2 : z ∉ fp2
  TO1 : TO ∉ fp1
  TO2 : TO ∉ fp2
  TIi1 : TI ≠ i1
  TIi2 : TI ≠ i2
  x12 : i1 ∉ fp2
  x21 : i2 ∉ fp1
theorem ne_in {a b : Addr} {l : List Addr} (ha : a ∈ l) (hb : b ∉ l) : a ≠ b := fun e => hb (e ▸ ha)

section
variable {z TI TO i1 i2 : Addr} {fp1 fp2 : List Addr} {n : Nat} {P1 P2 : Nat → Value → Prop} {St1 St2 : Nat → Heap → Prop}
theorem frame_but {i : Nat} {it a : Addr} {fp : List Addr} {P : Nat → Value → Prop} {St : Nat → Heap → Prop} {h h' : Heap} (D : Draws prog w A it fp n P St) (st : St i h) (hs : Heap.SameBut a h h') (ha : a ∉ fp) : St i h' :=
  D.frame i h h' st fun b hb o e => hs.extBut b o (ne_in hb ha) e

theorem zipD_item {i : Nat} {a b : Value} {Q : Value → Shared → Prop} (O : ZipOff z TI TO i1 i2 fp1 fp2) (D1 : Draws prog w A i1 fp1 n P1 St1) (D2 : Draws prog w A i2 fp2 n P2 St2) (hi : i < n)
    (hz : IsZip s.heap z TI TO .none) (hTI : IsPair s.heap TI (.ref i1) (.ref i2)) (hTO : IsPair s.heap TO a b) (st1 : St1 i s.heap) (st2 : St2 i s.heap)
    (hQ : ∀ x y h' tk, P1 i x → P2 i y → IsZip h' z TI TO (rawInt s.heap.objs.size) → IsPair h' TO x y → St1 (i + 1) h' → St2 (i + 1) h' → IsPair h' s.heap.objs.size x y →
      (∀ c o, c ≠ z → c ≠ TO → c ≠ i1 → c ≠ i2 → s.heap.get? c = some o → h'.get? c = some o) → Q (.ref s.heap.objs.size) { s with heap := h', toks := tk }) :
    wpAny (model prog w) A (Builtin.«zip.__next__» ⟨[.ref z], []⟩) (fun fin s' => ∃ v, fin = .done (.ret v) ∧ Q v s') E s := by
  have i1z := ne_in O.m1 O.z1
  have i2z := ne_in O.m2 O.z2
  have TOi1 : TO ≠ i1 := fun e => O.TO1 (e ▸ O.m1)
  have TOi2 : TO ≠ i2 := fun e => O.TO2 (e ▸ O.m2)
  show wpAny _ _ (field (.ref z) 2 >>= _) _ _ _
  refine wpAny_bind (wpAny_field hz rfl (x := .bool false) rfl ?_)
  show wpAny _ _ (field (.ref z) 3 >>= _) _ _ _
  refine wpAny_bind (wpAny_field hz rfl (x := .ref TI) rfl ?_)
  refine wpAny_bind (wpAny_seqItems hTI rfl ?_)
  show wpAny _ _ (Builtin.SmallTypes.ownedTupleIsFree (.ref z) >>= _) _ _ _
  refine wpAny_bind ?_
  unfold Builtin.SmallTypes.ownedTupleIsFree
  refine wpAny_bind (wpAny_field hz rfl (x := .none) rfl (wpAny_pure ?_))
  simp only [if_true]
  refine wpAny_bind (wpAny_rule ?_)
  refine wpAny_bind (wpAny_field hz rfl (x := .ref TO) rfl ?_)
  refine wpAny_bind (wpAny_setField_rec hz (by simp) fun h₁ hz₁ hs₁ => ?_)
  replace hz₁ : IsZip h₁ z TI TO .ellipsis := hz₁
  refine wpAny_bind ?_
  simp only [List.zipIdx_cons, List.zipIdx_nil, List.forIn_cons, List.forIn_nil]
  refine wpAny_bind (wpAny_bind (wpAny_onRaise ?_))
  show wpAny _ _ (Builtin.SmallTypes.nextOf (.ref i1) >>= _) _ _ _
  refine wpAny_bind (D1.item i _ _ _ hi (frame_but D1 st1 hs₁ O.z1) fun x h₂ tk₂ hx st₂ hs₂ => wpAny_pure ?_)
  have hTO₂ : IsPair h₂ TO a b := hs₂.extBut _ _ TOi1 (hs₁.extBut _ _ O.TOz hTO)
  refine wpAny_bind (wpAny_seqItems hTO₂ rfl ?_)
  refine wpAny_bind (wpAny_updateSeq_pair hTO₂ fun h₃ hTO₃ hs₃ => ?_)
  replace hTO₃ : IsPair h₃ TO x b := hTO₃
  refine wpAny_bind (wpAny_letGo (wpAny_pure ?_))
  refine wpAny_bind (wpAny_bind (wpAny_onRaise ?_))
  show wpAny _ _ (Builtin.SmallTypes.nextOf (.ref i2) >>= _) _ _ _
  refine wpAny_bind (D2.item i _ _ _ hi (frame_but D2 (frame_but D2 (frame_but D2 st2 hs₁ O.z2) hs₂ O.x12) hs₃ O.TO2) fun y h₄ tk₄ hy st₄ hs₄ => wpAny_pure ?_)
  have hTO₄ : IsPair h₄ TO x b := hs₄.extBut _ _ TOi2 hTO₃
  refine wpAny_bind (wpAny_seqItems hTO₄ rfl ?_)
  refine wpAny_bind (wpAny_updateSeq_pair hTO₄ fun h₅ hTO₅ hs₅ => ?_)
  replace hTO₅ : IsPair h₅ TO x y := hTO₅
  refine wpAny_bind (wpAny_letGo (wpAny_pure (wpAny_pure ?_)))
  refine wpAny_bind (wpAny_seqItems hTO₅ rfl ?_)
  refine wpAny_bind (wpAny_newTuple ?_)
  have hsz : h₅.objs.size = s.heap.objs.size := by rw [hs₅.1, hs₄.1, hs₃.1, hs₂.1, hs₁.1]
  have hz₅ : IsZip h₅ z TI TO .ellipsis := hs₅.extBut _ _ O.TOz.symm (hs₄.extBut _ _ i2z.symm (hs₃.extBut _ _ O.TOz.symm (hs₂.extBut _ _ i1z.symm hz₁)))
  have hk₅ : ∀ c o, c ≠ z → c ≠ TO → c ≠ i1 → c ≠ i2 → s.heap.get? c = some o → h₅.get? c = some o := fun c o c1 c2 c3 c4 e =>
    hs₅.extBut _ _ c2 (hs₄.extBut _ _ c4 (hs₃.extBut _ _ c2 (hs₂.extBut _ _ c3 (hs₁.extBut _ _ c1 e))))
  have st1₅ : St1 (i + 1) h₅ := frame_but D1 (frame_but D1 (frame_but D1 st₂ hs₃ O.TO1) hs₄ O.x21) hs₅ O.TO1
  have st2₅ : St2 (i + 1) h₅ := frame_but D2 st₄ hs₅ O.TO2
  have hzlt : z < h₅.objs.size := Heap.lt_size hz₅
  show wpAny _ _ (Builtin.SmallTypes.ownedTupleHandOut (.ref z) (.ref h₅.objs.size) >>= _) _ _ _
  refine wpAny_bind ?_
  unfold Builtin.SmallTypes.ownedTupleHandOut
  have hz₆ : IsZip (h₅.push { cls := .type "tuple", data := .seq #[x, y] }) z TI TO .ellipsis := Heap.get?_push_of_some _ hz₅
  refine wpAny_bind (wpAny_setField_rec hz₆ (by simp) fun h₇ hz₇ hs₇ => ?_)
  replace hz₇ : IsZip h₇ z TI TO (rawInt h₅.objs.size) := hz₇
  refine wpAny_setField_rec hz₇ (by simp) fun h₈ hz₈ hs₈ => ?_
  replace hz₈ : IsZip h₈ z TI TO (rawInt h₅.objs.size) := hz₈
  have up : ∀ c o, c ≠ z → h₅.get? c = some o → h₈.get? c = some o := fun c o c1 e => hs₈.extBut _ _ c1 (hs₇.extBut _ _ c1 (Heap.get?_push_of_some _ e))
  have hT₈ : IsPair h₈ h₅.objs.size x y := hs₈.extBut _ _ (Nat.ne_of_gt hzlt) (hs₇.extBut _ _ (Nat.ne_of_gt hzlt) (Heap.get?_push_size _ rfl))
  rw [hsz] at hz₈ hT₈
  refine wpAny_pure ⟨_, rfl, ?_⟩
  show Q (.ref h₅.objs.size) _
  rw [hsz]
  exact hQ x y h₈ _ hx hy hz₈ (up _ _ O.TOz hTO₅) (D1.frame _ _ _ st1₅ fun b hb o e => up b o (ne_in hb O.z1) e) (D2.frame _ _ _ st2₅ fun b hb o e => up b o (ne_in hb O.z2) e) hT₈ fun c o c1 c2 c3 c4 e => up c o c1 (hk₅ c o c1 c2 c3 c4 e)

theorem zipD_end {a b : Value} {Q : Fin → Shared → Prop} (O : ZipOff z TI TO i1 i2 fp1 fp2) (D1 : Draws prog w A i1 fp1 n P1 St1) (D2 : Draws prog w A i2 fp2 n P2 St2)
    (hz : IsZip s.heap z TI TO .none) (hTI : IsPair s.heap TI (.ref i1) (.ref i2)) (hTO : IsPair s.heap TO a b) (st1 : St1 n s.heap)
    (hE : ∀ h' e, (∀ c o, c ≠ z → c ≠ TO → c ≠ i1 → c ≠ i2 → s.heap.get? c = some o → h'.get? c = some o) → (∃ o, h'.get? e = some o ∧ o.cls = .type "StopIteration") → E (.ref e) { s with heap := h' }) :
    wpAny (model prog w) A (Builtin.«zip.__next__» ⟨[.ref z], []⟩) Q E s := by
  have i1z := ne_in O.m1 O.z1
  show wpAny _ _ (field (.ref z) 2 >>= _) _ _ _
  refine wpAny_bind (wpAny_field hz rfl (x := .bool false) rfl ?_)
  show wpAny _ _ (field (.ref z) 3 >>= _) _ _ _
  refine wpAny_bind (wpAny_field hz rfl (x := .ref TI) rfl ?_)
  refine wpAny_bind (wpAny_seqItems hTI rfl ?_)
  show wpAny _ _ (Builtin.SmallTypes.ownedTupleIsFree (.ref z) >>= _) _ _ _
  refine wpAny_bind ?_
  unfold Builtin.SmallTypes.ownedTupleIsFree
  refine wpAny_bind (wpAny_field hz rfl (x := .none) rfl (wpAny_pure ?_))
  simp only [if_true]
  refine wpAny_bind (wpAny_rule ?_)
  refine wpAny_bind (wpAny_field hz rfl (x := .ref TO) rfl ?_)
  refine wpAny_bind (wpAny_setField_rec hz (by simp) fun h₁ hz₁ hs₁ => ?_)
  replace hz₁ : IsZip h₁ z TI TO .ellipsis := hz₁
  refine wpAny_bind ?_
  simp only [List.zipIdx_cons, List.zipIdx_nil, List.forIn_cons, List.forIn_nil]
  refine wpAny_bind (wpAny_bind (wpAny_onRaise ?_))
  show wpAny _ _ (Builtin.SmallTypes.nextOf (.ref i1) >>= _) _ _ _
  refine wpAny_bind (D1.done _ _ _ (frame_but D1 st1 hs₁ O.z1) fun h₂ e hs₂ he => ?_)
  obtain ⟨oe, hoe, hce⟩ := he
  have hz₂ : IsZip h₂ z TI TO .ellipsis := hs₂ _ _ i1z.symm hz₁
  have hez : e ≠ z := fun x => by subst x; rw [hz₂] at hoe; cases hoe; simp at hce
  refine wpAny_setField_rec hz₂ (by simp) fun h₃ _ hs₃ => hE h₃ e (fun c o c1 _ c3 _ x => hs₃.extBut _ _ c1 (hs₂ _ _ c3 (hs₁.extBut _ _ c1 x))) ⟨oe, hs₃.extBut _ _ hez hoe, hce⟩

theorem zipD (O : ZipOff z TI TO i1 i2 fp1 fp2) (D1 : Draws prog w A.in1 i1 fp1 n P1 St1) (D2 : Draws prog w A.in1 i2 fp2 n P2 St2) :
    WalksU prog w A z (z :: TI :: TO :: (fp1 ++ fp2)) [z, TO, i1, i2] n (fun i vals => ∃ x y, P1 i x ∧ P2 i y ∧ vals = #[x, y])
      (fun i h => IsZip h z TI TO .none ∧ IsPair h TI (.ref i1) (.ref i2) ∧ (∃ a b, IsPair h TO a b) ∧ St1 i h ∧ St2 i h)
      (fun i T h => IsZip h z TI TO (rawInt T) ∧ IsPair h TI (.ref i1) (.ref i2) ∧ (∃ a b, IsPair h TO a b) ∧ St1 (i + 1) h ∧ St2 (i + 1) h ∧ T ≠ z ∧ T ≠ TO ∧ T ≠ i1 ∧ T ≠ i2) where
  sub := fun c hc => by
    simp only [List.mem_cons, List.not_mem_nil, or_false] at hc
    rcases hc with rfl | rfl | rfl | rfl
    · simp
    · simp
    · simp [O.m1]
    · simp [O.m2]
  frame := fun i h h' hst hk => by
    obtain ⟨hz, hTI, ⟨a, b, hTO⟩, h1, h2⟩ := hst
    exact ⟨hk z (by simp) _ hz, hk TI (by simp) _ hTI, ⟨a, b, hk TO (by simp) _ hTO⟩, D1.frame _ _ _ h1 fun b hb o e => hk b (by simp [hb]) o e, D2.frame _ _ _ h2 fun b hb o e => hk b (by simp [hb]) o e⟩
  item := fun i s Q E hi hst hQ => by
    obtain ⟨hz, hTI, ⟨a, b, hTO⟩, h1, h2⟩ := hst
    have hT : s.TypeIs (.ref z) "zip" := ⟨_, hz, rfl⟩
    have lt : ∀ {c o}, s.heap.get? c = some o → s.heap.objs.size ≠ c := fun e => Nat.ne_of_gt (Heap.lt_size e)
    obtain ⟨o1, e1⟩ := D1.live _ _ h1
    obtain ⟨o2, e2⟩ := D2.live _ _ h2
    unfold pyNext
    refine wpAny_bind (wpAny_attempt (wpAny_callSpecial?_slot (name := Str.ofString "__next__") hT PySem.F.slot_zip_next
      (wpAny_call_entry PySem.F.slot_zip_next hT PySem.F.entry_zip_next (zipD_item O D1 D2 hi hz hTI hTO h1 h2 fun x y h' tk hx hy a1 a2 a3 a4 a5 hk => wpAny_pure ?_) (PySem.F.args_zip_next_1 _))))
    refine hQ s.heap.objs.size #[x, y] h' tk ⟨x, y, hx, hy, rfl⟩ ⟨_, a5, rfl, _, rfl⟩ ⟨a1, hk _ _ O.TIz O.TITO O.TIi1 O.TIi2 hTI, ⟨_, _, a2⟩, a3, a4, lt hz, lt hTO, lt e1, lt e2⟩ fun c o hc e => ?_
    exact hk c o (fun x => hc (by simp [x])) (fun x => hc (by simp [x])) (fun x => hc (by simp [x])) (fun x => hc (by simp [x])) e
  go := fun elts k pos i T s Q E hm hQ => by
    obtain ⟨hz, hTI, ⟨a, b, hTO⟩, h1, h2, _⟩ := hm
    refine wpAny_letOwnedTupleGo_zip hz fun h' hz' hs' => hQ h' ⟨hz', hs'.extBut _ _ O.TIz hTI, ⟨a, b, hs'.extBut _ _ O.TOz hTO⟩, frame_but D1 h1 hs' O.z1, frame_but D2 h2 hs' O.z2⟩ fun c o hc e => hs'.extBut _ _ (fun x => hc (by simp [x])) e
  apart := fun i T h hm hT => by
    obtain ⟨_, _, _, _, _, t1, t2, t3, t4⟩ := hm
    simp at hT
    rcases hT with rfl | rfl | rfl | rfl
    · exact t1 rfl
    · exact t2 rfl
    · exact t3 rfl
    · exact t4 rfl
  done := fun s Q E hst hQ => by
    obtain ⟨hz, hTI, ⟨a, b, hTO⟩, h1, h2⟩ := hst
    have hT : s.TypeIs (.ref z) "zip" := ⟨_, hz, rfl⟩
    unfold pyNext
    refine wpAny_bind (wpAny_attempt (wpAny_callSpecial?_slot (name := Str.ofString "__next__") hT PySem.F.slot_zip_next
      (wpAny_call_entry PySem.F.slot_zip_next hT PySem.F.entry_zip_next (zipD_end O D1 D2 hz hTI hTO h1 fun h' e hk he => ?_) (PySem.F.args_zip_next_1 _))))
    obtain ⟨o, ho, hc⟩ := he
    refine wpAny_bind (wpAny_isInstance (T := "StopIteration") (b := true) ⟨o, ho, hc⟩ isSubtype_stop ?_)
    exact wpAny_pure (hQ h' s.toks fun c o hc e => hk c o (fun x => hc (by simp [x])) (fun x => hc (by simp [x])) (fun x => hc (by simp [x])) (fun x => hc (by simp [x])) e)
  self := fun i s Q E hst hQ => wpAny_pyIter_zip hst.1 hQ
end

abbrev zt1 (h : Heap) (t1 : Addr) : Heap := h.push { cls := .type "tuple_iterator", data := .fields #[.ref t1, .int 0 0] }
abbrev zt2 (h : Heap) (t1 t2 : Addr) : Heap := (zt1 h t1).push { cls := .type "tuple_iterator", data := .fields #[.ref t2, .int 0 0] }
abbrev zt3 (h : Heap) (t1 t2 : Addr) : Heap := (zt2 h t1 t2).push { cls := .type "tuple", data := .seq #[.ref h.objs.size, .ref (zt1 h t1).objs.size] }
abbrev zt4 (h : Heap) (t1 t2 : Addr) : Heap := (zt3 h t1 t2).push { cls := .type "tuple", data := .seq #[.none, .none] }
abbrev zt5 (h : Heap) (t1 t2 : Addr) : Heap := (zt4 h t1 t2).push { cls := .type "zip", data := .fields #[.none, .bool false, .bool false, .ref (zt2 h t1 t2).objs.size, .ref (zt3 h t1 t2).objs.size] }

theorem meets_zip_tuples (t1 t2 : Addr) (xs ys : Array Value) :
    Meets (Builtin.«zip.__new__» ⟨[.type "zip", .ref t1, .ref t2], []⟩) (fun _ R s => s.heap.IsTuple t1 xs ∧ s.heap.IsTuple t2 ys ∧
      R (.ok (.ret (.ref (zt4 s.heap t1 t2).objs.size))) { s with heap := zt5 s.heap t1 t2 }) :=
  .of_wp fun prog w A R s h => by
    obtain ⟨hp, g, d, tk, os⟩ := s; obtain ⟨hl1, hl2, h⟩ := h
    have hsub := sub_zip
    have hL1 : Heap.IsTuple (Shared.heap ⟨hp, g, d, tk, os⟩) t1 xs := hl1
    have hL2 : Heap.IsTuple (Shared.heap ⟨hp.push { cls := .type "tuple_iterator", data := .fields #[.ref t1, .int 0 0] }, g, d, tk, os⟩) t2 ys := Heap.IsTuple.push hl2 _
    wp_walk using wpAny_pyIter_tuple hL1, wpAny_pyIter_tuple hL2
    exact ⟨_, rfl, h⟩

theorem call_zip_tuples {t1 t2 : Addr} {xs ys : Array Value} {Q : Value → Shared → Prop} (hl1 : s.heap.IsTuple t1 xs) (hl2 : s.heap.IsTuple t2 ys)
    (h : ∀ h', IsZip h' (s.heap.objs.size + 4) (s.heap.objs.size + 2) (s.heap.objs.size + 3) .none → IsPair h' (s.heap.objs.size + 2) (.ref s.heap.objs.size) (.ref (s.heap.objs.size + 1)) →
      IsPair h' (s.heap.objs.size + 3) .none .none → h'.IsTupleIter s.heap.objs.size t1 0 → h'.IsTupleIter (s.heap.objs.size + 1) t2 0 → h'.objs.size = s.heap.objs.size + 5 →
      (∀ c o, s.heap.get? c = some o → h'.get? c = some o) → Q (.ref (s.heap.objs.size + 4)) { s with heap := h' }) :
    wpAny (model prog w) A (call (.type "zip") [.ref t1, .ref t2]) Q E s := by
  refine callType_new PySem.F.called_zip (by decide) (PySem.F.typeCall_zip_2 _ _) (PySem.F.newCall_zip_2 _ _) (fun obj => PySem.F.args_object_init_3 obj _ _) PySem.F.entry_zip_new
    (meets_zip_tuples t1 t2 xs ys) ⟨hl1, hl2, ?_⟩
  have z1 : (zt1 s.heap t1).objs.size = s.heap.objs.size + 1 := Heap.size_push ..
  have z2 : (zt2 s.heap t1 t2).objs.size = s.heap.objs.size + 2 := by rw [Heap.size_push, z1]
  have z3 : (zt3 s.heap t1 t2).objs.size = s.heap.objs.size + 3 := by rw [Heap.size_push, z2]
  have z4 : (zt4 s.heap t1 t2).objs.size = s.heap.objs.size + 4 := by rw [Heap.size_push, z3]
  have z5 : (zt5 s.heap t1 t2).objs.size = s.heap.objs.size + 5 := by rw [Heap.size_push, z4]
  have g5 : (zt5 s.heap t1 t2).get? (zt4 s.heap t1 t2).objs.size = some _ := Heap.get?_push_size _ rfl
  have g4 : (zt5 s.heap t1 t2).get? (zt3 s.heap t1 t2).objs.size = some _ := Heap.get?_push_of_some _ (Heap.get?_push_size _ rfl)
  have g3 : (zt5 s.heap t1 t2).get? (zt2 s.heap t1 t2).objs.size = some _ := Heap.get?_push_of_some _ (Heap.get?_push_of_some _ (Heap.get?_push_size _ rfl))
  have g2 : (zt5 s.heap t1 t2).get? (zt1 s.heap t1).objs.size = some _ := Heap.get?_push_of_some _ (Heap.get?_push_of_some _ (Heap.get?_push_of_some _ (Heap.get?_push_size _ rfl)))
  have g1 : (zt5 s.heap t1 t2).get? s.heap.objs.size = some _ := Heap.get?_push_of_some _ (Heap.get?_push_of_some _ (Heap.get?_push_of_some _ (Heap.get?_push_of_some _ (Heap.get?_push_size _ rfl))))
  show _ ∧ _
  rw [z2, z3, z4] at g5
  rw [z1, z2] at g3
  rw [z3] at g4
  rw [z1] at g2
  rw [z4]
  exact ⟨⟨_, g5, rfl⟩, h _ g5 g3 g4 ⟨_, g1, rfl, rfl⟩ ⟨_, g2, rfl, rfl⟩ z5 fun c o x =>
    Heap.get?_push_of_some _ (Heap.get?_push_of_some _ (Heap.get?_push_of_some _ (Heap.get?_push_of_some _ (Heap.get?_push_of_some _ x))))⟩
end
end Mine
end

section -- GenT
open PySem PySem.W PySem.Spec PySem.Calls PyProof.Rows
namespace Mine
section
variable {prog : Program} {w : World} {A : Around} {E : Value → Shared → Prop} {s : Shared}
def IntsArr (xs : Array Value) : Prop := ∀ (i : Nat) (x : Value), xs[i]? = some x → ∃ n t, x = Value.int n t

/-- the generator's sum of two names -/
theorem quiet_sum {cenv : Env} {xa xb : Str} {pa pb p0 : Pos} {fp wr : List Addr} {xs ys : Array Value} {href : Heap} (hx : IntsArr xs) (hy : IntsArr ys) (hk : cenv.scope.kind = .function)
    (hka : cenv.kindOf xa = some .local) (hkb : cenv.kindOf xb = some .local) (da : (xa == ("__debug__" : Str)) = false) (db : (xb == ("__debug__" : Str)) = false) :
    QuietGenT prog w cenv xa xb [] (.BinOp (.Name xa pa) .Add (.Name xb pb) p0) fp wr (fun i vals => ∃ x y, xs[i]? = some x ∧ ys[i]? = some y ∧ vals = #[x, y]) (fun _ => true)
      (fun i v => ∃ a b ta tb t, xs[i]? = some (.int a ta) ∧ ys[i]? = some (.int b tb) ∧ v = .int (a + b) t) href where
  tests := fun A' E' i va vb s₂ m₂ _ _ _ _ _ _ => wpAny_pure ⟨rfl, s₂.heap, s₂.toks, rfl, fun _ _ e => e⟩
  elt := fun A' E' i va vb s₂ m₂ _ hP _ hn ha hb _ => by
    obtain ⟨x, y, ex, ey, e⟩ := hP
    obtain ⟨a, ta, rfl⟩ := hx i x ex
    obtain ⟨b, tb, rfl⟩ := hy i y ey
    have e1 : va = .int a ta := by have := congrArg (fun z : Array Value => z[0]?) e; simpa using this
    have e2 : vb = .int b tb := by have := congrArg (fun z : Array Value => z[1]?) e; simpa using this
    subst e1 e2
    refine wpAny_BinOp (wpAny_Name (wpAny_loadName_local hk hka hn ha (wpAny_Name (wpAny_loadName_local hk hkb hn hb ?_) db)) da)
    exact add_int ⟨⟨a, b, ta, tb, _, ex, ey, rfl⟩, _, _, rfl, fun _ _ e => e⟩

/-- the code of a generator expression: the table of the def may grow -/
theorem gen_code {h₀ : Heap} {L c P : Nat} {m : Str → Option Value} {ps : Array Value} {news : List (Addr × Obj)} {env : Env} {pos : Pos} {q : Str} {scope : Scope} {Q : Value → Shared → Prop}
    (F : Fr h₀ L s.heap m) (N : News h₀ L s.heap ((P, tabObj ps) :: news)) (hne : ∀ p ∈ news, p.1 ≠ P) (C : CodeHd h₀ c P) (hc : env.code = .ref c) (ht : TriplesOk ps.toList)
    (hQ : ∀ code h' tk ps', TriplesOk ps'.toList → Fr h₀ L h' m → News h₀ L h' ((P, tabObj ps') :: news) → Heap.ExtBut P s.heap h' → s.heap.objs.size ≤ h'.objs.size → Q code { s with heap := h', toks := tk }) :
    wpAny (model prog w) A (genexprCode env pos q scope) Q E s := by
  have hP := N (P, tabObj ps) (.head _)
  have hok := (C.keeps F.keep).code hP.1 ht
  cases hnf : codeAmong pos ps.toList with
  | some cv => exact wpAny_genexprCode_hit hc hok hnf (hQ cv s.heap s.toks ps ht F N (Heap.ExtBut.refl _ _) (Nat.le_refl _))
  | none =>
    refine wpAny_genexprCodeX hc hok ((C.keeps F.keep).tab hP.1) hnf fun c' h' tk hx hge hlt hcode _ htab _ => ?_
    refine hQ _ h' tk (ps ++ #[rawInt pos.line, rawInt pos.col, .ref c']) ?_ ⟨F.ns.extBut hx hP.2.1.symm, fun b o e => hx b o (fun q => by rw [q, hP.2.2] at e; cases e) (F.keep b o e), F.above⟩ ?_ hx (by omega)
    · obtain ⟨_, _, _, _, _, _, _, _, _, _, _, _, _, _, _, _, _, _, hpd, htr, _⟩ := hcode
      exact htr
    · intro p hp
      rcases List.mem_cons.mp hp with rfl | hp
      · exact ⟨htab.2, hP.2⟩
      · exact ⟨hx _ _ (hne p hp) (N p (.tail _ hp)).1, (N p (.tail _ hp)).2⟩

theorem nmem {x : Addr} {l : List Addr} (h : ∀ y ∈ l, x < y) : x ∉ l := fun hm => Nat.lt_irrefl _ (h x hm)
theorem nmem' {x : Addr} {l : List Addr} (h : ∀ y ∈ l, x ≠ y) : x ∉ l := fun hm => h x hm rfl
theorem passing4 : passing (fun _ => true) 4 0 = [0, 1, 2, 3] := by decide
theorem four_of {P : Nat → Value → Prop} {acc : Array Value} (h : ItemsOf P acc 4) : ∃ v0 v1 v2 v3, acc = #[v0, v1, v2, v3] ∧ P 0 v0 ∧ P 1 v1 ∧ P 2 v2 ∧ P 3 v3 := by
  obtain ⟨hs, hp⟩ := h
  obtain ⟨l⟩ := acc
  match l, hs with
  | [v0, v1, v2, v3], _ => exact ⟨v0, v1, v2, v3, rfl, hp 0 v0 rfl, hp 1 v1 rfl, hp 2 v2 rfl, hp 3 v3 rfl⟩

/-- «tuple((i + j for i, j in zip(t1, t2)))»: the generator made; its tuple -/
theorem gen_zip {h₀ : Heap} {L c P : Nat} {m mg mb : Str → Option Value} {p : Program} {loose : List Str} {mean : ExcName → Option Value} {ps : Array Value} {news : List (Addr × Obj)} {env : Env} {pos pa pb p0 : Pos} {q : Str} {scope : Scope} {xa xb : Str}
    {Q : Value → Shared → Prop} {N0 : Nat} {t1 t2 : Nat} {b0 b1 b2 b3 a0 a1 a2 a3 : Int} {c0 c1 c2 c3 d0 d1 d2 d3 : Tok}
    (hh : A.handled = none) (hroom : A.depth < recursionLimit) (hAu : True)
    (F : Fr h₀ L s.heap m) (N : News h₀ L s.heap ((P, tabObj ps) :: news)) (hne : ∀ p ∈ news, p.1 ≠ P) (T : Top p loose mean mg mb h₀) (C : CodeHd h₀ c P) (hc : env.code = .ref c) (hgl : env.globals = mainGlobals) (ht : TriplesOk ps.toList) (hg : AllBare s.gens)
    (hkind : scope.kind = .function) (hka : scope.names.lookup xa = some .local) (hkb : scope.names.lookup xb = some .local) (da : (xa == ("__debug__" : Str)) = false) (db : (xb == ("__debug__" : Str)) = false)
    (hLN : L < N0) (hP0 : P < N0) (hnews : ∀ p ∈ news, p.1 < N0) (hc0 : cStatics < N0)
    (hz : IsZip s.heap (N0 + 4) (N0 + 2) (N0 + 3) .none) (hTI : IsPair s.heap (N0 + 2) (.ref N0) (.ref (N0 + 1))) (hTO : IsPair s.heap (N0 + 3) .none .none) (hi1 : s.heap.IsTupleIter N0 t1 0) (hi2 : s.heap.IsTupleIter (N0 + 1) t2 0)
    (hT1 : s.heap.IsTuple t1 #[.int b0 c0, .int b1 c1, .int b2 c2, .int b3 c3]) (hT2 : s.heap.IsTuple t2 #[.int a0 d0, .int a1 d1, .int a2 d2, .int a3 d3]) (ht1 : t1 < N0) (ht2 : t2 < N0) (hPt1 : t1 ≠ P) (hPt2 : t2 ≠ P)
    (hQ : ∀ a gs h₅ tk, Fr h₀ L h₅ m →
      (∀ (Q' E' : Value → Shared → Prop), (∀ D h6 tk6 g6 ps' u0 u1 u2 u3, AllBare g6 → TriplesOk ps'.toList → Fr h₀ L h6 m → News h₀ L h6 ((D, tup [.int (b0 + a0) u0, .int (b1 + a1) u1, .int (b2 + a2) u2, .int (b3 + a3) u3]) :: (P, tabObj ps') :: news) → (∀ p ∈ news, p.1 < D) → N0 ≤ D → P < D → Q' (.ref D) ⟨h6, g6, s.drawn, tk6, s.os⟩) →
        wpAny (model prog w) A (call (.type "tuple") [.ref a]) Q' E' ⟨h₅, s.gens.push gs, s.drawn, tk, s.os⟩) →
      Q (.ref a) ⟨h₅, s.gens.push gs, s.drawn, tk, s.os⟩) :
    wpAny (model prog w) A (pyIter (.ref (N0 + 4))) (fun it s₂ => s₂.heap.NoLimit ∧
      wpAny (model prog w) A (genexprCode env pos q scope) (fun code s₃ => wpAny (model prog w) A (builtinsFor env.globals env.builtins) (fun bi s₄ =>
        ∃ I fp wr n₀ Pt St₀ Mid pz F, it = .ref I ∧ (∀ A' : Around, A'.handled = none → WalksU prog w A' I fp wr n₀ Pt St₀ Mid) ∧ (∀ i vals, Pt i vals → ∃ va vb, vals = #[va, vb]) ∧ St₀ 0 s₄.heap ∧ (∀ b ∈ fp, b < s₄.heap.objs.size) ∧ s₄.heap.NoLimit ∧ cStatics ∉ wr ∧
          (∀ href : Heap, (∀ b o, s₄.heap.get? b = some o → href.get? b = some o) →
            QuietGenT prog w (genEnv scope [] s₄.heap.objs.size code bi env) xa xb [] (.BinOp (.Name xa pa) .Add (.Name xb pb) p0) (List.range s₄.heap.objs.size) wr Pt pz F href) ∧
          (∀ a h₅ tk gs, gs.bare = true → s₄.heap.objs.size < a → h₅.objs.size = a + 1 → (∀ b o, s₄.heap.get? b = some o → h₅.get? b = some o) →
            WalksS prog w A.in4 a (a :: s₄.heap.objs.size :: List.range s₄.heap.objs.size) (s₄.heap.objs.size :: wr) (GenOnlyQ s₄.gens.size) (passing pz n₀ 0).length
              (fun j y => ∃ i, (passing pz n₀ 0)[j]? = some i ∧ F i y) (GenAt prog w A.in4 a s₄.gens.size s₄.heap.objs.size (List.range s₄.heap.objs.size) wr pz n₀ F) →
            GenAt prog w A.in4 a s₄.gens.size s₄.heap.objs.size (List.range s₄.heap.objs.size) wr pz n₀ F 0 { s₄ with gens := s₄.gens.push gs, toks := tk, heap := h₅ } →
            Q (.ref a) { s₄ with gens := s₄.gens.push gs, toks := tk, heap := h₅ })) E s₃) E s₂) E s := by
  refine wpAny_pyIter_zip hz ⟨T.nolimit.keeps F.keep, ?_⟩
  refine gen_code F N hne C hc ht fun code h' tk ps' ht' F' N' hx hle => ?_
  have hP := N (P, tabObj ps) (.head _)
  obtain ⟨bm, ob, b1', b2', b3', b4', b5', b6'⟩ := T.bmain
  rw [hgl]
  refine wpAny_builtinsFor (T.g.keeps F'.keep) b1' b2' (F'.keep _ _ b3') b4' b5' b6' ?_
  have up : ∀ b o, b ≠ P → s.heap.get? b = some o → h'.get? b = some o := hx
  have nz : ∀ {k : Nat}, N0 + k ≠ P := by intro k; exact Nat.ne_of_gt (Nat.lt_of_lt_of_le hP0 (Nat.le_add_right _ _))
  have hz' : IsZip h' (N0 + 4) (N0 + 2) (N0 + 3) .none := up _ _ nz hz
  have hTI' : IsPair h' (N0 + 2) (.ref N0) (.ref (N0 + 1)) := up _ _ nz hTI
  have hTO' : IsPair h' (N0 + 3) .none .none := up _ _ nz hTO
  have hi1' : h'.IsTupleIter N0 t1 0 := let ⟨o, ho, r⟩ := hi1; ⟨o, up _ _ (nz (k := 0)) ho, r⟩
  have hi2' : h'.IsTupleIter (N0 + 1) t2 0 := let ⟨o, ho, r⟩ := hi2; ⟨o, up _ _ nz ho, r⟩
  have hT1' : h'.IsTuple t1 #[.int b0 c0, .int b1 c1, .int b2 c2, .int b3 c3] := let ⟨o, ho, r⟩ := hT1; ⟨o, up _ _ hPt1 ho, r⟩
  have hT2' : h'.IsTuple t2 #[.int a0 d0, .int a1 d1, .int a2 d2, .int a3 d3] := let ⟨o, ho, r⟩ := hT2; ⟨o, up _ _ hPt2 ho, r⟩
  have hzlt : N0 + 4 < h'.objs.size := Heap.lt_size hz'
  have off : ZipOff (N0 + 4) (N0 + 2) (N0 + 3) N0 (N0 + 1) [N0, t1] [N0 + 1, t2] := by
    have nn : ∀ {x a b : Nat}, x ≠ a → x ≠ b → x ∉ ([a, b] : List Nat) := fun h1 h2 h => by
      rcases List.mem_cons.mp h with e | h
      · exact h1 e
      · exact h2 (List.mem_singleton.mp h)
    exact ⟨neN (by omega), neN (by omega), neN (by omega), .head _, .head _, nn (by omega) (by omega), nn (by omega) (by omega), nn (by omega) (by omega), nn (by omega) (by omega), neN (by omega), neN (by omega), nn (by omega) (by omega), nn (by omega) (by omega)⟩
  have X1 : IntsArr #[.int b0 c0, .int b1 c1, .int b2 c2, .int b3 c3] := by
    intro i x e
    match i, e with
    | 0, e => exact ⟨_, _, (Option.some.inj e).symm⟩
    | 1, e => exact ⟨_, _, (Option.some.inj e).symm⟩
    | 2, e => exact ⟨_, _, (Option.some.inj e).symm⟩
    | 3, e => exact ⟨_, _, (Option.some.inj e).symm⟩
    | k + 4, e => exact absurd e (by simp)
  have X2 : IntsArr #[.int a0 d0, .int a1 d1, .int a2 d2, .int a3 d3] := by
    intro i x e
    match i, e with
    | 0, e => exact ⟨_, _, (Option.some.inj e).symm⟩
    | 1, e => exact ⟨_, _, (Option.some.inj e).symm⟩
    | 2, e => exact ⟨_, _, (Option.some.inj e).symm⟩
    | 3, e => exact ⟨_, _, (Option.some.inj e).symm⟩
    | k + 4, e => exact absurd e (by simp)
  refine ⟨N0 + 4, _, _, 4, _, _, _, _, _, rfl, fun A' hA => zipD off (draws_tuple (A := A'.in1) hA N0 t1 (Nat.ne_of_lt ht1) #[.int b0 c0, .int b1 c1, .int b2 c2, .int b3 c3]) (draws_tuple (A := A'.in1) hA (N0 + 1) t2 (neN (by omega)) #[.int a0 d0, .int a1 d1, .int a2 d2, .int a3 d3]), ?_, ⟨hz', hTI', ⟨_, _, hTO'⟩, ⟨hi1', hT1'⟩, hi2', hT2'⟩, ?_, T.nolimit.keeps F'.keep, ?_, fun href _ => quiet_sum X1 X2 hkind hka hkb da db, ?_⟩
  · rintro i vals ⟨x, y, _, _, rfl⟩; exact ⟨x, y, rfl⟩
  · show ∀ b ∈ [N0 + 4, N0 + 2, N0 + 3, N0, t1, N0 + 1, t2], b < h'.objs.size
    (repeat' (refine List.forall_mem_cons.mpr ⟨?_, ?_⟩)) <;> first | exact List.forall_mem_nil _ | (refine ltN ?_; omega)
  · have hc0' : @LT.lt Nat _ cStatics N0 := hc0
    refine nmem ?_
    (repeat' (refine List.forall_mem_cons.mpr ⟨?_, ?_⟩)) <;> first | exact List.forall_mem_nil _ | (refine ltN ?_; omega)
  · intro a h₅ tk₅ gs hbare ha hsz5 hk5 W G
    have F5 : Fr h₀ L h₅ m := ⟨F'.ns.at' fun o e => hk5 _ _ e, fun b o e => hk5 _ _ (F'.keep b o e), F'.above⟩
    refine hQ a gs h₅ tk₅ F5 fun Q' E' hQ' => ?_
    rw [passing4] at W
    refine call_tuple_gen (n := 4) (hsz := by decide) W.in4_3 (fun i s' st => ?_) G ?_ (.head _) fun s' acc hm hacc => ?_
    · obtain ⟨⟨o, n, q', e1, e2, _⟩, _⟩ := st
      exact ⟨o, e1, e2⟩
    · have ha' : @LT.lt Nat _ h'.objs.size a := ha
      have hs' : @Eq Nat h₅.objs.size (a + 1) := hsz5
      intro b hb
      show @LT.lt Nat _ b h₅.objs.size
      rcases List.mem_cons.mp hb with e | hb
      · have e' : @Eq Nat b a := e
        omega
      · rcases List.mem_cons.mp hb with e | hb
        · have e' : @Eq Nat b h'.objs.size := e
          omega
        · have h3 : @LT.lt Nat _ b h'.objs.size := List.mem_range.mp hb
          omega
    · obtain ⟨hp6, g6, dr6, tk6, os6⟩ := s'
      obtain ⟨mh, mgn, mdr, mos, mt⟩ := hm
      have e1 : dr6 = s.drawn := mdr
      have e2 : os6 = s.os := mos
      subst e1 e2
      have keep6 : ∀ b o, b < N0 → h'.get? b = some o → hp6.get? b = some o := fun b o hb e => mh b o (by
        have hs' : N0 + 4 < h'.objs.size := hzlt
        have hb' : @LT.lt Nat _ b N0 := hb
        refine nmem ?_
        (repeat' (refine List.forall_mem_cons.mpr ⟨?_, ?_⟩)) <;> first | exact List.forall_mem_nil _ | (refine ltN ?_; (try dsimp only); omega)) (hk5 b o e)
      have hb0 : ∀ b o, h₀.get? b = some o → b < N0 := fun b o e => by
        exact Nat.lt_of_lt_of_le (Heap.lt_size e) (Nat.le_trans F.above (Nat.le_of_lt hLN))
      have F6 : Fr h₀ L hp6 m := ⟨F'.ns.at' fun o e => keep6 _ _ hLN e, fun b o e => keep6 b o (hb0 b o e) (F'.keep b o e), F'.above⟩
      have N6 : News h₀ L hp6 ((P, tabObj ps') :: news) := by
        intro p hp
        have hlt : p.1 < N0 := by
          rcases List.mem_cons.mp hp with rfl | hp
          · exact hP0
          · exact hnews p hp
        exact ⟨keep6 _ _ hlt (N' p hp).1, (N' p hp).2⟩
      have hbare6 : AllBare g6 := by
        have mgn' : GenOnlyQ s.gens.size (s.gens.push gs) g6 := mgn
        exact mgn'.bare (hg.push hbare)
      obtain ⟨v0, v1, v2, v3, rfl, p0', p1', p2', p3'⟩ := four_of hacc
      obtain ⟨i0, e0, x0, y0, _, _, u0, q0, r0, rfl⟩ := p0'
      obtain ⟨i1, e1, x1, y1, _, _, u1, q1, r1, rfl⟩ := p1'
      obtain ⟨i2, e2, x2, y2, _, _, u2, q2, r2, rfl⟩ := p2'
      obtain ⟨i3, e3, x3, y3, _, _, u3, q3, r3, rfl⟩ := p3'
      cases e0; cases e1; cases e2; cases e3
      cases q0; cases q1; cases q2; cases q3
      cases r0; cases r1; cases r2; cases r3
      have hN6lt : N0 ≤ hp6.objs.size := by
        have hn : ∃ o, h'.get? (N0 + 2) = some o := ⟨_, hTI'⟩
        obtain ⟨o, ho⟩ := hn
        have := Heap.lt_size (mh (N0 + 2) o (by
          have hs' : N0 + 4 < h'.objs.size := hzlt
          refine nmem' ?_
          (repeat' (refine List.forall_mem_cons.mpr ⟨?_, ?_⟩)) <;> first | exact List.forall_mem_nil _ | (refine neN ?_; (try dsimp only); omega)) (hk5 _ _ ho))
        have h2 : N0 + 2 < hp6.objs.size := this
        omega
      exact hQ' hp6.objs.size _ tk6 g6 ps' u0 u1 u2 u3 hbare6 ht' (F6.push _) (News.push F6 N6 _) (fun p hp => Nat.lt_of_lt_of_le (hnews p hp) hN6lt) hN6lt (Nat.lt_of_lt_of_le hP0 hN6lt)

structure ZipReady (prog : Program) (w : World) (A : Around) (h₀ : Heap) (L P : Nat) (m : Str → Option Value) (Q : Value → Shared → Prop) (xv : Value) (s : Shared) (ps : Array Value) (news : List (Addr × Obj)) (N0 t1 t2 : Nat) (b0 b1 b2 b3 a0 a1 a2 a3 : Int) (c0 c1 c2 c3 d0 d1 d2 d3 : Tok) : Prop where
  xv : xv = .ref (N0 + 4)
  F : Fr h₀ L s.heap m
  N : News h₀ L s.heap ((P, tabObj ps) :: news)
  hne : ∀ p ∈ news, p.1 ≠ P
  ht : TriplesOk ps.toList
  hg : AllBare s.gens
  hLN : L < N0
  hP0 : P < N0
  hnews : ∀ p ∈ news, p.1 < N0
  hc0 : cStatics < N0
  hz : IsZip s.heap (N0 + 4) (N0 + 2) (N0 + 3) .none
  hTI : IsPair s.heap (N0 + 2) (.ref N0) (.ref (N0 + 1))
  hTO : IsPair s.heap (N0 + 3) .none .none
  hi1 : s.heap.IsTupleIter N0 t1 0
  hi2 : s.heap.IsTupleIter (N0 + 1) t2 0
  hT1 : s.heap.IsTuple t1 #[.int b0 c0, .int b1 c1, .int b2 c2, .int b3 c3]
  hT2 : s.heap.IsTuple t2 #[.int a0 d0, .int a1 d1, .int a2 d2, .int a3 d3]
  ht1 : t1 < N0
  ht2 : t2 < N0
  hPt1 : t1 ≠ P
  hPt2 : t2 ≠ P
  hQ : ∀ a gs h₅ tk, Fr h₀ L h₅ m →
      (∀ (Q' E' : Value → Shared → Prop), (∀ D h6 tk6 g6 ps' u0 u1 u2 u3, AllBare g6 → TriplesOk ps'.toList → Fr h₀ L h6 m → News h₀ L h6 ((D, tup [.int (b0 + a0) u0, .int (b1 + a1) u1, .int (b2 + a2) u2, .int (b3 + a3) u3]) :: (P, tabObj ps') :: news) → (∀ p ∈ news, p.1 < D) → N0 ≤ D → P < D → Q' (.ref D) ⟨h6, g6, s.drawn, tk6, s.os⟩) →
        wpAny (model prog w) A (call (.type "tuple") [.ref a]) Q' E' ⟨h₅, s.gens.push gs, s.drawn, tk, s.os⟩) →
      Q (.ref a) ⟨h₅, s.gens.push gs, s.drawn, tk, s.os⟩

theorem gen_expr {h₀ : Heap} {L c P : Nat} {m mg mb : Str → Option Value} {p : Program} {loose : List Str} {mean : ExcName → Option Value} {env : Env} {pos pa pb pa' pb' p0 pt : Pos} {scope : Scope} {iter : Expr} {kt : Nat} {xa xb : Str} {Q : Value → Shared → Prop}
    (_F : Fr h₀ L s.heap m) (T : Top p loose mean mg mb h₀) (C : CodeHd h₀ c P)
    (h : wpAny (model prog w) A (eval iter env) (fun xv s₁ => ∃ ps news N0 t1 t2 b0 b1 b2 b3 a0 a1 a2 a3 c0 c1 c2 c3 d0 d1 d2 d3, ZipReady prog w A h₀ L P m Q xv s₁ ps news N0 t1 t2 b0 b1 b2 b3 a0 a1 a2 a3 c0 c1 c2 c3 d0 d1 d2 d3) E s)
    (hh : A.handled = none) (hroom : A.depth < recursionLimit) (hc : env.code = .ref c) (hgl : env.globals = mainGlobals)
    (hco : scope.isCoroutine = false) (hclos : closureFor scope env = pure []) (hcell : ∀ y ∈ scope.names, y.2 ≠ .cell) (h0 : scope.names.lookup (".0" : Str) = some NameKind.local) (hab : xa ≠ xb)
    (hkind : scope.kind = .function) (hka : scope.names.lookup xa = some .local) (hkb : scope.names.lookup xb = some .local) (da : (xa == ("__debug__" : Str)) = false) (db : (xb == ("__debug__" : Str)) = false)
    (hs : ∀ x, genFold iter env x = pure x) :
    wpAny (model prog w) A (eval (.GeneratorExp (.BinOp (.Name xa pa) .Add (.Name xb pb) p0) [⟨.Tuple [.Name xa pa', .Name xb pb'] kt pt, iter, [], 0⟩] scope pos) env) Q E s := by
  refine wpAny_GeneratorExp_walksQT hh hco hclos hcell h0 hka hkb hab hkind hroom (wpAny_mono h (fun xv s₁ z => ?_) fun _ _ e => e) hs
  obtain ⟨ps, news, N0, t1, t2, b0, b1, b2, b3, a0, a1, a2, a3, c0, c1, c2, c3, d0, d1, d2, d3, Z⟩ := z
  rw [Z.xv]
  exact gen_zip hh hroom trivial Z.F Z.N Z.hne T C hc hgl Z.ht Z.hg hkind hka hkb da db Z.hLN Z.hP0 Z.hnews Z.hc0 Z.hz Z.hTI Z.hTO Z.hi1 Z.hi2 Z.hT1 Z.hT2 Z.ht1 Z.ht2 Z.hPt1 Z.hPt2 Z.hQ
end
end Mine
end

section -- Dv
open PySem PySem.W PySem.Spec PySem.Calls PyProof.Rows
theorem Mine.fillDv : (Challenge.rw_ph0127_01.prog = Challenge.rw_ph0127_01.prog ∧ Mine.hd.heap_1 = Mine.hd.heap_1) := by k_fill; exact ⟨rfl, rfl⟩
namespace Mine
local macro_rules | `(tactic| walk_at "call builtin:divmod") => `(tactic| (k_here; refine Halt.out ?_))
theorem dv_call {w : World} {x y n : Int} {t1 t2 t3 : Tok} (hx : 0 ≤ x) (hy : 0 < y) (hb : Builtin.Int.intBits x ≤ 4000) (hn : 0 ≤ n) (hl : y.natAbs.log2 < 9000)
    {p : Program} {loose : List Str} {mean : ExcName → Option Value} {mg mb : Str → Option Value} {dp un : Nat} {gd : Option (List Code)} {cn : Str} {cs : Scope} {a : Addr} {ccd : Value} {cl : List (Str × Addr)} {outer : List Env} {A₀ : Around} {base h₀ : Heap} {L : Addr} {m : Str → Option Value} {news : List (Addr × Obj)} {s : Shared}
    {Q E : Value → Shared → Prop}
    (B : Below A₀ base outer h₀) (F : Fr h₀ L s.heap m) (X : (Mine.hd.heap_1 w.params).In h₀) (N : News h₀ L s.heap news)
    (T : Top p loose mean mg mb h₀) (hk : cs.kind = .function) (hd : dp + 5 < recursionLimit) (hu : un + 40 < cLine)
    (hret : ∀ D h' tk' u1 u2, Fr h₀ L h' m → News h₀ L h' ((D, tup [.int (Int.fdiv x y) u1, .int (Int.fmod x y) u2]) :: news) → (∀ p ∈ news, p.1 < D) → Q (.ref D) { s with heap := h', toks := tk' }) :
    wpAny (model lawProg w) (ktrTop dp un gd cn cs L a ccd cl outer) (call (.ref 21) [.int x t1, .int y t2, .int n t3]) Q E s := by
  refine wpAny_call ?_
  k_dflt ktr_enter
  k_steps
  refine Halt.on ?_
  rename Fr _ _ _ _ => F1
  rename News _ _ _ _ => N1
  refine divmod_N F1 N1 (by omega) (fun h2 F2 N2 => ?_) (.inl (PyProof.noPylong_of_log2 hl))
  have lt : ∀ p ∈ news, p.1 < _ := fun p hp => Heap.lt_size (N1 p hp).1
  clear F1 N1
  k_steps
  exact hret _ _ _ _ _ (by assumption) (by assumption) lt
end Mine
end

section -- Col1
open PySem PySem.W PySem.Spec PySem.Calls PyProof.Rows
namespace Mine
open PySem.Flt
def fmax3 (x y z : UInt64) : UInt64 :=
  let m := if (Float64.cmp x y == some .lt) = true then y else x
  if (Float64.cmp m z == some .lt) = true then z else m
def fmin3 (x y z : UInt64) : UInt64 :=
  let m := if (Float64.cmp y x == some .lt) = true then y else x
  if (Float64.cmp z m == some .lt) = true then z else m
section
variable {prog : Program} {w : World} {A : Around} {E : Value → Shared → Prop} {s : Shared}
theorem max3_f {x y z : UInt64} {t u v : Tok} {h₀ : Heap} {L : Addr} {m : Str → Option Value} {news : List (Addr × Obj)} {Q : Value → Shared → Prop} (hh : A.handled = none) (F : Fr h₀ L s.heap m) (N : News h₀ L s.heap news)
    (ht0 : t ≠ 0) (hu0 : u ≠ 0) (hv0 : v ≠ 0) (h : ∀ h' tk v, v ≠ 0 → Fr h₀ L h' m → News h₀ L h' news → Q (.float (fmax3 x y z) v) { s with heap := h', toks := tk }) :
    wpAny (model prog w) A (call (.builtin "max") [.float x t, .float y u, .float z v]) Q E s := by
  have hT : (s.heap.push { cls := .type "tuple", data := .seq #[.float x t, .float y u, .float z v] }).IsTuple s.heap.objs.size #[.float x t, .float y u, .float z v] := ⟨_, Heap.get?_push_size _ rfl, rfl, 0, rfl⟩
  refine call_max_three (wpAny_pyIter_tuple hT ?_)
  have hsz : (s.heap.push { cls := .type "tuple", data := .seq #[.float x t, .float y u, .float z v] }).objs.size = s.heap.objs.size + 1 := Heap.size_push ..
  refine ⟨_, [_, s.heap.objs.size], [_], _, _, _, _, rfl, Walks.tuple (A := A.in1) hh _ s.heap.objs.size (by rw [hsz]; exact Nat.ne_of_lt (Nat.lt_succ_self _)) #[.float x t, .float y u, .float z v],
    ⟨⟨_, Heap.get?_push_size _ rfl, rfl, rfl⟩, hT.push _⟩, fun d hd => ?_, by simp, cmpOf_gt #[.float x t, .float y u, .float z v] (by intro q hq; simp at hq; rcases hq with rfl | rfl | rfl <;> exact NumV.float _ _), fun q h' tk hP hk => ?_⟩
  · show d < ((s.heap.push _).push _).objs.size
    rw [Heap.size_push, hsz]
    rcases List.mem_cons.mp hd with rfl | hd
    · rw [hsz]; exact Nat.lt_succ_self _
    · rcases List.mem_cons.mp hd with rfl | hd
      · exact Nat.lt_succ_of_lt (Nat.lt_succ_self _)
      · cases hd
  · have hold : ∀ d o, s.heap.get? d = some o → h'.get? d = some o := fun d o e => by
      refine hk d o (fun hm => ?_) (Heap.get?_push_of_some _ (Heap.get?_push_of_some _ e))
      rcases List.mem_cons.mp hm with e1 | hm
      · have := Heap.lt_size e; rw [e1, hsz] at this; exact Nat.lt_irrefl _ (Nat.lt_of_succ_lt this)
      · cases hm
    have key : ∃ tt, tt ≠ 0 ∧ q = .float (fmax3 x y z) tt := by
      have hP' : #[Value.float x t, .float y u, .float z v][argBest (fun i j => ltV (#[Value.float x t, .float y u, .float z v].getD j .none) (#[Value.float x t, .float y u, .float z v].getD i .none)) 2]? = some q := hP
      unfold fmax3
      cases c1 : (Float64.cmp x y == some .lt) with
      | true =>
        cases c2 : (Float64.cmp y z == some .lt) with
        | true =>
          have e : argBest (fun i j => ltV (#[Value.float x t, .float y u, .float z v].getD j .none) (#[Value.float x t, .float y u, .float z v].getD i .none)) 2 = 2 := by simp [argBest, ltV, c1, c2]
          rw [e] at hP'; simp at hP'; subst hP'; exact ⟨v, hv0, by simp [c2]⟩
        | false =>
          have e : argBest (fun i j => ltV (#[Value.float x t, .float y u, .float z v].getD j .none) (#[Value.float x t, .float y u, .float z v].getD i .none)) 2 = 1 := by simp [argBest, ltV, c1, c2]
          rw [e] at hP'; simp at hP'; subst hP'; exact ⟨u, hu0, by simp [c2]⟩
      | false =>
        cases c2 : (Float64.cmp x z == some .lt) with
        | true =>
          have e : argBest (fun i j => ltV (#[Value.float x t, .float y u, .float z v].getD j .none) (#[Value.float x t, .float y u, .float z v].getD i .none)) 2 = 2 := by simp [argBest, ltV, c1, c2]
          rw [e] at hP'; simp at hP'; subst hP'; exact ⟨v, hv0, by simp [c2]⟩
        | false =>
          have e : argBest (fun i j => ltV (#[Value.float x t, .float y u, .float z v].getD j .none) (#[Value.float x t, .float y u, .float z v].getD i .none)) 2 = 0 := by simp [argBest, ltV, c1, c2]
          rw [e] at hP'; simp at hP'; subst hP'; exact ⟨t, ht0, by simp [c2]⟩
    obtain ⟨tt, htt, rfl⟩ := key
    exact h h' tk tt htt (F.grownK hold) (N.grown hold)

theorem min3_f {x y z : UInt64} {t u v : Tok} {h₀ : Heap} {L : Addr} {m : Str → Option Value} {news : List (Addr × Obj)} {Q : Value → Shared → Prop} (hh : A.handled = none) (F : Fr h₀ L s.heap m) (N : News h₀ L s.heap news)
    (h : ∀ h' tk v, Fr h₀ L h' m → News h₀ L h' news → Q (.float (fmin3 x y z) v) { s with heap := h', toks := tk }) :
    wpAny (model prog w) A (call (.builtin "min") [.float x t, .float y u, .float z v]) Q E s := by
  have hT : (s.heap.push { cls := .type "tuple", data := .seq #[.float x t, .float y u, .float z v] }).IsTuple s.heap.objs.size #[.float x t, .float y u, .float z v] := ⟨_, Heap.get?_push_size _ rfl, rfl, 0, rfl⟩
  refine call_min_three (wpAny_pyIter_tuple hT ?_)
  have hsz : (s.heap.push { cls := .type "tuple", data := .seq #[.float x t, .float y u, .float z v] }).objs.size = s.heap.objs.size + 1 := Heap.size_push ..
  refine ⟨_, [_, s.heap.objs.size], [_], _, _, _, _, rfl, Walks.tuple (A := A.in1) hh _ s.heap.objs.size (by rw [hsz]; exact Nat.ne_of_lt (Nat.lt_succ_self _)) #[.float x t, .float y u, .float z v],
    ⟨⟨_, Heap.get?_push_size _ rfl, rfl, rfl⟩, hT.push _⟩, fun d hd => ?_, by simp, cmpOf_lt #[.float x t, .float y u, .float z v] (by intro q hq; simp at hq; rcases hq with rfl | rfl | rfl <;> exact NumV.float _ _), fun q h' tk hP hk => ?_⟩
  · show d < ((s.heap.push _).push _).objs.size
    rw [Heap.size_push, hsz]
    rcases List.mem_cons.mp hd with rfl | hd
    · rw [hsz]; exact Nat.lt_succ_self _
    · rcases List.mem_cons.mp hd with rfl | hd
      · exact Nat.lt_succ_of_lt (Nat.lt_succ_self _)
      · cases hd
  · have hold : ∀ d o, s.heap.get? d = some o → h'.get? d = some o := fun d o e => by
      refine hk d o (fun hm => ?_) (Heap.get?_push_of_some _ (Heap.get?_push_of_some _ e))
      rcases List.mem_cons.mp hm with e1 | hm
      · have := Heap.lt_size e; rw [e1, hsz] at this; exact Nat.lt_irrefl _ (Nat.lt_of_succ_lt this)
      · cases hm
    have key : ∃ tt, q = .float (fmin3 x y z) tt := by
      have hP' : #[Value.float x t, .float y u, .float z v][argBest (fun i j => ltV (#[Value.float x t, .float y u, .float z v].getD i .none) (#[Value.float x t, .float y u, .float z v].getD j .none)) 2]? = some q := hP
      unfold fmin3
      cases c1 : (Float64.cmp y x == some .lt) with
      | true =>
        cases c2 : (Float64.cmp z y == some .lt) with
        | true =>
          have e : argBest (fun i j => ltV (#[Value.float x t, .float y u, .float z v].getD i .none) (#[Value.float x t, .float y u, .float z v].getD j .none)) 2 = 2 := by simp [argBest, ltV, c1, c2]
          rw [e] at hP'; simp at hP'; subst hP'; exact ⟨v, by simp [c2]⟩
        | false =>
          have e : argBest (fun i j => ltV (#[Value.float x t, .float y u, .float z v].getD i .none) (#[Value.float x t, .float y u, .float z v].getD j .none)) 2 = 1 := by simp [argBest, ltV, c1, c2]
          rw [e] at hP'; simp at hP'; subst hP'; exact ⟨u, by simp [c2]⟩
      | false =>
        cases c2 : (Float64.cmp z x == some .lt) with
        | true =>
          have e : argBest (fun i j => ltV (#[Value.float x t, .float y u, .float z v].getD i .none) (#[Value.float x t, .float y u, .float z v].getD j .none)) 2 = 2 := by simp [argBest, ltV, c1, c2]
          rw [e] at hP'; simp at hP'; subst hP'; exact ⟨v, by simp [c2]⟩
        | false =>
          have e : argBest (fun i j => ltV (#[Value.float x t, .float y u, .float z v].getD i .none) (#[Value.float x t, .float y u, .float z v].getD j .none)) 2 = 0 := by simp [argBest, ltV, c1, c2]
          rw [e] at hP'; simp at hP'; subst hP'; exact ⟨t, by simp [c2]⟩
    obtain ⟨tt, rfl⟩ := key
    exact h h' tk tt (F.grownK hold) (N.grown hold)
end
end Mine
end

section -- Col2
open PySem PySem.W PySem.Spec PySem.Calls PyProof.Rows
theorem Mine.fill2 : (Challenge.rw_ph0127_01.prog = Challenge.rw_ph0127_01.prog ∧ Mine.hd.heap_1 = Mine.hd.heap_1) := by k_fill; exact ⟨rfl, rfl⟩
namespace Mine
def hsvF (x y z : UInt64) : UInt64 × UInt64 × UInt64 :=
  let a := Float64.mul x 4618441417868443648
  let i := Flt.toInt Float64.truncOf a
  let f := Float64.sub a (Float64.ofInt i)
  let p := Float64.mul z (Float64.sub 4607182418800017408 y)
  let q := Float64.mul z (Float64.sub 4607182418800017408 (Float64.mul y f))
  let t := Float64.mul z (Float64.sub 4607182418800017408 (Float64.mul y (Float64.sub 4607182418800017408 f)))
  let j := Int.fmod i 6
  if j = 0 then (z, t, p) else if j = 1 then (q, z, p) else if j = 2 then (p, z, t) else if j = 3 then (p, q, z) else if j = 4 then (t, p, z) else (z, p, q)
structure HsvPre (x y : UInt64) : Prop where
  ne : (Float64.cmp y 0 == some Ordering.eq) = false
  fin : Float64.isFinite (Float64.mul x 4618441417868443648) = true
  bnd : Int.natAbs (Flt.toInt Float64.truncOf (Float64.mul x 4618441417868443648)) < 2 ^ 1024 - 2 ^ 970

local macro_rules | `(tactic| walk_at "execs cons") => `(tactic| (k_here; with_reducible refine gtk1 fun tkE htkE => ?_))
local macro_rules | `(tactic| walk_at "execs nil") => `(tactic| (k_here; with_reducible refine gtk1 fun tkE htkE => ?_))
theorem hsv_call {w : World} {x y z : UInt64} {t1 t2 t3 : Tok} (pre : HsvPre x y) (hz0 : t3 ≠ 0)
    {p : Program} {loose : List Str} {mean : ExcName → Option Value} {mg mb : Str → Option Value} {dp un : Nat} {gd : Option (List Code)} {cn : Str} {cs : Scope} {a : Addr} {ccd : Value} {cl : List (Str × Addr)} {outer : List Env} {A₀ : Around} {base h₀ : Heap} {L : Addr} {m : Str → Option Value} {news : List (Addr × Obj)} {s : Shared}
    {Q E : Value → Shared → Prop}
    (B : Below A₀ base outer h₀) (F : Fr h₀ L s.heap m) (X : (Mine.hd.heap_1 w.params).In h₀) (N : News h₀ L s.heap news) (T : Top p loose mean mg mb h₀) (hk : cs.kind = .function) (hd : dp + 5 < recursionLimit) (hu : un + 40 < cLine)
    (hret : ∀ D h' tk' u1 u2 u3, u1 ≠ 0 → u2 ≠ 0 → u3 ≠ 0 → 0 < tk' → Fr h₀ L h' m → News h₀ L h' ((D, tup [.float (hsvF x y z).1 u1, .float (hsvF x y z).2.1 u2, .float (hsvF x y z).2.2 u3]) :: news) → (∀ p ∈ news, p.1 < D) → Q (.ref D) { s with heap := h', toks := tk' }) :
    wpAny (model lawProg w) (ktrTop dp un gd cn cs L a ccd cl outer) (call (.ref 63) [.float x t1, .float y t2, .float z t3]) Q E s := by
  obtain ⟨p1, p2, p3⟩ := pre
  have j0 := Int.fmod_nonneg_of_pos (Flt.toInt Float64.truncOf (Float64.mul x 4618441417868443648)) (show (0:Int) < 6 by decide)
  have j1 := Int.fmod_lt_of_pos (Flt.toInt Float64.truncOf (Float64.mul x 4618441417868443648)) (show (0:Int) < 6 by decide)
  unfold hsvF at hret
  simp only at hret
  refine wpAny_call ?_
  k_dflt ktr_enter
  refine gtk (Nat.succ_pos _) fun tkE htkE => ?_
  k_steps
  all_goals first
    | (exfalso; omega)
    | ((rename Int.fmod _ 6 = _ => hj); (simp only [hj, Int.reduceEq, ↓reduceIte] at hret); (refine hret _ _ _ _ _ _ ?_ ?_ ?_ ?_ (by assumption) (by assumption) (by assumption) <;> first | assumption | (refine neN ?_; omega) | omega))
end Mine
end

section -- Col3
open PySem PySem.W PySem.Spec PySem.Calls PyProof.Rows
theorem Mine.fill3 : (Challenge.rw_ph0127_01.prog = Challenge.rw_ph0127_01.prog ∧ Mine.hd.heap_1 = Mine.hd.heap_1) := by k_fill; exact ⟨rfl, rfl⟩
namespace Mine
def rgbH (x y z : UInt64) : UInt64 :=
  let M := fmax3 x y z
  let R := Float64.sub M (fmin3 x y z)
  let h := if (Float64.cmp x M == some Ordering.eq) = true then
      Float64.sub (Float64.div (Float64.sub M z) R) (Float64.div (Float64.sub M y) R)
    else if (Float64.cmp y M == some Ordering.eq) = true then
      Float64.sub (Float64.add 4611686018427387904 (Float64.div (Float64.sub M x) R)) (Float64.div (Float64.sub M z) R)
    else Float64.sub (Float64.add 4616189618054758400 (Float64.div (Float64.sub M y) R)) (Float64.div (Float64.sub M x) R)
  (Float64.divmod (Float64.div h 4618441417868443648) 4607182418800017408).2
def rgbF (x y z : UInt64) : UInt64 × UInt64 × UInt64 :=
  (rgbH x y z, Float64.div (Float64.sub (fmax3 x y z) (fmin3 x y z)) (fmax3 x y z), fmax3 x y z)
structure RgbPre (x y z : UInt64) : Prop where
  ne : (Float64.cmp (fmin3 x y z) (fmax3 x y z) == some Ordering.eq) = false
  m0 : ¬ Float64.isZero (fmax3 x y z) = true
  r0 : ¬ Float64.isZero (Float64.sub (fmax3 x y z) (fmin3 x y z)) = true
section
local macro_rules | `(tactic| walk_at "execs cons") => `(tactic| (k_here; with_reducible refine gtk1 fun tkE htkE => ?_))
local macro_rules | `(tactic| walk_at "execs nil") => `(tactic| (k_here; with_reducible refine gtk1 fun tkE htkE => ?_))
local macro_rules | `(tactic| walk_at "call builtin:max") => `(tactic| (k_here; (with_reducible show wpAny _ _ (call (Value.builtin _) [Value.float _ _, Value.float _ _, Value.float _ _]) _ _ _); k_dflt (refine' max3_f rfl ?k1 ?k2 ?k3 ?k4 ?k5 ?_; (case k1 => k_asm); (case k2 => k_asm); (case k3 => assumption); (case k4 => assumption); (case k5 => assumption); k_whole); intro h' tk' v' hv' F' N'))
local macro_rules | `(tactic| walk_at "call builtin:min") => `(tactic| (k_here; (with_reducible show wpAny _ _ (call (Value.builtin _) [Value.float _ _, Value.float _ _, Value.float _ _]) _ _ _); k_dflt (refine' min3_f rfl ?k1 ?k2 ?_; (case k1 => k_asm); (case k2 => k_asm); k_whole); intro h' tk' v' F' N'))

theorem rgb_call {w : World} {x y z : UInt64} {t1 t2 t3 : Tok} (pre : RgbPre x y z) (hz1 : t1 ≠ 0) (hz2 : t2 ≠ 0) (hz3 : t3 ≠ 0)
    {p : Program} {loose : List Str} {mean : ExcName → Option Value} {mg mb : Str → Option Value} {dp un : Nat} {gd : Option (List Code)} {cn : Str} {cs : Scope} {a : Addr} {ccd : Value} {cl : List (Str × Addr)} {outer : List Env} {A₀ : Around} {base h₀ : Heap} {L : Addr} {m : Str → Option Value} {news : List (Addr × Obj)} {s : Shared}
    {Q E : Value → Shared → Prop}
    (B : Below A₀ base outer h₀) (F : Fr h₀ L s.heap m) (X : (Mine.hd.heap_1 w.params).In h₀) (N : News h₀ L s.heap news) (T : Top p loose mean mg mb h₀) (hk : cs.kind = .function) (hd : dp + 5 < recursionLimit) (hu : un + 40 < cLine)
    (hret : ∀ D h' tk' u1 u2 u3, u1 ≠ 0 → u2 ≠ 0 → u3 ≠ 0 → 0 < tk' → Fr h₀ L h' m → News h₀ L h' ((D, tup [.float (rgbF x y z).1 u1, .float (rgbF x y z).2.1 u2, .float (rgbF x y z).2.2 u3]) :: news) → (∀ p ∈ news, p.1 < D) → Q (.ref D) { s with heap := h', toks := tk' }) :
    wpAny (model lawProg w) (ktrTop dp un gd cn cs L a ccd cl outer) (call (.ref 56) [.float x t1, .float y t2, .float z t3]) Q E s := by
  obtain ⟨p1, p2, p3⟩ := pre
  unfold rgbF rgbH at hret
  simp only at hret
  refine wpAny_call ?_
  k_dflt ktr_enter
  refine gtk (Nat.succ_pos _) fun tkE htkE => ?_
  k_steps
  all_goals first
    | (exfalso; exact absurd (by assumption) p2)
    | (exfalso; exact absurd (by assumption) p3)
    | ((rename (Float64.cmp _ _ == some Ordering.eq) = true => hj); (simp only [hj, ↓reduceIte] at hret); (refine hret _ _ _ _ _ _ ?_ ?_ ?_ ?_ (by assumption) (by assumption) (by assumption) <;> first | assumption | (refine neN ?_; omega) | omega))
    | ((rename (Float64.cmp y _ == some Ordering.eq) = true => hj); (rename (Float64.cmp x _ == some Ordering.eq) = false => hi); (simp only [hj, hi, ↓reduceIte, Bool.false_eq_true] at hret); (refine hret _ _ _ _ _ _ ?_ ?_ ?_ ?_ (by assumption) (by assumption) (by assumption) <;> first | assumption | (refine neN ?_; omega) | omega))
    | ((rename (Float64.cmp y _ == some Ordering.eq) = false => hj); (rename (Float64.cmp x _ == some Ordering.eq) = false => hi); (simp only [hj, hi, ↓reduceIte, Bool.false_eq_true] at hret); (refine hret _ _ _ _ _ _ ?_ ?_ ?_ ?_ (by assumption) (by assumption) (by assumption) <;> first | assumption | (refine neN ?_; omega) | omega))
end
end Mine
end

section -- Col4
open PySem PySem.W PySem.Spec PySem.Calls PyProof.Rows
namespace Mine
def fr (n d : Nat) : UInt64 := Float64.ofFrac false n d
def sexA (k : Nat) : UInt64 := Float64.mul (fr k 16) 4618441417868443648
def sexI (k : Nat) : Int := Flt.toInt Float64.truncOf (sexA k)
def colA (k : Nat) : Bool :=
  Float64.isFinite (sexA k) && decide ((sexI k).natAbs < 100) && decide (Int.fmod (sexI k) 6 = Int.fmod (sexI (k % 16)) 6)
  && Float64.sub (sexA k) (Float64.ofInt (sexI k)) == Float64.sub (sexA (k % 16)) (Float64.ofInt (sexI (k % 16)))
  && Flt.toInt Float64.truncOf (Float64.sub (fr k 16) (fr (k % 16) 16)) == (k / 16 : Nat) && Float64.isFinite (Float64.sub (fr k 16) (fr (k % 16) 16))
theorem colA_all : ((List.range 63).all colA) = true := by decide +kernel
theorem colA_at {k : Nat} (h : k < 63) : colA k = true := List.all_eq_true.mp colA_all k (List.mem_range.mpr h)
def colC (k : Nat) : Bool :=
  Flt.toInt Float64.truncOf (Float64.mul (fr k 16) (Float64.ofInt 16)) == (k : Nat) && Float64.isFinite (Float64.mul (fr k 16) (Float64.ofInt 16))
  && (Float64.cmp (fr k 16) (fr k 16) == some Ordering.eq)
theorem colC_all : ((List.range 16).all colC) = true := by decide +kernel
theorem colC_at {k : Nat} (h : k < 16) : colC k = true := List.all_eq_true.mp colC_all k (List.mem_range.mpr h)
def colD (s : Nat) : Bool :=
  !(Float64.cmp (fr (s + 1) 4) 0 == some Ordering.eq) && (Float64.cmp (fr (s + 1) 4) (fr (s + 1) 4) == some Ordering.eq)
theorem colD_all : ((List.range 4).all colD) = true := by decide +kernel
theorem colD_at {s : Nat} (h : s < 4) : colD s = true := List.all_eq_true.mp colD_all s (List.mem_range.mpr h)
def colB1 (c : UInt64 × UInt64 × UInt64) (k s v : Nat) : Bool :=
  let M := fmax3 c.1 c.2.1 c.2.2
  let mi := fmin3 c.1 c.2.1 c.2.2
  !(Float64.cmp mi M == some Ordering.eq) && !Float64.isZero M && !Float64.isZero (Float64.sub M mi)
  && rgbF c.1 c.2.1 c.2.2 == (fr k 16, fr (s + 1) 4, fr (v + 1) 4)
def colB (k : Nat) : Bool := (List.range 4).all fun s => (List.range 4).all fun v => colB1 (hsvF (fr k 16) (fr (s + 1) 4) (fr (v + 1) 4)) k s v
theorem colB_a : colB 0 = true := by decide +kernel
theorem colB_b : colB 1 = true := by decide +kernel
theorem colB_c : colB 2 = true := by decide +kernel
theorem colB_d : colB 3 = true := by decide +kernel
theorem colB_e : colB 4 = true := by decide +kernel
theorem colB_f : colB 5 = true := by decide +kernel
theorem colB_g : colB 6 = true := by decide +kernel
theorem colB_h : colB 7 = true := by decide +kernel
theorem colB_i : colB 8 = true := by decide +kernel
theorem colB_j : colB 9 = true := by decide +kernel
theorem colB_k : colB 10 = true := by decide +kernel
theorem colB_l : colB 11 = true := by decide +kernel
theorem colB_m : colB 12 = true := by decide +kernel
theorem colB_n : colB 13 = true := by decide +kernel
theorem colB_o : colB 14 = true := by decide +kernel
theorem colB_p : colB 15 = true := by decide +kernel
theorem colB_at : ∀ {k : Nat}, k < 16 → colB k = true
  | 0, _ => colB_a
  | 1, _ => colB_b
  | 2, _ => colB_c
  | 3, _ => colB_d
  | 4, _ => colB_e
  | 5, _ => colB_f
  | 6, _ => colB_g
  | 7, _ => colB_h
  | 8, _ => colB_i
  | 9, _ => colB_j
  | 10, _ => colB_k
  | 11, _ => colB_l
  | 12, _ => colB_m
  | 13, _ => colB_n
  | 14, _ => colB_o
  | 15, _ => colB_p
  | k + 16, h => absurd h (by omega)
end Mine
end

section -- Col6
open PySem PySem.W PySem.Spec PySem.Calls PyProof.Rows
namespace Mine
def hsvG (f : UInt64) (j : Int) (y z : UInt64) : UInt64 × UInt64 × UInt64 :=
  let p := Float64.mul z (Float64.sub 4607182418800017408 y)
  let q := Float64.mul z (Float64.sub 4607182418800017408 (Float64.mul y f))
  let t := Float64.mul z (Float64.sub 4607182418800017408 (Float64.mul y (Float64.sub 4607182418800017408 f)))
  if j = 0 then (z, t, p) else if j = 1 then (q, z, p) else if j = 2 then (p, z, t) else if j = 3 then (p, q, z) else if j = 4 then (t, p, z) else (z, p, q)
theorem hsvF_G (k : Nat) (y z : UInt64) : hsvF (fr k 16) y z = hsvG (Float64.sub (sexA k) (Float64.ofInt (sexI k))) (Int.fmod (sexI k) 6) y z := rfl
structure ColFacts (k s v : Nat) : Prop where
  pre : HsvPre (fr k 16) (fr (s + 1) 4)
  rpre : RgbPre (hsvF (fr k 16) (fr (s + 1) 4) (fr (v + 1) 4)).1 (hsvF (fr k 16) (fr (s + 1) 4) (fr (v + 1) 4)).2.1 (hsvF (fr k 16) (fr (s + 1) 4) (fr (v + 1) 4)).2.2
  told : rgbF (hsvF (fr k 16) (fr (s + 1) 4) (fr (v + 1) 4)).1 (hsvF (fr k 16) (fr (s + 1) 4) (fr (v + 1) 4)).2.1 (hsvF (fr k 16) (fr (s + 1) 4) (fr (v + 1) 4)).2.2 = (fr (k % 16) 16, fr (s + 1) 4, fr (v + 1) 4)
  turns : Flt.toInt Float64.truncOf (Float64.sub (fr k 16) (fr (k % 16) 16)) = ((k / 16 : Nat) : Int)
  turnsF : Float64.isFinite (Float64.sub (fr k 16) (fr (k % 16) 16)) = true
  hue : Flt.toInt Float64.truncOf (Float64.mul (fr (k % 16) 16) (Float64.ofInt 16)) = ((k % 16 : Nat) : Int)
  hueF : Float64.isFinite (Float64.mul (fr (k % 16) 16) (Float64.ofInt 16)) = true
  eq1 : (Float64.cmp (fr (k % 16) 16) (fr (k % 16) 16) == some Ordering.eq) = true
  eq2 : (Float64.cmp (fr (s + 1) 4) (fr (s + 1) 4) == some Ordering.eq) = true
  eq3 : (Float64.cmp (fr (v + 1) 4) (fr (v + 1) 4) == some Ordering.eq) = true
theorem col_facts {k s v : Nat} (hk : k < 63) (hs : s < 4) (hv : v < 4) : ColFacts k s v := by
  have hA := colA_at hk
  have hC := colC_at (Nat.mod_lt k (show 0 < 16 by decide))
  have hD := colD_at hs
  have hDv := colD_at hv
  have hB := colB_at (Nat.mod_lt k (show 0 < 16 by decide))
  unfold colA at hA
  unfold colC at hC
  unfold colD at hD hDv
  unfold colB at hB
  simp only [Bool.and_eq_true, decide_eq_true_eq, beq_iff_eq, Bool.not_eq_true'] at hA hC hD hDv
  obtain ⟨⟨⟨⟨⟨a1, a2⟩, a3⟩, a4⟩, a5⟩, a6⟩ := hA
  obtain ⟨⟨c1, c2⟩, c3⟩ := hC
  have hB1 := List.all_eq_true.mp hB s (List.mem_range.mpr hs)
  have hB2 := List.all_eq_true.mp hB1 v (List.mem_range.mpr hv)
  have hG : hsvF (fr k 16) (fr (s + 1) 4) (fr (v + 1) 4) = hsvF (fr (k % 16) 16) (fr (s + 1) 4) (fr (v + 1) 4) := by
    rw [hsvF_G, hsvF_G, a3, a4]
  have hbig : (100 : Nat) ≤ 2 ^ 1024 - 2 ^ 970 := by decide +kernel
  rw [← hG] at hB2
  unfold colB1 at hB2
  simp only [Bool.and_eq_true, beq_iff_eq, Bool.not_eq_true'] at hB2
  obtain ⟨⟨⟨b1, b2⟩, b3⟩, b4⟩ := hB2
  exact ⟨⟨by rw [hD.1], a1, Nat.lt_of_lt_of_le a2 hbig⟩, ⟨b1, by rw [b2]; exact Bool.false_ne_true, by rw [b3]; exact Bool.false_ne_true⟩, b4, a5, a6, c1, c2, by rw [c3]; rfl, by rw [hD.2]; rfl, by rw [hDv.2]; rfl⟩
section
variable {prog : Program} {w : World} {A : Around} {E : Value → Shared → Prop} {s : Shared} {Q : Value → Shared → Prop}
theorem div_fr {a b : Int} {n d : Nat} {t u : Tok} (hh : A.handled = none) (hb : b = (d : Int)) (hd : 0 < d) (ha : a = (n : Int)) (hn : n < 2 ^ 60) (h : Q (.float (fr n d) s.toks) { s with toks := s.toks + 1 }) : wpAny (model prog w) A (binaryOp .Div (.int a t) (.int b u)) Q E s := by
  subst ha hb
  refine Flt.div_ii_fits hh ?_ ?_ ?_
  · rw [Int.natAbs_natCast]
    exact Nat.lt_of_lt_of_le hn (Nat.pow_le_pow_right (by decide) (by decide))
  · intro e; exfalso; omega
  · intro _ _
    have e : Float64.ofFrac (decide ((n : Int) < 0) != decide ((d : Int) < 0)) (n : Int).natAbs (d : Int).natAbs = fr n d := by
      rw [Int.natAbs_natCast, Int.natAbs_natCast, decide_eq_false (by omega : ¬ (n : Int) < 0), decide_eq_false (by omega : ¬ (d : Int) < 0)]; rfl
    rw [e]; exact h
end
end Mine
end

section -- FEq
open PySem PySem.W PySem.Spec PySem.Calls PyProof.Rows
namespace Mine
theorem booked_of {K : Frag} {h : Heap} (X : K.In h) (hn : h.NoLimit) (e : nsIn K cStatics sharingNotToldKey = some none) : NoneBooked h :=
  let ⟨mc, G, _⟩ := hn
  ⟨mc, G, ns_none_of X G e⟩
theorem booked_K {w : World} : nsIn (Mine.hd.heap_1 w.params) cStatics sharingNotToldKey = some none := by kernel_rfl
section
variable {prog : Program} {w : World} {A : Around} {E : Value → Shared → Prop} {s : Shared}
theorem eqBool_float {x y : UInt64} {t u : Tok} {Q : Bool → Shared → Prop} (ht : t ≠ 0) (hu : u ≠ 0) (hb : NoneBooked s.heap) (he : (Float64.cmp x y == some Ordering.eq) = true) (h : Q true s) : wpAny (model prog w) A (eqBool (.float x t) (.float y u)) Q E s := by
  unfold eqBool
  refine wpAny_holding ?_
  show wpAny _ _ (if (Value.float x t == Value.float y u) = true then _ else _) Q E s
  by_cases hab : (Value.float x t == Value.float y u) = true
  · rw [if_pos hab]
    exact wpAny_bind (wpAny_rule (wpAny_pure h))
  · rw [if_neg hab]
    have tail : wpAny (model prog w) A (richCompare .Eq (.float x t) (.float y u) >>= truthOfDropped) Q E s := by
      refine wpAny_bind (AutoFloatOps.eq_0 (Q := fun r s' => wpAny (model prog w) A (truthOfDropped r) Q E s') ?_)
      rw [he]
      exact wpAny_truthy_bool h
    show wpAny _ _ (isSame (.float x t) (.float y u) >>= _) Q E s
    refine wpAny_bind ?_
    show wpAny _ _ (isSame.created _ t u) _ E s
    unfold isSame.created
    have h0 : (t == 0 || u == 0) = false := by simp [ht, hu]
    have two : ∀ b : Bool, wpAny (model prog w) A (if b = true then pure true else (richCompare .Eq (.float x t) (.float y u) >>= truthOfDropped)) Q E s := by
      intro b
      cases b with
      | true => exact wpAny_pure h
      | false => simpa using tail
    refine wpAny_ite ?_
    rw [if_neg (by rw [h0]; exact Bool.false_ne_true)]
    refine wpAny_ite ?_
    split
    · exact wpAny_pure (two true)
    refine wpAny_ite ?_
    split
    · exact wpAny_pure (two false)
    refine wpAny_bind (wpAny_sharingNotTold_none hb ?_)
    simp only [Bool.false_eq_true, if_false]
    refine wpAny_bind (wpAny_sharingNotTold_none hb ?_)
    simp only [Bool.false_eq_true, if_false]
    exact wpAny_bind (wpAny_rule (wpAny_bind (wpAny_askSetting (wpAny_pure (two _)))))

theorem ne_float3 {a b : Addr} {x y z x' y' z' : UInt64} {t1 t2 t3 u1 u2 u3 : Tok} {Q : Value → Shared → Prop} (ha : s.heap.IsTuple a #[.float x t1, .float y t2, .float z t3]) (hb : s.heap.IsTuple b #[.float x' u1, .float y' u2, .float z' u3]) (hu : A.units < cLine) (hnb : NoneBooked s.heap)
    (k1 : t1 ≠ 0) (k2 : t2 ≠ 0) (k3 : t3 ≠ 0) (l1 : u1 ≠ 0) (l2 : u2 ≠ 0) (l3 : u3 ≠ 0)
    (e1 : (Float64.cmp x x' == some Ordering.eq) = true) (e2 : (Float64.cmp y y' == some Ordering.eq) = true) (e3 : (Float64.cmp z z' == some Ordering.eq) = true) (h : Q (.bool false) s) : wpAny (model prog w) A (compareOp .NotEq (.ref a) (.ref b)) Q E s := by
  refine SeqAt.RcNeAt.tuples (e := fun _ => true) ha hb hu ?_ prog w E Q ?_
  · intro j h1 h2 prog' w' E' Q' hq
    match j, h1, h2 with
    | 0, _, _ => exact eqBool_float k1 l1 hnb e1 hq
    | 1, _, _ => exact eqBool_float k2 l2 hnb e2 hq
    | 2, _, _ => exact eqBool_float k3 l3 hnb e3 hq
    | n + 3, h1, _ => exact absurd h1 (by simp)
  · exact h
end
end Mine
end

section -- Ac
open PySem PySem.W PySem.Spec PySem.Calls PyProof.Rows
theorem Mine.fillAc : (Challenge.rw_ph0127_01.prog = Challenge.rw_ph0127_01.prog ∧ Mine.hd.heap_1 = Mine.hd.heap_1) := by k_fill; exact ⟨rfl, rfl⟩
namespace Mine
theorem nat_ {h₀ h : Heap} {L : Addr} {l : List (Addr × Obj)} (N : News h₀ L h l) (i : Nat) {p : Addr × Obj} (e : l[i]? = some p) : h.get? p.1 = some p.2 := (N _ (List.mem_of_getElem? e)).1
theorem map_known {m : Str → Option Value} {x : Str} {v : Value} (h : m x = some v) : m = fun z => if z = x then some v else m z := by
  funext z
  by_cases e : z = x
  · rw [if_pos e, e, h]
  · rw [if_neg e]
theorem name_it {α : Sort _} {P : α → Prop} {G : Prop} {d : α} (_h : P d) (k : ∀ d', d' = d → G) : G := k d rfl
theorem KdkAt.isDict {prog : Program} {w : World} {o : Obj} {kvs : List (Int × Value)} {ep : Nat} (a : KdkAt (intKind prog w) o kvs ep) : o.IsDictOf (intKind prog w) kvs := let ⟨es, r⟩ := a; ⟨es, ep, r⟩
theorem stored_take {kvs : List (Int × Value)} (hn : (kvs.map (·.1)).Nodup) {i : Nat} {k : Int} {u : Value} (h : kvs[i]? = some (k, u)) : stored (kvs.take i) k u = kvs.take (i + 1) := by
  have hi : i < kvs.length := (List.getElem?_eq_some_iff.mp h).1
  have hk : kvs[i] = (k, u) := (List.getElem?_eq_some_iff.mp h).2
  have hno : (kvs.take i).any (fun kv => decide (kv.1 = k)) = false := by
    rw [List.any_eq_false]
    intro kv hkv
    obtain ⟨j, hj, e⟩ := List.getElem_of_mem hkv
    rw [List.length_take] at hj
    have hji : j < i := by omega
    intro q
    have q' : kv.1 = k := by simpa using q
    have e' : kvs[j] = kv := by rw [← e, List.getElem_take]
    have := List.nodup_iff_pairwise_ne.mp hn
    rw [List.pairwise_iff_getElem] at this
    have := this j i (by rw [List.length_map]; omega) (by rw [List.length_map]; omega) hji
    rw [List.getElem_map, List.getElem_map, e', hk] at this
    exact this q'
  unfold stored
  rw [hno]
  simp only [Bool.false_eq_true, if_false]
  rw [List.take_succ, h]; rfl
theorem isDict_nodup {prog : Program} {w : World} {o : Obj} {kvs : List (Int × Value)} (a : o.IsDictOf (intKind prog w) kvs) : (kvs.map (·.1)).Nodup := by
  obtain ⟨es, ep, _, _, _, _, r⟩ := a
  exact r
local macro_rules | `(tactic| walk_at "exec For Tuple Call cons nil") => `(tactic| (k_here; refine Halt.out ?_))
local macro_rules | `(tactic| walk_at "pyIter ref") => `(tactic| (k_here; refine Halt.out ?_))
theorem ac_call {w : World} {d1 d2 r : Addr} {o1 o2 : Obj} {kvs : List (Int × Value)} {k : Int} {ps : Array Value}
    {p : Program} {loose : List Str} {mean : ExcName → Option Value} {mg mb : Str → Option Value} {dp un : Nat} {gd : Option (List Code)} {cn : Str} {cs : Scope} {a : Addr} {ccd : Value} {cl : List (Str × Addr)} {outer : List Env} {A₀ : Around} {base h₀ : Heap} {L : Addr} {m : Str → Option Value} {news : List (Addr × Obj)} {s : Shared}
    {Q E : Value → Shared → Prop} {b0 b1 b2 b3 : Int} {c0 c1 c2 c3 : Tok}
    (B : Below A₀ base outer h₀) (F : Fr h₀ L s.heap m) (X : (Mine.hd.heap_1 w.params).In h₀)
    (N : News h₀ L s.heap ((72, tabObj ps) :: (d1, o1) :: (d2, o2) :: (r, tup [.int b0 c0, .int b1 c1, .int b2 c2, .int b3 c3]) :: news))
    (hC : CodeHd h₀ 76 72) (hps : TriplesOk ps.toList) (hn72 : ∀ p ∈ news, p.1 ≠ 72) (g1 : d1 ≠ 72) (g2 : d2 ≠ 72) (g3 : r ≠ 72)
    (T : Top p loose mean mg mb h₀) (hk : cs.kind = .function) (hd : dp + 5 < recursionLimit) (hu : un + 40 < cLine)
    (hd1 : o1.IsDictOf (intKind lawProg w) kvs) (hd2 : o2.IsDictOf (intKind lawProg w) [(k, .ref r)]) (lo1 : (d1 == sysModules) = false) (lo2 : (d2 == sysModules) = false) (hlen : kvs.length ≤ 100) (hgn : AllBare s.gens)
    (hcase : valueAt kvs k = none ∨ ∃ q a0 a1 a2 a3 t0 t1 t2 t3, valueAt kvs k = some (.ref q) ∧ (q, tup [.int a0 t0, .int a1 t1, .int a2 t2, .int a3 t3]) ∈ news)
    (hret : ∀ D h' tk' g' ps' o' v extra, AllBare g' → TriplesOk ps'.toList → Fr h₀ L h' m →
      News h₀ L h' ((D, o') :: (72, tabObj ps') :: (extra ++ (d1, o1) :: (d2, o2) :: (r, tup [.int b0 c0, .int b1 c1, .int b2 c2, .int b3 c3]) :: news)) → o'.IsDictOf (intKind lawProg w) (stored kvs k v) → (D == sysModules) = false → D ≠ 72 → (∀ p ∈ news, p.1 < D) → (∀ p ∈ extra, p.1 ≠ 72) → (∀ p ∈ extra, ∀ q ∈ news, q.1 < p.1) →
      (valueAt kvs k = none ∧ v = .ref r ∧ extra = [] ∨ ∃ q a0 a1 a2 a3 t0 t1 t2 t3 T u0 u1 u2 u3, valueAt kvs k = some (.ref q) ∧ (q, tup [.int a0 t0, .int a1 t1, .int a2 t2, .int a3 t3]) ∈ news ∧ v = .ref T ∧
        extra = [(T, tup [.int (b0 + a0) u0, .int (b1 + a1) u1, .int (b2 + a2) u2, .int (b3 + a3) u3])]) →
      Q (.ref D) ⟨h', g', s.drawn, tk', s.os⟩) :
    wpAny (model lawProg w) (ktrTop dp un gd cn cs L a ccd cl outer) (call (.ref 77) [.ref d1, .ref d2]) Q E s := by
  obtain ⟨ep1, hA1⟩ := KdkAt.of hd1
  obtain ⟨ep2, hA2⟩ := KdkAt.of hd2
  refine wpAny_call ?_
  k_dflt ktr_enter
  rename Fr h₀ L _ m => FG
  have hC' := hC.keeps FG.keep
  k_steps
  refine Halt.on ?_
  refine wpAny_For ?_
  k_steps
  refine Halt.on ?_
  rename Fr _ _ _ _ => F1
  rename News _ _ _ _ => N1
  rename Obj.IsDictOf (intKind _ _) _ [] => hnew
  rename (_ == sysModules) = false => lon
  refine name_it (P := fun d => (d == sysModules) = false) lon ?_
  intro dN hdN
  subst hdN
  rename _ < _ ∧ _ < _ ∧ _ < _ ∧ _ < _ ∧ _ < _ ∧ AllLt _ _ => lt2
  rename _ < _ ∧ _ < _ ∧ _ < _ ∧ _ < _ ∧ AllLt _ _ => lt1
  obtain ⟨e0, e1, e2, e3, e4⟩ := lt1
  obtain ⟨e5, e6, e7, e8, e9, e10⟩ := lt2
  refine for_items rfl rfl rfl rfl F1 N1 ⟨_, (N1 _ (.head _)).1, rfl, rfl⟩ hA1 (N1 _ (.tail _ (.tail _ (.tail _ (.head _))))).1 (by passes_own)
    (fun i m' news' g => g = s.gens ∧ m' (Str.ofString "new_callers") = some (.ref dN) ∧ m' (Str.ofString "source") = some (.ref d2) ∧ ∃ o', news' = _ :: (dN, o') :: (72, tabObj ps) :: (d1, o1) :: (d2, o2) :: (r, tup [.int b0 c0, .int b1 c1, .int b2 c2, .int b3 c3]) :: news ∧ o'.IsDictOf (intKind lawProg w) (kvs.take i)) ⟨rfl, rfl, rfl, _, rfl, hnew⟩ ?_ ?_ ?_
  · rintro i m' news' g ⟨_, _, _, o', rfl, _⟩
    exact .inl (.tail _ (.tail _ (.tail _ (.head _))))
  · rintro i k₁ t₁ u₁ m₁ news₁ h₁ tk₁ g₁ io hku ⟨rfl, hm1, hm2, o', rfl, ho'⟩ hne F2 N2
    rw [map_known hm1] at F2
    simp only [List.singleton_append] at N2
    have hne1 := hne _ (.tail _ (.head _))
    clear F1 N1
    try k_fold
    k_steps
    rename Fr _ _ _ _ => F3
    rename News _ _ _ _ => N3
    refine dict_set F3 (pull2 N3) ?_ ho' ?_ ?_
    · (repeat' (refine List.forall_mem_cons.mpr ⟨?_, ?_⟩)) <;> first | exact Ne.symm hne1 | (refine neN ?_; dsimp only; omega) | (intro p hp; have := ktn_ltOf e4 p hp; exact Nat.ne_of_lt this)
    · rw [List.length_take]; unfold sizeLine; omega
    · intro h2 o2' F4 N4 hd4
      rw [stored_take (isDict_nodup hd1) hku] at hd4
      dsimp only
      refine wpAny_execs_nil ?_
      exact GStep.next F4 (pull2 (pull2 N4)) (List.forall_mem_cons.mpr ⟨fun q => hne _ (.head _) (List.mem_singleton.mp q), List.forall_mem_cons.mpr ⟨fun q => hne1 (List.mem_singleton.mp q), fun p hp q => hne p (.tail _ (.tail _ hp)) (List.mem_singleton.mp q)⟩⟩) ⟨rfl, rfl, hm2, o2', rfl, hd4⟩
  · rintro h₁ tk₁ g₁ m₁ news₁ F2 N2 ⟨rfl, hm1, hm2, o', rfl, ho'⟩
    rw [List.take_length] at ho'
    dsimp only
    rw [map_known hm1, map_known hm2] at F2
    clear F1 N1
    k_steps
    refine Halt.on ?_
    refine wpAny_For ?_
    k_steps
    refine Halt.on ?_
    rename Fr _ _ _ _ => F3
    rename News _ _ _ _ => N3
    refine for_items (J := fun i m' news' g => m' (Str.ofString "new_callers") = some (.ref dN) ∧ (i = 0 ∧ g = s.gens ∧ news' = _ :: _ :: (dN, o') :: (72, tabObj ps) :: (d1, o1) :: (d2, o2) :: (r, tup [.int b0 c0, .int b1 c1, .int b2 c2, .int b3 c3]) :: news ∨
        i = 1 ∧ AllBare g ∧ ∃ o'' v ps' extra, news' = (dN, o'') :: (72, tabObj ps') :: (extra ++ (d1, o1) :: (d2, o2) :: (r, tup [.int b0 c0, .int b1 c1, .int b2 c2, .int b3 c3]) :: news) ∧ TriplesOk ps'.toList ∧ o''.IsDictOf (intKind lawProg w) (stored kvs k v) ∧ (∀ p ∈ extra, p.1 ≠ 72) ∧ (∀ p ∈ extra, ∀ q ∈ news, q.1 < p.1) ∧
          (valueAt kvs k = none ∧ v = .ref r ∧ extra = [] ∨ ∃ q a0 a1 a2 a3 t0 t1 t2 t3 T u0 u1 u2 u3, valueAt kvs k = some (.ref q) ∧ (q, tup [.int a0 t0, .int a1 t1, .int a2 t2, .int a3 t3]) ∈ news ∧ v = .ref T ∧
        extra = [(T, tup [.int (b0 + a0) u0, .int (b1 + a1) u1, .int (b2 + a2) u2, .int (b3 + a3) u3])]))) rfl rfl rfl rfl F3 N3 ⟨_, (N3 _ (.head _)).1, rfl, rfl⟩ hA2 (N3 _ (.tail _ (.tail _ (.tail _ (.tail _ (.tail _ (.head _))))))).1 (by passes_own)
       ⟨rfl, .inl ⟨rfl, rfl, rfl⟩⟩ ?_ ?_ ?_
    · rintro i m' news' g ⟨_, ⟨_, _, rfl⟩ | ⟨_, _, o'', v, ps', extra, rfl, _⟩⟩
      · exact .inl (.tail _ (.tail _ (.tail _ (.tail _ (.tail _ (.head _))))))
      · exact .inl (.tail _ (.tail _ (List.mem_append_right _ (.tail _ (.head _)))))
    · rintro i k₁ t₁ u₁ m₁ news₁ h₁ tk₁ g₁ io hku ⟨hm1, ⟨rfl, rfl, rfl⟩ | ⟨rfl, _⟩⟩ hne F4 N4
      · obtain ⟨rfl, rfl⟩ : k₁ = k ∧ u₁ = .ref r := by
          have := Option.some.inj hku
          exact ⟨congrArg Prod.fst this.symm, congrArg Prod.snd this.symm⟩
        rw [map_known hm1] at F4
        simp only [List.singleton_append] at N4
        have hne1 := hne _ (.tail _ (.tail _ (.head _)))
        rename _ < _ ∧ _ < _ ∧ _ < _ ∧ _ < _ ∧ _ < _ ∧ _ < _ ∧ AllLt _ _ => lt3
        obtain ⟨f1, f2, f3, f4, f5, f6, f7⟩ := lt3
        clear F3 N3 F2 N2
        rcases hcase with hv | ⟨q, a0, a1, a2, a3, t0, t1, t2, t3, hv, hq⟩
        · try k_fold
          k_steps
          rename Fr _ _ _ _ => F5
          rename News _ _ _ _ => N5
          refine kda_in (knd := intKind lawProg w) (k := k₁) N5 (.tail _ (.tail _ (.tail _ (.head _)))) ho' lon (by simp [intKind, Value.isInt]) false (by rw [hv]; rfl) ?_
          k_steps
          rename Fr _ _ _ _ => F6
          rename News _ _ _ _ => N6
          refine dict_set F6 (pull3 N6) ?_ ho' ?_ ?_
          · (repeat' (refine List.forall_mem_cons.mpr ⟨?_, ?_⟩)) <;> first | exact Ne.symm hne1 | (refine neN ?_; dsimp only; omega) | (intro p hp; have := ktn_ltOf e4 p hp; exact Nat.ne_of_lt this)
          · unfold sizeLine; omega
          · intro h2 o2' F7 N7 hd7
            dsimp only
            refine wpAny_execs_nil ?_
            dsimp only
            refine wpAny_execs_nil ?_
            refine GStep.next (news' := (dN, o2') :: (72, tabObj ps) :: ([] ++ (d1, o1) :: (d2, o2) :: (r, tup [.int b0 c0, .int b1 c1, .int b2 c2, .int b3 c3]) :: news)) F7 (News.perm N7 ?_) ?_ ⟨rfl, .inr ⟨rfl, hgn, o2', _, ps, [], rfl, hps, hd7, (fun _ h => nomatch h), (fun _ h => nomatch h), .inl ⟨hv, rfl, rfl⟩⟩⟩
            · intro p hp
              simp only [List.mem_append, List.mem_cons, List.nil_append, List.not_mem_nil, or_false] at hp ⊢
              rcases hp with h | h | h | h | h | h | h <;> simp only [h, true_or, or_true]
            · intro p hp q
              rcases List.mem_cons.mp hp with rfl | hp
              · exact hne1 (List.mem_singleton.mp q)
              · exact hne p (.tail _ (.tail _ (.tail _ hp))) (List.mem_singleton.mp q)
        · try k_fold
          k_steps
          rename Fr _ _ _ _ => F5
          rename News _ _ _ _ => N5
          refine kda_in (knd := intKind lawProg w) (k := k₁) N5 (.tail _ (.tail _ (.tail _ (.head _)))) ho' lon (by simp [intKind, Value.isInt]) true (by rw [hv]; rfl) ?_
          k_steps
          refine gen_expr (P := 72) F5 (by assumption) hC' ?_ rfl ?_ rfl rfl rfl rfl (by decide) rfl (by decide) rfl rfl rfl (by decide) (by decide) (by intro _; rfl)
          rotate_left
          · show dp + 1 < recursionLimit; omega
          k_steps
          rename Fr _ _ _ _ => F6
          rename News _ _ _ _ => N6
          refine kda_item (knd := intKind lawProg w) (k := k₁) N6 (.tail _ (.tail _ (.tail _ (.head _)))) ho' (by simp [intKind, Value.isInt]) hv ?_
          refine wpAny_pure ?_
          have hqm : ∀ x8 : List (Addr × Obj), (q, tup [.int a0 t0, .int a1 t1, .int a2 t2, .int a3 t3]) ∈ x8 ++ news := fun x8 => List.mem_append_right x8 hq
          have hqn := N6 _ (hqm [_, _, _, _, _, _, _, _])
          refine call_zip_tuples (xs := #[.int b0 c0, .int b1 c1, .int b2 c2, .int b3 c3]) (ys := #[.int a0 t0, .int a1 t1, .int a2 t2, .int a3 t3]) ⟨_, nat_ N6 7 rfl, rfl, 0, rfl⟩ ⟨_, hqn.1, rfl, 0, rfl⟩ ?_
          intro hZ z1 z2 z3 z4 z5 z6 z7
          have FZ := F6.grownK z7
          have NZ := N6.grown z7
          dsimp only at z1 z2 z3 z4 z5 z6
          dsimp only
          have hT1 : hZ.IsTuple r #[.int b0 c0, .int b1 c1, .int b2 c2, .int b3 c3] := ⟨_, nat_ NZ 7 rfl, rfl, 0, rfl⟩
          have hT2 : hZ.IsTuple q #[.int a0 t0, .int a1 t1, .int a2 t2, .int a3 t3] := ⟨_, (NZ _ (hqm [_, _, _, _, _, _, _, _])).1, rfl, 0, rfl⟩
          have NZ4 := pull4 NZ
          refine ⟨_, _, h₁.objs.size, r, q, b0, b1, b2, b3, a0, a1, a2, a3, c0, c1, c2, c3, t0, t1, t2, t3, ⟨rfl, FZ, NZ4, ?_, hps, hgn, F6.ns.lt, Heap.lt_size (nat_ N6 4 rfl), fun p hp => Heap.lt_size (pull4 N6 p (.tail _ hp)).1, ?_, z1, z2, z3, z4, z5, hT1, hT2, Heap.lt_size (nat_ N6 7 rfl), Heap.lt_size hqn.1, g3, hn72 _ hq, ?_⟩⟩
          · have hI72 := hne _ (.tail _ (.tail _ (.tail _ (.head _))))
            (repeat' (refine List.forall_mem_cons.mpr ⟨?_, ?_⟩)) <;> first | exact Ne.symm hI72 | exact hn72 | exact g1 | exact g2 | exact g3 | (refine neN ?_; dsimp only; omega)
          · obtain ⟨mc, hns, _⟩ := (Top.nolimit (by assumption) : Heap.NoLimit _).keeps F6.keep
            exact hns.lt
          · intro a' gs h5 tk5 F7 hcall
            refine wpAny_pure ?_
            refine hcall _ _ ?_
            intro D h6 tk6 g6 ps' u0 u1 u2 u3 hb6 ht6 F8 N8 hl8 hN8 hP8
            have lD := hl8 _ (.tail _ (.tail _ (.tail _ (.head _))))
            clear F7 hcall FZ NZ NZ4 F6 N6
            have lD' : @LT.lt Nat _ dN D := lD
            k_steps
            refine dict_set F8 (pull5 N8) ?_ ho' ?_ ?_
            · (repeat' (refine List.forall_mem_cons.mpr ⟨?_, ?_⟩)) <;> first | exact Ne.symm hne1 | (refine neN ?_; dsimp only; omega) | (intro p hp; have := ktn_ltOf e4 p hp; exact Nat.ne_of_lt this)
            · unfold sizeLine; omega
            · intro h2 o2' F9 N9 hd9
              dsimp only
              refine wpAny_execs_nil ?_
              dsimp only
              refine wpAny_execs_nil ?_
              dsimp only
              refine wpAny_execs_nil ?_
              refine GStep.next (news' := (dN, o2') :: (72, tabObj ps') :: ([(D, tup [.int (b0 + a0) u0, .int (b1 + a1) u1, .int (b2 + a2) u2, .int (b3 + a3) u3])] ++ (d1, o1) :: (d2, o2) :: (r, tup [.int b0 c0, .int b1 c1, .int b2 c2, .int b3 c3]) :: news)) F9 (News.perm N9 ?_) ?_
                ⟨by first | rfl | trivial, .inr ⟨by first | trivial | rfl, hb6, o2', _, ps', [_], rfl, ht6, hd9, (fun p hp => by rw [List.mem_singleton.mp hp]; exact Nat.ne_of_gt hP8), (fun p hp z hz => by rw [List.mem_singleton.mp hp]; exact hl8 z (.tail _ (.tail _ (.tail _ (.tail _ (.tail _ (.tail _ (.tail _ hz)))))))), .inr ⟨q, a0, a1, a2, a3, t0, t1, t2, t3, D, u0, u1, u2, u3, hv, hq, rfl, rfl⟩⟩⟩
              · intro p hp
                simp only [List.mem_append, List.mem_cons, List.singleton_append, List.not_mem_nil, or_false] at hp ⊢
                rcases hp with h | h | h | h | h | h | h | h <;> simp only [h, true_or, or_true]
              · intro p hp z
                have lI := hl8 _ (.head _)
                rcases List.mem_cons.mp hp with rfl | hp
                · exact hne1 (List.mem_singleton.mp z)
                · rcases List.mem_cons.mp hp with rfl | hp
                  · exact hne _ (.tail _ (.tail _ (.tail _ (.head _)))) (List.mem_singleton.mp z)
                  · rcases List.mem_cons.mp hp with rfl | hp
                    · exact absurd (List.mem_singleton.mp z) (Nat.ne_of_gt lI)
                    · exact hne p (.tail _ (.tail _ (.tail _ (.tail _ hp)))) (List.mem_singleton.mp z)
      · exact absurd hku (by simp)
    · rintro h₁ tk₁ g₁ m₁ news₁ F4 N4 ⟨hm1, ⟨h0, _⟩ | ⟨_, hb, o'', v, ps', extra, rfl, ht, ho'', hx, hxl, hres⟩⟩
      · exact absurd h0 (by simp)
      · rw [map_known hm1] at F4
        dsimp only
        clear F3 N3 F2 N2
        k_steps
        exact hret _ _ _ _ _ _ _ _ hb ht (by assumption) (by assumption) ho'' lon (Nat.ne_of_gt e0) (ktn_ltOf e4) hx hxl hres
end Mine
end

section -- Af
open PySem PySem.W PySem.Spec PySem.Calls PyProof.Rows
theorem Mine.fillAf : (Challenge.rw_ph0127_01.prog = Challenge.rw_ph0127_01.prog ∧ Mine.hd.heap_1 = Mine.hd.heap_1) := by k_fill; exact ⟨rfl, rfl⟩
namespace Mine
theorem drop_mid {h₀ h : Heap} {L : Addr} {R D T x1 x2 rr y1 y2 : Addr × Obj} {extra news : List (Addr × Obj)} (N : News h₀ L h (R :: D :: T :: (extra ++ x1 :: x2 :: rr :: y1 :: y2 :: news))) : News h₀ L h (R :: D :: T :: (extra ++ rr :: news)) := News.perm N (by
  intro p hp
  simp only [List.mem_cons, List.mem_append] at hp ⊢
  rcases hp with h | h | h | h | h | h <;> simp only [h, true_or, or_true])
local macro_rules | `(tactic| walk_at "call ref") => `(tactic| (k_here; (with_reducible show wpAny _ _ (call (Value.ref 77) _) _ _ _); refine Halt.out ?_))
theorem af_call {w : World} {te se d1 d2 r : Addr} {o1 o2 : Obj} {kvs : List (Int × Value)} {k : Int} {ps : Array Value}
    {p : Program} {loose : List Str} {mean : ExcName → Option Value} {mg mb : Str → Option Value} {dp un : Nat} {gd : Option (List Code)} {cn : Str} {cs : Scope} {a : Addr} {ccd : Value} {cl : List (Str × Addr)} {outer : List Env} {A₀ : Around} {base h₀ : Heap} {L : Addr} {m : Str → Option Value} {news : List (Addr × Obj)} {s : Shared}
    {Q E : Value → Shared → Prop} {b0 b1 b2 b3 x0 x1 x2 x3 : Int} {c0 c1 c2 c3 v0 v1 v2 v3 y0 y1 y2 y3 : Tok}
    (B : Below A₀ base outer h₀) (F : Fr h₀ L s.heap m) (X : (Mine.hd.heap_1 w.params).In h₀)
    (N : News h₀ L s.heap ((72, tabObj ps) :: (te, tup [.int x0 y0, .int x1 y1, .int x2 y2, .int x3 y3, .ref d1]) :: (se, tup [.int b0 v0, .int b1 v1, .int b2 v2, .int b3 v3, .ref d2]) :: (d1, o1) :: (d2, o2) :: (r, tup [.int b0 c0, .int b1 c1, .int b2 c2, .int b3 c3]) :: news))
    (hC : CodeHd h₀ 76 72) (hps : TriplesOk ps.toList) (hn72 : ∀ p ∈ news, p.1 ≠ 72) (g1 : d1 ≠ 72) (g2 : d2 ≠ 72) (g3 : r ≠ 72) (g4 : te ≠ 72) (g5 : se ≠ 72)
    (T : Top p loose mean mg mb h₀) (hk : cs.kind = .function) (hd : dp + 7 < recursionLimit) (hu : un + 60 < cLine)
    (hd1 : o1.IsDictOf (intKind lawProg w) kvs) (hd2 : o2.IsDictOf (intKind lawProg w) [(k, .ref r)]) (lo1 : (d1 == sysModules) = false) (lo2 : (d2 == sysModules) = false) (hlen : kvs.length ≤ 100) (hgn : AllBare s.gens)
    (hcase : valueAt kvs k = none ∨ ∃ q a0 a1 a2 a3 t0 t1 t2 t3, valueAt kvs k = some (.ref q) ∧ (q, tup [.int a0 t0, .int a1 t1, .int a2 t2, .int a3 t3]) ∈ news)
    (hret : ∀ R D h' tk' g' ps' o' v extra z0 z1 z2 z3, AllBare g' → TriplesOk ps'.toList → Fr h₀ L h' m →
      News h₀ L h' ((R, tup [.int (b0 + x0) z0, .int (b1 + x1) z1, .int (b2 + x2) z2, .int (b3 + x3) z3, .ref D]) :: (D, o') :: (72, tabObj ps') :: (extra ++ (r, tup [.int b0 c0, .int b1 c1, .int b2 c2, .int b3 c3]) :: news)) → o'.IsDictOf (intKind lawProg w) (stored kvs k v) → (D == sysModules) = false → D ≠ 72 → R ≠ 72 → (∀ p ∈ news, p.1 < D) → (∀ p ∈ news, p.1 < R) → (∀ p ∈ extra, p.1 ≠ 72) → (∀ p ∈ extra, ∀ q ∈ news, q.1 < p.1) →
      (valueAt kvs k = none ∧ v = .ref r ∧ extra = [] ∨ ∃ q a0 a1 a2 a3 t0 t1 t2 t3 T u0 u1 u2 u3, valueAt kvs k = some (.ref q) ∧ (q, tup [.int a0 t0, .int a1 t1, .int a2 t2, .int a3 t3]) ∈ news ∧ v = .ref T ∧
        extra = [(T, tup [.int (b0 + a0) u0, .int (b1 + a1) u1, .int (b2 + a2) u2, .int (b3 + a3) u3])]) →
      Q (.ref R) ⟨h', g', s.drawn, tk', s.os⟩) :
    wpAny (model lawProg w) (ktrTop dp un gd cn cs L a ccd cl outer) (call (.ref 70) [.ref te, .ref se]) Q E s := by
  refine wpAny_call ?_
  k_dflt ktr_enter
  rename Fr h₀ L _ m => FG
  have hC' := hC.keeps FG.keep
  k_steps
  refine Halt.on ?_
  rename Fr _ _ _ _ => F1
  rename News _ _ _ _ => N1
  refine ac_call (k := k) (kvs := kvs) (ps := ps) (b0 := b0) (b1 := b1) (b2 := b2) (b3 := b3) (c0 := c0) (c1 := c1) (c2 := c2) (c3 := c3) (news := (te, tup [.int x0 y0, .int x1 y1, .int x2 y2, .int x3 y3, .ref d1]) :: (se, tup [.int b0 v0, .int b1 v1, .int b2 v2, .int b3 v3, .ref d2]) :: news) (by assumption) F1 (by assumption) (News.perm N1 ?_) hC' hps ?_ g1 g2 g3 (by assumption) rfl ?_ ?_ hd1 hd2 lo1 lo2 hlen hgn ?_ ?_
  · intro p hp
    simp only [List.mem_cons] at hp ⊢
    rcases hp with h | h | h | h | h | h | h <;> simp only [h, true_or, or_true]
  · exact List.forall_mem_cons.mpr ⟨g4, List.forall_mem_cons.mpr ⟨g5, hn72⟩⟩
  · show dp + 1 + 5 < recursionLimit; omega
  · show un + 3 + 40 < cLine; omega
  · exact hcase.imp id fun ⟨q, a0, a1, a2, a3, t0, t1, t2, t3, hv, hq⟩ => ⟨q, a0, a1, a2, a3, t0, t1, t2, t3, hv, .tail _ (.tail _ hq)⟩
  · intro D h' tk' g' ps' o' v extra hb ht F2 N2 ho hlo hD72 hDl hx hxl hres
    clear F1 N1
    refine wpAny_pure ?_
    k_steps
    rename Fr h₀ L _ m => F9
    rename News h₀ L _ _ => N9
    rename _ < _ ∧ _ < _ ∧ AllLt _ _ => l9
    refine hret _ D _ _ g' ps' o' v extra _ _ _ _ hb ht F9 (drop_mid N9) ho hlo hD72 ?_ (fun p hp => hDl p (.tail _ (.tail _ hp))) (fun p hp => ktn_ltOf l9.2.2 p (List.mem_append_right _ (.tail _ (.tail _ (.tail _ (.tail _ (.tail _ hp))))))) hx (fun p hp z hz => hxl p hp z (.tail _ (.tail _ hz))) ?_
    · exact Nat.ne_of_gt l9.2.1
    · rcases hres with h | ⟨q, a0, a1, a2, a3, t0, t1, t2, t3, T', u0, u1, u2, u3, hv, hq, hv2, hx2⟩
      · exact .inl h
      · refine .inr ⟨q, a0, a1, a2, a3, t0, t1, t2, t3, T', u0, u1, u2, u3, hv, ?_, hv2, hx2⟩
        rcases List.mem_cons.mp hq with e | hq
        · exact absurd (congrArg (fun z : Addr × Obj => z.2.data) e) (by simp)
        · rcases List.mem_cons.mp hq with e | hq
          · exact absurd (congrArg (fun z : Addr × Obj => z.2.data) e) (by simp)
          · exact hq
end Mine
end

section -- Lp
open PySem PySem.W PySem.Spec PySem.Calls PyProof.Rows
theorem Mine.fillLp : (Challenge.rw_ph0127_01.prog = Challenge.rw_ph0127_01.prog ∧ Mine.hd.heap_1 = Mine.hd.heap_1) := by k_fill; exact ⟨rfl, rfl⟩
namespace Mine
def pk2 (t : Int) : Int := Int.fdiv (t * (t - 1)) 2
def pk3 (t : Int) : Int := Int.fdiv (t * (t - 1) * (t - 2)) 6
theorem lp_call {w : World} {t : Int} {u : Tok} (ht0 : 0 ≤ t) (ht3 : t ≤ 3)
    {p : Program} {loose : List Str} {mean : ExcName → Option Value} {mg mb : Str → Option Value} {dp un : Nat} {gd : Option (List Code)} {cn : Str} {cs : Scope} {a : Addr} {ccd : Value} {cl : List (Str × Addr)} {outer : List Env} {A₀ : Around} {base h₀ : Heap} {L : Addr} {m : Str → Option Value} {news : List (Addr × Obj)} {s : Shared}
    {Q E : Value → Shared → Prop}
    (B : Below A₀ base outer h₀) (F : Fr h₀ L s.heap m) (X : (Mine.hd.heap_1 w.params).In h₀) (N : News h₀ L s.heap news) (T : Top p loose mean mg mb h₀) (hk : cs.kind = .function) (hd : dp + 5 < recursionLimit) (hu : un + 40 < cLine)
    (hret : ∀ D h' tk' u0 u1 u2 u3, Fr h₀ L h' m → News h₀ L h' ((D, tup [.int 1 u0, .int t u1, .int (pk2 t) u2, .int (pk3 t) u3]) :: news) → (∀ p ∈ news, p.1 < D) → Q (.ref D) { s with heap := h', toks := tk' }) :
    wpAny (model lawProg w) (ktrTop dp un gd cn cs L a ccd cl outer) (call (.ref 96) [.int t u]) Q E s := by
  refine wpAny_call ?_
  k_dflt ktr_enter
  k_steps
  exact hret _ _ _ _ _ _ _ (by assumption) (by assumption) (by assumption)
end Mine
end

section -- Ent
open PySem PySem.W PySem.Spec PySem.Calls PyProof.Rows
namespace Mine
abbrev Row := Int × Int × Int × Int
abbrev Ent := Int × Row
def addR (a b : Row) : Row := (a.1 + b.1, a.2.1 + b.2.1, a.2.2.1 + b.2.2.1, a.2.2.2 + b.2.2.2)
def addE (E : List Ent) (k : Int) (r : Row) : List Ent :=
  if E.any (fun e => decide (e.1 = k)) then E.map (fun e => if e.1 = k then (e.1, addR r e.2) else e) else E ++ [(k, r)]
def rowOf (t : Int) : Row := (1, t, pk2 t, pk3 t)
structure PSt where
  tot : Row
  ents : List Ent
def paint (st : PSt) (n : Nat) : PSt := ⟨addR (rowOf ((n / 16 : Nat) : Int)) st.tot, addE st.ents ((n % 16 : Nat) : Int) (rowOf ((n / 16 : Nat) : Int))⟩
abbrev tupR (r : Row) (t : Tok × Tok × Tok × Tok) : Obj := tup [.int r.1 t.1, .int r.2.1 t.2.1, .int r.2.2.1 t.2.2.1, .int r.2.2.2 t.2.2.2]

/-- the ledger bears the entries -/
def EntRel (ents : List (Addr × Obj)) : List (Int × Value) → List Ent → Prop
  | [], [] => True
  | kv :: kvs, e :: E => kv.1 = e.1 ∧ (∃ q t, kv.2 = .ref q ∧ (q, tupR e.2 t) ∈ ents) ∧ EntRel ents kvs E
  | _, _ => False
theorem EntRel.mono {l l' : List (Addr × Obj)} (hs : ∀ p ∈ l, p ∈ l') : ∀ {kvs : List (Int × Value)} {E : List Ent}, EntRel l kvs E → EntRel l' kvs E
  | [], [], _ => trivial
  | _ :: _, _ :: _, ⟨h1, ⟨q, t, h2, h3⟩, h4⟩ => ⟨h1, ⟨q, t, h2, hs _ h3⟩, h4.mono hs⟩
theorem EntRel.length {l : List (Addr × Obj)} : ∀ {kvs : List (Int × Value)} {E : List Ent}, EntRel l kvs E → kvs.length = E.length
  | [], [], _ => rfl
  | _ :: _, _ :: _, ⟨_, _, h4⟩ => by rw [List.length_cons, List.length_cons, h4.length]
theorem EntRel.any {l : List (Addr × Obj)} {k : Int} : ∀ {kvs : List (Int × Value)} {E : List Ent}, EntRel l kvs E → kvs.any (fun e => decide (e.1 = k)) = E.any (fun e => decide (e.1 = k))
  | [], [], _ => rfl
  | _ :: _, _ :: _, ⟨h1, _, h4⟩ => by rw [List.any_cons, List.any_cons, h1, h4.any]
theorem EntRel.append {l : List (Addr × Obj)} {k : Int} {q : Addr} {r : Row} {t : Tok × Tok × Tok × Tok} (hq : (q, tupR r t) ∈ l) : ∀ {kvs : List (Int × Value)} {E : List Ent}, EntRel l kvs E → EntRel l (kvs ++ [(k, .ref q)]) (E ++ [(k, r)])
  | [], [], _ => ⟨rfl, ⟨q, t, rfl, hq⟩, trivial⟩
  | _ :: _, _ :: _, ⟨h1, h2, h4⟩ => ⟨h1, h2, h4.append hq⟩
/-- every value under the key is the one found: so with the key's one value replaced -/
theorem EntRel.replace {l : List (Addr × Obj)} {k : Int} {q : Addr} {r a : Row} {t : Tok × Tok × Tok × Tok} (hq : (q, tupR (addR r a) t) ∈ l) :
    ∀ {kvs : List (Int × Value)} {E : List Ent}, EntRel l kvs E → (∀ e ∈ E, e.1 = k → e.2 = a) → EntRel l (kvs.map (fun kv => if kv.1 = k then (kv.1, .ref q) else kv)) (E.map (fun e => if e.1 = k then (e.1, addR r e.2) else e))
  | [], [], _, _ => trivial
  | kv :: kvs, e :: E, ⟨h1, h2, h4⟩, ha => by
    have ih := h4.replace hq (fun e he => ha e (.tail _ he))
    by_cases hk : e.1 = k
    · have hkv : kv.1 = k := h1.trans hk
      have hea := ha e (.head _) hk
      simp only [List.map_cons, if_pos hk, if_pos hkv]
      exact ⟨h1, ⟨q, t, rfl, by rw [hea]; exact hq⟩, ih⟩
    · have hkv : ¬ kv.1 = k := fun x => hk (h1.symm.trans x)
      simp only [List.map_cons, if_neg hk, if_neg hkv]
      exact ⟨h1, h2, ih⟩
theorem EntRel.keys {l : List (Addr × Obj)} : ∀ {kvs : List (Int × Value)} {E : List Ent}, EntRel l kvs E → kvs.map (·.1) = E.map (·.1)
  | [], [], _ => rfl
  | _ :: _, _ :: _, ⟨h1, _, h4⟩ => by rw [List.map_cons, List.map_cons, h1, h4.keys]
theorem EntRel.find {l : List (Addr × Obj)} {k : Int} : ∀ {kvs : List (Int × Value)} {E : List Ent}, EntRel l kvs E →
    (valueAt kvs k = none ∧ E.any (fun e => decide (e.1 = k)) = false) ∨ ∃ e ∈ E, e.1 = k ∧ ∃ q t, valueAt kvs k = some (.ref q) ∧ (q, tupR e.2 t) ∈ l
  | [], [], _ => .inl ⟨rfl, rfl⟩
  | kv :: kvs, e :: E, ⟨h1, ⟨q, t, h2, h3⟩, h4⟩ => by
    by_cases hk : e.1 = k
    · exact .inr ⟨e, .head _, hk, q, t, by simp [valueAt, h1.trans hk, h2], h3⟩
    · have hkv : ¬ kv.1 = k := fun x => hk (h1.symm.trans x)
      rcases h4.find (k := k) with ⟨a, b⟩ | ⟨e', he, a, q', t', b, c⟩
      · exact .inl ⟨by unfold valueAt at a ⊢; rw [List.find?_cons, decide_eq_false hkv]; exact a, by rw [List.any_cons, decide_eq_false hk, b]; rfl⟩
      · exact .inr ⟨e', .tail _ he, a, q', t', by unfold valueAt at b ⊢; rw [List.find?_cons, decide_eq_false hkv]; exact b, c⟩
theorem uniq_key {E : List Ent} (hn : (E.map (·.1)).Nodup) {e e' : Ent} (h : e ∈ E) (h' : e' ∈ E) (hk : e.1 = e'.1) : e = e' := by
  induction E with
  | nil => cases h
  | cons x E ih =>
    rw [List.map_cons, List.nodup_cons] at hn
    rcases List.mem_cons.mp h with h1 | h1
    · rcases List.mem_cons.mp h' with h2 | h2
      · rw [h1, h2]
      · exact absurd (List.mem_map.mpr ⟨e', h2, by rw [← hk, h1]⟩ : x.1 ∈ E.map (·.1)) hn.1
    · rcases List.mem_cons.mp h' with h2 | h2
      · exact absurd (List.mem_map.mpr ⟨e, h1, by rw [hk, h2]⟩ : x.1 ∈ E.map (·.1)) hn.1
      · exact ih hn.2 h1 h2
theorem tupR_inj {a b : Row} {t u : Tok × Tok × Tok × Tok} (h : tupR a t = tupR b u) : a = b := by
  obtain ⟨a0, a1, a2, a3⟩ := a
  obtain ⟨b0, b1, b2, b3⟩ := b
  have h1 := congrArg (fun o : Obj => match o.data with | .seq xs _ => xs.toList | _ => []) h
  simp only [tupR, tup, List.cons.injEq, Value.int.injEq] at h1
  simp only [Prod.mk.injEq]
  exact ⟨h1.1.1, h1.2.1.1, h1.2.2.1.1, h1.2.2.2.1.1⟩

/-- the entries behind one more colour -/
theorem EntRel.put {h₀ h : Heap} {L : Addr} {ents : List (Addr × Obj)} {kvs : List (Int × Value)} {E : List Ent} {k : Int} {r : Addr} {row : Row} {c : Tok × Tok × Tok × Tok} {v : Value} {extra : List (Addr × Obj)} {news : List (Addr × Obj)}
    (R : EntRel ents kvs E) (hn : (kvs.map (·.1)).Nodup) (N : News h₀ L h news) (hsub : ∀ p ∈ ents, p ∈ news)
    (hres : valueAt kvs k = none ∧ v = .ref r ∧ extra = [] ∨ ∃ q a0 a1 a2 a3 t0 t1 t2 t3 T u0 u1 u2 u3, valueAt kvs k = some (.ref q) ∧ (q, tup [.int a0 t0, .int a1 t1, .int a2 t2, .int a3 t3]) ∈ news ∧ v = .ref T ∧
        extra = [(T, tup [.int (row.1 + a0) u0, .int (row.2.1 + a1) u1, .int (row.2.2.1 + a2) u2, .int (row.2.2.2 + a3) u3])]) :
    EntRel (extra ++ (r, tupR row c) :: ents) (stored kvs k v) (addE E k row) := by
  have hm : ∀ p ∈ ents, p ∈ extra ++ (r, tupR row c) :: ents := fun p hp => List.mem_append_right _ (.tail _ hp)
  have ha := R.any (k := k)
  rcases R.find (k := k) with ⟨hv, hany⟩ | ⟨e, he, hek, q', t', hv, hq'⟩
  · rcases hres with ⟨_, rfl, rfl⟩ | ⟨q, _, _, _, _, _, _, _, _, _, _, _, _, _, hv', _⟩
    · unfold stored addE
      rw [ha, hany]
      simp only [Bool.false_eq_true, if_false]
      exact (R.mono hm).append (t := c) (List.mem_append_right _ (.head _))
    · rw [hv] at hv'; cases hv'
  · have hany : E.any (fun e => decide (e.1 = k)) = true := List.any_eq_true.mpr ⟨e, he, by simpa using hek⟩
    rcases hres with ⟨hv', _⟩ | ⟨q, a0, a1, a2, a3, t0, t1, t2, t3, T, u0, u1, u2, u3, hv', hq, rfl, rfl⟩
    · rw [hv] at hv'; cases hv'
    · have hqq : q' = q := by rw [hv] at hv'; cases hv'; rfl
      subst hqq
      have e1 := (N _ (hsub _ hq')).1
      have e2 := (N _ hq).1
      have e3 : tupR e.2 t' = tupR (a0, a1, a2, a3) (t0, t1, t2, t3) := Option.some.inj (e1.symm.trans e2)
      have hea : e.2 = (a0, a1, a2, a3) := tupR_inj e3
      unfold stored addE
      rw [ha, hany]
      simp only [if_true]
      have hkn : (E.map (·.1)).Nodup := by rw [← R.keys]; exact hn
      exact (R.mono hm).replace (a := (a0, a1, a2, a3)) (t := (u0, u1, u2, u3)) (List.mem_append_left _ (.head _)) (fun e' he' hk' => by rw [← hea, uniq_key hkn he' he (hk'.trans hek.symm)])
end Mine
end

section -- Pa
open PySem PySem.W PySem.Spec PySem.Calls PyProof.Rows
theorem Mine.fillPa : (Challenge.rw_ph0127_01.prog = Challenge.rw_ph0127_01.prog ∧ Mine.hd.heap_1 = Mine.hd.heap_1) := by k_fill; exact ⟨rfl, rfl⟩
namespace Mine
abbrev Spot := Nat × Nat × Nat
def SpotOk (x : Spot) : Prop := x.1 < 32 ∧ (1 ≤ x.2.1 ∧ x.2.1 ≤ 4) ∧ (1 ≤ x.2.2 ∧ x.2.2 ≤ 4)
abbrev spotL (x : Spot) (t : Tok × Tok × Tok) (n : Nat) : Obj := listOf #[.int x.1 t.1, .int x.2.1 t.2.1, .int x.2.2 t.2.2] n
def SpotsRel (l : List (Addr × Obj)) : List Value → List Spot → Prop
  | [], [] => True
  | v :: vs, x :: xs => (∃ a t n, v = .ref a ∧ (a, spotL x t n) ∈ l) ∧ SpotsRel l vs xs
  | _, _ => False
theorem SpotsRel.at {l : List (Addr × Obj)} : ∀ {vs : List Value} {xs : List Spot}, SpotsRel l vs xs → ∀ {i : Nat} {v : Value}, vs[i]? = some v → ∃ x a t n, xs[i]? = some x ∧ v = .ref a ∧ (a, spotL x t n) ∈ l
  | v :: vs, x :: xs, ⟨⟨a, t, n, h1, h2⟩, r⟩, 0, u, e => ⟨x, a, t, n, rfl, (Option.some.inj e).symm.trans h1, h2⟩
  | v :: vs, x :: xs, ⟨_, r⟩, i + 1, u, e => r.at (i := i) (by simpa using e)
  | [], _, _, i, v, e => by simp at e
theorem SpotsRel.length {l : List (Addr × Obj)} : ∀ {vs : List Value} {xs : List Spot}, SpotsRel l vs xs → vs.length = xs.length
  | [], [], _ => rfl
  | _ :: _, _ :: _, ⟨_, r⟩ => by rw [List.length_cons, List.length_cons, r.length]

/-- the painting's state over the ledger's foot -/
inductive PS (w : World) (B : List (Addr × Obj)) (st : PSt) (m' : Str → Option Value) (l : List (Addr × Obj)) (g : Array GenState) : Prop
  | mk (R D : Addr) (o : Obj) (ps : Array Value) (ents : List (Addr × Obj)) (kvs : List (Int × Value)) (y0 y1 y2 y3 : Tok)
      (hl : l = (72, tabObj ps) :: (R, tup [.int st.tot.1 y0, .int st.tot.2.1 y1, .int st.tot.2.2.1 y2, .int st.tot.2.2.2 y3, .ref D]) :: (D, o) :: (ents ++ B))
      (hm : m' (Str.ofString "entry") = some (.ref R)) (hg : AllBare g) (ht : TriplesOk ps.toList) (ho : o.IsDictOf (intKind lawProg w) kvs) (lo : (D == sysModules) = false)
      (hR : R ≠ 72) (hD : D ≠ 72) (he : ∀ p ∈ ents, p.1 ≠ 72) (hE : EntRel ents kvs st.ents)
      (aR : ∀ q ∈ B, R ≠ q.1) (aD : ∀ q ∈ B, D ≠ q.1) (aE : ∀ p ∈ ents, ∀ q ∈ B, p.1 ≠ q.1)

theorem PS.down {w : World} {own news l : List (Addr × Obj)} {st : PSt} {m' m'' : Str → Option Value} {g : Array GenState} {I l1 L : Addr} {ol1 : Obj} {h₀ h : Heap} (hP : PS w news st m' l g) (hm' : m'' (Str.ofString "entry") = m' (Str.ofString "entry")) (hne : ∀ p ∈ l, p.1 ≠ I) (hown : ∀ p ∈ own, p.1 = I ∨ p.1 = l1) (hl1 : (l1, ol1) ∈ news) (N : News h₀ L h (own ++ l)) :
    ∃ l', PS w (own ++ news) st m'' l' g ∧ News h₀ L h l' := by
  obtain ⟨R, D, o, ps, ents, kvs, y0, y1, y2, y3, rfl, hm, hg, ht, ho, lo, hR, hD, he, hE, aR, aD, aE⟩ := hP
  refine ⟨_, .mk R D o ps ents kvs y0 y1 y2 y3 rfl (hm'.trans hm) hg ht ho lo hR hD he hE ?_ ?_ ?_, News.perm N ?_⟩
  · intro q hq
    rcases List.mem_append.mp hq with hq | hq
    · rcases hown q hq with e | e
      · rw [e]; exact hne (R, _) (.tail _ (.head _))
      · rw [e]; exact aR _ hl1
    · exact aR q hq
  · intro q hq
    rcases List.mem_append.mp hq with hq | hq
    · rcases hown q hq with e | e
      · rw [e]; exact hne (D, o) (.tail _ (.tail _ (.head _)))
      · rw [e]; exact aD _ hl1
    · exact aD q hq
  · intro p hp q hq
    rcases List.mem_append.mp hq with hq | hq
    · rcases hown q hq with e | e
      · rw [e]; exact hne p (.tail _ (.tail _ (.tail _ (List.mem_append_left _ hp))))
      · rw [e]; exact aE p hp _ hl1
    · exact aE p hp q hq
  · intro p hp
    simp only [List.mem_cons, List.mem_append] at hp ⊢
    rcases hp with h | h | h | h | h | h <;> simp only [h, true_or, or_true]
theorem PS.up {w : World} {own news l : List (Addr × Obj)} {st : PSt} {m' : Str → Option Value} {g : Array GenState} {I L : Addr} {io : Obj} {h₀ h : Heap} (hP : PS w (own ++ news) st m' l g) (hI : (I, io) ∈ own) (h72 : 72 ≠ I) (hne : ∀ p ∈ news, p.1 ≠ I) (N : News h₀ L h l) :
    ∃ l', PS w news st m' l' g ∧ News h₀ L h (own ++ l') ∧ ∀ p ∈ l', p.1 ≠ I := by
  obtain ⟨R, D, o, ps, ents, kvs, y0, y1, y2, y3, rfl, hm, hg, ht, ho, lo, hR, hD, he, hE, aR, aD, aE⟩ := hP
  have hI' : (I, io) ∈ own ++ news := List.mem_append_left _ hI
  refine ⟨_, .mk R D o ps ents kvs y0 y1 y2 y3 rfl hm hg ht ho lo hR hD he hE (fun q hq => aR q (List.mem_append_right _ hq)) (fun q hq => aD q (List.mem_append_right _ hq)) (fun p hp q hq => aE p hp q (List.mem_append_right _ hq)), News.perm N ?_, ?_⟩
  · intro p hp
    simp only [List.mem_cons, List.mem_append] at hp ⊢
    rcases hp with h | h | h | h | h | h <;> simp only [h, true_or, or_true]
  · refine List.forall_mem_cons.mpr ⟨h72, List.forall_mem_cons.mpr ⟨aR _ hI', List.forall_mem_cons.mpr ⟨aD _ hI', fun p hp => ?_⟩⟩⟩
    rcases List.mem_append.mp hp with hp | hp
    · exact aE p hp _ hI'
    · exact hne p hp
theorem PS.in {w : World} {B l : List (Addr × Obj)} {st : PSt} {m' : Str → Option Value} {g : Array GenState} (hP : PS w B st m' l g) : ∀ p ∈ B, p ∈ l := by
  obtain ⟨R, D, o, ps, ents, kvs, y0, y1, y2, y3, rfl, _⟩ := hP
  exact fun p hp => .tail _ (.tail _ (.tail _ (List.mem_append_right _ hp)))
theorem PS.tab {w : World} {B l : List (Addr × Obj)} {st : PSt} {m' : Str → Option Value} {g : Array GenState} (hP : PS w B st m' l g) : ∃ ps, (72, tabObj ps) ∈ l := by
  obtain ⟨R, D, o, ps, ents, kvs, y0, y1, y2, y3, rfl, _⟩ := hP
  exact ⟨ps, .head _⟩
theorem pa_arr {h₀ h : Heap} {L : Addr} {a1 a2 T R D : Addr × Obj} {own2 ents B : List (Addr × Obj)} (N : News h₀ L h (own2 ++ (T :: R :: D :: (ents ++ B)))) (h1 : a1 ∈ B) (h2 : a2 ∈ B) : News h₀ L h (a1 :: a2 :: T :: R :: D :: (own2 ++ (ents ++ B))) := News.perm N (by
  intro p hp
  simp only [List.mem_cons, List.mem_append] at hp ⊢
  rcases hp with h | h | h | h | h | h | h | h
  · simp only [h, h1, or_true]
  · simp only [h, h2, or_true]
  all_goals simp only [h, true_or, or_true])
def inner (x : Spot) (ys : List Spot) (st : PSt) : PSt := ys.foldl (fun st y => paint st (x.1 + y.1)) st
def outerP (xs ys : List Spot) (st : PSt) : PSt := xs.foldl (fun st x => inner x ys st) st
def st0 : PSt := ⟨(0, 0, 0, 0), []⟩
theorem inner_take {x y : Spot} {ys : List Spot} {st : PSt} {j : Nat} (h : ys[j]? = some y) : inner x (ys.take (j + 1)) st = paint (inner x (ys.take j) st) (x.1 + y.1) := by
  unfold inner; rw [List.take_succ, h, List.foldl_append]; rfl
theorem outer_take {x : Spot} {xs ys : List Spot} {st : PSt} {j : Nat} (h : xs[j]? = some x) : outerP (xs.take (j + 1)) ys st = inner x ys (outerP (xs.take j) ys st) := by
  unfold outerP; rw [List.take_succ, h, List.foldl_append]; rfl
theorem addE_len (E : List Ent) (k : Int) (r : Row) : (addE E k r).length ≤ E.length + 1 := by
  unfold addE; split
  · rw [List.length_map]; omega
  · rw [List.length_append]; simp
theorem inner_len (x : Spot) (ys : List Spot) : ∀ st : PSt, (inner x ys st).ents.length ≤ st.ents.length + ys.length := by
  induction ys with
  | nil => intro st; exact Nat.le_refl _
  | cons y ys ih => intro st; have h1 := ih (paint st (x.1 + y.1)); have h2 := addE_len st.ents (((x.1 + y.1) % 16 : Nat) : Int) (rowOf (((x.1 + y.1) / 16 : Nat) : Int)); show (inner x ys (paint st (x.1 + y.1))).ents.length ≤ _; rw [List.length_cons]; have h3 : (paint st (x.1 + y.1)).ents.length ≤ st.ents.length + 1 := h2; omega
theorem outer_len (xs ys : List Spot) : ∀ st : PSt, (outerP xs ys st).ents.length ≤ st.ents.length + xs.length * ys.length := by
  induction xs with
  | nil => intro st; simp [outerP]
  | cons x xs ih => intro st; have h1 := ih (inner x ys st); have h2 := inner_len x ys st; show (outerP xs ys (inner x ys st)).ents.length ≤ _; rw [List.length_cons, Nat.add_mul, Nat.one_mul]; omega
theorem PS.step {w : World} {B own2 ents extra : List (Addr × Obj)} {kvs : List (Int × Value)} {st : PSt} {n : Nat} {R D r I L : Addr} {o io : Obj} {v : Value} {ps : Array Value} {h₀ h : Heap} {m' : Str → Option Value} {g : Array GenState} {z0 z1 z2 z3 c0 c1 c2 c3 : Tok}
    (hE : EntRel ents kvs st.ents) (hn : (kvs.map (·.1)).Nodup)
    (N : News h₀ L h ((R, tup [.int (1 + st.tot.1) z0, .int (((n / 16 : Nat) : Int) + st.tot.2.1) z1, .int (pk2 ((n / 16 : Nat) : Int) + st.tot.2.2.1) z2, .int (pk3 ((n / 16 : Nat) : Int) + st.tot.2.2.2) z3, .ref D]) :: (D, o) :: (72, tabObj ps) :: (extra ++ (r, tup [.int 1 c0, .int ((n / 16 : Nat) : Int) c1, .int (pk2 ((n / 16 : Nat) : Int)) c2, .int (pk3 ((n / 16 : Nat) : Int)) c3]) :: (own2 ++ (ents ++ B)))))
    (ho : o.IsDictOf (intKind lawProg w) (stored kvs ((n % 16 : Nat) : Int) v)) (lo : (D == sysModules) = false) (hD : D ≠ 72) (hR : R ≠ 72) (lD : ∀ p ∈ own2 ++ (ents ++ B), p.1 < D) (lR : ∀ p ∈ own2 ++ (ents ++ B), p.1 < R)
    (x72 : ∀ p ∈ extra, p.1 ≠ 72) (lx : ∀ p ∈ extra, ∀ q ∈ own2 ++ (ents ++ B), q.1 < p.1) (lr : ∀ p ∈ own2 ++ (ents ++ B), p.1 < r) (r72 : r ≠ 72) (he : ∀ p ∈ ents, p.1 ≠ 72) (aE : ∀ p ∈ ents, ∀ q ∈ B, p.1 ≠ q.1)
    (hI : (I, io) ∈ own2) (h72I : 72 ≠ I) (neE : ∀ p ∈ ents, p.1 ≠ I) (neB : ∀ p ∈ B, p.1 ≠ I) (hg : AllBare g) (ht : TriplesOk ps.toList) (hm : m' (Str.ofString "entry") = some (.ref R))
    (hres : valueAt kvs ((n % 16 : Nat) : Int) = none ∧ v = .ref r ∧ extra = [] ∨ ∃ q a0 a1 a2 a3 t0 t1 t2 t3 T u0 u1 u2 u3, valueAt kvs ((n % 16 : Nat) : Int) = some (.ref q) ∧ (q, tup [.int a0 t0, .int a1 t1, .int a2 t2, .int a3 t3]) ∈ own2 ++ (ents ++ B) ∧ v = .ref T ∧
        extra = [(T, tup [.int (1 + a0) u0, .int (((n / 16 : Nat) : Int) + a1) u1, .int (pk2 ((n / 16 : Nat) : Int) + a2) u2, .int (pk3 ((n / 16 : Nat) : Int) + a3) u3])]) :
    ∃ l', PS w B (paint st n) m' l' g ∧ News h₀ L h (own2 ++ l') ∧ ∀ p ∈ l', p.1 ≠ I := by
  have hIn : (I, io) ∈ own2 ++ (ents ++ B) := List.mem_append_left _ hI
  have hEn : ∀ p ∈ ents, p ∈ own2 ++ (ents ++ B) := fun p hp => List.mem_append_right _ (List.mem_append_left _ hp)
  have hBn : ∀ p ∈ B, p ∈ own2 ++ (ents ++ B) := fun p hp => List.mem_append_right _ (List.mem_append_right _ hp)
  have N0 : News h₀ L h (own2 ++ (ents ++ B)) := fun p hp => N p (.tail _ (.tail _ (.tail _ (List.mem_append_right _ (.tail _ hp)))))
  have hE' := EntRel.put (row := rowOf ((n / 16 : Nat) : Int)) (r := r) (c := (c0, c1, c2, c3)) hE hn N0 hEn hres
  refine ⟨_, .mk R D o ps _ _ z0 z1 z2 z3 rfl hm hg ht ho lo hR hD ?_ hE' ?_ ?_ ?_, News.perm N ?_, ?_⟩
  · intro p hp
    rcases List.mem_append.mp hp with hp | hp
    · exact x72 p hp
    · rcases List.mem_cons.mp hp with rfl | hp
      · exact r72
      · exact he p hp
  · exact fun q hq => Nat.ne_of_gt (lR q (hBn q hq))
  · exact fun q hq => Nat.ne_of_gt (lD q (hBn q hq))
  · intro p hp q hq
    rcases List.mem_append.mp hp with hp | hp
    · exact Nat.ne_of_gt (lx p hp q (hBn q hq))
    · rcases List.mem_cons.mp hp with rfl | hp
      · exact Nat.ne_of_gt (lr q (hBn q hq))
      · exact aE p hp q hq
  · intro p hp
    simp only [List.mem_cons, List.mem_append] at hp ⊢
    rcases hp with h | h | h | h | (h | h | h) | h <;> first | (simp only [h, true_or, or_true]; done) | (subst h; exact Or.inl rfl) | (subst h; exact Or.inr (Or.inr (Or.inr (Or.inr (Or.inl rfl)))))
  · refine List.forall_mem_cons.mpr ⟨h72I, List.forall_mem_cons.mpr ⟨Nat.ne_of_gt (lR _ hIn), List.forall_mem_cons.mpr ⟨Nat.ne_of_gt (lD _ hIn), fun p hp => ?_⟩⟩⟩
    rcases List.mem_append.mp hp with hp | hp
    · rcases List.mem_append.mp hp with hp | hp
      · exact Nat.ne_of_gt (lx p hp _ hIn)
      · rcases List.mem_cons.mp hp with rfl | hp
        · exact Nat.ne_of_gt (lr _ hIn)
        · exact neE p hp
    · exact neB p hp
local macro_rules | `(tactic| walk_at "execs cons") => `(tactic| (k_here; with_reducible refine gtk1 fun tkE htkE => ?_))
local macro_rules | `(tactic| walk_at "execs nil") => `(tactic| (k_here; with_reducible refine gtk1 fun tkE htkE => ?_))
theorem fmod16 (a b : Nat) : Int.fmod ((a : Int) + (b : Int)) 16 = (((a + b) % 16 : Nat) : Int) := by rw [Int.fmod_eq_emod_of_nonneg _ (by decide)]; omega
local macro_rules | `(tactic| walk_at "subscriptTail Name Constant ref int") => `(tactic| (k_here; (with_reducible show wpAny _ _ (subscriptTail _ _ (Value.ref _) (Value.int _ _)) _ _ _); (with_unfolding_all refine' item_litK ?k1 ?k2 ?k3 ?k4 ?_ ?k6; (case k1 => is_list); (case k2 => decide); (case k3 => decide); (case k4 => rfl); (case k6 => with_unfolding_all rfl); k_whole)))
local macro_rules | `(tactic| walk_at "binaryOp Div int int") => `(tactic| (k_here; (first | refine div_fr (d := 16) rfl rfl (by decide) (fmod16 _ _) (by omega) ?_ | refine div_fr (d := 16) rfl rfl (by decide) rfl (by omega) ?_ | refine div_fr (d := 4) rfl rfl (by decide) rfl (by omega) ?_)))
local macro_rules | `(tactic| walk_at "compareOp NotEq ref ref") => `(tactic| (k_here; refine Halt.out ?_))
local macro_rules | `(tactic| walk_at "exec For Name Name cons nil") => `(tactic| (k_here; refine Halt.out ?_))
local macro_rules | `(tactic| walk_at "pyIter ref") => `(tactic| (k_here; refine Halt.out ?_))
local macro_rules | `(tactic| walk_at "call ref") => `(tactic| (k_here; (first | (with_reducible show wpAny _ _ (call (Value.ref 63) _) _ _ _) | (with_reducible show wpAny _ _ (call (Value.ref 56) _) _ _ _) | (with_reducible show wpAny _ _ (call (Value.ref 96) _) _ _ _) | (with_reducible show wpAny _ _ (call (Value.ref 70) _) _ _ _)); refine Halt.out ?_))
local macro_rules | `(tactic| walk_at "eval Dict") => `(tactic| (k_here; k_dflt (refine' kdn_eval (knd := PySem.intKind _ _) ?F ?N ?b ?a ?l ?e ?n ?_; (case F => k_asm); (case N => k_asm); (case b => exact Top.nolimit (by k_asm)); (case a => rfl); (case l => rfl); (case e => exact List.cons_ne_nil _ _); (case n => exact Nat.le_of_ble_eq_true rfl)); intro d' h' o' F' N' l1 lo' hd'; (try k_lt l1)))
theorem pa_call {w : World} {l1 l2 : Addr} {n1 n2 : Nat} {vs1 vs2 : List Value} {xs1 xs2 : List Spot} {ps : Array Value}
    {p : Program} {loose : List Str} {mean : ExcName → Option Value} {mg mb : Str → Option Value} {dp un : Nat} {gd : Option (List Code)} {cn : Str} {cs : Scope} {a : Addr} {ccd : Value} {cl : List (Str × Addr)} {outer : List Env} {A₀ : Around} {base h₀ : Heap} {L : Addr} {m : Str → Option Value} {news : List (Addr × Obj)} {s : Shared}
    {Q E : Value → Shared → Prop}
    (B : Below A₀ base outer h₀) (F : Fr h₀ L s.heap m) (X : (Mine.hd.heap_1 w.params).In h₀)
    (N : News h₀ L s.heap ((72, tabObj ps) :: news)) (hl1 : (l1, listOf vs1.toArray n1) ∈ news) (hl2 : (l2, listOf vs2.toArray n2) ∈ news) (hs1 : SpotsRel news vs1 xs1) (hs2 : SpotsRel news vs2 xs2)
    (ok1 : ∀ x ∈ xs1, SpotOk x) (ok2 : ∀ x ∈ xs2, SpotOk x)
    (hx1 : xs1.length ≤ 5) (hx2 : xs2.length ≤ 5) (hC : CodeHd h₀ 76 72) (hps : TriplesOk ps.toList) (hn72 : ∀ p ∈ news, p.1 ≠ 72)
    (T : Top p loose mean mg mb h₀) (hk : cs.kind = .function) (hd : dp + 9 < recursionLimit) (hu : un + 80 < cLine) (hgn : AllBare s.gens)
    (hret : ∀ R D o ps' ents kvs h' tk' g' y0 y1 y2 y3, AllBare g' → TriplesOk ps'.toList → Fr h₀ L h' m → News h₀ L h' ((72, tabObj ps') :: (R, tup [.int (outerP xs1 xs2 st0).tot.1 y0, .int (outerP xs1 xs2 st0).tot.2.1 y1, .int (outerP xs1 xs2 st0).tot.2.2.1 y2, .int (outerP xs1 xs2 st0).tot.2.2.2 y3, .ref D]) :: (D, o) :: (ents ++ news)) →
      o.IsDictOf (intKind lawProg w) kvs → EntRel ents kvs (outerP xs1 xs2 st0).ents → (D == sysModules) = false → D ≠ 72 → R ≠ 72 → (∀ p ∈ ents, p.1 ≠ 72) → Q (.ref R) ⟨h', g', s.drawn, tk', s.os⟩) :
    wpAny (model lawProg w) (ktrTop dp un gd cn cs L a ccd cl outer) (call (.ref 103) [.ref l1, .ref l2]) Q E s := by
  refine wpAny_call ?_
  k_dflt ktr_enter
  rename Fr h₀ L _ m => FG
  have hC' := hC.keeps FG.keep
  refine gtk (Nat.succ_pos _) fun tkE htkE => ?_
  k_steps
  refine Halt.on ?_
  refine wpAny_For ?_
  k_steps
  refine Halt.on ?_
  rename Fr _ _ _ _ => F1
  rename News _ _ _ _ => N1
  rename Obj.IsDictOf (intKind _ _) _ [] => hnew
  rename (_ == sysModules) = false => lon
  rename _ < _ ∧ _ < _ ∧ AllLt _ _ => lt2
  rename _ < _ ∧ AllLt _ _ => lt1
  obtain ⟨e1, e2⟩ := lt1
  obtain ⟨e3, e4, e5⟩ := lt2
  refine for_list rfl rfl rfl F1 (pull2 N1) ⟨_, (N1 _ (.tail _ (.tail _ (.tail _ hl1)))).1, rfl, _, rfl⟩ (N1 _ (.tail _ (.tail _ (.tail _ hl1)))).2.1 (by passes_own)
    (fun i m' news' g => m' (Str.ofString "others") = some (.ref l2) ∧ PS w news (outerP (xs1.take i) xs2 st0) m' news' g) ⟨rfl, ?_⟩ ?_ ?_
  · refine .mk _ _ _ _ [] [] _ _ _ _ rfl rfl hgn hps hnew lon (Nat.ne_of_gt e4) (Nat.ne_of_gt e1) (fun _ h => nomatch h) trivial (fun q hq => Nat.ne_of_gt (ktn_ltOf e5 q hq)) (fun q hq => Nat.ne_of_gt (ktn_ltOf e2 q hq)) (fun _ h => nomatch h)
  · rintro i v m₁ news₁ h₁ tk₁ g₁ own hvi ⟨hmo, hPS⟩ hne ⟨io, hio⟩ hown htk F2 N2
    obtain ⟨⟨h1, s1, v1⟩, a1, ⟨tx1, tx2, tx3⟩, nx, hxi, rfl, hax⟩ := hs1.at hvi
    rw [map_known hmo] at F2
    clear F1 N1
    have own72 : ∀ p ∈ own, p.1 ≠ 72 := by
      intro p hp
      obtain ⟨ps3, hps3⟩ := hPS.tab
      rcases hown p hp with e | e
      · rw [e]; exact fun x => hne _ hps3 x.symm
      · rw [e]; exact hn72 _ hl1
    try k_fold
    k_steps
    refine Halt.on ?_
    refine wpAny_For ?_
    k_steps
    refine Halt.on ?_
    rename Fr _ _ _ _ => F3
    rename News _ _ _ _ => N3
    obtain ⟨l', hPS', N4⟩ := hPS.down (m'' := fun y => if y = Str.ofString "one" then some (.ref a1) else (fun z => if z = Str.ofString "others" then some (.ref l2) else m₁ z) y) rfl hne hown hl1 N3
    have hl2' : (l2, listOf vs2.toArray n2) ∈ l' := hPS'.in _ (List.mem_append_right _ hl2)
    refine for_list rfl rfl rfl F3 N4 ⟨_, (N4 _ hl2').1, rfl, _, rfl⟩ (N4 _ hl2').2.1 (by passes_own)
      (fun j m' news' g => m' (Str.ofString "one") = some (.ref a1) ∧ m' (Str.ofString "others") = some (.ref l2) ∧ PS w (own ++ news) (inner (h1, s1, v1) (xs2.take j) (outerP (xs1.take i) xs2 st0)) m' news' g) ⟨rfl, rfl, hPS'⟩ ?_ ?_
    · rintro j v m₂ news₂ h₂ tk₂ g₂ own₂ hvj ⟨hm1, hm2, hPS2⟩ hne2 ⟨io2, hio2⟩ hown2 htk2 F5 N5
      obtain ⟨⟨h2, s2, v2⟩, a2, ⟨ty1, ty2, ty3⟩, ny, hyj, rfl, hay⟩ := hs2.at hvj
      rw [map_known hm1] at F5
      clear F3 N3 N4 hPS' hPS
      obtain ⟨hh1, ⟨hs1a, hs1b⟩, hv1a, hv1b⟩ := ok1 _ (List.mem_of_getElem? hxi)
      obtain ⟨hh2, ⟨hs2a, hs2b⟩, hv2a, hv2b⟩ := ok2 _ (List.mem_of_getElem? hyj)
      dsimp only at hh1 hs1a hs1b hv1a hv1b hh2 hs2a hs2b hv2a hv2b
      obtain ⟨R, D, o, ps2, ents, kvs, y0, y1, y2, y3, rfl, hmE, hg2, ht2, ho2, lo2, hR2, hD2, he2, hE2, aR2, aD2, aE2⟩ := hPS2
      rw [map_known hmE] at F5
      have hax' : (a1, spotL (h1, s1, v1) (tx1, tx2, tx3) nx) ∈ own ++ news := List.mem_append_right _ hax
      have hay' : (a2, spotL (h2, s2, v2) (ty1, ty2, ty3) ny) ∈ own ++ news := List.mem_append_right _ hay
      have N6 := pa_arr N5 hax' hay'
      clear N5
      obtain ⟨s1, rfl⟩ : ∃ z, s1 = z + 1 := ⟨s1 - 1, by omega⟩
      obtain ⟨v2, rfl⟩ : ∃ z, v2 = z + 1 := ⟨v2 - 1, by omega⟩
      have CF : ColFacts (h1 + h2) s1 v2 := col_facts (by omega) (by omega) (by omega)
      generalize hst : inner (h1, s1 + 1, v1) (xs2.take j) (outerP (xs1.take i) xs2 st0) = stI at *
      dsimp only [spotL] at N6
      try k_fold
      k_steps
      refine Halt.on ?_
      rename Fr _ _ _ _ => F7
      rename News _ _ _ _ => N7
      refine hsv_call CF.pre ?_ (by assumption) F7 (by assumption) N7 (by assumption) rfl ?_ ?_ ?_
      · refine neN ?_; omega
      · show dp + 1 + 5 < recursionLimit; omega
      · show un + 3 + 40 < cLine; omega
      intro D8 h8 tk8 u1 u2 u3 hu1 hu2 hu3 htk8 F8 N8 l8
      clear F7 N7
      k_steps
      refine Halt.on ?_
      rename Fr _ _ _ _ => F9
      rename News _ _ _ _ => N9
      refine rgb_call CF.rpre hu1 hu2 hu3 (by assumption) F9 (by assumption) N9 (by assumption) rfl ?_ ?_ ?_
      · show dp + 1 + 5 < recursionLimit; omega
      · show un + 3 + 40 < cLine; omega
      intro Da ha tka w1 w2 w3 hw1 hw2 hw3 htka Fa Na la
      rw [CF.told] at Na
      dsimp only at Na
      clear F9 N9
      k_steps
      refine Halt.on ?_
      rename Fr _ _ _ _ => Fb
      rename News _ _ _ _ => Nb
      refine ne_float3 ⟨_, nat_ Nb 1 rfl, rfl, _, rfl⟩ ⟨_, nat_ Nb 0 rfl, rfl, _, rfl⟩ ?_ ?_ hw1 hw2 hw3 (neN (by omega)) (neN (by omega)) (neN (by omega)) CF.eq1 CF.eq2 CF.eq3 ?_
      · show un + 3 < cLine; omega
      · exact booked_of (K := Mine.hd.heap_1 w.params) (fun _ _ q => Fb.keep _ _ (by (rename (Mine.hd.heap_1 _).In _ => XX); exact XX _ _ q)) (Heap.NoLimit.keeps (by (rename Top _ _ _ _ _ _ => TT); exact TT.nolimit) Fb.keep) booked_K
      have hTf := CF.turnsF
      have hHf := CF.hueF
      k_steps
      refine Halt.on ?_
      rename Fr _ _ _ _ => Fc
      rename News _ _ _ _ => Nc
      rw [CF.turns]
      refine lp_call (by omega) (by omega) (by assumption) Fc (by assumption) Nc (by assumption) rfl ?_ ?_ ?_
      · show dp + 1 + 5 < recursionLimit; omega
      · show un + 3 + 40 < cLine; omega
      intro Dd hdd tkd z0 z1 z2 z3 Fd Nd ld
      clear Fc Nc
      k_steps
      refine Halt.on ?_
      rename Fr _ _ _ _ => Fe
      rename News _ _ _ _ => Ne
      rename _ < _ ∧ _ < _ ∧ _ < _ ∧ _ < _ ∧ _ < _ ∧ _ < _ ∧ _ < _ ∧ _ < _ ∧ _ < _ ∧ _ < _ ∧ _ < _ ∧ AllLt _ _ => lE
      obtain ⟨_, _, _, _, _, _, _, _, lE72, _, _, _⟩ := lE
      rename _ < _ ∧ _ < _ ∧ _ < _ ∧ _ < _ ∧ _ < _ ∧ _ < _ ∧ _ < _ ∧ _ < _ ∧ _ < _ ∧ AllLt _ _ => lD
      obtain ⟨_, _, _, _, _, _, lD72, _, _, _⟩ := lD
      rename Obj.IsDictOf _ _ (intKeyPairs _) => hdn
      rename (_ == sysModules) = false => lon2
      rw [show intKeyPairs [(Value.int (Flt.toInt Float64.truncOf (Float64.mul (fr ((h1 + h2) % 16) 16) (Float64.ofInt 16))) _, Value.ref Dd)] = [(Flt.toInt Float64.truncOf (Float64.mul (fr ((h1 + h2) % 16) 16) (Float64.ofInt 16)), Value.ref Dd)] from rfl, CF.hue] at hdn
      have ld' : ∀ p ∈ own₂ ++ (ents ++ (own ++ news)), p.1 < Dd := fun p hp => ld p (.tail _ (.tail _ (.tail _ (.tail _ (.tail _ (.tail _ (.tail _ (.tail _ hp))))))))
      have r72 : Dd ≠ 72 := Nat.ne_of_gt (ld (72, tabObj ps2) (.tail _ (.tail _ (.tail _ (.tail _ (.tail _ (.head _)))))))
      refine af_call (kvs := kvs) (k := (((h1 + h2) % 16 : Nat) : Int)) (news := own₂ ++ (ents ++ (own ++ news))) (r := Dd) (x0 := stI.tot.1) (x1 := stI.tot.2.1) (x2 := stI.tot.2.2.1) (x3 := stI.tot.2.2.2) (y0 := y0) (y1 := y1) (y2 := y2) (y3 := y3) (b0 := 1) (b1 := (((h1 + h2) / 16 : Nat) : Int)) (b2 := pk2 (((h1 + h2) / 16 : Nat) : Int)) (b3 := pk3 (((h1 + h2) / 16 : Nat) : Int)) (c0 := z0) (c1 := z1) (c2 := z2) (c3 := z3) (v0 := z0) (v1 := z1) (v2 := z2) (v3 := z3) (by assumption) Fe (by assumption) (News.perm Ne ?_) (by assumption) ht2 ?_ hD2 (Nat.ne_of_gt lD72) r72 hR2 (Nat.ne_of_gt lE72) (by assumption) rfl ?_ ?_ ho2 hdn lo2 lon2 ?_ hg2 ?_ ?_
      · intro p hp
        simp only [List.mem_cons, List.mem_append] at hp ⊢
        rcases hp with h | h | h | h | h | h | h | h | h | h <;> simp only [h, true_or, or_true]
      · intro p hp
        rcases List.mem_append.mp hp with hp | hp
        · rcases hown2 p hp with e | e
          · rw [e]; exact fun x => hne2 _ (.head _) x.symm
          · rw [e]; exact hn72 _ hl2
        · rcases List.mem_append.mp hp with hp | hp
          · exact he2 p hp
          · rcases List.mem_append.mp hp with hp | hp
            · exact own72 p hp
            · exact hn72 p hp
      · show dp + 1 + 7 < recursionLimit; omega
      · show un + 3 + 60 < cLine; omega
      · rw [hE2.length, ← hst]
        have b1 := inner_len (h1, s1 + 1, v1) (xs2.take j) (outerP (xs1.take i) xs2 st0)
        have b2 := outer_len (xs1.take i) xs2 st0
        have b3 : (xs2.take j).length ≤ 5 := Nat.le_trans (by rw [List.length_take]; exact Nat.min_le_right _ _) hx2
        have b4 : (xs1.take i).length ≤ 5 := Nat.le_trans (by rw [List.length_take]; exact Nat.min_le_right _ _) hx1
        have b5 : (xs1.take i).length * xs2.length ≤ 5 * 5 := Nat.mul_le_mul b4 hx2
        have b6 : st0.ents.length = 0 := rfl
        omega
      · rcases hE2.find (k := (((h1 + h2) % 16 : Nat) : Int)) with ⟨h, _⟩ | ⟨e, he, hek, q, t, hv, hq⟩
        · exact .inl h
        · exact .inr ⟨q, _, _, _, _, _, _, _, _, hv, List.mem_append_right _ (List.mem_append_left _ hq)⟩
      intro Rn Dn hn tkn gn psn on vn extra q0 q1 q2 q3 hgn' htn Fn Nn hon lon3 hDn hRn lDn lRn x72 lxn hres
      clear Fe Ne
      k_steps
      rename Fr _ _ _ _ => Ff
      rename News _ _ _ _ => Nf
      obtain ⟨l3, hP3, N3, hne3⟩ := PS.step (m' := fun y => if y = Str.ofString "entry" then some (.ref Rn) else _) hE2 (isDict_nodup ho2) Nf hon lon3 hDn hRn lDn lRn x72 lxn ld' r72 he2 aE2 hio2 (hne2 _ (.head _)) (fun p hp => hne2 p (.tail _ (.tail _ (.tail _ (List.mem_append_left _ hp))))) (fun p hp => hne2 p (.tail _ (.tail _ (.tail _ (List.mem_append_right _ hp))))) hgn' htn rfl hres
      refine GStep.next Ff N3 (fun p hp q => hne3 p hp (List.mem_singleton.mp q)) ⟨rfl, hm2, ?_⟩
      rw [inner_take hyj, hst]
      exact hP3
    · intro h4 tk4 g4 m4 news4 F4 N4b ⟨hm1, hm2, hP4⟩
      rw [hs2.length, List.take_length] at hP4
      obtain ⟨l5, hP5, N5, hne5⟩ := hP4.up hio (hne _ (Classical.choose_spec hPS.tab)) (fun p hp => hne p (hPS.in p hp)) N4b
      clear F3 N3 N4 N4b
      show wpAny _ _ _ _ _ _
      k_steps
      refine GStep.next F4 N5 (fun p hp q => hne5 p hp (List.mem_singleton.mp q)) ⟨hm2, ?_⟩
      rw [outer_take hxi]
      exact hP5
  · intro h4 tk4 g4 m4 news4 F4 N4b ⟨hm1, hP4⟩
    rw [hs1.length, List.take_length] at hP4
    obtain ⟨R, D, o, ps2, ents, kvs, y0, y1, y2, y3, rfl, hmE, hg2, ht2, ho2, lo2, hR2, hD2, he2, hE2, aR2, aD2, aE2⟩ := hP4
    rw [map_known hmE] at F4
    clear F1 N1
    show wpAny _ _ _ _ _ _
    k_steps

    exact hret _ _ _ _ _ _ _ _ _ _ _ _ _ hg2 ht2 (by assumption) (by assumption) ho2 hE2 lo2 hD2 hR2 he2
end Mine
end

section -- Cmp
open PySem PySem.W PySem.Spec PySem.Calls PyProof.Rows
open LCg
namespace Mine
section
variable {prog : Program} {w : World} {A : Around} {s : Shared} {h₀ : Heap} {L : Addr} {m : Str → Option Value} {env : Env}
theorem CompEnd.mono {s₁ : Shared} {I C D : Addr} {oI oC oD : Obj} {S : List (Addr × Obj) → Prop} {r r' : Value → List (Addr × Obj) → Prop} (hr : ∀ y nw, r y nw → r' y nw) {y : Value} {s₂ : Shared} (h : LCg.CompEnd h₀ L m s₁ I oI C oC D oD S r y s₂) : LCg.CompEnd h₀ L m s₁ I oI C oC D oD S r' y s₂ := by
  obtain ⟨h', tk, nw, e, F, N, o, hS, hR⟩ := h
  exact ⟨h', tk, nw, e, F, N, o, hS, hr _ _ hR⟩
theorem comp_ind {elt : Expr} {x : Str} {scope : Scope} {cl : List (Str × Addr)} {S : List (Addr × Obj) → Prop} {P : Nat → Value → Prop} {Fin : List Value → List (Addr × Obj) → Prop} {n : Nat} {news : List (Addr × Obj)}
    (J : Nat → List Value → List (Addr × Obj) → Prop) (h0 : J 0 [] news)
    (step : ∀ i ys news v I oI C oC D m₂ h tk (E' : Value → Shared → Prop), i < n → P i v → J i ys news → NsObj oC m₂ → m₂ x = some v → Fr h₀ L h m → News h₀ L h ((I, oI) :: (C, oC) :: (D, lst ys) :: news) → Off3 I C D news → ((@Ne Nat I C) ∧ (@Ne Nat I D) ∧ (@Ne Nat C D)) →
      wpAny (model prog w) A (eval elt (compEnvC scope cl C env)) (LCg.CompEnd h₀ L m { s with heap := h, toks := tk } I oI C oC D (lst ys) S (fun y news' => J (i + 1) (ys ++ [y]) news')) E' { s with heap := h, toks := tk })
    (fin : ∀ ys news, J n ys news → Fin ys news) : LCg.CompRest prog w A h₀ L m env elt x scope cl s S P Fin n 0 [] news := by
  have key : ∀ k i ys news, k + i = n → J i ys news → LCg.CompRest prog w A h₀ L m env elt x scope cl s S P Fin k i ys news := by
    intro k
    induction k with
    | zero => intro i ys news e hJ; rw [Nat.zero_add] at e; exact fin _ _ (e ▸ hJ)
    | succ k ih =>
      intro i ys news e hJ
      refine LCg.CompRest.succ ?_
      intro v I oI C oC D m₂ h tk E' hP hC hx F N off ne
      exact wpAny_mono (step i ys news v I oI C oC D m₂ h tk E' (by omega) hP hJ hC hx F N off ne) (fun y s₂ h₂ => CompEnd.mono (fun y nw hj => ih (i + 1) _ _ (by omega) hj) h₂) fun _ _ e => e
  exact key n 0 [] news rfl h0
end
end Mine
end

section -- Sp
open PySem PySem.W PySem.Spec PySem.Calls PyProof.Rows
theorem Mine.fillSp : (Challenge.rw_ph0127_01.prog = Challenge.rw_ph0127_01.prog ∧ Mine.hd.heap_1 = Mine.hd.heap_1) := by k_fill; exact ⟨rfl, rfl⟩
namespace Mine
def spotOf (x : Int) : Spot := ((Int.fmod x 32).toNat, (Int.fmod (Int.fdiv x 32) 4).toNat + 1, (Int.fmod (Int.fdiv x 128) 4).toNat + 1)
abbrev intsV (xs : List (Int × Tok)) : List Value := xs.map fun x => Value.int x.1 x.2
theorem SpotsRel.mono {l l' : List (Addr × Obj)} (hs : ∀ p ∈ l, p ∈ l') : ∀ {vs : List Value} {xs : List Spot}, SpotsRel l vs xs → SpotsRel l' vs xs
  | [], [], _ => trivial
  | _ :: _, _ :: _, ⟨⟨a, t, n, h1, h2⟩, r⟩ => ⟨⟨a, t, n, h1, hs _ h2⟩, r.mono hs⟩
theorem SpotsRel.snoc {l : List (Addr × Obj)} {a : Addr} {x : Spot} {t : Tok × Tok × Tok} {n : Nat} (ha : (a, spotL x t n) ∈ l) : ∀ {vs : List Value} {xs : List Spot}, SpotsRel l vs xs → SpotsRel l (vs ++ [.ref a]) (xs ++ [x])
  | [], [], _ => ⟨⟨a, t, n, rfl, ha⟩, trivial⟩
  | _ :: _, _ :: _, ⟨h, r⟩ => ⟨h, r.snoc ha⟩
theorem off1_mem {D : Addr} {l : List (Addr × Obj)} (x : LCg.Off1 D l) : ∀ p ∈ l, p.1 ≠ D := by
  induction l with
  | nil => exact fun _ h => nomatch h
  | cons a l ih => exact List.forall_mem_cons.mpr ⟨x.1, ih x.2⟩
theorem spotOf_ok (x : Int) : SpotOk (spotOf x) := by
  have a1 := Int.fmod_nonneg_of_pos x (show (0:Int) < 32 by decide)
  have a2 := Int.fmod_lt_of_pos x (show (0:Int) < 32 by decide)
  have b1 := Int.fmod_nonneg_of_pos (Int.fdiv x 32) (show (0:Int) < 4 by decide)
  have b2 := Int.fmod_lt_of_pos (Int.fdiv x 32) (show (0:Int) < 4 by decide)
  have c1 := Int.fmod_nonneg_of_pos (Int.fdiv x 128) (show (0:Int) < 4 by decide)
  have c2 := Int.fmod_lt_of_pos (Int.fdiv x 128) (show (0:Int) < 4 by decide)
  unfold SpotOk spotOf
  refine ⟨?_, ⟨?_, ?_⟩, ?_, ?_⟩ <;> dsimp only <;> omega
theorem spotOf_obj (x : Int) (t1 t2 t3 : Tok) (n : Nat) : listOf #[Value.int (Int.fmod x 32) t1, Value.int (Int.fmod (Int.fdiv x 32) 4 + 1) t2, Value.int (Int.fmod (Int.fdiv x 128) 4 + 1) t3] n = spotL (spotOf x) (t1, t2, t3) n := by
  have a1 := Int.fmod_nonneg_of_pos x (show (0:Int) < 32 by decide)
  have b1 := Int.fmod_nonneg_of_pos (Int.fdiv x 32) (show (0:Int) < 4 by decide)
  have c1 := Int.fmod_nonneg_of_pos (Int.fdiv x 128) (show (0:Int) < 4 by decide)
  unfold spotOf
  dsimp only [spotL]
  rw [show (((Int.fmod x 32).toNat : Nat) : Int) = Int.fmod x 32 by omega, show ((((Int.fdiv x 32).fmod 4).toNat + 1 : Nat) : Int) = (Int.fdiv x 32).fmod 4 + 1 by omega, show ((((Int.fdiv x 128).fmod 4).toNat + 1 : Nat) : Int) = (Int.fdiv x 128).fmod 4 + 1 by omega]
local macro_rules | `(tactic| walk_at "eval ListComp") => `(tactic| (k_here; refine Halt.out ?_))
local macro_rules | `(tactic| walk_at "CompSrc") => `(tactic| (k_here; refine Halt.out ?_))
local macro_rules | `(tactic| walk_at "CompEnd") => `(tactic| (refine Halt.out ?_))
theorem sp_call {w : World} {l : Addr} {nl : Nat} {xs : List (Int × Tok)}
    {p : Program} {loose : List Str} {mean : ExcName → Option Value} {mg mb : Str → Option Value} {dp un : Nat} {gd : Option (List Code)} {cn : Str} {cs : Scope} {a : Addr} {ccd : Value} {cl : List (Str × Addr)} {outer : List Env} {A₀ : Around} {base h₀ : Heap} {L : Addr} {m : Str → Option Value} {news : List (Addr × Obj)} {s : Shared}
    {Q E : Value → Shared → Prop}
    (B : Below A₀ base outer h₀) (F : Fr h₀ L s.heap m) (X : (Mine.hd.heap_1 w.params).In h₀) (N : News h₀ L s.heap news) (hl : (l, listOf (intsV xs).toArray nl) ∈ news) (hlen : xs.length ≤ 100)
    (T : Top p loose mean mg mb h₀) (hk : cs.kind = .function) (hd : dp + 5 < recursionLimit) (hu : un + 40 < cLine)
    (hret : ∀ D h' tk' ys lists, Fr h₀ L h' m → News h₀ L h' ((D, LCg.lst ys) :: (lists ++ news)) → SpotsRel lists ys (xs.map fun x => spotOf x.1) → (∀ p ∈ lists ++ news, p.1 ≠ D) → (∀ p ∈ lists, ∀ q ∈ news, q.1 < p.1) → Q (.ref D) { s with heap := h', toks := tk' }) :
    wpAny (model lawProg w) (ktrTop dp un gd cn cs L a ccd cl outer) (call (.ref 82) [.ref l]) Q E s := by
  refine wpAny_call ?_
  k_dflt ktr_enter
  k_steps
  refine Halt.on ?_
  rename Fr _ _ _ _ => F1
  rename News _ _ _ _ => N1
  k_dflt (refine LCg.ListComp_U (F₀ := F1) (by rfl) (by decide) (by rfl) (by decide) (by rfl) ?_)
  k_steps
  refine Halt.on ?_
  refine LCg.CompSrc.ledger rfl F1 N1 hl ?_ ?_
  · rw [List.size_toArray, List.length_map]; exact Nat.le_trans hlen (by decide)
  intro g1
  refine comp_ind (fun i ys nw => ∃ lists, nw = lists ++ news ∧ SpotsRel lists ys ((xs.take i).map fun x => spotOf x.1) ∧ (∀ p ∈ lists, ∀ q ∈ news, q.1 < p.1)) ⟨[], rfl, trivial, fun _ h => nomatch h⟩ ?_ ?_
  · rintro i ys nw v I oI C oC D m₂ h tk E' hi hv ⟨lists, rfl, hrel, hlt⟩ hC hx F2 N2 off ne
    rw [List.getElem?_toArray, List.getElem?_map] at hv
    obtain ⟨⟨x, t⟩, hxi, rfl⟩ := Option.map_eq_some_iff.mp hv
    dsimp only at hx
    clear F1 N1
    k_steps
    refine Halt.on ?_
    rename Fr _ _ _ _ => F4
    rename News _ _ _ _ => N4
    rename _ < _ ∧ _ < _ ∧ _ < _ ∧ AllLt _ _ => lt
    obtain ⟨lI, lC, lD, lA⟩ := lt
    refine name_it (P := fun q : Nat => I < q) lI ?_
    intro lN hlN
    subst hlN
    rw [spotOf_obj] at N4
    obtain ⟨t', N4⟩ : ∃ t', News _ _ _ ((lN, spotL (spotOf x) t' 0) :: (I, oI) :: (C, oC) :: (D, LCg.lst ys) :: (lists ++ news)) := ⟨_, N4⟩
    refine LCg.CompEnd.intro F4 N4 ((lN, spotL (spotOf x) t' 0) :: (lists ++ news)) ?_ ?_ ?_ ⟨(lN, spotL (spotOf x) t' 0) :: lists, rfl, ?_, ?_⟩
    · intro p hp
      simp only [List.mem_cons, List.mem_append] at hp ⊢
      rcases hp with h | h | h | h | h | h <;> simp only [h, true_or, or_true]
    · exact ⟨⟨Nat.ne_of_gt lI, Nat.ne_of_gt lC, Nat.ne_of_gt lD⟩, off⟩
    · exact .inr ⟨_, .tail _ (List.mem_append_right _ hl), rfl, _, rfl⟩
    · rw [List.take_succ, hxi, List.map_append]
      exact SpotsRel.snoc (.head _) (hrel.mono fun p hp => .tail _ hp)
    · exact List.forall_mem_cons.mpr ⟨fun q hq => ktn_ltOf lA q (List.mem_append_right _ hq), hlt⟩
  · rintro ys nw ⟨lists, rfl, hrel, hlt⟩
    rw [List.size_toArray, List.length_map, List.take_length] at hrel
    unfold LCg.FinE
    intro D h tk F3 N3 off
    clear F1 N1
    k_steps
    refine hret _ _ _ _ lists (by assumption) (by assumption) hrel (fun p hp => ?_) hlt
    exact off1_mem off p hp
end Mine
end

section -- Dg
open PySem
namespace Mine
def dv (n : Nat) : List Nat → Nat
  | [] => 0
  | d :: ds => d + 2 ^ n * dv n ds
theorem dv_append (n : Nat) (a b : List Nat) : dv n (a ++ b) = dv n a + 2 ^ (n * a.length) * dv n b := by
  induction a with
  | nil => simp [dv]
  | cons d ds ih => simp only [List.cons_append, dv, ih, List.length_cons, Nat.mul_add, Nat.mul_one, Nat.pow_add, Nat.mul_assoc, Nat.mul_comm, Nat.mul_left_comm, Nat.add_assoc]
theorem dv_lt (n : Nat) (a : List Nat) (h : ∀ d ∈ a, d < 2 ^ n) : dv n a < 2 ^ (n * a.length) := by
  induction a with
  | nil => simp [dv]
  | cons d ds ih =>
    have h1 := h d (.head _)
    have h2 := ih fun x hx => h x (.tail _ hx)
    simp only [dv, List.length_cons]
    rw [show n * (ds.length + 1) = n + n * ds.length by rw [Nat.mul_add]; omega, Nat.pow_add]
    calc d + 2 ^ n * dv n ds < 2 ^ n + 2 ^ n * dv n ds := by omega
      _ = 2 ^ n * (dv n ds + 1) := by rw [Nat.mul_add]; omega
      _ ≤ 2 ^ n * 2 ^ (n * ds.length) := Nat.mul_le_mul_left _ h2
def seg (xs : List (Nat × Tok)) (Lo Hi : Nat) : List Nat := ((xs.map (·.1)).drop Lo).take (Hi - Lo)
theorem seg_split (xs : List (Nat × Tok)) {Lo mid Hi : Nat} (h1 : Lo ≤ mid) (h2 : mid ≤ Hi) : seg xs Lo Hi = seg xs Lo mid ++ seg xs mid Hi := by
  unfold seg
  rw [show Hi - Lo = (mid - Lo) + (Hi - mid) by omega, List.take_add, List.drop_drop, show Lo + (mid - Lo) = mid by omega]
theorem seg_len (xs : List (Nat × Tok)) {Lo Hi : Nat} (h2 : Hi ≤ xs.length) : (seg xs Lo Hi).length = Hi - Lo := by
  unfold seg
  rw [List.length_take, List.length_drop, List.length_map]; omega
theorem seg_mem {xs : List (Nat × Tok)} {Lo Hi d : Nat} (h : d ∈ seg xs Lo Hi) : ∃ x ∈ xs, x.1 = d := by
  unfold seg at h
  exact List.mem_map.mp (List.mem_of_mem_drop (List.mem_of_mem_take h))
theorem seg_one {xs : List (Nat × Tok)} {Lo : Nat} {x : Nat × Tok} (h : xs[Lo]? = some x) : seg xs Lo (Lo + 1) = [x.1] := by
  unfold seg
  have h' : (xs.map (·.1))[Lo]? = some x.1 := by rw [List.getElem?_map, h]; rfl
  obtain ⟨hl, he⟩ := List.getElem?_eq_some_iff.mp h'
  rw [List.drop_eq_getElem_cons hl, he, show Lo + 1 - Lo = 1 by omega]
  rfl
theorem seg_all (xs : List (Nat × Tok)) : seg xs 0 xs.length = xs.map (·.1) := by
  unfold seg
  rw [List.drop_zero, Nat.sub_zero, List.take_of_length_le (by rw [List.length_map]; omega)]
end Mine
end

section -- Dx
open PySem
namespace Mine
def dg (n : Nat) : Nat → Nat → List Nat
  | 0, _ => []
  | k + 1, x => x % 2 ^ n :: dg n k (x / 2 ^ n)
theorem dg_len (n : Nat) : ∀ k x, (dg n k x).length = k
  | 0, _ => rfl
  | k + 1, x => by rw [dg, List.length_cons, dg_len n k]
theorem dg_split (n : Nat) : ∀ a b x, dg n (a + b) x = dg n a (x % 2 ^ (n * a)) ++ dg n b (x / 2 ^ (n * a)) := by
  intro a
  induction a with
  | zero => intro b x; simp [dg]
  | succ a ih =>
    intro b x
    have e : n * (a + 1) = n + n * a := by rw [Nat.mul_add]; omega
    rw [show a + 1 + b = (a + b) + 1 by omega, dg, ih, dg, e, Nat.pow_add, List.cons_append]
    have h1 : x % (2 ^ n * 2 ^ (n * a)) % 2 ^ n = x % 2 ^ n := Nat.mod_mul_right_mod _ _ _
    have h2 : x % (2 ^ n * 2 ^ (n * a)) / 2 ^ n = x / 2 ^ n % 2 ^ (n * a) := Nat.mod_mul_right_div_self _ _ _
    rw [h1, h2, Nat.div_div_eq_div_mul]
theorem dg_dv (n : Nat) : ∀ k x, x < 2 ^ (n * k) → dv n (dg n k x) = x := by
  intro k
  induction k with
  | zero => intro x h; simp [dg, dv] at h ⊢; omega
  | succ k ih =>
    intro x h
    have e : n * (k + 1) = n + n * k := by rw [Nat.mul_add]; omega
    rw [e, Nat.pow_add] at h
    rw [dg, dv, ih _ (Nat.div_lt_of_lt_mul h)]
    exact Nat.mod_add_div x (2 ^ n)
theorem xor_low (x s : Nat) : x ^^^ (x / 2 ^ s * 2 ^ s) = x % 2 ^ s := by
  apply Nat.eq_of_testBit_eq
  intro i
  rw [Nat.testBit_xor, Nat.testBit_mod_two_pow, Nat.mul_comm, Nat.testBit_two_pow_mul, Nat.testBit_div_two_pow]
  by_cases h : s ≤ i
  · rw [decide_eq_true h, decide_eq_false (by omega), show i - s + s = i by omega]; simp
  · rw [decide_eq_false h, decide_eq_true (by omega)]; simp
end Mine
end

section -- Set
open PySem PySem.W PySem.Spec PySem.Calls PyProof.Rows
namespace Mine
section
variable {prog : Program} {w : World} {A : Around} {E : Value → Shared → Prop} {s : Shared} {h₀ : Heap} {L : Addr} {m : Str → Option Value}
/-- a place of a ledger's list is stored -/
theorem set_list {D : Addr} {items : Array Value} {n j : Nat} {t : Tok} {v : Value} {pre post : List (Addr × Obj)} {Q : Unit → Shared → Prop} (F : Fr h₀ L s.heap m) (N : News h₀ L s.heap (pre ++ (D, listOf items n) :: post)) (h1 : ∀ p ∈ pre, p.1 ≠ D) (h2 : ∀ p ∈ post, p.1 ≠ D) (hj : j < items.size) (hs : items.size ≤ 1000)
    (h : ∀ h', Fr h₀ L h' m → News h₀ L h' (pre ++ (D, listOf (items.setIfInBounds j v) n) :: post) → Q () { s with heap := h' }) :
    wpAny (model prog w) A (setItem (.ref D) (.int (j : Int) t) v) Q E s := by
  have z := N (D, listOf items n) (List.mem_append.mpr (.inr (.head _)))
  refine ki_setAt z.1 (by omega) (by omega) (by omega) (h _ (F.change (Heap.SameBut.update ..) z.2.1 z.2.2) (ki_turn _ N h1 h2 ?_ ?_))
  · rw [Int.toNat_natCast]
  · rw [if_pos (by simp)]
end
theorem set_natsV (ys : List (Nat × Tok)) (j x : Nat) (u : Tok) : (ys.map fun x => Value.int (x.1 : Int) x.2).toArray.setIfInBounds j (.int (x : Int) u) = ((ys.set j (x, u)).map fun x => Value.int (x.1 : Int) x.2).toArray := by
  apply Array.toList_inj.mp
  rw [Array.toList_setIfInBounds, List.map_set]
theorem dg_set (n : Nat) (ys : List Nat) {Lo x : Nat} (h : Lo < ys.length) (hx : x < 2 ^ (n * (Lo + 1 - Lo))) : ys.set Lo x = ys.take Lo ++ dg n (Lo + 1 - Lo) x ++ ys.drop (Lo + 1) := by
  rw [show Lo + 1 - Lo = 1 by omega] at *
  rw [Nat.mul_one] at hx
  rw [List.set_eq_take_append_cons_drop, if_pos h]
  simp [dg, Nat.mod_eq_of_lt hx]
theorem and_high (x s : Nat) : x &&& (x / 2 ^ s * 2 ^ s) = x / 2 ^ s * 2 ^ s := by
  apply Nat.eq_of_testBit_eq
  intro i
  rw [Nat.testBit_and, Nat.mul_comm, Nat.testBit_two_pow_mul, Nat.testBit_div_two_pow]
  by_cases h : s ≤ i
  · rw [decide_eq_true h, show i - s + s = i by omega]; simp
  · rw [decide_eq_false h]; simp
theorem xor_lowI (x s : Nat) : Builtin.bitXor (x : Int) (((x / 2 ^ s : Nat) : Int) * 2 ^ s) = ((x % 2 ^ s : Nat) : Int) := by
  have e : ((x / 2 ^ s : Nat) : Int) * 2 ^ s = ((x / 2 ^ s * 2 ^ s : Nat) : Int) := by rw [Int.natCast_mul, Int.natCast_pow]; rfl
  have h : Builtin.bitAnd (x : Int) ((x / 2 ^ s * 2 ^ s : Nat) : Int) = ((x / 2 ^ s * 2 ^ s : Nat) : Int) := by
    unfold Builtin.bitAnd
    rw [decide_eq_true (by omega), decide_eq_true (by omega)]
    show ((((x : Int).toNat) &&& (((x / 2 ^ s * 2 ^ s : Nat) : Int).toNat) : Nat) : Int) = _
    rw [Int.toNat_natCast, Int.toNat_natCast, and_high]
  rw [e, bitXor_and, h]
  have := Nat.div_add_mod x (2 ^ s)
  rw [Nat.mul_comm] at this
  omega
theorem fdiv_pow (x s : Nat) : Int.fdiv (x : Int) (2 ^ s) = ((x / 2 ^ s : Nat) : Int) := by
  rw [show (2 : Int) ^ s = ((2 ^ s : Nat) : Int) by rw [Int.natCast_pow]; rfl, Int.fdiv_eq_ediv_of_nonneg _ (Int.natCast_nonneg _), Int.natCast_ediv]
theorem dg_get (n : Nat) : ∀ (k x j : Nat), j < k → (dg n k x)[j]? = some (x / 2 ^ (n * j) % 2 ^ n)
  | 0, _, _, h => by omega
  | k + 1, x, 0, _ => by rw [dg, Nat.mul_zero, Nat.pow_zero, Nat.div_one]; rfl
  | k + 1, x, j + 1, h => by
    rw [dg, List.getElem?_cons_succ, dg_get n k _ j (by omega), Nat.div_div_eq_div_mul, ← Nat.pow_add, show n + n * j = n * (j + 1) by rw [Nat.mul_add]; omega]
theorem dg_lt (n : Nat) : ∀ (k x d : Nat), d ∈ dg n k x → d < 2 ^ n
  | 0, _, _, h => nomatch h
  | k + 1, x, d, h => by
    rcases List.mem_cons.mp h with h | h
    · rw [h]; exact Nat.mod_lt _ (Nat.two_pow_pos _)
    · exact dg_lt n k _ d h
/-- a step of the long division -/
theorem long_step {x b n j : Nat} (hb : 0 < b) :
    (x / 2 ^ (n * (j + 1)) % b * 2 ^ n + x / 2 ^ (n * j) % 2 ^ n) % b = x / 2 ^ (n * j) % b ∧
    (x / 2 ^ (n * (j + 1)) % b * 2 ^ n + x / 2 ^ (n * j) % 2 ^ n) / b + 2 ^ n * (x / 2 ^ (n * (j + 1)) / b) = x / 2 ^ (n * j) / b := by
  have e : x / 2 ^ (n * j) = x / 2 ^ (n * (j + 1)) * 2 ^ n + x / 2 ^ (n * j) % 2 ^ n := by
    rw [show n * (j + 1) = n * j + n by rw [Nat.mul_add]; omega, Nat.pow_add, ← Nat.div_div_eq_div_mul]
    exact (Nat.div_add_mod' _ _).symm
  generalize x / 2 ^ (n * (j + 1)) = A at *
  generalize x / 2 ^ (n * j) % 2 ^ n = d at *
  rw [e]
  have ha := Nat.div_add_mod A b
  generalize hq : A / b = q at *
  generalize hr : A % b = r at *
  have e2 : A * 2 ^ n + d = (r * 2 ^ n + d) + b * (2 ^ n * q) := by
    rw [← ha, Nat.add_mul, Nat.mul_assoc, Nat.mul_comm q]; omega
  rw [e2, Nat.add_mul_mod_self_left, Nat.add_mul_div_left _ _ hb]
  exact ⟨rfl, rfl⟩
theorem long_lt {r b n d : Nat} (hr : r < b) (hd : d < 2 ^ n) : (r * 2 ^ n + d) / b < 2 ^ n := by
  have hb : 0 < b := by omega
  rw [Nat.div_lt_iff_lt_mul hb]
  have : (r + 1) * 2 ^ n ≤ b * 2 ^ n := Nat.mul_le_mul_right _ hr
  rw [Nat.add_mul, Nat.one_mul] at this
  rw [Nat.mul_comm (2 ^ n) b]
  omega
theorem glue (ys zs : List Nat) (lo up : List Nat) (T : List Nat) {Lo mid Hi : Nat} (h1 : Lo ≤ mid) (h2 : mid ≤ Hi) (h3 : Hi ≤ ys.length) (hl : lo.length = mid - Lo) (hz : zs = ys.take Lo ++ lo ++ ys.drop mid) (hT : T = zs.take mid ++ up ++ zs.drop Hi) : T = ys.take Lo ++ (lo ++ up) ++ ys.drop Hi := by
  subst hT
  have e1 : (ys.take Lo ++ lo).length = mid := by rw [List.length_append, List.length_take, hl]; omega
  have e2 : zs.take mid = ys.take Lo ++ lo := by rw [hz, List.take_append_of_le_length (by omega), List.take_of_length_le (by omega)]
  have e3 : zs.drop Hi = ys.drop Hi := by
    rw [hz, List.drop_append, List.drop_eq_nil_of_le (by omega), List.nil_append, List.drop_drop, e1, show mid + (Hi - mid) = Hi by omega]
  rw [e2, e3, List.append_assoc (ys.take Lo) lo up]
end Mine
end

section -- Nest
open PySem PySem.W PySem.Spec PySem.Calls PyProof.Rows
namespace Mine
theorem upd_of {P : Addr} {o : Obj} {post : List (Addr × Obj)} (h2 : ∀ p ∈ post, p.1 ≠ P) : ∀ {pre : List (Addr × Obj)}, (∀ p ∈ pre, p.1 ≠ P) → UpdF P o (pre ++ (P, o) :: post) (fun o' => pre ++ (P, o') :: post) := by
  intro pre
  induction pre with
  | nil => exact fun _ => .head h2
  | cons a pre ih => exact fun h1 => .tail (h1 a (.head _)) (ih fun p hp => h1 p (.tail _ hp))
theorem triples_snoc {l : List Value} {a b : Int} {t u : Tok} {c : Value} (h : TriplesOk l) : TriplesOk (l ++ [.int a t, .int b u, c]) := by
  fun_induction TriplesOk l with
  | case1 => trivial
  | case2 _ _ _ _ _ rest ih => exact ih h
  | case3 => exact h.elim
section
variable {M : Model} {A : Around} {E : Value → Shared → Prop} {s : Shared} {h₀ : Heap} {L a c P : Addr} {m mg mb : Str → Option Value} {cn : Str} {cs : Scope} {ccd : Value} {cl : List (Str × Addr)} {pre post : List (Addr × Obj)}
  {p : Program} {loose : List Str} {mean : ExcName → Option Value} {name qual : Str} {params : Arguments} {body : List Stmt} {scope : Scope} {ps : Array Value} {pos : Pos} {firstLine : Nat} {clos : List (Str × Addr)}
def CodeIn (pos : Pos) (qual : Str) (ps : Array Value) (l : List (Addr × Obj)) : Prop :=
  codeAmong pos ps.toList = none ∨ ∃ c' oc vs t, codeAmong pos ps.toList = some (.ref c') ∧ (c', oc) ∈ l ∧ oc.data = .fields vs ∧ vs[1]? = some (.str qual t)
theorem nest_any {Q : Value → Shared → Prop} (F : Fr h₀ L s.heap m) (N : News h₀ L s.heap (pre ++ (P, tabObj ps) :: post)) (T : Top p loose mean mg mb h₀) (C : CodeHd h₀ c P) (hcd : ccd = .ref c) (h1 : ∀ q ∈ pre, q.1 ≠ P) (h2 : ∀ q ∈ post, q.1 ≠ P) (ht : TriplesOk ps.toList)
    (hcase : CodeIn pos qual ps post) (hcl : closureFor scope (envX cn cs L a ccd cl) = pure clos)
    (h : ∀ f c' oc vs t ctv doc h' tk ps', Fr h₀ L h' m →
      News h₀ L h' ((f, fnMade name qual params body scope clos doc ((mg "__name__").getD .none) c' ctv) :: (c', oc) :: (pre ++ (P, tabObj ps') :: post)) →
      oc.data = .fields vs → vs[1]? = some (.str qual t) → TriplesOk ps'.toList → codeAmong pos ps'.toList = some (.ref c') → (∀ q ∈ pre ++ (P, tabObj ps) :: post, q.1 < f) → ((c', oc) ∈ post ∨ ∀ q ∈ pre ++ (P, tabObj ps) :: post, q.1 < c') → Q (.ref f) { s with heap := h', toks := tk }) :
    wpAny M A (makeFunction name qual params (.stmts body) scope (envX cn cs L a ccd cl) [] [] [] pos firstLine) Q E s := by
  rcases hcase with hn | ⟨c', oc, vs, t, hf, hm, hd, hv⟩
  · refine nest_K F N T C hcd (upd_of h2 h1) ht hn hcl ?_
    intro f c' oc vs t ctv doc h' tk F' N' hd hv l1 l2
    refine h f c' oc vs t ctv doc h' tk _ F' N' hd hv ?_ ?_ (fun q hq => Nat.lt_trans (l1 q hq) l2) (.inr l1)
    · rw [Array.toList_append]; exact triples_snoc ht
    · rw [Array.toList_append]; exact codeAmong_snoc _ ht hn
  · refine nestHit_K F N T C hcd (List.mem_append_right _ (.head _)) ht hf hcl ?_
    intro f ctv doc h' tk F' N' l1
    refine h f c' oc vs t ctv doc h' tk ps F' ?_ hd hv ht hf l1 (.inl hm)
    intro q hq
    rcases List.mem_cons.mp hq with rfl | hq
    · exact N' _ (.head _)
    · rcases List.mem_cons.mp hq with rfl | hq
      · exact N' _ (.tail _ (List.mem_append_right _ (.tail _ hm)))
      · exact N' _ (.tail _ hq)
end
theorem codeAmong_pos {q q' : Pos} (h1 : q.line = q'.line) (h2 : q.col = q'.col) (l : List Value) : codeAmong q l = codeAmong q' l := by
  fun_induction codeAmong q l with
  | case1 line t col u c rest hc => unfold codeAmong; rw [h1, h2] at hc; rw [if_pos hc]
  | case2 line t col u c rest hc ih => rw [ih]; conv => rhs; unfold codeAmong
                                       rw [h1, h2] at hc; rw [if_neg hc]
  | case3 l h => unfold codeAmong; split
                 · exact absurd rfl (h _ _ _ _ _ _)
                 · rfl
def IsCode (o : Obj) : Prop := ∃ vs q t, o.data = .fields vs ∧ vs[1]? = some (.str q t)
theorem not_code_tab {ps : Array Value} (h : TriplesOk ps.toList) : ¬ IsCode (tabObj ps) := by
  rintro ⟨vs, q, t, h1, h2⟩
  have e : ps = vs := Data.fields.inj h1
  subst e
  rw [← Array.getElem?_toList] at h2
  generalize ps.toList = l at h h2
  unfold TriplesOk at h
  split at h
  · simp at h2
  · simp at h2
  · exact h
def TabOk (line col : Nat) (qual : Str) (ps : Array Value) (l : List (Addr × Obj)) : Prop := TriplesOk ps.toList ∧ ∀ q : Pos, q.line = line → q.col = col → CodeIn q qual ps l
theorem TabOk.of {pos : Pos} {line col : Nat} {qual : Str} {ps : Array Value} {l : List (Addr × Obj)} {c' : Addr} {oc : Obj} {vs : Array Value} {t : Tok} (h1 : pos.line = line) (h2 : pos.col = col) (ht : TriplesOk ps.toList) (hc : codeAmong pos ps.toList = some (.ref c')) (hm : (c', oc) ∈ l) (hd : oc.data = .fields vs) (hv : vs[1]? = some (.str qual t)) : TabOk line col qual ps l :=
  ⟨ht, fun q e1 e2 => .inr ⟨c', oc, vs, t, (codeAmong_pos (e1.trans h1.symm) (e2.trans h2.symm) _).trans hc, hm, hd, hv⟩⟩
end Mine
end

section -- Lad
open PySem PySem.W PySem.Spec PySem.Calls PyProof.Rows
namespace Mine
theorem lt1 {n : Nat} : n < n + 1 := Nat.lt_succ_self n
theorem lt2 {n : Nat} : n < n + 1 + 1 := Nat.lt_succ_of_lt lt1
theorem lt3 {n : Nat} : n < n + 1 + 1 + 1 := Nat.lt_succ_of_lt lt2
theorem mid_all {Lo Hi mid k kk : Nat} (h1 : Hi - Lo ≤ k + 1) (h2 : Lo < Hi) (h3 : Hi ≤ kk) (hne : Lo + 1 ≠ Hi) (hmid : (Lo + Hi) / 2 = mid) :
    (Lo < mid ∧ mid < Hi ∧ mid - Lo ≤ k ∧ Hi - mid ≤ k) ∧ mid ≤ kk ∧ Hi - Lo = mid - Lo + (Hi - mid) := by omega
theorem half_int (Lo Hi : Nat) : Int.fdiv ((Lo : Int) + (Hi : Int)) (2 ^ Int.toNat 1) = (((Lo + Hi) / 2 : Nat) : Int) := by
  show Int.fdiv _ 2 = _
  rw [Int.fdiv_eq_ediv_of_nonneg _ (by decide)]; omega
theorem rec_dn {dp k : Nat} (h : dp + (k + 1) + 3 < recursionLimit) : dp + 1 + k + 3 < recursionLimit := by omega
theorem line_dn {un k : Nat} (h : un + 3 * (k + 1) + 20 < cLine) : un + 3 + 3 * k + 20 < cLine := by omega
theorem sub_le100 {mid Lo kk : Nat} (h : mid ≤ kk) (h2 : kk ≤ 100) : mid - Lo ≤ 100 := Nat.le_trans (Nat.sub_le _ _) (Nat.le_trans h h2)
theorem sub_di {α : Type} {f c a3 a2 a1 t l : α} {r : List α} : ∀ p ∈ t :: l :: ([c] ++ r), p ∈ f :: c :: a3 :: a2 :: a1 :: t :: l :: r := by
  intro p hp
  simp only [List.mem_cons, List.singleton_append] at hp ⊢
  rcases hp with h | h | h | h <;> simp only [h, true_or, or_true]
theorem sub_in {α : Type} {f c d a3 a2 a1 t : α} {r : List α} : ∀ p ∈ t :: d :: ([c] ++ r), p ∈ f :: c :: d :: a3 :: a2 :: a1 :: t :: r := by
  intro p hp
  simp only [List.mem_cons, List.singleton_append] at hp ⊢
  rcases hp with h | h | h | h <;> simp only [h, true_or, or_true]
end Mine
end

section -- Di
open PySem PySem.W PySem.Spec PySem.Calls PyProof.Rows
theorem Mine.fillDi : (Challenge.rw_ph0127_01.prog = Challenge.rw_ph0127_01.prog ∧ Mine.hd.heap_1 = Mine.hd.heap_1) := by k_fill; exact ⟨rfl, rfl⟩
namespace Mine
local macro_rules | `(tactic| walk_at "exec FunctionDef") => `(tactic| (k_here; refine Halt.out ?_))
local macro_rules | `(tactic| walk_at "truthy ref") => `(tactic| (k_here; refine Halt.out ?_))
local macro_rules | `(tactic| walk_at "call builtin:len") => `(tactic| (k_here; refine Halt.out ?_))
local macro_rules | `(tactic| walk_at "call ref") => `(tactic| (k_here; refine Halt.out ?_))
abbrev natsV (xs : List (Nat × Tok)) : List Value := xs.map fun x => Value.int (x.1 : Int) x.2
local macro_rules | `(tactic| walk_at "binaryOp Mult int int") => `(tactic| (k_here; refine Halt.out ?_))
local macro_rules | `(tactic| walk_at "binaryOp LShift int int") => `(tactic| (k_here; refine Halt.out ?_))
local macro_rules | `(tactic| walk_at "subscriptTail Name Name ref int") => `(tactic| (k_here; refine Halt.out ?_))
abbrev IsList' (h : Heap) (l : Addr) (vs : List Value) : Prop := h.IsList l vs.toArray
theorem di_call {w : World} {l : Addr} {xs : List (Nat × Tok)} {nl n : Nat} {t3 : Tok} {ps : Array Value}
    {p : Program} {loose : List Str} {mean : ExcName → Option Value} {mg mb : Str → Option Value} {dp un : Nat} {gd : Option (List Code)} {cn : Str} {cs : Scope} {a : Addr} {ccd : Value} {cl : List (Str × Addr)} {outer : List Env} {A₀ : Around} {base h₀ : Heap} {L : Addr} {m : Str → Option Value} {news : List (Addr × Obj)} {s : Shared}
    {Q E : Value → Shared → Prop}
    (B : Below A₀ base outer h₀) (F : Fr h₀ L s.heap m) (X : (Mine.hd.heap_1 w.params).In h₀) (N : News h₀ L s.heap ((37, tabObj ps) :: (l, listOf (natsV xs).toArray nl) :: news)) (hC : CodeHd h₀ 41 37) (hn37 : ∀ p ∈ (l, listOf (natsV xs).toArray nl) :: news, p.1 ≠ 37) (hdig : ∀ x ∈ xs, x.1 < 2 ^ n) (hn1 : n ≤ 1000) (hxl : xs.length ≤ 100) (hps : TabOk 47 4 (Str.ofString "_digits2int.<locals>.inner") ps ((l, listOf (natsV xs).toArray nl) :: news))
    (T : Top p loose mean mg mb h₀) (hk : cs.kind = .function) (hd : dp + xs.length + 10 < recursionLimit) (hu : un + 3 * xs.length + 60 < cLine)
    (hret : ∀ h' tk' u ps' extra, Fr h₀ L h' m → News h₀ L h' ((37, tabObj ps') :: (l, listOf (natsV xs).toArray nl) :: (extra ++ news)) → TabOk 47 4 (Str.ofString "_digits2int.<locals>.inner") ps' (extra ++ news) → (∀ p ∈ extra, p.1 ≠ 37 ∧ (p ∈ (l, listOf (natsV xs).toArray nl) :: news ∨ ∀ q ∈ (l, listOf (natsV xs).toArray nl) :: news, q.1 < p.1) ∧ IsCode p.2) → Q (.int ((dv n (xs.map (·.1)) : Nat) : Int) u) { s with heap := h', toks := tk' }) :
    wpAny (model lawProg w) (ktrTop dp un gd cn cs L a ccd cl outer) (call (.ref 42) [.ref l, .int (n : Int) t3]) Q E s := by
  refine wpAny_call ?_
  k_dflt (refine' code_defC ?k1 ?k2 ?k3 ?k4 ?k5 ?kA ?kF ?kK ?k6 ?k7 ?k8 ?k9 ?kB ?kD ?_ ?c2 ?c3 ?c4; (case kA => exact rfl); (case kF => exact rfl); (case kK => assumption); (case k1 => k_asm); (case k2 => k_asm); (case k3 => k_asm); (case k4 => k_asm); (case k5 => k_asm); (case k6 => k_is); (case k7 => k_is); (case k8 => ktr_room); (case k9 => exact BindsTo.of_eq rfl); (case kB => exact rfl); (case kD => decide +kernel); (case c2 => exact rfl); (case c3 => exact rfl); (case c4 => exact rfl); k_whole; intro g' L' h' tk' cells' FG F' N' Y' B' X' T' l1; (try k_lt l1); k_cells Y'; (try simp only [List.cons_append, List.nil_append] at N'); (try dsimp only); (try k_fold))
  have hC' := hC.keeps FG.keep
  have l37 : @LT.lt Nat _ 37 L' := l1.1
  have lL : @LT.lt Nat _ l L' := l1.2.1
  have lN : ∀ p ∈ news, @LT.lt Nat _ p.1 L' := fun p hp => ktn_ltOf l1.2.2 p hp
  k_steps
  refine Halt.on ?_
  k_dflt (refine' nestDef_K ?d0 ?k0 ?a0 ?_; (case d0 => exact rfl); (case k0 => exact rfl); (case a0 => exact rfl))
  rename News _ _ _ _ => N0
  obtain ⟨ht0, hcase⟩ := hps
  k_dflt (refine' nest_any (pre := [_, _, _]) ?F N0 ?T ?C ?cd ?h1 hn37 ht0 ?n ?cl ?_; (case F => k_asm); (case T => k_asm); (case cd => exact rfl); (case C => kn_code); (case h1 => exact List.forall_mem_cons.mpr ⟨Nat.ne_of_gt (Nat.lt_trans l37 lt3), List.forall_mem_cons.mpr ⟨Nat.ne_of_gt (Nat.lt_trans l37 lt2), List.forall_mem_cons.mpr ⟨Nat.ne_of_gt (Nat.lt_trans l37 lt1), List.forall_mem_nil _⟩⟩⟩); (case n => exact hcase _ rfl rfl); (case cl => exact rfl); k_whole)
  intro f' c' oc' vs' t' ct' dc' h' tk' ps' F' N' d1' d2' ht' hhit l1 l2
  (try dsimp only [List.cons_append, List.nil_append] at N')
  have c1 : c' ≠ L' + 1 + 1 + 1 := by
    rcases l2 with h | h
    · exact fun e => absurd (by rcases List.mem_cons.mp h with h | h; (· rw [show c' = l from congrArg Prod.fst h] at e; exact e); (· exact absurd e (Nat.ne_of_lt (Nat.lt_trans (lN _ h) lt3)))) (show ¬ (l = L' + 1 + 1 + 1) from Nat.ne_of_lt (Nat.lt_trans lL lt3))
    · exact Nat.ne_of_gt (h _ (.head _))
  have hc37 : c' ≠ 37 := by
    rcases l2 with h | h
    · exact hn37 _ h
    · exact Nat.ne_of_gt (h (37, tabObj ps) (List.mem_append_right _ (.head _)))
  have hcx : (c', oc') ∈ (l, listOf (natsV xs).toArray nl) :: news ∨ ∀ q ∈ (l, listOf (natsV xs).toArray nl) :: news, q.1 < c' := l2.imp id fun h q hq => h q (List.mem_append_right _ (.tail _ hq))
  have c2 : @LT.lt Nat _ (L' + 1 + 1 + 1) f' := l1 _ (.head _)
  refine storeX_C F' N' rfl (.tail (Nat.ne_of_gt c2) (.tail c1 (.head ?_))) (by assumption) ?_
  · refine List.forall_mem_cons.mpr ⟨Nat.ne_of_lt lt1, List.forall_mem_cons.mpr ⟨Nat.ne_of_lt lt2, List.forall_mem_cons.mpr ⟨Nat.ne_of_lt (Nat.lt_trans l37 lt3), List.forall_mem_cons.mpr ⟨Nat.ne_of_lt (Nat.lt_trans lL lt3), fun p hp => Nat.ne_of_lt (Nat.lt_trans (lN p hp) lt3)⟩⟩⟩⟩
  intro h3 oI F3 N3 dI
  (try dsimp only [List.cons_append, List.nil_append] at N3)
  clear F' N'
  k_steps
  refine Halt.on ?_
  have hli : IsList' h3 l (natsV xs) := ⟨_, nat_ N3 6 rfl, rfl, _, rfl⟩
  refine wpAny_truthy_list hli ?_ ?_
  · rw [List.size_toArray, List.length_map]; omega
  by_cases hx : xs = []
  · subst hx
    k_steps
    rename News h₀ _ _ _ => NE
    refine hret _ _ _ ps' [(c', oc')] (by assumption) (News.perm NE sub_di) (TabOk.of rfl rfl ht' hhit (.head _) d1' d2') ?_
    · exact List.forall_mem_cons.mpr ⟨⟨hc37, hcx, _, _, _, d1', d2'⟩, List.forall_mem_nil _⟩
  rw [if_pos (by cases xs with | nil => exact absurd rfl hx | cons a b => rfl)]
  k_steps
  refine Halt.on ?_
  refine call_len_list hli ?_ ?_
  · rw [List.size_toArray, List.length_map]; omega
  k_steps
  refine Halt.on ?_
  rename Fr _ _ _ _ => F5
  rename News _ _ _ _ => N5
  refine name_it (P := fun o => News g' L' _ ((f', o) :: (c', oc') :: (L' + 1 + 1 + 1, oI) :: _)) N5 ?_
  intro OB hOB
  have key : ∀ (k Lo Hi : Nat), Hi - Lo ≤ k → Lo < Hi → Hi ≤ xs.length → ∀ {dp un : Nat} {gd : Option (List Code)} {cn : Str} {cs : Scope} {L a : Addr} {ccd : Value} {cl : List (Str × Addr)} {outer : List Env} {A₀ : Around} {base h₀ : Heap} {m : Str → Option Value} {s : Shared} {Q E : Value → Shared → Prop} {t1 t2 : Tok} {o1 o2 o3 tb : Obj},
      Below A₀ base outer h₀ → Fr h₀ L s.heap m → (Mine.hd.heap_1 w.params).In h₀ → o1.data = .cell (some (.ref f')) → o2.data = .cell (some (.int (n : Int) t3)) → o3.data = .cell (some (.ref l)) → News h₀ L s.heap ((f', OB) :: (c', oc') :: (L' + 1 + 1 + 1, o1) :: (L' + 1 + 1, o2) :: (L' + 1, o3) :: (37, tb) :: (l, listOf (natsV xs).toArray nl) :: news) → Top p loose mean mg mb h₀ → CodeHd h₀ 41 37 → cs.kind = .function → dp + k + 3 < recursionLimit → un + 3 * k + 20 < cLine →
      (∀ h' tk' u, Fr h₀ L h' m → News h₀ L h' ((f', OB) :: (c', oc') :: (L' + 1 + 1 + 1, o1) :: (L' + 1 + 1, o2) :: (L' + 1, o3) :: (37, tb) :: (l, listOf (natsV xs).toArray nl) :: news) → Q (.int ((dv n (seg xs Lo Hi) : Nat) : Int) u) { s with heap := h', toks := tk' }) →
      wpAny (model lawProg w) (ktrTop dp un gd cn cs L a ccd cl outer) (call (.ref f') [.int Lo t1, .int Hi t2]) Q E s := by
    clear FG B' X' T' hC' F5 N5 hli B F X N T hC
    intro k
    induction k with
    | zero => intro Lo Hi h1 h2; exact absurd (Nat.sub_pos_of_lt h2) (Nat.not_lt.mpr h1)
    | succ k ih =>
      intro Lo Hi h1 hlt h3 dp un gd cn cs L a ccd cl outer A₀ base h₀ m s Q E t1 t2 o1 o2 o3 tb B F X e1 e2 e3 N T hC hk hd hu hret
      subst hOB
      refine wpAny_call ?_
      k_dflt (refine' code_nest ?k1 ?k2 ?k3 ?k4 ?k5 ?kA ?kF ?kK ?k6 ?k7 ?k8 ?k9 ?kB ?_ ?c2 ?c3 ?c4 ?c5; (case kA => exact rfl); (case kF => exact rfl); (case kK => assumption); (case k1 => k_asm); (case k2 => k_asm); (case k3 => k_asm); (case k4 => k_asm); (case k5 => k_asm); (case k6 => k_mem); (case k7 => exact codeRec_news (by k_asm) (by k_mem) (by assumption) (by assumption)); (case k8 => ktr_room); (case k9 => exact BindsTo.of_eq rfl); (case c5 => decide); (case kB => exact locs rfl); (case c2 => exact rfl); (case c3 => exact rfl); (case c4 => exact rfl); k_whole; intro g2 L2 h2 FG F2 N2 B2 X2 T2; (try dsimp only); (try k_fold))
      have hC2 := hC.keeps FG.keep
      k_steps
      · refine Halt.on ?_
        rename Fr _ _ _ _ => F6
        rename News _ _ _ _ => N6
        have hli : Heap.IsList _ l (natsV xs).toArray := ⟨_, nat_ N6 6 rfl, rfl, _, rfl⟩
        obtain ⟨x, hxx⟩ : ∃ x, xs[Lo]? = some x := ⟨xs[Lo]'(by omega), List.getElem?_eq_getElem (by omega)⟩
        refine item_litK (v := .int (x.1 : Int) x.2) hli (by omega) (by omega) ?_ ?_
        · rw [Int.toNat_natCast, List.getElem?_map, hxx]; rfl
        have hHi : Hi = Lo + 1 := by omega
        k_steps
        rw [hHi, seg_one hxx] at hret
        exact hret _ _ _ (by assumption) (by assumption)
      · refine Halt.on ?_
        rename Fr _ _ _ _ => F6
        rename News _ _ _ _ => N6
        rw [half_int] at F6
        rw [half_int]
        generalize hmid : (Lo + Hi) / 2 = mid at *
        have hne : Lo + 1 ≠ Hi := by omega
        obtain ⟨⟨hm1, hm2, hm3, hm4⟩, hm5, hm6⟩ := mid_all h1 hlt h3 hne hmid
        rw [← Int.natCast_sub (Nat.le_of_lt hm1)]
        refine mul_int ?_ (IntMulOk.of_left (intBits_le_iff.mpr ?_))
        · rw [show ((mid - Lo : Nat) : Int) * (n : Int) = (((mid - Lo) * n : Nat) : Int) by rw [Int.natCast_mul]]
          k_steps
          refine Halt.on ?_
          rename Fr _ _ _ _ => F7
          rename News _ _ _ _ => N7
          refine ih mid Hi hm4 hm2 h3 (by assumption) F7 (by assumption) e1 e2 e3 N7 (by assumption) (by assumption) rfl ?_ ?_ ?_
          · exact rec_dn hd
          · exact line_dn hu
          intro h8 tk8 u8 F8 N8
          clear F7 N7
          have s1 : (seg xs mid Hi).length = Hi - mid := seg_len xs h3
          have s2 : dv n (seg xs mid Hi) < 2 ^ (n * (Hi - mid)) := s1 ▸ dv_lt n _ (fun d hd => by obtain ⟨x, hx, rfl⟩ := seg_mem hd; exact hdig x hx)
          have s3 : n * (Hi - mid) ≤ 1000 * 100 := Nat.mul_le_mul hn1 (sub_le100 h3 hxl)
          have s4 : (mid - Lo) * n ≤ 100 * 1000 := Nat.mul_le_mul (sub_le100 hm5 hxl) hn1
          have s5 : Builtin.Int.intBits ((dv n (seg xs mid Hi) : Nat) : Int) ≤ n * (Hi - mid) := intBits_le_iff.mpr (by rw [Int.natAbs_natCast]; exact s2)
          k_steps
          refine Halt.on ?_
          refine lshift_int (by omega) (by omega) ?_
          k_steps
          refine Halt.on ?_
          rename Fr _ _ _ _ => F9
          rename News _ _ _ _ => N9
          refine ih Lo mid hm3 hm1 hm5 (by assumption) F9 (by assumption) e1 e2 e3 N9 (by assumption) (by assumption) rfl ?_ ?_ ?_
          · exact rec_dn hd
          · exact line_dn hu
          intro ha tka ua Fa Na
          clear F9 N9
          k_steps
          have efin : ((dv n (seg xs mid Hi) : Nat) : Int) * 2 ^ Int.toNat (((mid - Lo) * n : Nat) : Int) + ((dv n (seg xs Lo mid) : Nat) : Int) = ((dv n (seg xs Lo Hi) : Nat) : Int) := by
            rw [seg_split xs (Nat.le_of_lt hm1) (Nat.le_of_lt hm2), dv_append, seg_len xs hm5, Int.toNat_natCast, Int.natCast_add, Int.natCast_mul, Int.natCast_pow, Nat.mul_comm n, Int.add_comm, Int.mul_comm]
            rfl
          rw [efin]
          exact hret _ _ _ (by assumption) (by assumption)
        · rw [Int.natAbs_natCast]; exact Nat.lt_of_le_of_lt (sub_le100 hm5 hxl) (by decide)
  rw [hOB] at key
  have hln : 0 < xs.length := List.length_pos_iff.mpr hx
  rw [show (((natsV xs).toArray.size : Nat) : Int) = ((xs.length : Nat) : Int) by rw [List.size_toArray, List.length_map]]
  refine key xs.length 0 xs.length (Nat.le_refl _) hln (Nat.le_refl _) (by assumption) F5 (by assumption) dI (by assumption) (by assumption) N5 (by assumption) (by assumption) rfl ?_ ?_ ?_
  · show dp + 1 + xs.length + 3 < recursionLimit; omega
  · show un + 3 + 3 * xs.length + 20 < cLine; omega
  intro h9 tk9 u9 F9 N9
  clear F5 N5
  k_steps
  rw [seg_all]
  rename News h₀ _ _ _ => NE
  refine hret _ _ _ ps' [(c', oc')] (by assumption) (News.perm NE sub_di) (TabOk.of rfl rfl ht' hhit (.head _) d1' d2') ?_
  · exact List.forall_mem_cons.mpr ⟨⟨hc37, hcx, _, _, _, d1', d2'⟩, List.forall_mem_nil _⟩
end Mine
end

section -- In
open PySem PySem.W PySem.Spec PySem.Calls PyProof.Rows
theorem Mine.fillIn : (Challenge.rw_ph0127_01.prog = Challenge.rw_ph0127_01.prog ∧ Mine.hd.heap_1 = Mine.hd.heap_1) := by k_fill; exact ⟨rfl, rfl⟩
namespace Mine
local macro_rules | `(tactic| walk_at "exec FunctionDef") => `(tactic| (k_here; refine Halt.out ?_))
local macro_rules | `(tactic| walk_at "truthy ref") => `(tactic| (k_here; refine Halt.out ?_))
local macro_rules | `(tactic| walk_at "call builtin:len") => `(tactic| (k_here; refine Halt.out ?_))
local macro_rules | `(tactic| walk_at "call ref") => `(tactic| (k_here; refine Halt.out ?_))
local macro_rules | `(tactic| walk_at "binaryOp Mult int int") => `(tactic| (k_here; refine Halt.out ?_))
local macro_rules | `(tactic| walk_at "binaryOp LShift int int") => `(tactic| (k_here; refine Halt.out ?_))
local macro_rules | `(tactic| walk_at "binaryOp BitXor int int") => `(tactic| (k_here; refine Halt.out ?_))
local macro_rules | `(tactic| walk_at "binaryOp Mult ref int") => `(tactic| (k_here; refine Halt.out ?_))
theorem drop2 {h₀ h : Heap} {L : Addr} {x y : Addr × Obj} {t : List (Addr × Obj)} (N : News h₀ L h (x :: y :: t)) : News h₀ L h (x :: t) := fun p hp => N p (by rcases List.mem_cons.mp hp with h | h; exact h ▸ .head _; exact .tail _ (.tail _ h))
theorem rep_nats (k : Nat) (t : Tok) : (List.replicate (Int.toNat (k : Int)) [Value.int 0 t]).flatten = natsV (List.replicate k (0, t)) := by
  rw [Int.toNat_natCast]
  induction k with
  | zero => rfl
  | succ k ih => rw [List.replicate_succ, List.flatten_cons, ih, List.replicate_succ]; rfl
theorem in_call {w : World} {x n : Nat} {t1 t3 : Tok} {ps : Array Value}
    {p : Program} {loose : List Str} {mean : ExcName → Option Value} {mg mb : Str → Option Value} {dp un : Nat} {gd : Option (List Code)} {cn : Str} {cs : Scope} {a : Addr} {ccd : Value} {cl : List (Str × Addr)} {outer : List Env} {A₀ : Around} {base h₀ : Heap} {L : Addr} {m : Str → Option Value} {news : List (Addr × Obj)} {s : Shared}
    {Q E : Value → Shared → Prop}
    (B : Below A₀ base outer h₀) (F : Fr h₀ L s.heap m) (X : (Mine.hd.heap_1 w.params).In h₀) (N : News h₀ L s.heap ((30, tabObj ps) :: news)) (hC : CodeHd h₀ 34 30) (hn30 : ∀ p ∈ news, p.1 ≠ 30) (hn0 : 0 < n) (hn1 : n ≤ 1000) (hx : x < 2 ^ (n * 100))
    (hps : TabOk 32 4 (Str.ofString "_int2digits.<locals>.inner") ps news)
    (T : Top p loose mean mg mb h₀) (hk : cs.kind = .function) (hd : dp + 110 < recursionLimit) (hu : un + 400 < cLine)
    (hret : ∀ D h' tk' ys nl ps' extra kk, ys.map (·.1) = dg n kk x → x < 2 ^ (n * kk) → (∀ K, x < 2 ^ (n * K) → kk ≤ K) → Fr h₀ L h' m → News h₀ L h' ((30, tabObj ps') :: (D, listOf (natsV ys).toArray nl) :: (extra ++ news)) → TabOk 32 4 (Str.ofString "_int2digits.<locals>.inner") ps' (extra ++ news) → (∀ p ∈ extra, p.1 ≠ 30 ∧ (p ∈ news ∨ ∀ q ∈ news, q.1 < p.1) ∧ IsCode p.2) → (∀ p ∈ (30, tabObj ps) :: news, p.1 < D) → Q (.ref D) { s with heap := h', toks := tk' }) :
    wpAny (model lawProg w) (ktrTop dp un gd cn cs L a ccd cl outer) (call (.ref 35) [.int (x : Int) t1, .int (n : Int) t3]) Q E s := by
  refine wpAny_call ?_
  k_dflt (refine' code_defC ?k1 ?k2 ?k3 ?k4 ?k5 ?kA ?kF ?kK ?k6 ?k7 ?k8 ?k9 ?kB ?kD ?_ ?c2 ?c3 ?c4; (case kA => exact rfl); (case kF => exact rfl); (case kK => assumption); (case k1 => k_asm); (case k2 => k_asm); (case k3 => k_asm); (case k4 => k_asm); (case k5 => k_asm); (case k6 => k_is); (case k7 => k_is); (case k8 => ktr_room); (case k9 => exact BindsTo.of_eq rfl); (case kB => exact rfl); (case kD => decide +kernel); (case c2 => exact rfl); (case c3 => exact rfl); (case c4 => exact rfl); k_whole; intro g' L' h' tk' cells' FG F' N' Y' B' X' T' l1; (try k_lt l1); k_cells Y'; (try simp only [List.cons_append, List.nil_append] at N'); (try dsimp only); (try k_fold))
  have hC' := hC.keeps FG.keep
  have l30 : @LT.lt Nat _ 30 L' := l1.1
  have lN : ∀ p ∈ news, @LT.lt Nat _ p.1 L' := fun p hp => ktn_ltOf l1.2 p hp
  k_steps
  refine Halt.on ?_
  rename Fr _ _ _ _ => F1
  rename News _ _ _ _ => N1
  generalize hbits : Builtin.Int.intBits (x : Int) = bits
  have e0 : Int.fdiv ((bits : Int) + (n : Int) - 1) (n : Int) = (((bits + n - 1) / n : Nat) : Int) := by
    rw [Int.fdiv_eq_ediv_of_nonneg _ (by omega), Int.natCast_ediv]; congr 1; omega
  rw [e0]
  have hb : bits ≤ n * 100 := by rw [← hbits]; exact intBits_le_iff.mpr (by rw [Int.natAbs_natCast]; exact hx)
  have hk100 : (bits + n - 1) / n ≤ 100 := by
    refine Nat.le_of_lt_succ ((Nat.div_lt_iff_lt_mul hn0).mpr ?_)
    rw [show Nat.succ 100 * n = n * 100 + n by omega]; omega
  have hkb : bits ≤ n * ((bits + n - 1) / n) := by
    have := Nat.lt_div_mul_add hn0 (a := bits + n - 1)
    rw [Nat.mul_comm]; omega
  have hxb : ∀ b, x < 2 ^ b ↔ bits ≤ b := fun b => by
    have h := @intBits_le_iff b (x : Int)
    rw [hbits, Int.natAbs_natCast] at h
    exact h.symm
  have hKmin : ∀ K, x < 2 ^ (n * K) → (bits + n - 1) / n ≤ K := fun K hK => by
    refine Nat.le_of_lt_succ ((Nat.div_lt_iff_lt_mul hn0).mpr ?_)
    have := (hxb _).mp hK
    rw [Nat.succ_mul, Nat.mul_comm K]; omega
  have hxk : x < 2 ^ (n * ((bits + n - 1) / n)) := (hxb _).mpr hkb
  generalize hkk : (bits + n - 1) / n = kk at *
  refine KM.mul (ns := [0]) F1 N1 ⟨_, nat_ N1 0 rfl, rfl, _, rfl⟩ (.cons _ _ .nil) (by omega) (by omega) (by show 1 * Int.toNat (kk : Int) ≤ 2 ^ 24; omega) ?_
  intro D2 h2 F2 N2 ltD _ _ _ _ _ _
  clear F1 N1
  k_steps
  rw [rep_nats] at N2
  have N3 := drop2 N2
  have d1 : @LT.lt Nat _ (L' + 1 + 1 + 1) D2 := ltD _ (.tail _ (.head _))
  have dL : @LT.lt Nat _ L' D2 := Nat.lt_trans lt3 d1
  clear N2
  refine storeX_C (by assumption) N3 rfl (.tail (Nat.ne_of_gt (Nat.lt_trans lt1 d1)) (.tail (Nat.ne_of_gt lt1) (.head ?_))) (by assumption) ?_
  · refine List.forall_mem_cons.mpr ⟨Nat.ne_of_lt lt1, List.forall_mem_cons.mpr ⟨Nat.ne_of_lt (Nat.lt_trans l30 lt2), fun p hp => Nat.ne_of_lt (Nat.lt_trans (lN p hp) lt2)⟩⟩
  intro h3 oA F3 N4 dA
  (try dsimp only [List.cons_append, List.nil_append] at N4)
  clear F2 N3
  k_steps
  refine Halt.on ?_
  k_dflt (refine' nestDef_K ?d0 ?k0 ?a0 ?_; (case d0 => exact rfl); (case k0 => exact rfl); (case a0 => exact rfl))
  rename News _ _ _ _ => N0
  obtain ⟨ht0, hcase⟩ := hps
  k_dflt (refine' nest_any (pre := [_, _, _, _]) ?F N0 ?T ?C ?cd ?h1 hn30 ht0 ?nn9 ?cl9 ?_; (case F => k_asm); (case T => k_asm); (case cd => exact rfl); (case C => kn_code); (case h1 => exact List.forall_mem_cons.mpr ⟨Nat.ne_of_gt (Nat.lt_trans l30 dL), List.forall_mem_cons.mpr ⟨Nat.ne_of_gt (Nat.lt_trans l30 lt3), List.forall_mem_cons.mpr ⟨Nat.ne_of_gt (Nat.lt_trans l30 lt2), List.forall_mem_cons.mpr ⟨Nat.ne_of_gt (Nat.lt_trans l30 lt1), List.forall_mem_nil _⟩⟩⟩⟩); (case nn9 => exact hcase _ rfl rfl); (case cl9 => exact rfl); k_whole)
  intro f' c' oc' vs' t' ct' dc' h5 tk5 ps' F5 N5 d1' d2' ht' hhit l5 l6
  (try dsimp only [List.cons_append, List.nil_append] at N5)
  have hc30 : c' ≠ 30 := by
    rcases l6 with h | h
    · exact hn30 _ h
    · exact Nat.ne_of_gt (h (30, tabObj ps) (List.mem_append_right _ (.head _)))
  have hcx : (c', oc') ∈ news ∨ ∀ q ∈ news, q.1 < c' := l6.imp id fun h q hq => h q (List.mem_append_right _ (.tail _ hq))
  have c1 : c' ≠ L' + 1 + 1 + 1 := by
    rcases l6 with h | h
    · exact Nat.ne_of_lt (Nat.lt_trans (lN _ h) lt3)
    · exact Nat.ne_of_gt (h _ (.tail _ (.head _)))
  have cD : c' ≠ D2 := by
    rcases l6 with h | h
    · exact Nat.ne_of_lt (Nat.lt_trans (lN _ h) dL)
    · exact Nat.ne_of_gt (h _ (.head _))
  have f1 : @LT.lt Nat _ D2 f' := l5 _ (.head _)
  refine storeX_C F5 N5 rfl (.tail (Nat.ne_of_gt (Nat.lt_trans d1 f1)) (.tail c1 (.tail (Nat.ne_of_gt d1) (.head ?_)))) (by assumption) ?_
  · refine List.forall_mem_cons.mpr ⟨Nat.ne_of_lt lt1, List.forall_mem_cons.mpr ⟨Nat.ne_of_lt lt2, List.forall_mem_cons.mpr ⟨Nat.ne_of_lt (Nat.lt_trans l30 lt3), fun p hp => Nat.ne_of_lt (Nat.lt_trans (lN p hp) lt3)⟩⟩⟩
  intro h6 oI F6 N6 dI
  (try dsimp only [List.cons_append, List.nil_append] at N6)
  clear F5 N5 N0
  k_steps
  · refine Halt.on ?_
    rename Fr _ _ _ _ => F7
    rename News _ _ _ _ => N7
    refine call_len_list ⟨_, nat_ N7 2 rfl, rfl, _, rfl⟩ ?_ ?_
    · rw [List.size_toArray, List.length_map, List.length_replicate]; omega
    k_steps
    refine Halt.on ?_
    refine name_it (P := fun o => News g' L' _ ((f', o) :: (c', oc') :: _)) N7 ?_
    intro OB hOB
    have key : ∀ (k Lo Hi xx : Nat), Hi - Lo ≤ k → Lo < Hi → Hi ≤ kk → xx < 2 ^ (n * (Hi - Lo)) → ∀ (ys : List (Nat × Tok)), ys.length = kk → ∀ {dp un : Nat} {gd : Option (List Code)} {cn : Str} {cs : Scope} {L a : Addr} {ccd : Value} {cl : List (Str × Addr)} {outer : List Env} {A₀ : Around} {base h₀ : Heap} {m : Str → Option Value} {s : Shared} {Q E : Value → Shared → Prop} {t0 t1 t2 : Tok} {o1 o2 o3 tb : Obj} {nl : Nat},
        Below A₀ base outer h₀ → Fr h₀ L s.heap m → (Mine.hd.heap_1 w.params).In h₀ → o1.data = .cell (some (.ref f')) → o2.data = .cell (some (.ref D2)) → o3.data = .cell (some (.int (n : Int) t3)) →
        News h₀ L s.heap ((f', OB) :: (c', oc') :: (D2, listOf (natsV ys).toArray nl) :: (L' + 1 + 1 + 1, o1) :: (L' + 1 + 1, o2) :: (L' + 1, o3) :: (30, tb) :: news) → Top p loose mean mg mb h₀ → CodeHd h₀ 34 30 → cs.kind = .function → dp + k + 3 < recursionLimit → un + 3 * k + 20 < cLine →
        (∀ h' tk' ys' nl', ys'.length = kk → ys'.map (·.1) = (ys.map (·.1)).take Lo ++ dg n (Hi - Lo) xx ++ (ys.map (·.1)).drop Hi → Fr h₀ L h' m → News h₀ L h' ((f', OB) :: (c', oc') :: (D2, listOf (natsV ys').toArray nl') :: (L' + 1 + 1 + 1, o1) :: (L' + 1 + 1, o2) :: (L' + 1, o3) :: (30, tb) :: news) → Q .none { s with heap := h', toks := tk' }) →
        wpAny (model lawProg w) (ktrTop dp un gd cn cs L a ccd cl outer) (call (.ref f') [.int (xx : Int) t0, .int (Lo : Int) t1, .int (Hi : Int) t2]) Q E s := by
      clear FG B' X' T' hC' F7 N7 B F X N T hC
      intro k
      induction k with
      | zero => intro Lo Hi xx h1 h2; exact absurd (Nat.sub_pos_of_lt h2) (Nat.not_lt.mpr h1)
      | succ k ih =>
        intro Lo Hi xx h1 hlt h3 hxx ys hys dp un gd cn cs L a ccd cl outer A₀ base h₀ m s Q E t0 t1 t2 o1 o2 o3 tb nl B F X e1 e2 e3 N T hC hk hd hu hret
        subst hOB
        refine wpAny_call ?_
        k_dflt (refine' code_nest ?k1 ?k2 ?k3 ?k4 ?k5 ?kA ?kF ?kK ?k6 ?k7 ?k8 ?k9 ?kB ?_ ?c2 ?c3 ?c4 ?c5; (case kA => exact rfl); (case kF => exact rfl); (case kK => assumption); (case k1 => k_asm); (case k2 => k_asm); (case k3 => k_asm); (case k4 => k_asm); (case k5 => k_asm); (case k6 => k_mem); (case k7 => exact codeRec_news (by k_asm) (by k_mem) (by assumption) (by assumption)); (case k8 => ktr_room); (case k9 => exact BindsTo.of_eq rfl); (case c5 => decide); (case kB => exact locs rfl); (case c2 => exact rfl); (case c3 => exact rfl); (case c4 => exact rfl); k_whole; intro g2 L2 h2 FG F2 N2 B2 X2 T2; (try dsimp only); (try k_fold))
        have hC2 := hC.keeps FG.keep
        k_steps
        · have hHi : Hi = Lo + 1 := by omega
          subst hHi
          rename Fr _ _ _ _ => F6
          rename News _ _ _ _ => N6
          refine set_list (pre := [_, _]) F6 N6 ?_ ?_ ?_ ?_ ?_
          · exact List.forall_mem_cons.mpr ⟨Nat.ne_of_gt f1, List.forall_mem_cons.mpr ⟨cD, List.forall_mem_nil _⟩⟩
          · exact List.forall_mem_cons.mpr ⟨Nat.ne_of_lt d1, List.forall_mem_cons.mpr ⟨Nat.ne_of_lt (Nat.lt_trans lt1 d1), List.forall_mem_cons.mpr ⟨Nat.ne_of_lt (Nat.lt_trans lt2 d1), List.forall_mem_cons.mpr ⟨Nat.ne_of_lt (Nat.lt_trans l30 dL), fun p hp => Nat.ne_of_lt (Nat.lt_trans (lN p hp) dL)⟩⟩⟩⟩
          · rw [List.size_toArray, List.length_map]; omega
          · rw [List.size_toArray, List.length_map]; omega
          intro h7 F7 N7
          rw [set_natsV] at N7
          dsimp only [List.cons_append, List.nil_append] at N7
          clear F6 N6
          k_steps
          refine hret _ _ _ _ ?_ ?_ (by assumption) (by assumption)
          · rw [List.length_set]; exact hys
          · rw [List.map_set]; exact dg_set n _ (by rw [List.length_map]; omega) hxx
        · refine Halt.on ?_
          rename Fr _ _ _ _ => F6
          rename News _ _ _ _ => N6
          rw [half_int] at F6
          rw [half_int]
          generalize hmid : (Lo + Hi) / 2 = mid at *
          have hne : Lo + 1 ≠ Hi := by omega
          obtain ⟨⟨hm1, hm2, hm3, hm4⟩, hm5, hm6⟩ := mid_all h1 hlt h3 hne hmid
          rw [← Int.natCast_sub (Nat.le_of_lt hm1)]
          refine mul_int ?_ (IntMulOk.of_left (intBits_le_iff.mpr ?_))
          · rw [show ((mid - Lo : Nat) : Int) * (n : Int) = (((mid - Lo) * n : Nat) : Int) by rw [Int.natCast_mul]]
            k_steps
            refine Halt.on ?_
            rename Fr _ _ _ _ => F7
            rename News _ _ _ _ => N7
            have e5 : Int.fdiv (xx : Int) (2 ^ Int.toNat (((mid - Lo) * n : Nat) : Int)) = ((xx / 2 ^ ((mid - Lo) * n) : Nat) : Int) := by
              rw [Int.toNat_natCast]; exact fdiv_pow _ _
            have s4 : (mid - Lo) * n ≤ 100 * 1000 := Nat.mul_le_mul (sub_le100 hm5 hk100) hn1
            have s6 : n * (Hi - Lo) ≤ 1000 * 100 := Nat.mul_le_mul hn1 (sub_le100 h3 hk100)
            rw [e5] at F7 ⊢
            have s5 : Builtin.Int.intBits ((xx / 2 ^ ((mid - Lo) * n) : Nat) : Int) ≤ n * (Hi - Lo) := intBits_le_iff.mpr (by rw [Int.natAbs_natCast]; exact Nat.lt_of_le_of_lt (Nat.div_le_self _ _) hxx)
            refine lshift_int (by omega) (by omega) ?_
            k_steps
            refine Halt.on ?_
            refine xor_int ?_
            rw [Int.toNat_natCast, xor_lowI]
            k_steps
            refine Halt.on ?_
            (try clear F6); (try clear N6); (try clear F7); (try clear N7)
            rename Fr _ _ _ _ => F8
            rename News _ _ _ _ => N8
            have q1 : xx % 2 ^ ((mid - Lo) * n) < 2 ^ (n * (mid - Lo)) := by rw [Nat.mul_comm n]; exact Nat.mod_lt _ (Nat.two_pow_pos _)
            have q2 : xx / 2 ^ ((mid - Lo) * n) < 2 ^ (n * (Hi - mid)) := by
              refine Nat.div_lt_of_lt_mul ?_
              rw [← Nat.pow_add, Nat.mul_comm (mid - Lo), ← Nat.mul_add, ← hm6]
              exact hxx
            refine ih Lo mid _ hm3 hm1 hm5 q1 ys hys (by assumption) F8 (by assumption) e1 e2 e3 N8 (by assumption) (by assumption) rfl ?_ ?_ ?_
            · exact rec_dn hd
            · exact line_dn hu
            intro h9 tk9 zs nz hzl hz F9 N9
            clear F8 N8
            k_steps
            refine Halt.on ?_
            rename Fr _ _ _ _ => Fa
            rename News _ _ _ _ => Na
            refine ih mid Hi _ hm4 hm2 h3 q2 zs hzl (by assumption) Fa (by assumption) e1 e2 e3 Na (by assumption) (by assumption) rfl ?_ ?_ ?_
            · exact rec_dn hd
            · exact line_dn hu
            intro hb tkb us nu hul hu' Fb Nb
            clear Fa Na
            k_steps
            refine hret _ _ us nu hul ?_ (by assumption) (by assumption)
            rw [hm6, dg_split, Nat.mul_comm n]
            exact glue (ys.map (·.1)) (zs.map (·.1)) _ _ _ (Nat.le_of_lt hm1) (Nat.le_of_lt hm2) (by rw [List.length_map, hys]; exact h3) (dg_len _ _ _) hz hu'
          · rw [Int.natAbs_natCast]; exact Nat.lt_of_le_of_lt (sub_le100 hm5 hk100) (by decide)
    rw [hOB] at key
    have hxp : 0 < kk := by
      rcases Nat.eq_zero_or_pos kk with h | h
      · subst h
        rw [Nat.mul_zero, Nat.pow_zero] at hxk
        rename (x : Int) ≠ 0 => hh
        omega
      · exact h
    have hsz : (((natsV (List.replicate kk (0, tk'))).toArray.size : Nat) : Int) = ((kk : Nat) : Int) := by rw [List.size_toArray, List.length_map, List.length_replicate]
    rw [hsz]
    refine key kk 0 kk x (Nat.le_refl _) hxp (Nat.le_refl _) (by rw [Nat.sub_zero]; exact hxk) (List.replicate kk (0, tk')) (List.length_replicate ..) (by assumption) F7 (by assumption) dI dA (by assumption) N7 (by assumption) (by assumption) rfl ?_ ?_ ?_
    · show dp + 1 + kk + 3 < recursionLimit; omega
    · show un + 3 + 3 * kk + 20 < cLine; omega
    intro h9 tk9 us nu hul hu' F9 N9
    clear F7 N7
    k_steps
    rename News h₀ _ _ _ => NE
    have hus : us.map (·.1) = dg n kk x := by
      rw [hu', List.take_zero, List.nil_append, List.drop_eq_nil_of_le (by rw [List.length_map, List.length_replicate]; omega), List.append_nil, Nat.sub_zero]
    refine hret _ _ _ us nu ps' [(c', oc')] kk hus hxk hKmin (by assumption) (News.perm NE sub_in) (TabOk.of rfl rfl ht' hhit (.head _) d1' d2') ?_ ?_
    · exact List.forall_mem_cons.mpr ⟨⟨hc30, hcx, _, _, _, d1', d2'⟩, List.forall_mem_nil _⟩
    · exact List.forall_mem_cons.mpr ⟨Nat.lt_trans l30 dL, fun p hp => Nat.lt_trans (lN p hp) dL⟩
  · rename News h₀ _ _ _ => NE
    have hx0 : x = 0 := by rename (x : Int) = 0 => hh; omega
    have hk0 : kk = 0 := Nat.le_zero.mp (hKmin 0 (by rw [hx0, Nat.mul_zero]; decide))
    subst hk0
    refine hret _ _ _ [] 0 ps' [(c', oc')] 0 rfl hxk hKmin (by assumption) (News.perm NE sub_in) (TabOk.of rfl rfl ht' hhit (.head _) d1' d2') ?_ ?_
    · exact List.forall_mem_cons.mpr ⟨⟨hc30, hcx, _, _, _, d1', d2'⟩, List.forall_mem_nil _⟩
    · exact List.forall_mem_cons.mpr ⟨Nat.lt_trans l30 dL, fun p hp => Nat.lt_trans (lN p hp) dL⟩
end Mine
end

section -- Tb
open PySem PySem.W PySem.Spec PySem.Calls PyProof.Rows
namespace Mine
theorem natsV_push (qs : List (Nat × Tok)) (q : Nat) (u : Tok) : (natsV qs).toArray.push (.int (q : Int) u) = (natsV (qs ++ [(q, u)])).toArray := by
  show _ = (List.map _ _).toArray
  rw [List.push_toArray, List.map_append]; rfl
theorem natsV_rev (qs : List (Nat × Tok)) : (natsV qs).toArray.toList.reverse = natsV qs.reverse := by
  show (List.map _ _).reverse = List.map _ _
  rw [List.map_reverse]
def Tabs (p30 p37 : Array Value) (news : List (Addr × Obj)) : Prop :=
  TabOk 32 4 (Str.ofString "_int2digits.<locals>.inner") p30 news ∧ TabOk 47 4 (Str.ofString "_digits2int.<locals>.inner") p37 news ∧ (∀ p ∈ news, p.1 ≠ 30) ∧ (∀ p ∈ news, p.1 ≠ 37)
def Grow (extra news : List (Addr × Obj)) : Prop := ∀ p ∈ extra, p ∈ news ∨ ∀ q ∈ news, q.1 < p.1
theorem TabOk.strip {line col : Nat} {qual : Str} {ps : Array Value} {l l' : List (Addr × Obj)} (h : TabOk line col qual ps l) (hs : ∀ p ∈ l, IsCode p.2 → p ∈ l') : TabOk line col qual ps l' := by
  refine ⟨h.1, fun q e1 e2 => ?_⟩
  rcases h.2 q e1 e2 with hn | ⟨c', oc, vs, t, hf, hm, hd, hv⟩
  · exact .inl hn
  · exact .inr ⟨c', oc, vs, t, hf, hs _ hm ⟨vs, _, t, hd, hv⟩, hd, hv⟩
theorem Tabs.sub {p30 p37 : Array Value} {l l' : List (Addr × Obj)} (h : Tabs p30 p37 l) (hs : ∀ p ∈ l, IsCode p.2 → p ∈ l') (h30 : ∀ p ∈ l', p.1 ≠ 30) (h37 : ∀ p ∈ l', p.1 ≠ 37) : Tabs p30 p37 l' := ⟨h.1.strip hs, h.2.1.strip hs, h30, h37⟩
section
variable {w : World} {p : Program} {loose : List Str} {mean : ExcName → Option Value} {mg mb : Str → Option Value} {dp un : Nat} {gd : Option (List Code)} {cn : Str} {cs : Scope} {a : Addr} {ccd : Value} {cl : List (Str × Addr)} {outer : List Env} {A₀ : Around} {base h₀ : Heap} {L : Addr} {m : Str → Option Value} {news : List (Addr × Obj)} {s : Shared}
    {Q E : Value → Shared → Prop}
theorem iT_call {x n : Nat} {t1 t3 : Tok} {p30 p37 : Array Value}
    (B : Below A₀ base outer h₀) (F : Fr h₀ L s.heap m) (X : (Mine.hd.heap_1 w.params).In h₀) (N : News h₀ L s.heap ((30, tabObj p30) :: (37, tabObj p37) :: news)) (hT : Tabs p30 p37 news) (hC : CodeHd h₀ 34 30) (hn0 : 0 < n) (hn1 : n ≤ 1000) (hx : x < 2 ^ (n * 100))
    (T : Top p loose mean mg mb h₀) (hk : cs.kind = .function) (hd : dp + 110 < recursionLimit) (hu : un + 400 < cLine)
    (hret : ∀ D h' tk' ys nl p30' extra kk, ys.map (·.1) = dg n kk x → x < 2 ^ (n * kk) → (∀ K, x < 2 ^ (n * K) → kk ≤ K) → Fr h₀ L h' m → News h₀ L h' ((30, tabObj p30') :: (37, tabObj p37) :: (D, listOf (natsV ys).toArray nl) :: (extra ++ news)) → Tabs p30' p37 (extra ++ news) → Grow extra news → (∀ p ∈ news, p.1 < D) → 37 < D → Q (.ref D) { s with heap := h', toks := tk' }) :
    wpAny (model lawProg w) (ktrTop dp un gd cn cs L a ccd cl outer) (call (.ref 35) [.int (x : Int) t1, .int (n : Int) t3]) Q E s := by
  obtain ⟨T30, T37, n30, n37⟩ := hT
  refine in_call (news := (37, tabObj p37) :: news) B F X N hC (List.forall_mem_cons.mpr ⟨(show (37 : Nat) ≠ 30 by decide), n30⟩) hn0 hn1 hx (T30.strip fun p hp _ => .tail _ hp) T hk hd hu ?_
  intro D h' tk' ys nl p30' extra kk e1 e2 e3 F' N' hT' hE hD
  have hex : ∀ p ∈ extra, p.1 ≠ 37 := by
    intro p hp e
    rcases (hE p hp).2.1 with h | h
    · rcases List.mem_cons.mp h with h | h
      · exact not_code_tab T37.1 (by have := (hE p hp).2.2; rw [h] at this; exact this)
      · exact n37 p h e
    · have : (37 : Nat) < p.1 := h (37, tabObj p37) (.head _)
      rw [e] at this
      exact Nat.lt_irrefl _ this
  refine hret D h' tk' ys nl p30' extra kk e1 e2 e3 F' (News.perm N' ?_) ⟨hT'.strip ?_, T37.strip fun p hp _ => List.mem_append_right _ hp, ?_, ?_⟩ ?_ (fun p hp => hD p (.tail _ (.tail _ hp))) (hD _ (.tail _ (.head _)))
  · intro p hp
    simp only [List.mem_cons, List.mem_append] at hp ⊢
    rcases hp with h | h | h | h | h <;> simp only [h, true_or, or_true]
  · intro p hp hc
    rcases List.mem_append.mp hp with h | h
    · exact List.mem_append_left _ h
    · rcases List.mem_cons.mp h with h | h
      · exact absurd hc (by rw [h]; exact not_code_tab T37.1)
      · exact List.mem_append_right _ h
  · intro p hp
    rcases List.mem_append.mp hp with h | h
    · exact (hE p h).1
    · exact n30 p h
  · intro p hp
    rcases List.mem_append.mp hp with h | h
    · exact hex p h
    · exact n37 p h
  · intro p hp
    rcases (hE p hp).2.1 with h | h
    · rcases List.mem_cons.mp h with h | h
      · exact absurd (congrArg Prod.fst h) (hex p hp)
      · exact .inl h
    · exact .inr fun q hq => h q (.tail _ hq)
theorem dT_call {l : Addr} {xs : List (Nat × Tok)} {nl n : Nat} {t3 : Tok} {p30 p37 : Array Value}
    (B : Below A₀ base outer h₀) (F : Fr h₀ L s.heap m) (X : (Mine.hd.heap_1 w.params).In h₀) (N : News h₀ L s.heap ((30, tabObj p30) :: (37, tabObj p37) :: news)) (hT : Tabs p30 p37 news) (hl : (l, listOf (natsV xs).toArray nl) ∈ news) (hC : CodeHd h₀ 41 37) (hdig : ∀ x ∈ xs, x.1 < 2 ^ n) (hn1 : n ≤ 1000) (hxl : xs.length ≤ 100)
    (T : Top p loose mean mg mb h₀) (hk : cs.kind = .function) (hd : dp + 110 < recursionLimit) (hu : un + 400 < cLine)
    (hret : ∀ h' tk' u p37' extra, Fr h₀ L h' m → News h₀ L h' ((30, tabObj p30) :: (37, tabObj p37') :: (extra ++ news)) → Tabs p30 p37' (extra ++ news) → Grow extra news → Q (.int ((dv n (xs.map (·.1)) : Nat) : Int) u) { s with heap := h', toks := tk' }) :
    wpAny (model lawProg w) (ktrTop dp un gd cn cs L a ccd cl outer) (call (.ref 42) [.ref l, .int (n : Int) t3]) Q E s := by
  obtain ⟨T30, T37, n30, n37⟩ := hT
  refine di_call (news := (30, tabObj p30) :: news) (l := l) (nl := nl) (xs := xs) B F X (News.perm N ?_) hC ?_ hdig hn1 hxl (T37.strip fun p hp _ => .tail _ (.tail _ hp)) T hk (by omega) (by omega) ?_
  · intro p hp
    simp only [List.mem_cons] at hp ⊢
    rcases hp with h | h | h | h
    · simp only [h, true_or, or_true]
    · exact .inr (.inr (h ▸ hl))
    · simp only [h, true_or, or_true]
    · simp only [h, true_or, or_true]
  · exact List.forall_mem_cons.mpr ⟨n37 _ hl, List.forall_mem_cons.mpr ⟨(show (30 : Nat) ≠ 37 by decide), n37⟩⟩
  intro h' tk' u p37' extra F' N' hT' hE
  have hex : ∀ p ∈ extra, p.1 ≠ 30 := by
    intro p hp e
    rcases (hE p hp).2.1 with h | h
    · rcases List.mem_cons.mp h with h | h
      · exact n30 _ hl (by rw [h] at e; exact e)
      rcases List.mem_cons.mp h with h | h
      · exact not_code_tab T30.1 (by have := (hE p hp).2.2; rw [h] at this; exact this)
      · exact n30 p h e
    · have : (30 : Nat) < p.1 := h (30, tabObj p30) (.tail _ (.head _))
      rw [e] at this
      exact Nat.lt_irrefl _ this
  refine hret h' tk' u p37' extra F' (News.perm N' ?_) ⟨T30.strip fun p hp _ => List.mem_append_right _ hp, hT'.strip ?_, ?_, ?_⟩ ?_
  · intro p hp
    simp only [List.mem_cons, List.mem_append] at hp ⊢
    rcases hp with h | h | h | h <;> simp only [h, true_or, or_true]
  · intro p hp hc
    rcases List.mem_append.mp hp with h | h
    · exact List.mem_append_left _ h
    · rcases List.mem_cons.mp h with h | h
      · exact absurd hc (by rw [h]; exact not_code_tab T30.1)
      · exact List.mem_append_right _ h
  · intro p hp
    rcases List.mem_append.mp hp with h | h
    · exact hex p h
    · exact n30 p h
  · intro p hp
    rcases List.mem_append.mp hp with h | h
    · exact (hE p h).1
    · exact n37 p h
  · intro p hp
    rcases (hE p hp).2.1 with h | h
    · rcases List.mem_cons.mp h with h | h
      · exact .inl (h ▸ hl)
      rcases List.mem_cons.mp h with h | h
      · exact absurd (congrArg Prod.fst h) (hex p hp)
      · exact .inl h
    · exact .inr fun q hq => h q (.tail _ (.tail _ hq))
end
end Mine
end

section -- Loop3
open PySem PySem.W PySem.Spec PySem.Calls PyProof.Rows
namespace Mine
section
variable {prog : Program} {w : World} {A : Around} {s : Shared} {env : Env} {h₀ : Heap}
/-- a loop over a reversed list -/
theorem for_rev {E : Value → Shared → Prop} {Q : Flow → Shared → Prop} {x : Str} {px : Pos} {body : List Stmt} {I l : Addr} {vs : List Value} {m : Str → Option Value} {news : List (Addr × Obj)}
    (hh : A.handled = none) (hx : env.kindOf x = some .local)
    (hp : (env.scope.kind == .class || (env.scope.kind == .module && env.locals != env.globals)) = false)
    (F : Fr h₀ env.locals s.heap m) (N : News h₀ env.locals s.heap ((I, revObj l ((vs.length : Int) - 1)) :: news)) (hoff : ∀ p ∈ news, p.1 ≠ I) (hl : s.heap.IsList l vs.toArray) (hlL : l ≠ env.locals) (hlI : l ≠ I)
    (hE : PassesOwn (model prog w) A env E)
    (J : Nat → (Str → Option Value) → List (Addr × Obj) → Array GenState → Prop) (h0 : J 0 m news s.gens)
    (step : ∀ i v m₁ news₁ h tk g own, i < vs.length → vs[vs.length - 1 - i]? = some v → J i m₁ news₁ g → (∀ p ∈ news₁, p.1 ≠ I) → (∃ io, (I, io) ∈ own) → (∀ p ∈ own, p.1 = I ∨ p.1 = l) → 0 < tk →
      Fr h₀ env.locals h (fun y => if y = x then some v else m₁ y) → News h₀ env.locals h (own ++ news₁) →
      wpAny (model prog w) A (execs body env) (GStep h₀ env.locals [I] own (J (i + 1)) s.drawn s.os Q) E ⟨h, g, s.drawn, tk, s.os⟩)
    (hQ : ∀ h' tk g m' news', Fr h₀ env.locals h' m' → News h₀ env.locals h' news' → J vs.length m' news' g → Q .next ⟨h', g, s.drawn, tk, s.os⟩) :
    wpAny (model prog w) A (pyIter (.ref I)) (fun it s₂ => codeAny (model prog w) A (.forLoop (.Name x px) it body [] env) (fun r s' => match r with | .ok f => Q f s' | .error e => cameBackBy (model prog w) A env E e s') s₂) E s := by
  have hIx := N _ (List.mem_cons_self ..)
  have hit : s.heap.IsRevIter I l ((vs.length : Int) - 1) := ⟨_, hIx.1, rfl, rfl⟩
  refine wpAny_pyIter_revIter hit ?_
  have W := Walks.listRev (prog := prog) (w := w) hh I l hlI vs.toArray
  rw [List.size_toArray] at W
  refine for_walk (h₀ := h₀) (s := s) (R := fun r s' => match r with | .ok f => Q f s' | .error e => cameBackBy (model prog w) A env E e s') W hx hp ?_ ?_ ?_ ⟨Nat.zero_le _, ?_, hl⟩ F (fun p hp => N p (.tail _ hp)) J h0 ?_ ?_
  · intro hm
    rcases List.mem_cons.mp hm with e | hm
    · exact hIx.2.1 e.symm
    · exact hlL (List.mem_singleton.mp hm).symm
  · intro b hb; rw [List.mem_singleton.mp hb]; exact hIx.2.2
  · intro p hp hI
    exact hoff p hp (List.mem_singleton.mp hI)
  · have e : (vs.length : Int) - 1 - ((0 : Nat) : Int) = (vs.length : Int) - 1 := by omega
    rw [e]; exact hit
  · intro i v m₁ news₁ h tk g own hi hP hJ hnw hown hall hst htk F₁ N₁
    exact wpAny_passesOwn hE (step i v m₁ news₁ h tk g own hi (by simpa using hP) hJ (fun p hp q => hnw p hp (by rw [q]; exact .head _)) (by
      obtain ⟨_, ⟨o, ho, _⟩, _⟩ := hst
      exact ⟨o, hall _ (.head _) hIx.2.2 o ho⟩) (fun p hp => by
      rcases List.mem_cons.mp (hown p hp) with e | e
      · exact .inl e
      · exact .inr (List.mem_singleton.mp e)) htk F₁ N₁)
  · intro h' tk g m' news' F' N' hJ
    exact hQ h' tk g m' news' F' N' hJ
/-- a loop over a range by ones -/
theorem for_range {E : Value → Shared → Prop} {Q : Flow → Shared → Prop} {x : Str} {px : Pos} {body : List Stmt} {r : Addr} {a b : Int} {t u v : Tok} {n : Nat} {m : Str → Option Value} {news : List (Addr × Obj)}
    (hh : A.handled = none) (hx : env.kindOf x = some .local)
    (hp : (env.scope.kind == .class || (env.scope.kind == .module && env.locals != env.globals)) = false)
    (F : Fr h₀ env.locals s.heap m) (N : News h₀ env.locals s.heap news) (hr : IsRange s.heap r a b 1 t u v) (hsm : Builtin.Range.small a b 1 = true) (hn : Builtin.Range.rangeSize a b 1 = ((n : Nat) : Int))
    (hE : PassesOwn (model prog w) A env E)
    (J : Nat → (Str → Option Value) → List (Addr × Obj) → Array GenState → Prop) (h0 : J 0 m news s.gens)
    (step : ∀ i t m₁ news₁ h tk g own, i < n → J i m₁ news₁ g → (∀ p ∈ news₁, p.1 ≠ s.heap.objs.size) → (∃ io, (s.heap.objs.size, io) ∈ own) → (∀ p ∈ own, p.1 = s.heap.objs.size) → 0 < tk →
      Fr h₀ env.locals h (fun y => if y = x then some (.int (a + (i : Int)) t) else m₁ y) → News h₀ env.locals h (own ++ news₁) →
      wpAny (model prog w) A (execs body env) (GStep h₀ env.locals [s.heap.objs.size] own (J (i + 1)) s.drawn s.os Q) E ⟨h, g, s.drawn, tk, s.os⟩)
    (hQ : ∀ h' tk g m' news', Fr h₀ env.locals h' m' → News h₀ env.locals h' news' → J n m' news' g → Q .next ⟨h', g, s.drawn, tk, s.os⟩) :
    wpAny (model prog w) A (pyIter (.ref r)) (fun it s₂ => codeAny (model prog w) A (.forLoop (.Name x px) it body [] env) (fun r s' => match r with | .ok f => Q f s' | .error e => cameBackBy (model prog w) A env E e s') s₂) E s := by
  refine wpAny_pyIter_range hr hsm ?_
  have W := LCg.range_walks (prog := prog) (w := w) (I := s.heap.objs.size) hh a n
  have nope : h₀.get? s.heap.objs.size = none := by
    cases q : h₀.get? s.heap.objs.size with
    | none => rfl
    | some o => exact absurd (Heap.lt_size (F.keep _ _ q)) (Nat.lt_irrefl _)
  refine for_walk (h₀ := h₀) (s := { s with heap := s.heap.push _ }) (R := fun r s' => match r with | .ok f => Q f s' | .error e => cameBackBy (model prog w) A env E e s') W hx hp ?_ ?_ ?_ ?_ (F.push _) (fun p hp => ⟨Heap.get?_push_of_some _ (N p hp).1, (N p hp).2⟩) J h0 ?_ ?_
  · intro hm
    exact absurd F.ns.lt ((List.mem_singleton.mp hm) ▸ Nat.lt_irrefl _)
  · intro b hb; rw [List.mem_singleton.mp hb]; exact nope
  · intro p hp hI
    exact absurd (Heap.lt_size (N p hp).1) ((List.mem_singleton.mp hI) ▸ Nat.lt_irrefl _)
  · show IsRangeIter _ _ _ _ _
    rw [hn]; simpa using Heap.get?_push_size _ rfl
  · intro i v m₁ news₁ h tk g own hi hP hJ hnw hown hall hst htk F₁ N₁
    obtain ⟨t, rfl⟩ := hP
    exact wpAny_passesOwn hE (step i t m₁ news₁ h tk g own hi hJ (fun p hp q => hnw p hp (by rw [q]; exact .head _)) (by
      have st' : h.get? _ = some _ := hst
      exact ⟨_, hall _ (.head _) nope _ st'⟩) (fun p hp => List.mem_singleton.mp (hown p hp)) htk F₁ N₁)
  · intro h' tk g m' news' F' N' hJ
    exact hQ h' tk g m' news' F' N' hJ
end
end Mine
end

section -- Dp
open PySem PySem.W PySem.Spec PySem.Calls PyProof.Rows
theorem Mine.fillDp : (Challenge.rw_ph0127_01.prog = Challenge.rw_ph0127_01.prog ∧ Mine.hd.heap_1 = Mine.hd.heap_1) := by k_fill; exact ⟨rfl, rfl⟩
namespace Mine
local macro_rules | `(tactic| walk_at "binaryOp LShift int int") => `(tactic| (k_here; refine Halt.out ?_))
local macro_rules | `(tactic| walk_at "call builtin:list.append") => `(tactic| (k_here; refine Halt.out ?_))
local macro_rules | `(tactic| walk_at "call builtin:list.reverse") => `(tactic| (k_here; refine Halt.out ?_))
local macro_rules | `(tactic| walk_at "call ref") => `(tactic| (k_here; refine Halt.out ?_))
local macro_rules | `(tactic| walk_at "pyIter ref") => `(tactic| (k_here; refine Halt.out ?_))
local macro_rules | `(tactic| walk_at "exec For Name Call cons nil") => `(tactic| (k_here; refine Halt.out ?_))
local macro_rules | `(tactic| walk_at "call type:reversed") => `(tactic| (k_here; refine Halt.out ?_))
theorem dp_call {w : World} {x b n : Nat} {t1 t2 : Tok} {p30 p37 : Array Value}
    {p : Program} {loose : List Str} {mean : ExcName → Option Value} {mg mb : Str → Option Value} {dp un : Nat} {gd : Option (List Code)} {cn : Str} {cs : Scope} {a : Addr} {ccd : Value} {cl : List (Str × Addr)} {outer : List Env} {A₀ : Around} {base h₀ : Heap} {L : Addr} {m : Str → Option Value} {news : List (Addr × Obj)} {s : Shared}
    {Q E : Value → Shared → Prop}
    (B : Below A₀ base outer h₀) (F : Fr h₀ L s.heap m) (X : (Mine.hd.heap_1 w.params).In h₀) (N : News h₀ L s.heap ((30, tabObj p30) :: (37, tabObj p37) :: news)) (hT : Tabs p30 p37 news) (hC30 : CodeHd h₀ 34 30) (hC37 : CodeHd h₀ 41 37) (hb0 : 0 < b) (hbn : Builtin.Int.intBits (b : Int) = n) (hn1 : n ≤ 1000) (hx : x < 2 ^ (n * 60))
    (T : Top p loose mean mg mb h₀) (hk : cs.kind = .function) (hd : dp + 120 < recursionLimit) (hu : un + 440 < cLine)
    (hret : ∀ D h' tk' p30' p37' extra u1 u2, Fr h₀ L h' m → News h₀ L h' ((30, tabObj p30') :: (37, tabObj p37') :: (D, tup [.int ((x / b : Nat) : Int) u1, .int ((x % b : Nat) : Int) u2]) :: (extra ++ news)) → Tabs p30' p37' (extra ++ news) → Grow extra news → (∀ p ∈ news, p.1 < D) → 37 < D → Q (.ref D) { s with heap := h', toks := tk' }) :
    wpAny (model lawProg w) (ktrTop dp un gd cn cs L a ccd cl outer) (call (.ref 49) [.int (x : Int) t1, .int (b : Int) t2]) Q E s := by
  refine wpAny_call ?_
  k_dflt ktr_enter
  rename Fr h₀ L _ m => FG
  have hC30' := hC30.keeps FG.keep
  have hC37' := hC37.keeps FG.keep
  k_steps
  refine Halt.on ?_
  rename Fr _ _ _ _ => F1
  rename News _ _ _ _ => N1
  rw [hbn] at F1 ⊢
  have hbl : ∀ k, b < 2 ^ k ↔ n ≤ k := fun k => by
    have h := @intBits_le_iff k (b : Int)
    rw [hbn, Int.natAbs_natCast] at h
    exact h.symm
  have hn0 : 0 < n := by
    rcases Nat.eq_zero_or_pos n with h | h
    · have := (hbl 0).mpr (by omega)
      rw [Nat.pow_zero] at this; omega
    · exact h
  have hbB : b < 2 ^ n := (hbl n).mpr (Nat.le_refl _)
  refine iT_call (by assumption) F1 (by assumption) N1 hT (by assumption) hn0 hn1 (Nat.lt_of_lt_of_le hx (Nat.pow_le_pow_right (by decide) (Nat.mul_le_mul_left _ (by decide)))) (by assumption) rfl ?_ ?_ ?_
  · show dp + 1 + 110 < recursionLimit; omega
  · show un + 3 + 400 < cLine; omega
  intro Da h2 tk2 ys nl p30a ex1 kk hys hxk hKmin F2 N2 hT2 hG2 hDa hDa37
  clear F1 N1
  k_steps
  refine Halt.on ?_
  refine wpAny_For ?_
  k_steps
  refine Halt.on ?_
  rename Fr _ _ _ _ => F3
  rename News _ _ _ _ => N3
  rename _ < _ ∧ _ < _ ∧ _ < _ ∧ AllLt _ _ => lt3
  obtain ⟨q1, q2, q3, q4⟩ := lt3
  have hkl : ys.length = kk := by rw [← dg_len n kk x, ← hys, List.length_map]
  have hkk : kk ≤ 60 := hKmin 60 hx
  have hyl : (natsV ys).length = kk := by rw [List.length_map]; exact hkl
  refine krv_reversed (vs := natsV ys) F3 N3 ⟨_, nat_ N3 3 rfl, rfl, _, rfl⟩ ?_
  intro DR h4 F4 N4 lt4
  clear F3 N3
  refine name_it (P := fun (q : Nat) => 37 < q) q2 ?_
  intro Dq hDq
  subst hDq
  have hz0 : (0 : Int) = ((x / 2 ^ (n * (kk - 0)) % b : Nat) : Int) := by rw [Nat.sub_zero, Nat.div_eq_of_lt hxk, Nat.zero_mod]; rfl
  have hz1 : dv n ((([] : List (Nat × Tok)).reverse).map (·.1)) = x / 2 ^ (n * (kk - 0)) / b := by rw [Nat.sub_zero, Nat.div_eq_of_lt hxk, Nat.zero_div]; rfl
  refine for_rev rfl rfl rfl F4 N4 (fun p hp => Nat.ne_of_lt (lt4 p hp)) ⟨_, nat_ N4 4 rfl, rfl, _, rfl⟩ (N4 _ (List.mem_of_getElem? (i := 4) rfl)).2.1 (Nat.ne_of_lt (lt4 (Da, _) (List.mem_of_getElem? (i := 3) rfl))) (by passes_own)
    (fun i m' news' g => g = s.gens ∧ ∃ (qs : List (Nat × Tok)) (nq : Nat) (tr tn : Tok), m' (Str.ofString "r") = some (.int ((x / 2 ^ (n * (kk - i)) % b : Nat) : Int) tr) ∧ m' (Str.ofString "q_digits") = some (.ref Dq) ∧ m' (Str.ofString "n") = some (.int (n : Int) tn) ∧ m' (Str.ofString "b") = some (.int (b : Int) t2) ∧ news' = (Dq, listOf (natsV qs).toArray nq) :: (30, tabObj p30a) :: (37, tabObj p37) :: (Da, listOf (natsV ys).toArray nl) :: (ex1 ++ news) ∧ qs.length = i ∧ (∀ q ∈ qs, q.1 < 2 ^ n) ∧ dv n (qs.reverse.map (·.1)) = x / 2 ^ (n * (kk - i)) / b)
    ⟨rfl, [], 0, _, _, congrArg (fun z : Int => some (Value.int z _)) hz0, rfl, rfl, rfl, rfl, rfl, List.forall_mem_nil _, hz1⟩ ?_ ?_
  · rintro i v m5 news5 h5 tk5 g5 own hi hv ⟨rfl, qs, nq, tr, tn, hmr, hmq, hmn, hmb, rfl, hql, hqs, hdv⟩ hne ⟨io, hio⟩ hown htk F5 N5
    clear F4 N4
    rw [hyl] at hi hv
    obtain ⟨j, hj⟩ : ∃ j, kk - i = j + 1 := ⟨kk - i - 1, by omega⟩
    have hj2 : kk - (i + 1) = j := by omega
    rw [show kk - 1 - i = j by omega, List.getElem?_map] at hv
    obtain ⟨⟨d, td⟩, hyd, rfl⟩ := Option.map_eq_some_iff.mp hv
    have hd : d = x / 2 ^ (n * j) % 2 ^ n := by
      have h := congrArg (Option.map Prod.fst) hyd
      rw [← List.getElem?_map, hys, dg_get n kk x j (by omega)] at h
      exact (Option.some.inj h).symm
    rw [map_known hmr, map_known hmq, map_known hmn, map_known hmb] at F5
    rw [hj] at F5 hdv hmr
    dsimp only at F5
    have N5b : News _ _ _ ((Dq, listOf (natsV qs).toArray nq) :: (own ++ (30, tabObj p30a) :: (37, tabObj p37) :: (Da, listOf (natsV ys).toArray nl) :: (ex1 ++ news))) := News.perm N5 (by
      intro p hp
      simp only [List.mem_cons, List.mem_append] at hp ⊢
      rcases hp with h | h | h | h | h | h | h <;> simp only [h, true_or, or_true])
    clear N5
    try k_fold
    k_steps
    refine Halt.on ?_
    generalize hrr : x / 2 ^ (n * (j + 1)) % b = rr at *
    have hrb : rr < b := hrr ▸ Nat.mod_lt _ hb0
    have hdB : d < 2 ^ n := hd ▸ Nat.mod_lt _ (Nat.two_pow_pos _)
    have hbits : Builtin.Int.intBits ((rr : Nat) : Int) ≤ n := intBits_le_iff.mpr (by rw [Int.natAbs_natCast]; omega)
    refine lshift_int (by omega) (by omega) ?_
    k_steps
    refine Halt.on ?_
    rename Fr _ _ _ _ => F6
    rename News _ _ _ _ => N6
    have eX : ((rr : Nat) : Int) * 2 ^ Int.toNat (n : Int) + (d : Int) = ((rr * 2 ^ n + d : Nat) : Int) := by
      rw [Int.toNat_natCast, Int.natCast_add, Int.natCast_mul, Int.natCast_pow]; rfl
    rw [eX]
    have hxx : rr * 2 ^ n + d < 2 ^ (n + n) := by
      have : (rr + 1) * 2 ^ n ≤ 2 ^ n * 2 ^ n := Nat.mul_le_mul_right _ (by omega)
      rw [Nat.add_mul, Nat.one_mul] at this
      rw [Nat.pow_add]; omega
    refine dv_call (by omega) (by omega) (Nat.le_trans ((@intBits_le_iff (n + n) ((rr * 2 ^ n + d : Nat) : Int)).mpr (by rw [Int.natAbs_natCast]; exact hxx)) (by omega)) (by omega) ?_ (by assumption) F6 (by assumption) N6 (by assumption) rfl ?_ ?_ ?_
    · rw [Int.natAbs_natCast]
      have : Nat.log2 b < n := (Nat.log2_lt (by omega)).mpr hbB
      omega
    · show dp + 1 + 5 < recursionLimit; omega
    · show un + 3 + 40 < cLine; omega
    intro D7 h7 tk7 u1 u2 F7 N7 lt7
    clear F6 N6
    rw [Int.fdiv_eq_ediv_of_nonneg _ (by omega), Int.fmod_eq_emod_of_nonneg _ (by omega), ← Int.natCast_ediv, ← Int.natCast_emod] at N7
    k_steps
    refine Halt.on ?_
    rename Fr _ _ _ _ => F8
    rename News _ _ _ _ => N8
    have hDqD7 : (Dq : Nat) < D7 := lt7 (Dq, _) (.head _)
    have hDqDR : (Dq : Nat) < DR := lt4 (Dq, _) (.head _)
    have hoth : ∀ p ∈ own ++ (30, tabObj p30a) :: (37, tabObj p37) :: (Da, listOf (natsV ys).toArray nl) :: (ex1 ++ news), p.1 ≠ Dq := by
      intro p hp
      rcases List.mem_append.mp hp with h | h
      · rcases hown p h with e | e
        · rw [e]; exact Nat.ne_of_gt hDqDR
        · rw [e]; exact Nat.ne_of_lt q3
      · rcases List.mem_cons.mp h with h | h
        · rw [h]; exact Nat.ne_of_lt q1
        rcases List.mem_cons.mp h with h | h
        · rw [h]; exact Nat.ne_of_lt q2
        rcases List.mem_cons.mp h with h | h
        · rw [h]; exact Nat.ne_of_lt q3
        · exact Nat.ne_of_lt (ktn_ltOf q4 p h)
    refine append_K F8 N8 (.tail (Nat.ne_of_gt hDqD7) (.head hoth)) ?_ ?_
    · intro h9 F9 N9
      clear F8 N8
      have epush : (natsV qs).toArray.push (.int (((rr * 2 ^ n + d) / b : Nat) : Int) u1) = (natsV (qs ++ [((rr * 2 ^ n + d) / b, u1)])).toArray := natsV_push _ _ _
      rw [epush] at N9
      obtain ⟨g1, g2⟩ := long_step (x := x) (n := n) (j := j) hb0
      rw [hrr, ← hd] at g1 g2
      have N9b : News _ _ _ (own ++ ((Dq, listOf (natsV (qs ++ [((rr * 2 ^ n + d) / b, u1)])).toArray (nq + 1)) :: (30, tabObj p30a) :: (37, tabObj p37) :: (Da, listOf (natsV ys).toArray nl) :: (ex1 ++ news))) := News.perm N9 (by
        intro p hp
        simp only [List.mem_cons, List.mem_append] at hp ⊢
        rcases hp with h | h | h | h | h | h | h <;> simp only [h, true_or, or_true])
      clear N9
      k_steps
      refine GStep.next F9 N9b (fun p hp q => ?_) ⟨rfl, qs ++ [((rr * 2 ^ n + d) / b, u1)], nq + 1, u2, tn, ?_, rfl, rfl, rfl, rfl, ?_, ?_, ?_⟩
      · have q' := List.mem_singleton.mp q
        rcases List.mem_cons.mp hp with h | h
        · rw [h] at q'; exact Nat.ne_of_lt hDqDR q'
        · exact hne p (.tail _ h) q'
      · rw [hj2, ← g1]; rfl
      · rw [List.length_append, hql]; rfl
      · intro q hq
        rcases List.mem_append.mp hq with h | h
        · exact hqs q h
        · rw [List.mem_singleton.mp h]; exact long_lt hrb hdB
      · rw [List.reverse_append, List.reverse_singleton, List.singleton_append, List.map_cons, dv, hdv, hj2]
        exact g2
    · rw [List.size_toArray, List.length_map, hql]; exact Nat.le_trans (show i ≤ 60 by omega) (by decide)
  · intro h' tk g m' news' F' N' hJ
    obtain ⟨rfl, qs, nq, tr, tn, hmr, hmq, hmn, hmb, rfl, hql, hqs, hdv⟩ := hJ
    rw [map_known hmr, map_known hmq, map_known hmn, map_known hmb] at F'
    rw [hyl] at hmr hdv hql
    clear F4 N4
    show wpAny _ _ _ _ _ _
    k_steps
    refine Halt.on ?_
    have N6 := N'
    have hoth : ∀ p ∈ (30, tabObj p30a) :: (37, tabObj p37) :: (Da, listOf (natsV ys).toArray nl) :: (ex1 ++ news), p.1 ≠ Dq := by
      intro p h
      rcases List.mem_cons.mp h with h | h
      · rw [h]; exact Nat.ne_of_lt q1
      rcases List.mem_cons.mp h with h | h
      · rw [h]; exact Nat.ne_of_lt q2
      rcases List.mem_cons.mp h with h | h
      · rw [h]; exact Nat.ne_of_lt q3
      · exact Nat.ne_of_lt (ktn_ltOf q4 p h)
    have erev : (natsV qs).toArray.toList.reverse = natsV qs.reverse := natsV_rev _
    refine kl_reverse F' N' erev (.head hoth) ?_ ?_
    · show ((natsV qs).length) ≤ sizeLine
      rw [List.length_map, hql]; exact Nat.le_trans hkk (by decide)
    intro h9 F9 N9
    clear F' N' N6
    have e0 : x / 2 ^ (n * (kk - kk)) = x := by rw [Nat.sub_self, Nat.mul_zero, Nat.pow_zero, Nat.div_one]
    rw [e0] at hdv hmr
    rw [hyl, e0] at F9
    dsimp only at F9
    try k_fold
    k_steps
    refine Halt.on ?_
    rename Fr _ _ _ _ => Fa
    rename News _ _ _ _ => Na
    refine dT_call (l := Dq) (xs := qs.reverse) (nl := nq) (p30 := p30a) (p37 := p37) (news := (Dq, listOf (natsV qs.reverse).toArray nq) :: (Da, listOf (natsV ys).toArray nl) :: (ex1 ++ news)) (by assumption) Fa (by assumption) (News.perm Na ?_) ?_ (.head _) (by assumption) (fun q hq => hqs q (List.mem_reverse.mp hq)) hn1 (by rw [List.length_reverse]; omega) (by assumption) rfl ?_ ?_ ?_
    · intro p hp
      simp only [List.mem_cons, List.mem_append] at hp ⊢
      rcases hp with h | h | h | h | h | h <;> simp only [h, true_or, or_true]
    · refine hT2.sub (fun p hp _ => .tail _ (.tail _ hp)) ?_ ?_
      · exact List.forall_mem_cons.mpr ⟨Nat.ne_of_gt q1, List.forall_mem_cons.mpr ⟨Nat.ne_of_gt (Nat.lt_trans (by decide) hDa37), hT2.2.2.1⟩⟩
      · exact List.forall_mem_cons.mpr ⟨Nat.ne_of_gt q2, List.forall_mem_cons.mpr ⟨Nat.ne_of_gt hDa37, hT2.2.2.2⟩⟩
    · show dp + 1 + 110 < recursionLimit; omega
    · show un + 3 + 400 < cLine; omega
    intro hb tkb ub p37b ex2 Fb Nb hTb hGb
    clear Fa Na
    rw [hdv] at *
    k_steps
    rename News h₀ _ _ _ => NE
    rename _ < _ ∧ _ < _ ∧ AllLt _ _ => ltE
    have hmid : ∀ p ∈ (Dq, listOf (natsV qs.reverse).toArray nq) :: (Da, listOf (natsV ys).toArray nl) :: (ex1 ++ news), p ∈ news ∨ ∀ q ∈ news, q.1 < p.1 := by
      intro p hp
      rcases List.mem_cons.mp hp with h | h
      · exact .inr fun q hq => by rw [h]; exact ktn_ltOf q4 q (List.mem_append_right _ hq)
      rcases List.mem_cons.mp h with h | h
      · exact .inr fun q hq => by rw [h]; exact hDa q hq
      rcases List.mem_append.mp h with h | h
      · exact hG2 p h
      · exact .inl h
    refine hret _ _ _ p30a p37b (ex2 ++ (Dq, listOf (natsV qs.reverse).toArray nq) :: (Da, listOf (natsV ys).toArray nl) :: ex1) ub tr (by assumption) (News.perm NE ?_) (hTb.sub (fun p hp _ => ?_) ?_ ?_) ?_ (fun p hp => ktn_ltOf ltE.2.2 p ?_) ltE.2.1
    · intro p hp
      simp only [List.mem_cons, List.mem_append] at hp ⊢
      rcases hp with h | h | h | (h | h | h | h) | h <;> simp only [h, true_or, or_true]
    · simp only [List.mem_cons, List.mem_append] at hp ⊢
      rcases hp with h | h | h | h | h <;> simp only [h, true_or, or_true]
    · intro p hp
      refine hTb.2.2.1 p ?_
      simp only [List.mem_cons, List.mem_append] at hp ⊢
      rcases hp with (h | h | h | h) | h <;> simp only [h, true_or, or_true]
    · intro p hp
      refine hTb.2.2.2 p ?_
      simp only [List.mem_cons, List.mem_append] at hp ⊢
      rcases hp with (h | h | h | h) | h <;> simp only [h, true_or, or_true]
    · intro p hp
      rcases List.mem_append.mp hp with h | h
      · rcases hGb p h with h | h
        · exact hmid p h
        · exact .inr fun q hq => h q (.tail _ (.tail _ (List.mem_append_right _ hq)))
      · refine hmid p ?_
        simp only [List.mem_cons, List.mem_append] at h ⊢
        rcases h with h | h | h <;> simp only [h, true_or, or_true]
    · exact List.mem_append_right _ (.tail _ (.tail _ (List.mem_append_right _ hp)))
end Mine
end

section -- Ln
open PySem PySem.W PySem.Spec PySem.Calls PyProof.Rows
theorem Mine.fillLn : (Challenge.rw_ph0127_01.prog = Challenge.rw_ph0127_01.prog ∧ Mine.hd.heap_1 = Mine.hd.heap_1) := by k_fill; exact ⟨rfl, rfl⟩
namespace Mine
def numOf (n : Nat) (xs : List Spot) : Nat := (xs.map fun x => 2 ^ (n * x.1)).sum
theorem dv_bump (n : Nat) : ∀ (ds : List Nat) (h d : Nat), ds[h]? = some d → dv n (ds.set h (d + 1)) = dv n ds + 2 ^ (n * h)
  | [], h, d, e => by simp at e
  | c :: ds, 0, d, e => by
    have e' : c = d := Option.some.inj e
    subst e'
    rw [List.set_cons_zero, dv, dv, Nat.mul_zero, Nat.pow_zero]; omega
  | c :: ds, h + 1, d, e => by
    rw [List.set_cons_succ, dv, dv, dv_bump n ds h d (by simpa using e), Nat.mul_add, ← Nat.pow_add, show n + n * h = n * (h + 1) by rw [Nat.mul_add]; omega, Nat.add_assoc]
theorem dv_zeros (n k : Nat) : dv n (List.replicate k 0) = 0 := by
  induction k with
  | zero => rfl
  | succ k ih => rw [List.replicate_succ, dv, ih, Nat.mul_zero]
theorem numOf_take {n : Nat} {xs : List Spot} {i : Nat} {x : Spot} (h : xs[i]? = some x) : numOf n (xs.take (i + 1)) = numOf n (xs.take i) + 2 ^ (n * x.1) := by
  unfold numOf
  rw [List.take_succ, h, List.map_append, List.sum_append]; simp
theorem rep32 (t : Tok) : (List.replicate (Int.toNat 32) [Value.int 0 t]).flatten.toArray = (natsV (List.replicate 32 (0, t))).toArray := congrArg List.toArray (rep_nats 32 t)
local macro_rules | `(tactic| walk_at "getItem ref int") => `(tactic| (k_here; refine Halt.out ?_))
local macro_rules | `(tactic| walk_at "setItem ref int") => `(tactic| (k_here; refine Halt.out ?_))
local macro_rules | `(tactic| walk_at "call ref") => `(tactic| (k_here; refine Halt.out ?_))
local macro_rules | `(tactic| walk_at "exec For Name Name cons nil") => `(tactic| (k_here; refine Halt.out ?_))
local macro_rules | `(tactic| walk_at "pyIter ref") => `(tactic| (k_here; refine Halt.out ?_))
local macro_rules | `(tactic| walk_at "binaryOp Mult ref int") => `(tactic| (k_here; refine Halt.out ?_))
local macro_rules | `(tactic| walk_at "exec AugAssign Subscript") => `(tactic| (k_here; refine Halt.out ?_))
theorem ln_call {w : World} {l : Addr} {vs : List Value} {xs : List Spot} {nl n : Nat} {t2 : Tok} {p30 p37 : Array Value}
    {p : Program} {loose : List Str} {mean : ExcName → Option Value} {mg mb : Str → Option Value} {dp un : Nat} {gd : Option (List Code)} {cn : Str} {cs : Scope} {a : Addr} {ccd : Value} {cl : List (Str × Addr)} {outer : List Env} {A₀ : Around} {base h₀ : Heap} {L : Addr} {m : Str → Option Value} {news : List (Addr × Obj)} {s : Shared}
    {Q E : Value → Shared → Prop}
    (B : Below A₀ base outer h₀) (F : Fr h₀ L s.heap m) (X : (Mine.hd.heap_1 w.params).In h₀) (N : News h₀ L s.heap ((30, tabObj p30) :: (37, tabObj p37) :: news)) (hT : Tabs p30 p37 news) (hC37 : CodeHd h₀ 41 37) (hl : (l, listOf vs.toArray nl) ∈ news) (hs : SpotsRel news vs xs)
    (ok : ∀ x ∈ xs, SpotOk x) (hx5 : xs.length ≤ 5) (hn7 : 7 ≤ n) (hn1 : n ≤ 100)
    (T : Top p loose mean mg mb h₀) (hk : cs.kind = .function) (hd : dp + 120 < recursionLimit) (hu : un + 440 < cLine)
    (hret : ∀ h' tk' p37' extra u1, Fr h₀ L h' m → News h₀ L h' ((30, tabObj p30) :: (37, tabObj p37') :: (extra ++ news)) → Tabs p30 p37' (extra ++ news) → Grow extra news → Q (.int ((numOf n xs : Nat) : Int) u1) { s with heap := h', toks := tk' }) :
    wpAny (model lawProg w) (ktrTop dp un gd cn cs L a ccd cl outer) (call (.ref 89) [.ref l, .int (n : Int) t2]) Q E s := by
  refine wpAny_call ?_
  k_dflt ktr_enter
  rename Fr h₀ L _ m => FG
  have hC37' := hC37.keeps FG.keep
  k_steps
  refine Halt.on ?_
  rename Fr _ _ _ _ => F1
  rename News _ _ _ _ => N1
  refine KM.mul (ns := [0]) F1 N1 ⟨_, nat_ N1 0 rfl, rfl, _, rfl⟩ (.cons _ _ .nil) (by omega) (by omega) (by show 1 * Int.toNat (32 : Int) ≤ 2 ^ 24; omega) ?_
  intro D2 h2 F2 N2 lt2 _ _ _ _ _ _
  clear F1 N1
  rw [rep32] at N2
  have N3 := drop2 N2
  clear N2
  generalize hq0 : List.replicate 32 ((0 : Nat), _) = qs0 at N3
  have lt3 : ∀ p ∈ (30, tabObj p30) :: (37, tabObj p37) :: news, p.1 < D2 := fun p hp => lt2 p (.tail _ hp)
  clear lt2
  k_steps
  refine Halt.on ?_
  refine wpAny_For ?_
  k_steps
  refine Halt.on ?_
  rename Fr _ _ _ _ => F4
  rename News _ _ _ _ => N4
  have hlm : (l, listOf vs.toArray nl) ∈ (D2, listOf (natsV qs0).toArray 0) :: (30, tabObj p30) :: (37, tabObj p37) :: news := .tail _ (.tail _ (.tail _ hl))
  refine for_list rfl rfl rfl F4 N4 ⟨_, (N4 _ hlm).1, rfl, _, rfl⟩ (N4 _ hlm).2.1 (by passes_own)
    (fun i m' news' g => g = s.gens ∧ ∃ (qs : List (Nat × Tok)), m' (Str.ofString "row") = some (.ref D2) ∧ m' (Str.ofString "width") = some (.int (n : Int) t2) ∧ news' = (D2, listOf (natsV qs).toArray 0) :: (30, tabObj p30) :: (37, tabObj p37) :: news ∧ qs.length = 32 ∧ (∀ q ∈ qs, q.1 ≤ i) ∧ dv n (qs.map (·.1)) = numOf n (xs.take i))
    ⟨rfl, qs0, rfl, rfl, rfl, ?_, ?_, ?_⟩ ?_ ?_
  · rw [← hq0, List.length_replicate]
  · intro q hq
    rw [← hq0] at hq
    rw [(List.mem_replicate.mp hq).2]; exact Nat.le_refl _
  · rw [← hq0, List.map_replicate, dv_zeros]; rfl
  · rintro i v m5 news5 h5 tk5 g5 own hv ⟨rfl, qs, hmr, hmw, rfl, hql, hqs, hdv⟩ hne ⟨io, hio⟩ hown htk F5 N5
    clear F4 N4
    obtain ⟨⟨h1, s1, v1⟩, a1, ⟨tx1, tx2, tx3⟩, nx, hxi, rfl, hax⟩ := hs.at hv
    rw [map_known hmr, map_known hmw] at F5
    dsimp only at F5
    have N5b : News _ _ _ ((a1, spotL (h1, s1, v1) (tx1, tx2, tx3) nx) :: (D2, listOf (natsV qs).toArray 0) :: (own ++ (30, tabObj p30) :: (37, tabObj p37) :: news)) := News.perm N5 (by
      intro p hp
      simp only [List.mem_cons, List.mem_append] at hp ⊢
      rcases hp with h | h | h | h | h | h
      · exact .inr (.inr (.inr (.inr (h ▸ hax))))
      all_goals simp only [h, true_or, or_true])
    clear N5
    dsimp only [spotL] at N5b
    try k_fold
    k_steps
    refine Halt.on ?_
    refine wpAny_AugAssign_Subscript_any ?_
    k_steps
    refine Halt.on ?_
    rename Fr _ _ _ _ => F6
    rename News _ _ _ _ => N6
    have hh1 : h1 < 32 := (ok _ (List.mem_of_getElem? hxi)).1
    obtain ⟨q, hq⟩ : ∃ q, qs[h1]? = some q := ⟨qs[h1]'(by omega), List.getElem?_eq_getElem (by omega)⟩
    show wpAny _ _ (getItem (.ref D2) (.int (h1 : Int) _)) _ _ _
    refine wpAny_getItem_list (x := .int (q.1 : Int) q.2) ⟨_, nat_ N6 1 rfl, rfl, _, rfl⟩ (by omega) (by omega) ?_ ?_
    · rw [Int.toNat_natCast, List.getElem?_toArray, List.getElem?_map, hq]; rfl
    k_steps
    refine Halt.on ?_
    rename Fr _ _ _ _ => F7
    rename News _ _ _ _ => N7
    show wpAny _ _ (setItem (.ref D2) (.int (h1 : Int) _) (.int ((q.1 + 1 : Nat) : Int) _)) _ _ _
    have hoth : ∀ p ∈ own ++ (30, tabObj p30) :: (37, tabObj p37) :: news, p.1 ≠ D2 := by
      intro p hp
      rcases List.mem_append.mp hp with h | h
      · rcases hown p h with e | e
        · rw [e]; exact Ne.symm (hne (D2, _) (.head _))
        · rw [e]; exact Nat.ne_of_lt (lt3 _ (.tail _ (.tail _ hl)))
      · exact Nat.ne_of_lt (lt3 p h)
    refine set_list (pre := [_]) F7 N7 (List.forall_mem_cons.mpr ⟨Nat.ne_of_lt (lt3 _ (.tail _ (.tail _ hax))), List.forall_mem_nil _⟩) hoth ?_ ?_ ?_
    · rw [List.size_toArray, List.length_map]; omega
    · rw [List.size_toArray, List.length_map]; omega
    intro h9 F9 N9
    rw [set_natsV] at N9
    clear F7 N7
    obtain ⟨tz, N9⟩ : ∃ tz, News _ _ _ ([_] ++ (D2, listOf (natsV (qs.set h1 (q.1 + 1, tz))).toArray 0) :: (own ++ (30, tabObj p30) :: (37, tabObj p37) :: news)) := ⟨_, N9⟩
    have N9b : News _ _ _ (own ++ ((D2, listOf (natsV (qs.set h1 (q.1 + 1, tz))).toArray 0) :: (30, tabObj p30) :: (37, tabObj p37) :: news)) := News.perm N9 (by
      intro p hp
      simp only [List.mem_cons, List.mem_append, List.singleton_append] at hp ⊢
      rcases hp with h | h | h | h | h <;> simp only [h, true_or, or_true])
    clear N9
    k_steps
    refine GStep.next F9 N9b (fun p hp q => ?_) ⟨rfl, _, rfl, rfl, rfl, ?_, ?_, ?_⟩
    · have q' := List.mem_singleton.mp q
      rcases List.mem_cons.mp hp with h | h
      · rw [h] at q'; exact hne (D2, _) (.head _) q'
      · exact hne p (.tail _ h) q'
    · rw [List.length_set]; exact hql
    · intro y hy
      rcases List.mem_or_eq_of_mem_set hy with h | h
      · exact Nat.le_succ_of_le (hqs y h)
      · rw [h]; exact Nat.succ_le_succ (hqs q (List.mem_of_getElem? hq))
    · rw [List.map_set, dv_bump n _ h1 q.1 (by rw [List.getElem?_map, hq]; rfl), hdv, numOf_take hxi]
  · intro h' tk g m' news' F' N' hJ
    obtain ⟨rfl, qs, hmr, hmw, rfl, hql, hqs, hdv⟩ := hJ
    rw [map_known hmr, map_known hmw] at F'
    rw [hs.length, List.take_length] at hdv
    rw [hs.length] at hqs
    clear F4 N4
    show wpAny _ _ _ _ _ _
    k_steps
    refine Halt.on ?_
    rename Fr _ _ _ _ => F5
    rename News _ _ _ _ => N5
    refine dT_call (l := D2) (xs := qs) (nl := 0) (p30 := p30) (p37 := p37) (news := (D2, listOf (natsV qs).toArray 0) :: news) (by assumption) F5 (by assumption) (News.perm N5 ?_) ?_ (.head _) (by assumption) (fun q hq => Nat.lt_of_le_of_lt (Nat.le_trans (hqs q hq) hx5) (Nat.lt_of_lt_of_le (show 5 < 2 ^ 7 by decide) (Nat.pow_le_pow_right (by decide) hn7))) (by omega) (by omega) (by assumption) rfl ?_ ?_ ?_
    · intro p hp
      simp only [List.mem_cons] at hp ⊢
      rcases hp with h | h | h | h <;> simp only [h, true_or, or_true]
    · refine hT.sub (fun p hp _ => .tail _ hp) ?_ ?_
      · exact List.forall_mem_cons.mpr ⟨Nat.ne_of_gt (lt3 (30, _) (.head _)), hT.2.2.1⟩
      · exact List.forall_mem_cons.mpr ⟨Nat.ne_of_gt (lt3 (37, _) (.tail _ (.head _))), hT.2.2.2⟩
    · show dp + 1 + 110 < recursionLimit; omega
    · show un + 3 + 400 < cLine; omega
    intro hb tkb ub p37b ex2 Fb Nb hTb hGb
    clear F5 N5
    rw [hdv] at *
    k_steps
    rename News h₀ _ _ _ => NE
    refine hret _ _ p37b (ex2 ++ [(D2, listOf (natsV qs).toArray 0)]) _ (by assumption) (News.perm NE ?_) (hTb.sub (fun p hp _ => ?_) ?_ ?_) ?_
    · intro p hp
      simp only [List.mem_cons, List.mem_append, List.not_mem_nil, or_false] at hp ⊢
      rcases hp with h | h | (h | h) | h <;> simp only [h, true_or, or_true]
    · simp only [List.mem_cons, List.mem_append, List.not_mem_nil, or_false] at hp ⊢
      rcases hp with h | h | h <;> simp only [h, true_or, or_true]
    · intro p hp
      refine hTb.2.2.1 p ?_
      simp only [List.mem_cons, List.mem_append, List.not_mem_nil, or_false] at hp ⊢
      rcases hp with (h | h) | h <;> simp only [h, true_or, or_true]
    · intro p hp
      refine hTb.2.2.2 p ?_
      simp only [List.mem_cons, List.mem_append, List.not_mem_nil, or_false] at hp ⊢
      rcases hp with (h | h) | h <;> simp only [h, true_or, or_true]
    · have hmid : ∀ p ∈ (D2, listOf (natsV qs).toArray 0) :: news, p ∈ news ∨ ∀ q ∈ news, q.1 < p.1 := by
        intro p hp
        rcases List.mem_cons.mp hp with h | h
        · exact .inr fun q hq => by rw [h]; exact lt3 q (.tail _ (.tail _ hq))
        · exact .inl h
      intro p hp
      rcases List.mem_append.mp hp with h | h
      · rcases hGb p h with h | h
        · exact hmid p h
        · exact .inr fun q hq => h q (.tail _ hq)
      · exact hmid p (List.mem_singleton.mp h ▸ .head _)
end Mine
end

section -- Lh
open PySem PySem.W PySem.Spec PySem.Calls PyProof.Rows
namespace Mine
theorem news_ne {h₀ h : Heap} {L : Addr} {l : List (Addr × Obj)} {p q : Addr × Obj} (N : News h₀ L h l) (hp : p ∈ l) (hq : q ∈ l) (hne : p.2 ≠ q.2) : p.1 ≠ q.1 := fun e => hne (by
  have h1 := (N p hp).1
  rw [e, (N q hq).1] at h1
  exact (Option.some.inj h1).symm)
theorem EntRel.clean {ents : List (Addr × Obj)} : ∀ {kvs : List (Int × Value)} {E : List Ent}, EntRel ents kvs E → ∃ ents' : List (Addr × Obj), (∀ p ∈ ents', p ∈ ents) ∧ EntRel ents' kvs E ∧ ∀ p ∈ ents', ∃ r t, p.2 = tupR r t
  | [], [], _ => ⟨[], fun _ h => (nomatch h), trivial, fun _ h => (nomatch h)⟩
  | kv :: kvs, e :: E, ⟨h1, ⟨q, t, h2, h3⟩, h4⟩ => by
    obtain ⟨l, a, b, c⟩ := h4.clean
    refine ⟨(q, tupR e.2 t) :: l, List.forall_mem_cons.mpr ⟨h3, a⟩, ⟨h1, ⟨q, t, h2, .head _⟩, b.mono fun p hp => .tail _ hp⟩, List.forall_mem_cons.mpr ⟨⟨_, _, rfl⟩, c⟩⟩
theorem Grow.fresh {extra news : List (Addr × Obj)} (h : Grow extra news) : ∃ ex : List (Addr × Obj), (∀ p ∈ extra ++ news, p ∈ ex ++ news) ∧ (∀ p ∈ ex, p ∈ extra) ∧ ∀ p ∈ ex, ∀ q ∈ news, q.1 < p.1 := by
  induction extra with
  | nil => exact ⟨[], fun p hp => hp, fun _ h => (nomatch h), fun _ h => (nomatch h)⟩
  | cons a extra ih =>
    obtain ⟨ex, h1, h2, h3⟩ := ih fun p hp => h p (.tail _ hp)
    rcases h a (.head _) with ha | ha
    · refine ⟨ex, fun p hp => ?_, fun p hp => .tail _ (h2 p hp), h3⟩
      rcases List.mem_cons.mp hp with hp | hp
      · exact List.mem_append_right _ (hp ▸ ha)
      · exact h1 p hp
    · refine ⟨a :: ex, fun p hp => ?_, fun p hp => ?_, List.forall_mem_cons.mpr ⟨ha, h3⟩⟩
      · rcases List.mem_cons.mp hp with hp | hp
        · exact hp ▸ .head _
        · exact .tail _ (h1 p hp)
      · rcases List.mem_cons.mp hp with hp | hp
        · exact hp ▸ .head _
        · exact .tail _ (h2 p hp)
def OffC (as : List Addr) (R : List (Addr × Obj)) : Prop := ∀ a ∈ as, ∀ p ∈ R, p.1 ≠ a
theorem OffC.append {as : List Addr} {R R' : List (Addr × Obj)} (h : OffC as R) (h' : OffC as R') : OffC as (R ++ R') := fun a ha p hp => (List.mem_append.mp hp).elim (h a ha p) (h' a ha p)
theorem OffC.cons {as : List Addr} {R : List (Addr × Obj)} {p : Addr × Obj} (h' : ∀ a ∈ as, p.1 ≠ a) (h : OffC as R) : OffC as (p :: R) := fun a ha => List.forall_mem_cons.mpr ⟨h' a ha, h a ha⟩
theorem OffC.up {as : List Addr} {ex news : List (Addr × Obj)} (hf : ∀ p ∈ ex, ∀ q ∈ news, q.1 < p.1) (hin : ∀ a ∈ as, ∃ o, (a, o) ∈ news) : OffC as ex := fun a ha p hp => by
  obtain ⟨o, ho⟩ := hin a ha
  exact Nat.ne_of_gt (hf p hp _ ho)
theorem isDict_cls {prog : Program} {w : World} {o : Obj} {kvs : List (Int × Value)} (h : o.IsDictOf (intKind prog w) kvs) : (∀ v, o.data ≠ .cell v) ∧ o.cls ≠ .none := by
  obtain ⟨es, ep, hx, hd, _⟩ := h
  refine ⟨fun v e => (by rw [hd] at e; cases e), fun e => ?_⟩
  rw [hx.1] at e; cases e
theorem off_plain {h₀ h : Heap} {L : Addr} {l : List (Addr × Obj)} {as : List Addr} {p : Addr × Obj} (N : News h₀ L h l) (hin : ∀ a ∈ as, ∃ o, (a, o) ∈ l ∧ ((∃ v, o.data = .cell v) ∨ o.cls = .none)) (hp : p ∈ l) (hpl : (∀ v, p.2.data ≠ .cell v) ∧ p.2.cls ≠ .none) : ∀ a ∈ as, p.1 ≠ a := fun a ha => by
  obtain ⟨o, ho, h⟩ := hin a ha
  refine news_ne N hp ho fun e => ?_
  rcases h with ⟨v, hv⟩ | h
  · exact hpl.1 v (e ▸ hv)
  · exact hpl.2 (e ▸ h)
theorem list_dict {prog : Program} {w : World} {A : Around} {E : Value → Shared → Prop} {s : Shared} {h₀ : Heap} {L : Addr} {m : Str → Option Value} {news : List (Addr × Obj)} {d : Addr} {od : Obj} {kvs : List (Int × Value)} {Q : Value → Shared → Prop}
    (hh : A.handled = none) (F : Fr h₀ L s.heap m) (N : News h₀ L s.heap news) (hd : s.heap.get? d = some od) (ho : od.IsDictOf (intKind prog w) kvs) (lo : (d == sysModules) = false) (hl : kvs.length ≤ 100)
    (h : ∀ D c h' tk vs, Fr h₀ L h' m → News h₀ L h' ((D, listOf (vs : List Value).toArray c) :: news) → (∀ q ∈ news, q.1 < D) → IntsAre vs (kvs.map (·.1)) → Q (.ref D) { s with heap := h', toks := tk }) :
    wpAny (model prog w) A (call (.type "list") [.ref d]) Q E s := by
  obtain ⟨ep, hat⟩ := (Heap.dictOf_iff.mpr ⟨od, hd, ho⟩ : s.heap.DictOf (intKind prog w) d kvs).dictAt
  refine kdl_N (kdl_dict (knd := PySem.intKind prog w) (kvs := kvs) (ep := ep) lo) hh F N hat (Nat.le_trans hl (by decide)) fun D c h' tk vs F' N' l1 hlen hv => ?_
  refine h D c h' tk vs F' N' l1 (kdy_ints (by rw [hlen, List.length_map]) fun j v hvj => ?_)
  obtain ⟨k, x, hx, hk⟩ := hv j v hvj
  obtain ⟨t, rfl⟩ := Value.isInt_shape hk
  exact ⟨k, by rw [List.getElem?_map, hx]; rfl, t, rfl⟩
theorem plain_tup (vs : List Value) : (∀ v, (tup vs).data ≠ .cell v) ∧ (tup vs).cls ≠ .none := ⟨fun _ e => (nomatch e), fun e => (nomatch e)⟩
theorem plain_list (vs : Array Value) (n : Nat) : (∀ v, (listOf vs n).data ≠ .cell v) ∧ (listOf vs n).cls ≠ .none := ⟨fun _ e => (nomatch e), fun e => (nomatch e)⟩
abbrev RestL (L : Nat) (c5 c4 c3 c2 c1 : Obj) (p72 : Array Value) (R : List (Addr × Obj)) : List (Addr × Obj) :=
  (L + 1 + 1 + 1 + 1 + 1, c5) :: (L + 1 + 1 + 1 + 1, c4) :: (L + 1 + 1 + 1, c3) :: (L + 1 + 1, c2) :: (L + 1, c1) :: (72, tabObj p72) :: R
abbrev LedL (L : Nat) (c5 c4 c3 c2 c1 : Obj) (p72 p37 p30 : Array Value) (R : List (Addr × Obj)) : List (Addr × Obj) :=
  (L + 1 + 1 + 1 + 1 + 1, c5) :: (L + 1 + 1 + 1 + 1, c4) :: (L + 1 + 1 + 1, c3) :: (L + 1 + 1, c2) :: (L + 1, c1) :: (72, tabObj p72) :: (37, tabObj p37) :: (30, tabObj p30) :: R
abbrev CT (L : Nat) : List Nat := [L + 1 + 1 + 1 + 1 + 1, L + 1 + 1 + 1 + 1, L + 1 + 1 + 1, L + 1 + 1, L + 1, 72, 37, 30]
theorem absorb2 {g₀ h' : Heap} {L : Nat} {c5 c4 c3 c2 c1 : Obj} {p72 p37 p30 : Array Value} {R extra : List (Addr × Obj)}
    (N' : News g₀ L h' ((30, tabObj p30) :: (37, tabObj p37) :: (extra ++ RestL L c5 c4 c3 c2 c1 p72 R))) (hT : Tabs p30 p37 (extra ++ RestL L c5 c4 c3 c2 c1 p72 R)) (hG : Grow extra (RestL L c5 c4 c3 c2 c1 p72 R)) (hO : OffC (CT L) R) :
    ∃ ex, OffC (CT L) (ex ++ R) ∧ Tabs p30 p37 (RestL L c5 c4 c3 c2 c1 p72 (ex ++ R)) ∧ News g₀ L h' (LedL L c5 c4 c3 c2 c1 p72 p37 p30 (ex ++ R)) ∧ (∀ p ∈ extra, (∀ q ∈ RestL L c5 c4 c3 c2 c1 p72 R, q.1 < p.1) → p ∈ ex) ∧ (∀ p ∈ ex, ∀ q ∈ RestL L c5 c4 c3 c2 c1 p72 R, q.1 < p.1) := by
  obtain ⟨ex, h1, h2, h3⟩ := hG.fresh
  have hsub : ∀ p ∈ RestL L c5 c4 c3 c2 c1 p72 (ex ++ R), p ∈ extra ++ RestL L c5 c4 c3 c2 c1 p72 R := by
    intro p hp
    simp only [List.mem_cons, List.mem_append] at hp
    rcases hp with h | h | h | h | h | h | h | h
    · exact List.mem_append_right _ (h ▸ .head _)
    · exact List.mem_append_right _ (h ▸ .tail _ (.head _))
    · exact List.mem_append_right _ (h ▸ .tail _ (.tail _ (.head _)))
    · exact List.mem_append_right _ (h ▸ .tail _ (.tail _ (.tail _ (.head _))))
    · exact List.mem_append_right _ (h ▸ .tail _ (.tail _ (.tail _ (.tail _ (.head _)))))
    · exact List.mem_append_right _ (h ▸ .tail _ (.tail _ (.tail _ (.tail _ (.tail _ (.head _))))))
    · exact List.mem_append_left _ (h2 p h)
    · exact List.mem_append_right _ (.tail _ (.tail _ (.tail _ (.tail _ (.tail _ (.tail _ h))))))
  have hsup : ∀ p ∈ extra ++ RestL L c5 c4 c3 c2 c1 p72 R, p ∈ RestL L c5 c4 c3 c2 c1 p72 (ex ++ R) := by
    intro p hp
    have hp' := h1 p hp
    simp only [List.mem_cons, List.mem_append] at hp' ⊢
    rcases hp' with h | h | h | h | h | h | h | h <;> simp only [h, true_or, or_true]
  have hO' : OffC (CT L) (ex ++ R) := by
    refine OffC.append (fun a ha p hp => ?_) hO
    simp only [List.mem_cons, List.not_mem_nil, or_false] at ha
    rcases ha with h | h | h | h | h | h | h | h
    · rw [h]; exact Nat.ne_of_gt (h3 p hp _ (.head _))
    · rw [h]; exact Nat.ne_of_gt (h3 p hp _ (.tail _ (.head _)))
    · rw [h]; exact Nat.ne_of_gt (h3 p hp _ (.tail _ (.tail _ (.head _))))
    · rw [h]; exact Nat.ne_of_gt (h3 p hp _ (.tail _ (.tail _ (.tail _ (.head _)))))
    · rw [h]; exact Nat.ne_of_gt (h3 p hp _ (.tail _ (.tail _ (.tail _ (.tail _ (.head _))))))
    · rw [h]; exact Nat.ne_of_gt (h3 p hp _ (.tail _ (.tail _ (.tail _ (.tail _ (.tail _ (.head _)))))))
    · rw [h]; exact hT.2.2.2 p (List.mem_append_left _ (h2 p hp))
    · rw [h]; exact hT.2.2.1 p (List.mem_append_left _ (h2 p hp))
  refine ⟨ex, hO', hT.sub (fun p hp _ => hsup p hp) (fun p hp => hT.2.2.1 p (hsub p hp)) (fun p hp => hT.2.2.2 p (hsub p hp)), News.perm N' ?_, ?_, ?_⟩
  · intro p hp
    have hp' : p = (30, tabObj p30) ∨ p = (37, tabObj p37) ∨ p ∈ RestL L c5 c4 c3 c2 c1 p72 (ex ++ R) := by
      simp only [List.mem_cons] at hp ⊢
      rcases hp with h | h | h | h | h | h | h | h | h <;> simp only [h, true_or, or_true]
    rcases hp' with h | h | h
    · exact h ▸ .head _
    · exact h ▸ .tail _ (.head _)
    · exact .tail _ (.tail _ (hsub p h))
  · intro p hp hf
    rcases List.mem_append.mp (h1 p (List.mem_append_left _ hp)) with h | h
    · exact h
    · exact absurd (hf p h) (Nat.lt_irrefl _)
  · exact h3
theorem absorb {g₀ h' : Heap} {L : Nat} {c5 c4 c3 c2 c1 : Obj} {p72 p37 p30 : Array Value} {R extra : List (Addr × Obj)}
    (N' : News g₀ L h' ((30, tabObj p30) :: (37, tabObj p37) :: (extra ++ RestL L c5 c4 c3 c2 c1 p72 R))) (hT : Tabs p30 p37 (extra ++ RestL L c5 c4 c3 c2 c1 p72 R)) (hG : Grow extra (RestL L c5 c4 c3 c2 c1 p72 R)) (hO : OffC (CT L) R) :
    ∃ R', (∀ p ∈ R, p ∈ R') ∧ OffC (CT L) R' ∧ Tabs p30 p37 (RestL L c5 c4 c3 c2 c1 p72 R') ∧ News g₀ L h' (LedL L c5 c4 c3 c2 c1 p72 p37 p30 R') := by
  obtain ⟨ex, h1, h2, h3, _, _⟩ := absorb2 N' hT hG hO
  exact ⟨ex ++ R, fun p hp => List.mem_append_right _ hp, h1, h2, h3⟩
theorem Tabs.cell {L : Nat} {c5 c5' c4 c3 c2 c1 : Obj} {p72 p37 p30 : Array Value} {R R' : List (Addr × Obj)} {v : Option Value} (h : Tabs p30 p37 (RestL L c5 c4 c3 c2 c1 p72 R)) (hc : c5.data = .cell v) (hR : ∀ p ∈ R, p ∈ R') (hO : OffC (CT L) R') : Tabs p30 p37 (RestL L c5' c4 c3 c2 c1 p72 R') := by
  refine h.sub ?_ ?_ ?_
  · intro p hp hcode
    simp only [List.mem_cons] at hp ⊢
    rcases hp with h | h | h | h | h | h | h
    · obtain ⟨vs, q, t, e, _⟩ := hcode
      rw [h, hc] at e; cases e
    · simp only [h, true_or, or_true]
    · simp only [h, true_or, or_true]
    · simp only [h, true_or, or_true]
    · simp only [h, true_or, or_true]
    · simp only [h, true_or, or_true]
    · simp only [hR p h, true_or, or_true]
  · have h30 := h.2.2.1
    exact List.forall_mem_cons.mpr ⟨h30 (_, c5) (.head _), List.forall_mem_cons.mpr ⟨h30 _ (.tail _ (.head _)), List.forall_mem_cons.mpr ⟨h30 _ (.tail _ (.tail _ (.head _))), List.forall_mem_cons.mpr ⟨h30 _ (.tail _ (.tail _ (.tail _ (.head _)))), List.forall_mem_cons.mpr ⟨h30 _ (.tail _ (.tail _ (.tail _ (.tail _ (.head _))))), List.forall_mem_cons.mpr ⟨h30 _ (.tail _ (.tail _ (.tail _ (.tail _ (.tail _ (.head _)))))), hO _ (.tail _ (.tail _ (.tail _ (.tail _ (.tail _ (.tail _ (.tail _ (.head _))))))))⟩⟩⟩⟩⟩⟩
  · have h37 := h.2.2.2
    exact List.forall_mem_cons.mpr ⟨h37 (_, c5) (.head _), List.forall_mem_cons.mpr ⟨h37 _ (.tail _ (.head _)), List.forall_mem_cons.mpr ⟨h37 _ (.tail _ (.tail _ (.head _))), List.forall_mem_cons.mpr ⟨h37 _ (.tail _ (.tail _ (.tail _ (.head _)))), List.forall_mem_cons.mpr ⟨h37 _ (.tail _ (.tail _ (.tail _ (.tail _ (.head _))))), List.forall_mem_cons.mpr ⟨h37 _ (.tail _ (.tail _ (.tail _ (.tail _ (.tail _ (.head _)))))), hO _ (.tail _ (.tail _ (.tail _ (.tail _ (.tail _ (.tail _ (.head _)))))))⟩⟩⟩⟩⟩⟩
theorem tabs0 {l : List (Addr × Obj)} (h30 : ∀ p ∈ l, p.1 ≠ 30) (h37 : ∀ p ∈ l, p.1 ≠ 37) : Tabs #[] #[] l := ⟨⟨trivial, fun _ _ _ => .inl rfl⟩, ⟨trivial, fun _ _ _ => .inl rfl⟩, h30, h37⟩
theorem bits_mask {m : Nat} (hm : 1 ≤ m) : Builtin.Int.intBits (((2 ^ m - 1 : Nat)) : Int) = m := by
  have h1 : Builtin.Int.intBits (((2 ^ m - 1 : Nat)) : Int) ≤ m := intBits_le_iff.mpr (by rw [Int.natAbs_natCast]; have := Nat.two_pow_pos m; omega)
  have h2 : ¬ Builtin.Int.intBits (((2 ^ m - 1 : Nat)) : Int) ≤ m - 1 := fun h => by
    have := intBits_le_iff.mp h
    rw [Int.natAbs_natCast] at this
    have e : 2 ^ m = 2 * 2 ^ (m - 1) := by rw [← Nat.pow_succ']; congr 1; omega
    have h3 := Nat.two_pow_pos (m - 1)
    omega
  omega
theorem mask_cast (W : Nat) : (2 : Int) ^ Int.toNat (16 * (W : Int)) - 1 = ((2 ^ (16 * W) - 1 : Nat) : Int) := by
  have e : Int.toNat (16 * (W : Int)) = 16 * W := by omega
  rw [e]
  have h1 := Nat.two_pow_pos (16 * W)
  rw [Int.natCast_sub h1, Int.natCast_pow]; rfl
end Mine
end

section -- Comp2
open PySem PySem.W PySem.Spec PySem.Calls PyProof.Rows
open LCg
namespace Mine
abbrev two (elt ix iy : PySem.Expr) (x y : Str) (px py : Pos) (scope : Scope) (pos : Pos) : PySem.Expr := .ListComp elt [⟨.Name x px, ix, [], 0⟩, ⟨.Name y py, iy, [], 0⟩] scope pos
theorem two_turn1 (elt ix iy : PySem.Expr) (x y : Str) (px py : Pos) (scope : Scope) (pos : Pos) (it acc : Value) (env : Env) :
    compTurn (two elt ix iy x y px py scope pos) 1 it acc env = (standAt iy.pos >>= fun _ => pyNext it >>= fun r => match r with
      | none => pure (.done .next)
      | some v => letOwnedTupleGo (.Name y py) it v >>= fun _ => assign (.Name y py) env v >>= fun _ =>
        (eval elt env >>= fun x => call (.builtin "list.append") [acc, x] >>= fun _ => pure ()) >>= fun _ =>
          again (.compLoop (two elt ix iy x y px py scope pos) 1 it acc env)) := by rfl
theorem two_turn0 (elt ix iy : PySem.Expr) (x y : Str) (px py : Pos) (scope : Scope) (pos : Pos) (it acc : Value) (env : Env) :
    compTurn (two elt ix iy x y px py scope pos) 0 it acc env = (standAt ix.pos >>= fun _ => pyNext it >>= fun r => match r with
      | none => pure (.done .next)
      | some v => letOwnedTupleGo (.Name x px) it v >>= fun _ => assign (.Name x px) env v >>= fun _ =>
        eval iy env >>= fun z => standAt iy.pos >>= fun _ => foldedSetIterable iy env z >>= fun z => holding [z] (pyIter z) >>= fun i => runOwn (.compStart (two elt ix iy x y px py scope pos) 1 i acc env) env >>= fun _ =>
          again (.compLoop (two elt ix iy x y px py scope pos) 0 it acc env)) := by rfl
section
variable {prog : Program} {w : World} {A : Around} {E : Value → Shared → Prop} {s : Shared} {R : Result → Shared → Prop} {elt ix iy : PySem.Expr} {x y : Str} {px py : Pos} {scope : Scope} {pos : Pos}
theorem two_start1 {it acc : Value} {env : Env}
    (h0 : codeAny (model prog w) A (.compLoop (two elt ix iy x y px py scope pos) 1 it acc env) R s)
    (h : wpAny (model prog w) A (pyIter it) (fun it' s' => codeAny (model prog w) A (.compLoop (two elt ix iy x y px py scope pos) 1 it' acc env) R s') (notedBy (model prog w) A env fun x s' => R (.error x) s') s) :
    codeAny (model prog w) A (.compStart (two elt ix iy x y px py scope pos) 1 it acc env) R s := by
  refine codeAny_of_tree ?_
  show wpAny _ _ ((compStart (two elt ix iy x y px py scope pos) 1 it acc env).onRaise (fun x => do noteFrame x env; standAt theWindowsPlace)) _ _ s
  refine wpAny_notedAt ?_
  unfold compStart
  show wpAny _ _ (ask >>= _) _ _ s
  refine wpAny_bind (wpAny_askSetting (wpAny_ite ?_))
  split
  · first
      | exact wpAny_bind (wpAny_pure (wpAny_pure (And.intro rfl h0)))
      | exact wpAny_pure (And.intro rfl h0)
  · first
      | exact wpAny_bind (wpAny_rule (wpAny_bind (wpAny_standAt (wpAny_bind (wpAny_mono h (fun it' s' h' => wpAny_pure (And.intro rfl h')) fun _ _ x => x)))))
      | (refine wpAny_bind (wpAny_rule ?_); show wpAny _ _ (standAt iy.pos >>= _) _ _ s; exact wpAny_bind (wpAny_standAt (wpAny_bind (wpAny_mono h (fun it' s' h' => wpAny_pure (And.intro rfl h')) fun _ _ x => x))))
theorem two_inner {cenv : Env} {I2 D l2 : Addr} {vs2 : List Value} {bs : List Nat} {a : Nat} {xv : Value} {ys : List Value} {h : Heap} {tk : Nat} {m₂ : Str → Option Value}
    (hh : A.handled = none) (hy : cenv.kindOf y = some .local) (hp : (cenv.scope.kind == .class || (cenv.scope.kind == .module && cenv.locals != cenv.globals)) = false) (hxy : x ≠ y) (hl : vs2.length = bs.length)
    (hI2 : h.IsListIter I2 l2 0) (hl2 : h.IsList l2 vs2.toArray) (hne : l2 ≠ I2) (hC : h.Ns cenv.locals m₂) (hx : m₂ x = some xv) (hD : h.get? D = some (lst ys))
    (n1 : I2 ≠ cenv.locals) (n2 : I2 ≠ D) (n3 : D ≠ cenv.locals) (n4 : l2 ≠ cenv.locals) (n5 : l2 ≠ D) (hsz : ys.length + vs2.length ≤ 1000)
    (helt : ∀ (j : Nat) u b h' tk' m' (E' : Value → Shared → Prop), vs2[j]? = some u → bs[j]? = some b → (∀ q o, q ≠ D → q ≠ cenv.locals → q ≠ I2 → h.get? q = some o → h'.get? q = some o) → h'.Ns cenv.locals m' → m' x = some xv → m' y = some u →
      wpAny (model prog w) A (eval elt cenv) (fun r s'' => ∃ t tk'', r = .int ((a + b : Nat) : Int) t ∧ s'' = { s with heap := h', toks := tk'' }) E' { s with heap := h', toks := tk' })
    (hR : ∀ h' tk' zs m', (∀ q o, q ≠ D → q ≠ cenv.locals → q ≠ I2 → h.get? q = some o → h'.get? q = some o) → h'.Ns cenv.locals m' → h'.get? D = some (lst (ys ++ (zs : List (Nat × Tok)).map fun z => Value.int (z.1 : Int) z.2)) → zs.map (·.1) = bs.map (a + ·) → R (.ok .next) { s with heap := h', toks := tk' }) :
    codeAny (model prog w) A (.compStart (two elt ix iy x y px py scope pos) 1 (.ref I2) (.ref D) cenv) R { s with heap := h, toks := tk } := by
  have W := Walks.list (prog := prog) (w := w) hh I2 l2 hne vs2.toArray
  rw [List.size_toArray] at W
  have loop : codeAny (model prog w) A (.compLoop (two elt ix iy x y px py scope pos) 1 (.ref I2) (.ref D) cenv) R { s with heap := h, toks := tk } := by
    refine codeAny_loop rfl (fun k s' => ∃ h' tk' j zs m', s' = { s with heap := h', toks := tk' } ∧ j ≤ vs2.length ∧ k = vs2.length + 1 - j ∧ (∀ q o, q ≠ D → q ≠ cenv.locals → q ≠ I2 → h.get? q = some o → h'.get? q = some o) ∧ (h'.IsListIter I2 l2 j ∧ h'.IsList l2 vs2.toArray) ∧ h'.Ns cenv.locals m' ∧ m' x = some xv ∧ h'.get? D = some (lst (ys ++ (zs : List (Nat × Tok)).map fun z => Value.int (z.1 : Int) z.2)) ∧ zs.length = j ∧ zs.map (·.1) = (bs.take j).map (a + ·)) ?_ (vs2.length + 1)
      ⟨h, tk, 0, [], m₂, rfl, Nat.zero_le _, rfl, fun q o _ _ _ e => e, ⟨hI2, hl2⟩, hC, hx, by rw [List.map_nil, List.append_nil]; exact hD, rfl, rfl⟩
    rintro k s' ⟨h', tk', j, zs, m', rfl, hj, rfl, hk', hst, hC', hx', hD', hzl, hz⟩
    show wpAny _ A ((compTurn (two elt ix iy x y px py scope pos) 1 (.ref I2) (.ref D) cenv).onRaise (fun x => do noteFrame x cenv; theTreesLotGoes x)) _ _ _
    refine wpAny_noted ?_
    rw [two_turn1]
    refine wpAny_bind (wpAny_standAt (wpAny_bind ?_))
    by_cases hlt : j < vs2.length
    · refine W.item j _ _ _ hlt hst fun v h₁ tk₁ hv hst₁ hk₁ => ?_
      rw [List.getElem?_toArray] at hv
      obtain ⟨b, hb⟩ : ∃ b, bs[j]? = some b := ⟨bs[j]'(by omega), List.getElem?_eq_getElem (by omega)⟩
      refine wpAny_bind (wpAny_of_eq (by rfl : letOwnedTupleGo (.Name y py) (.ref I2) v = pure ()) ?_)
      refine wpAny_bind (wpAny_assign_Name (wpAny_storeName_local hy (hC'.at' fun o e => hk₁ _ o (by simpa using Ne.symm n1) e) (fun h₂ hn₂ hs₂ => ?_) hp))
      have hk₂ : ∀ q o, q ≠ D → q ≠ cenv.locals → q ≠ I2 → h.get? q = some o → h₂.get? q = some o := fun q o a1 a2 a3 e => (hs₂.2 q a2).trans (hk₁ q o (by simpa using a3) (hk' q o a1 a2 a3 e))
      have hD₂ : h₂.get? D = some (lst (ys ++ zs.map fun z => Value.int (z.1 : Int) z.2)) := (hs₂.2 D n3).trans (hk₁ D _ (by simpa using Ne.symm n2) hD')
      refine wpAny_bind (wpAny_bind (wpAny_mono (helt j v b h₂ _ _ _ hv hb hk₂ hn₂ (by rw [if_neg hxy]; exact hx') (by simp)) (fun r s₃ h₃ => ?_) fun _ _ e => e))
      obtain ⟨t, tk₃, rfl, rfl⟩ := h₃
      refine wpAny_bind (append_at (its := (ys ++ zs.map fun z => Value.int (z.1 : Int) z.2).toArray) (n := (ys ++ zs.map fun z => Value.int (z.1 : Int) z.2).length) hD₂ (fun h₄ hs₄ hD₄ => ?_) (by rw [List.size_toArray, List.length_append, List.length_map, hzl]; exact Nat.le_trans (show ys.length + j ≤ 1000 by omega) (by decide)))
      refine wpAny_pure (wpAny_pure ⟨rfl, vs2.length + 1 - (j + 1), by omega, h₄, tk₃, j + 1, zs ++ [(a + b, t)], _, rfl, hlt, rfl, fun q o a1 a2 a3 e => (hs₄.2 q a1).trans (hk₂ q o a1 a2 a3 e), ?_, hn₂.at' fun o e => (hs₄.2 _ (Ne.symm n3)).trans e, by rw [if_neg hxy]; exact hx', ?_, ?_, ?_⟩)
      · have st2 := W.frame _ _ h₂ hst₁ fun q hq o e => (hs₂.2 q (by
          rcases List.mem_cons.mp hq with r | r
          · rw [r]; exact n1
          · rw [List.mem_singleton.mp r]; exact n4)).trans e
        exact W.frame _ _ h₄ st2 fun q hq o e => (hs₄.2 q (by
          rcases List.mem_cons.mp hq with r | r
          · rw [r]; exact n2
          · rw [List.mem_singleton.mp r]; exact n5)).trans e
      · rw [hD₄, lst_snoc, List.append_assoc, List.map_append]; rfl
      · rw [List.length_append, hzl]; rfl
      · rw [List.map_append, hz, List.take_add_one, hb, List.map_append]; rfl
    · have hjn : j = vs2.length := by omega
      subst hjn
      refine W.done _ _ _ hst fun h₁ tk₁ hk₁ => wpAny_pure (hR h₁ tk₁ zs m' (fun q o a1 a2 a3 e => hk₁ q o (by simpa using a3) (hk' q o a1 a2 a3 e)) (hC'.at' fun o e => hk₁ _ o (by simpa using Ne.symm n1) e) (hk₁ D _ (by simpa using Ne.symm n2) hD') ?_)
      rw [hz, hl, List.take_length]
  refine two_start1 loop ?_
  exact W.self 0 _ _ _ ⟨hI2, hl2⟩ loop
theorem comp2 {env : Env} {cl : List (Str × Addr)} {l1 l2 : Addr} {vs1 vs2 : List Value} {as bs : List Nat} {m : Str → Option Value} {news : List (Addr × Obj)} {h₀ : Heap} {L : Addr} {Q : Value → Shared → Prop}
    (F : Fr h₀ L s.heap m) (N : News h₀ L s.heap news) (hh : A.handled = none)
    (hclos : closureFor scope env = pure cl) (hcell : ∀ y ∈ scope.names, y.2 ≠ .cell) (hkind : scope.kind = .function) (hnames : ∀ y ∈ scope.names, y.2 = .local → scope.names.lookup y.1 = some .local) (hx : scope.names.lookup x = some .local) (hy : scope.names.lookup y = some .local) (hxy : x ≠ y)
    (hix : ∀ E' : Value → Shared → Prop, wpAny (model prog w) A (eval ix env) (fun v s' => v = .ref l1 ∧ s' = s) E' s)
    (hiy : ∀ C h tk m₂ (E' : Value → Shared → Prop), (∀ b o, s.heap.get? b = some o → h.get? b = some o) → h.Ns C m₂ → wpAny (model prog w) A (eval iy (compEnvC scope cl C env)) (fun v s' => v = .ref l2 ∧ s' = { s with heap := h, toks := tk }) E' { s with heap := h, toks := tk })
    (hfx : ∀ v, foldedSetIterable ix env v = pure v) (hfy : ∀ C v, foldedSetIterable iy (compEnvC scope cl C env) v = pure v)
    (h1 : s.heap.IsList l1 vs1.toArray) (h2 : s.heap.IsList l2 vs2.toArray) (e1 : vs1.length = as.length) (e2 : vs2.length = bs.length) (z1 : as.length ≤ 10) (z2 : bs.length ≤ 10)
    (helt : ∀ (A' : Around) (i j : Nat) v u a b C h' tk' m' (E' : Value → Shared → Prop), A'.handled = none → vs1[i]? = some v → as[i]? = some a → vs2[j]? = some u → bs[j]? = some b → (∀ q o, s.heap.get? q = some o → h'.get? q = some o) → h'.Ns C m' → m' x = some v → m' y = some u →
      wpAny (model prog w) A' (eval elt (compEnvC scope cl C env)) (fun r s'' => ∃ t tk'', r = .int ((a + b : Nat) : Int) t ∧ s'' = { s with heap := h', toks := tk'' }) E' { s with heap := h', toks := tk' })
    (hQ : ∀ D h tk (zs : List (Nat × Tok)), Fr h₀ L h m → News h₀ L h ((D, lst (zs.map fun z => Value.int (z.1 : Int) z.2)) :: news) → (∀ p ∈ news, p.1 < D) → zs.map (·.1) = as.flatMap (fun a => bs.map (a + ·)) → Q (.ref D) { s with heap := h, toks := tk }) :
    wpAny (model prog w) A (eval (two elt ix iy x y px py scope pos) env) Q E s := by
  rw [eval_ListComp]
  refine wpAny_comprehension_free (use := none) rfl hfx hclos hkind hnames (wpAny_mono (hix _) ?_ (fun _ _ e => e))
  rintro xv s₁ ⟨rfl, rfl⟩
  refine wpAny_pyIter_list h1 ?_
  refine wpAny_newObj_type (wpAny_newFunctionEnv hcell (by intro y hy; simp at hy) (fun h₁ hns₁ hsb₁ => ?_) hkind)
  dsimp only at hns₁ hsb₁ ⊢
  have hI : (s₁.heap.push { cls := .type "list_iterator", data := .fields #[.ref l1, .int 0 0] }).objs.size = s₁.heap.objs.size + 1 := Heap.size_push _ _
  generalize hH1 : s₁.heap.push { cls := .type "list_iterator", data := .fields #[.ref l1, .int 0 0] } = H1 at *
  have hC : (H1.push { cls := .type "list", dict := none, data := .seq ([] : List Value).toArray }).objs.size = H1.objs.size + 1 := Heap.size_push _ _
  generalize hH2 : H1.push { cls := .type "list", dict := none, data := .seq ([] : List Value).toArray } = H2 at *
  generalize hSz : s₁.heap.objs.size = S at *
  have hDC : H1.objs.size < H2.objs.size := by rw [hC]; exact Nat.lt_succ_self _
  have hSD : S < H1.objs.size := by rw [hI]; exact Nat.lt_succ_self _
  have hSC : S < H2.objs.size := Nat.lt_trans hSD hDC
  generalize hDD : H1.objs.size = D at *
  generalize hCC : H2.objs.size = C at *
  have old : ∀ b o, s₁.heap.get? b = some o → b < S := fun b o e => hSz ▸ Heap.lt_size e
  have K0 : ∀ b o, s₁.heap.get? b = some o → h₁.get? b = some o := fun b o e => hsb₁.extBut b o (Nat.ne_of_lt (Nat.lt_trans (old b o e) hSC)) (Heap.get?_push_of_some _ (hH2 ▸ Heap.get?_push_of_some _ (hH1 ▸ Heap.get?_push_of_some _ e)))
  have hD0 : h₁.get? D = some (lst []) := hsb₁.extBut D _ (Nat.ne_of_lt hDC) (Heap.get?_push_of_some _ (hH2 ▸ hDD ▸ Heap.get?_push_size _ rfl))
  have hI0 : h₁.IsListIter S l1 0 := ⟨_, hsb₁.extBut S _ (Nat.ne_of_lt hSC) (Heap.get?_push_of_some _ (hH2 ▸ Heap.get?_push_of_some _ (hH1 ▸ hSz ▸ Heap.get?_push_size _ rfl))), rfl, rfl⟩
  have l1S : l1 < S := by obtain ⟨o, e, _⟩ := id h1; exact old _ _ e
  have l2S : l2 < S := by obtain ⟨o, e, _⟩ := id h2; exact old _ _ e
  have hL : L < S := hSz ▸ F.ns.lt
  have fresh : ∀ a, S ≤ a → h₀.get? a = none := fun a ha => by
    cases e : h₀.get? a with
    | none => rfl
    | some o' => exact absurd (old a o' (F.keep a o' e)) (Nat.not_lt.mpr ha)
  have W := Walks.list (prog := prog) (w := w) hh S l1 (Nat.ne_of_lt l1S) vs1.toArray
  rw [List.size_toArray] at W
  have kx : (compEnvC scope cl C env).kindOf x = some .local := lookup_relabel_local hx
  have ky : (compEnvC scope cl C env).kindOf y = some .local := lookup_relabel_local hy
  have kp : ((compEnvC scope cl C env).scope.kind == .class || ((compEnvC scope cl C env).scope.kind == .module && (compEnvC scope cl C env).locals != (compEnvC scope cl C env).globals)) = false := by simp [compEnvC, relabel, hkind]
  have loop : ∀ tk0, codeAny (model prog w) A (.compLoop (two elt ix iy x y px py scope pos) 0 (.ref S) (.ref D) (compEnvC scope cl C env)) (compPost (model prog w) A E none Q (.ref D) C) { s₁ with heap := h₁, toks := tk0 } := by
    intro tk0
    refine codeAny_loop rfl (fun k s' => ∃ h' tk' i zs m', s' = { s₁ with heap := h', toks := tk' } ∧ i ≤ vs1.length ∧ k = vs1.length + 1 - i ∧ (∀ q o, s₁.heap.get? q = some o → h'.get? q = some o) ∧ (h'.IsListIter S l1 i ∧ h'.IsList l1 vs1.toArray) ∧ h'.Ns C m' ∧ h'.get? D = some (lst ((zs : List (Nat × Tok)).map fun z => Value.int (z.1 : Int) z.2)) ∧ zs.length = i * bs.length ∧ zs.map (·.1) = (as.take i).flatMap (fun a => bs.map (a + ·))) ?_ (vs1.length + 1)
      ⟨h₁, tk0, 0, [], _, rfl, Nat.zero_le _, rfl, K0, ⟨hI0, h1.at fun o e => K0 _ o e⟩, hns₁, hD0, by rw [Nat.zero_mul]; rfl, rfl⟩
    rintro k s' ⟨h', tk', i, zs, m', rfl, hi, rfl, hk', hst, hC', hD', hzl, hz⟩
    show wpAny _ A ((compTurn (two elt ix iy x y px py scope pos) 0 (.ref S) (.ref D) (compEnvC scope cl C env)).onRaise (fun x => do noteFrame x (compEnvC scope cl C env); theTreesLotGoes x)) _ _ _
    refine wpAny_noted ?_
    rw [two_turn0]
    refine wpAny_bind (wpAny_standAt (wpAny_bind ?_))
    by_cases hlt : i < vs1.length
    · refine W.item i _ _ _ hlt hst fun v h₂ tk₂ hv hst₂ hk₂ => ?_
      rw [List.getElem?_toArray] at hv
      obtain ⟨a, ha⟩ : ∃ a, as[i]? = some a := ⟨as[i]'(by omega), List.getElem?_eq_getElem (by omega)⟩
      refine wpAny_bind (wpAny_of_eq (by rfl : letOwnedTupleGo (.Name x px) (.ref S) v = pure ()) ?_)
      refine wpAny_bind (wpAny_assign_Name (wpAny_storeName_local kx (hC'.at' fun o e => hk₂ _ o (by simpa using Nat.ne_of_gt hSC) e) (fun h₃ hn₃ hs₃ => ?_) kp))
      have hs₃' : Heap.SameBut C h₂ h₃ := hs₃
      have hn₃' : h₃.Ns C _ := hn₃
      have K3 : ∀ q o, s₁.heap.get? q = some o → h₃.get? q = some o := fun q o e => (hs₃'.2 q (Nat.ne_of_lt (Nat.lt_trans (old q o e) hSC))).trans (hk₂ q o (by simpa using Nat.ne_of_lt (old q o e)) (hk' q o e))
      have hD3 : h₃.get? D = some (lst (zs.map fun z => Value.int (z.1 : Int) z.2)) := (hs₃'.2 D (Nat.ne_of_lt hDC)).trans (hk₂ D _ (by simpa using Nat.ne_of_gt hSD) hD')
      have hst3 : h₃.IsListIter S l1 (i + 1) ∧ h₃.IsList l1 vs1.toArray := W.frame _ _ h₃ hst₂ fun q hq o e => (hs₃'.2 q (by
        rcases List.mem_cons.mp hq with r | r
        · rw [r]; exact Nat.ne_of_lt hSC
        · rw [List.mem_singleton.mp r]; exact Nat.ne_of_lt (Nat.lt_trans l1S hSC))).trans e
      refine wpAny_bind (wpAny_mono (hiy C h₃ _ _ _ K3 hn₃') (fun z s₄ h₄ => ?_) fun _ _ e => e)
      obtain ⟨rfl, rfl⟩ := h₄
      refine wpAny_bind (wpAny_standAt (wpAny_bind (wpAny_of_eq (hfy C _) ?_)))
      have h23 : h₃.IsList l2 vs2.toArray := h2.at fun o e => K3 _ o e
      refine wpAny_bind (wpAny_holding (wpAny_pyIter_list h23 ?_))
      have up : ∀ q o, h₃.get? q = some o → (h₃.push { cls := .type "list_iterator", data := .fields #[.ref l2, .int 0 0] }).get? q = some o := fun q o e => Heap.get?_push_of_some _ e
      have ltS : S < h₃.objs.size := by obtain ⟨o, e, _⟩ := id hst3.1; exact Heap.lt_size e
      have ltD : D < h₃.objs.size := Heap.lt_size hD3
      have ltC : C < h₃.objs.size := hn₃'.lt
      have ltl2 : l2 < h₃.objs.size := Nat.lt_trans l2S ltS
      refine wpAny_bind (wpAny_runOwn (two_inner (ys := zs.map fun z => Value.int (z.1 : Int) z.2) (a := a) (xv := v) (bs := bs) (vs2 := vs2) hh ky kp hxy e2 ⟨_, Heap.get?_push_size _ rfl, rfl, rfl⟩ (h23.at fun o e => up _ o e) (Nat.ne_of_lt ltl2) (hn₃'.at' fun o e => up _ o e) (by simp) (up _ _ hD3) (Nat.ne_of_gt ltC) (Nat.ne_of_gt ltD) (Nat.ne_of_lt hDC) (Nat.ne_of_lt (Nat.lt_trans l2S hSC)) (Nat.ne_of_lt (Nat.lt_trans l2S hSD)) ?_ ?_ ?_))
      · rw [List.length_map, hzl, e2]
        have : i * bs.length ≤ 10 * 10 := Nat.mul_le_mul (by omega) z2
        omega
      · intro j u b h6 tk6 m6 E6 hu hb hk6 hn6 hx6 hy6
        exact helt _ i j v u a b C h6 tk6 m6 E6 hh hv ha hu hb (fun q o e => hk6 q o (Nat.ne_of_lt (Nat.lt_trans (old q o e) hSD)) (Nat.ne_of_lt (Nat.lt_trans (old q o e) hSC)) (Nat.ne_of_lt (Nat.lt_trans (old q o e) ltS)) (up _ _ (K3 q o e))) hn6 hx6 hy6
      · intro h6 tk6 zs6 m6 hk6 hn6 hD6 hz6
        refine wpAny_pure ⟨rfl, vs1.length + 1 - (i + 1), by omega, h6, tk6, i + 1, zs ++ zs6, m6, rfl, hlt, rfl, fun q o e => hk6 q o (Nat.ne_of_lt (Nat.lt_trans (old q o e) hSD)) (Nat.ne_of_lt (Nat.lt_trans (old q o e) hSC)) (Nat.ne_of_lt (Nat.lt_trans (old q o e) ltS)) (up _ _ (K3 q o e)), ?_, hn6, ?_, ?_, ?_⟩
        · exact W.frame _ _ h6 hst3 fun q hq o e => by
            rcases List.mem_cons.mp hq with r | r
            · exact hk6 q o (by rw [r]; exact Nat.ne_of_lt hSD) (by rw [r]; exact Nat.ne_of_lt hSC) (by rw [r]; exact Nat.ne_of_lt ltS) (up _ _ e)
            · have r' := List.mem_singleton.mp r
              exact hk6 q o (by rw [r']; exact Nat.ne_of_lt (Nat.lt_trans l1S hSD)) (by rw [r']; exact Nat.ne_of_lt (Nat.lt_trans l1S hSC)) (by rw [r']; exact Nat.ne_of_lt (Nat.lt_trans l1S ltS)) (up _ _ e)
        · rw [hD6, List.map_append]
        · have hz6l : zs6.length = bs.length := by rw [← List.length_map (f := (·.1)), hz6, List.length_map]
          rw [List.length_append, hzl, hz6l, Nat.add_mul, Nat.one_mul]
        · rw [List.map_append, hz, hz6, List.take_add_one, ha, List.flatMap_append]; simp
    · have hin : i = vs1.length := by omega
      subst hin
      refine W.done _ _ _ hst fun h₂ tk₂ hk₂ => wpAny_pure ⟨m', hC'.at' fun o e => hk₂ _ o (by simpa using Nat.ne_of_gt hSC) e, fun h₃ hs₃ => ?_⟩
      have K3 : ∀ q o, s₁.heap.get? q = some o → h₃.get? q = some o := fun q o e => (hs₃.2 q (Nat.ne_of_lt (Nat.lt_trans (old q o e) hSC))).trans (hk₂ q o (by simpa using Nat.ne_of_lt (old q o e)) (hk' q o e))
      refine hQ D h₃ tk₂ zs (F.keeps K3) (fun p hp => ?_) (fun p hp => Nat.lt_trans (old _ _ (N p hp).1) hSD) ?_
      · rcases List.mem_cons.mp hp with rfl | hp
        · exact ⟨(hs₃.2 D (Nat.ne_of_lt hDC)).trans (hk₂ D _ (by simpa using Nat.ne_of_gt hSD) hD'), Nat.ne_of_gt (Nat.lt_trans hL hSD), fresh _ (Nat.le_of_lt hSD)⟩
        · exact ⟨K3 _ _ (N p hp).1, (N p hp).2⟩
      · rw [hz, e1, List.take_length]
  exact codeAny_compStart_list (loop _) (W.self 0 _ _ _ ⟨hI0, h1.at fun o e => K0 _ o e⟩ (loop _))
theorem elt_two {cenv : Env} {h' : Heap} {tk' : Nat} {m' : Str → Option Value} {p1 p2 p3 p4 p5 : Pos} {k1 k2 : Nat} {a1 a2 : Addr} {va vb : List Value} {a b : Nat} {ta tb : Tok} {E' : Value → Shared → Prop}
    (hk : cenv.scope.kind = .function) (kx : cenv.kindOf x = some .local) (ky : cenv.kindOf y = some .local) (dx : (x == ("__debug__" : Str)) = false) (dy : (y == ("__debug__" : Str)) = false)
    (hn : h'.Ns cenv.locals m') (hx' : m' x = some (.ref a1)) (hy' : m' y = some (.ref a2)) (g1 : h'.IsList a1 va.toArray) (g2 : h'.IsList a2 vb.toArray) (e1 : va[0]? = some (.int (a : Int) ta)) (e2 : vb[0]? = some (.int (b : Int) tb)) :
    wpAny (model prog w) A (eval (.BinOp (.Subscript (.Name x px) (.Constant (.int 0) k1 p1) p2) .Add (.Subscript (.Name y py) (.Constant (.int 0) k2 p3) p4) p5) cenv) (fun r s'' => ∃ t tk'', r = .int ((a + b : Nat) : Int) t ∧ s'' = { s with heap := h', toks := tk'' }) E' { s with heap := h', toks := tk' } := by
  refine wpAny_BinOp (Subscript_ (wpAny_Name (wpAny_loadName_local hk kx hn hx' (wpAny_Constant_int (item_litK (vs := va) g1 (by decide) (by decide) e1 ?_))) dx))
  refine Subscript_ (wpAny_Name (wpAny_loadName_local hk ky hn hy' (wpAny_Constant_int (item_litK (vs := vb) g2 (by decide) (by decide) e2 ?_))) dy)
  exact add_int ⟨_, _, by rw [Int.natCast_add], rfl⟩
end
end Mine
end

section -- Mth
open PySem PySem.W PySem.Spec PySem.Calls PyProof.Rows
namespace Mine
def stepsOf (xs ys : List Spot) : List Nat := (xs.map (·.1)).flatMap fun a => (ys.map (·.1)).map (a + ·)
def cameOf (ss : List Nat) : List Nat := ss.foldl (fun acc s => if s % 16 ∈ acc then acc else acc ++ [s % 16]) []
theorem stepsOf_len (xs ys : List Spot) : (stepsOf xs ys).length = xs.length * ys.length := by
  unfold stepsOf
  induction xs with
  | nil => simp
  | cons x xs ih => rw [List.map_cons, List.flatMap_cons, List.length_append, ih, List.length_map, List.length_map, List.length_cons, Nat.add_mul]; omega
theorem inner_eq (x : Spot) (ys : List Spot) (st : PSt) : inner x ys st = ((ys.map (·.1)).map (x.1 + ·)).foldl paint st := by
  unfold inner
  rw [List.map_map, List.foldl_map]; rfl
theorem outerP_eq (xs ys : List Spot) : ∀ st : PSt, outerP xs ys st = (stepsOf xs ys).foldl paint st := by
  induction xs with
  | nil => intro st; rfl
  | cons x xs ih =>
    intro st
    show outerP xs ys (inner x ys st) = _
    rw [ih]
    unfold stepsOf
    rw [List.map_cons, List.flatMap_cons, List.foldl_append, ← inner_eq]
/-- the entries' keys are the hues as they came -/
theorem addE_keys (E : List Ent) (k : Int) (r : Row) : (addE E k r).map (·.1) = if k ∈ E.map (·.1) then E.map (·.1) else E.map (·.1) ++ [k] := by
  unfold addE
  have h : E.any (fun e => decide (e.1 = k)) = true ↔ k ∈ E.map (·.1) := by
    rw [List.any_eq_true, List.mem_map]
    constructor
    · rintro ⟨e, he, h⟩; exact ⟨e, he, of_decide_eq_true h⟩
    · rintro ⟨e, he, h⟩; exact ⟨e, he, decide_eq_true h⟩
  by_cases hc : k ∈ E.map (·.1)
  · rw [if_pos hc, if_pos (h.mpr hc), List.map_map]
    refine List.map_congr_left fun e _ => ?_
    show (if e.1 = k then (e.1, addR r e.2) else e).1 = e.1
    split <;> rfl
  · rw [if_neg hc, if_neg (fun x => hc (h.mp x)), List.map_append]; rfl
theorem keys_fold (ss : List Nat) : ∀ (st : PSt) (acc : List Nat), st.ents.map (·.1) = acc.map (fun n : Nat => (n : Int)) → (ss.foldl paint st).ents.map (·.1) = (ss.foldl (fun acc s => if s % 16 ∈ acc then acc else acc ++ [s % 16]) acc).map fun n : Nat => (n : Int) := by
  induction ss with
  | nil => intro st acc h; exact h
  | cons s ss ih =>
    intro st acc h
    refine ih _ _ ?_
    show (addE st.ents _ _).map (·.1) = _
    rw [addE_keys, h]
    have e : (((s % 16 : Nat) : Int) ∈ acc.map fun n : Nat => (n : Int)) ↔ s % 16 ∈ acc := by
      rw [List.mem_map]
      exact ⟨fun ⟨a, ha, h⟩ => by rw [← Int.ofNat_inj.mp h]; exact ha, fun h => ⟨_, h, rfl⟩⟩
    show _ = List.map _ (if s % 16 ∈ acc then acc else acc ++ [s % 16])
    by_cases hc : s % 16 ∈ acc
    · rw [if_pos hc, if_pos (e.mpr hc)]
    · rw [if_neg hc, if_neg (fun x => hc (e.mp x)), List.map_append]; rfl
theorem keys_came (ss : List Nat) : (ss.foldl paint st0).ents.map (·.1) = (cameOf ss).map fun n : Nat => (n : Int) := keys_fold ss st0 [] rfl
/-- the numbers of ways -/
def ck (k t : Nat) : Nat := match k with
  | 0 => 1
  | 1 => t
  | 2 => t * (t - 1) / 2
  | _ => t * (t - 1) * (t - 2) / 6
def comp (k : Nat) (r : Row) : Int := match k with
  | 0 => r.1
  | 1 => r.2.1
  | 2 => r.2.2.1
  | _ => r.2.2.2
theorem comp_add (k : Nat) (a b : Row) : comp k (addR a b) = comp k a + comp k b := by
  unfold comp addR
  split <;> rfl
theorem comp_row (k t : Nat) (ht : t ≤ 3) : comp k (rowOf (t : Int)) = ((ck k t : Nat) : Int) := by
  unfold comp ck rowOf
  have : t = 0 ∨ t = 1 ∨ t = 2 ∨ t = 3 := by omega
  rcases this with rfl | rfl | rfl | rfl <;> (split <;> rfl)
/-- a hue's sum -/
def hs (k : Nat) (ss : List Nat) (hue : Nat) : Nat := ((ss.filter fun s => s % 16 == hue).map fun s => ck k (s / 16)).sum
theorem tot_fold (k : Nat) (ss : List Nat) (h : ∀ s ∈ ss, s / 16 ≤ 3) : ∀ st : PSt, comp k (ss.foldl paint st).tot = comp k st.tot + ((ss.map fun s => ck k (s / 16)).sum : Nat) := by
  induction ss with
  | nil => intro st; simp
  | cons s ss ih =>
    intro st
    rw [List.foldl_cons, ih (fun x hx => h x (.tail _ hx))]
    show comp k (addR _ _) + _ = _
    rw [comp_add, comp_row _ _ (h s (.head _)), List.map_cons, List.sum_cons]
    omega
theorem tot_sum (k : Nat) (ss : List Nat) (h : ∀ s ∈ ss, s / 16 ≤ 3) : comp k (ss.foldl paint st0).tot = (((ss.map fun s => ck k (s / 16)).sum : Nat) : Int) := by
  rw [tot_fold k ss h]
  have : comp k st0.tot = 0 := by unfold comp; split <;> rfl
  rw [this]; omega
/-- what stands under a key -/
def valE (E : List Ent) (key : Int) : Option Row := match E with
  | [] => none
  | e :: E => if e.1 = key then some e.2 else valE E key
theorem valE_append (E : List Ent) (k key : Int) (r : Row) : valE (E ++ [(k, r)]) key = (valE E key).or (if k = key then some r else none) := by
  induction E with
  | nil => rfl
  | cons e E ih =>
    rw [List.cons_append, valE, valE, ih]
    split <;> rfl
theorem valE_map (E : List Ent) (k key : Int) (r : Row) : valE (E.map fun e => if e.1 = k then (e.1, addR r e.2) else e) key = if k = key then (valE E key).map (addR r) else valE E key := by
  induction E with
  | nil => simp [valE]
  | cons e E ih =>
    rw [List.map_cons]
    unfold valE
    by_cases h1 : e.1 = k
    · rw [if_pos h1]
      by_cases h2 : e.1 = key
      · have h3 : k = key := h1.symm.trans h2
        rw [if_pos h2, if_pos h2, if_pos h3]; rfl
      · rw [if_neg h2, if_neg h2, ih]
    · rw [if_neg h1]
      by_cases h2 : e.1 = key
      · have h3 : ¬ k = key := fun x => h1 (h2.trans x.symm)
        rw [if_pos h2, if_pos h2, if_neg h3]
      · rw [if_neg h2, if_neg h2, ih]
theorem valE_none (E : List Ent) (key : Int) : valE E key = none ↔ key ∉ E.map (·.1) := by
  induction E with
  | nil => simp [valE]
  | cons e E ih =>
    rw [valE, List.map_cons, List.mem_cons]
    by_cases h : e.1 = key
    · rw [if_pos h]; simp [h]
    · rw [if_neg h, ih]
      exact ⟨fun x y => y.elim (fun z => h z.symm) x, fun x y => x (.inr y)⟩
theorem addE_val (E : List Ent) (k key : Int) (r : Row) : valE (addE E k r) key = if k = key then some (match valE E key with | some a => addR r a | none => r) else valE E key := by
  unfold addE
  have h : E.any (fun e => decide (e.1 = k)) = true ↔ k ∈ E.map (·.1) := by
    rw [List.any_eq_true, List.mem_map]
    constructor
    · rintro ⟨e, he, h⟩; exact ⟨e, he, of_decide_eq_true h⟩
    · rintro ⟨e, he, h⟩; exact ⟨e, he, decide_eq_true h⟩
  by_cases hc : k ∈ E.map (·.1)
  · rw [if_pos (h.mpr hc), valE_map]
    by_cases hk : k = key
    · rw [if_pos hk, if_pos hk]
      cases hv : valE E key with
      | none => exact absurd (hk ▸ hc) ((valE_none E key).mp hv)
      | some a => rfl
    · rw [if_neg hk, if_neg hk]
  · rw [if_neg (fun x => hc (h.mp x)), valE_append]
    by_cases hk : k = key
    · rw [if_pos hk, if_pos hk, (valE_none E key).mpr (hk ▸ hc)]; rfl
    · rw [if_neg hk, if_neg hk, Option.or_none]
theorem ents_fold (k : Nat) (hue : Nat) (ss : List Nat) (h : ∀ s ∈ ss, s / 16 ≤ 3) : ∀ st : PSt,
    ((valE (ss.foldl paint st).ents (hue : Int)).map (comp k)).getD 0 = ((valE st.ents (hue : Int)).map (comp k)).getD 0 + (hs k ss hue : Nat) := by
  induction ss with
  | nil => intro st; simp [hs]
  | cons s ss ih =>
    intro st
    rw [List.foldl_cons, ih (fun x hx => h x (.tail _ hx))]
    show ((valE (addE st.ents _ _) _).map (comp k)).getD 0 + _ = _
    rw [addE_val]
    unfold hs
    rw [List.filter_cons]
    by_cases he : s % 16 = hue
    · have e1 : (((s % 16 : Nat) : Int) = (hue : Int)) := by rw [he]
      rw [if_pos e1, if_pos (by simpa using he), List.map_cons, List.sum_cons]
      cases hv : valE st.ents (hue : Int) with
      | none =>
        show comp k (rowOf _) + _ = _
        rw [comp_row _ _ (h s (.head _))]
        show _ = (0 : Int) + _
        omega
      | some a =>
        show comp k (addR _ _) + _ = _
        rw [comp_add, comp_row _ _ (h s (.head _))]
        show _ = comp k a + _
        omega
    · have e1 : ¬ (((s % 16 : Nat) : Int) = (hue : Int)) := fun x => he (Int.ofNat_inj.mp x)
      rw [if_neg e1, if_neg (by simpa using he)]
theorem ents_val (k : Nat) (hue : Nat) (ss : List Nat) (h : ∀ s ∈ ss, s / 16 ≤ 3) : ((valE (ss.foldl paint st0).ents (hue : Int)).map (comp k)).getD 0 = (hs k ss hue : Nat) := by
  rw [ents_fold k hue ss h]
  show (0 : Int) + _ = _
  omega
theorem hs_none (k : Nat) (hue : Nat) (ss : List Nat) (h : hue ∉ cameOf ss) : hs k ss hue = 0 := by
  have key : ∀ (ss acc : List Nat), hue ∉ ss.foldl (fun acc s => if s % 16 ∈ acc then acc else acc ++ [s % 16]) acc → hue ∉ acc ∧ ∀ s ∈ ss, s % 16 ≠ hue := by
    intro ss
    induction ss with
    | nil => intro acc h; exact ⟨h, fun _ h => nomatch h⟩
    | cons s ss ih =>
      intro acc h
      obtain ⟨h1, h2⟩ := ih _ h
      dsimp only at h1
      by_cases hc : s % 16 ∈ acc
      · rw [if_pos hc] at h1
        exact ⟨h1, List.forall_mem_cons.mpr ⟨fun e => h1 (e ▸ hc), h2⟩⟩
      · rw [if_neg hc] at h1
        exact ⟨fun x => h1 (List.mem_append_left _ x), List.forall_mem_cons.mpr ⟨fun e => h1 (List.mem_append_right _ (e ▸ .head _)), h2⟩⟩
  have h2 := (key ss [] h).2
  unfold hs
  rw [List.filter_eq_nil_iff.mpr (fun s hs => by simpa using h2 s hs)]; rfl
/-- the powers' quotients: y to the t, divided k times by y - 1 -/
def gq (y k t : Nat) : Nat := match k, t with
  | 0, t => y ^ t
  | 1, 1 => 1
  | 1, 2 => y + 1
  | 1, 3 => y * y + y + 1
  | 2, 2 => 1
  | 2, 3 => y + 2
  | 3, 3 => 1
  | _, _ => 0
theorem gq_step {y k t : Nat} (hy : 1 ≤ y) (hk : k < 4) (ht : t ≤ 3) : gq y k t = ck k t + (y - 1) * gq y (k + 1) t := by
  obtain ⟨z, rfl⟩ : ∃ z, y = z + 1 := ⟨y - 1, by omega⟩
  have h1 : k = 0 ∨ k = 1 ∨ k = 2 ∨ k = 3 := by omega
  have h2 : t = 0 ∨ t = 1 ∨ t = 2 ∨ t = 3 := by omega
  have e : z + 1 - 1 = z := rfl
  rw [e]
  rcases h1 with rfl | rfl | rfl | rfl <;> rcases h2 with rfl | rfl | rfl | rfl <;> simp [gq, ck, Nat.pow_succ, Nat.mul_add, Nat.add_mul, Nat.mul_assoc] <;> omega
theorem gq_four (y t : Nat) : gq y 4 t = 0 := by
  unfold gq; split <;> first | rfl | (rename_i h; exact absurd h (by decide)) | simp_all
/-- the number after k divisions -/
def nK (W k : Nat) (ss : List Nat) : Nat := (ss.map fun s => 2 ^ (W * (s % 16)) * gq (2 ^ (16 * W)) k (s / 16)).sum
def rK (W k : Nat) (ss : List Nat) : Nat := (ss.map fun s => 2 ^ (W * (s % 16)) * ck k (s / 16)).sum
theorem nK_step {W k : Nat} (hk : k < 4) (ss : List Nat) (h : ∀ s ∈ ss, s / 16 ≤ 3) : nK W k ss = rK W k ss + (2 ^ (16 * W) - 1) * nK W (k + 1) ss := by
  unfold nK rK
  induction ss with
  | nil => simp
  | cons s ss ih =>
    rw [List.map_cons, List.map_cons, List.map_cons, List.sum_cons, List.sum_cons, List.sum_cons, ih (fun x hx => h x (.tail _ hx)), gq_step (Nat.two_pow_pos _) hk (h s (.head _)), Nat.mul_add, Nat.mul_add (2 ^ (16 * W) - 1), Nat.mul_left_comm]
    omega
theorem nK_zero (W : Nat) (ss : List Nat) : nK W 0 ss = (ss.map fun s => 2 ^ (W * s)).sum := by
  unfold nK
  congr 1
  refine List.map_congr_left fun s _ => ?_
  show 2 ^ (W * (s % 16)) * (2 ^ (16 * W)) ^ (s / 16) = _
  rw [← Nat.pow_mul, ← Nat.pow_add]
  congr 1
  have := Nat.div_add_mod s 16
  calc W * (s % 16) + 16 * W * (s / 16) = W * (16 * (s / 16) + s % 16) := by rw [Nat.mul_add, Nat.mul_comm 16 W, Nat.mul_assoc]; omega
    _ = W * s := by rw [this]
theorem nK_four (W : Nat) (ss : List Nat) : nK W 4 ss = 0 := by
  unfold nK
  induction ss with
  | nil => rfl
  | cons s ss ih => rw [List.map_cons, List.sum_cons, ih, gq_four]; rfl
/-- the rest's digits are the hues' sums -/
def hsL (k : Nat) (ss : List Nat) : List Nat := (List.range 16).map (hs k ss)
theorem hs_le {k : Nat} (ss : List Nat) (h : ∀ s ∈ ss, s / 16 ≤ 3) (hue : Nat) : hs k ss hue ≤ 3 * ss.length := by
  unfold hs
  induction ss with
  | nil => simp
  | cons s ss ih =>
    have h1 := ih fun x hx => h x (.tail _ hx)
    have h2 : ck k (s / 16) ≤ 3 := by
      have h3 := h s (.head _)
      have : s / 16 = 0 ∨ s / 16 = 1 ∨ s / 16 = 2 ∨ s / 16 = 3 := by omega
      unfold ck
      rcases this with e | e | e | e <;> rw [e] <;> split <;> decide
    rw [List.filter_cons]
    split
    · rw [List.map_cons, List.sum_cons, List.length_cons]; omega
    · rw [List.length_cons]; omega
theorem hs_cons (k : Nat) (s : Nat) (ss : List Nat) (hue : Nat) : hs k (s :: ss) hue = (if s % 16 = hue then ck k (s / 16) else 0) + hs k ss hue := by
  unfold hs
  rw [List.filter_cons]
  by_cases h : s % 16 = hue
  · rw [if_pos h, if_pos (by simpa using h), List.map_cons, List.sum_cons]
  · rw [if_neg h, if_neg (by simpa using h)]; omega
theorem dv_bumpN (n : Nat) : ∀ (ds : List Nat) (h d c : Nat), ds[h]? = some d → dv n (ds.set h (d + c)) = dv n ds + c * 2 ^ (n * h)
  | [], h, d, c, e => by simp at e
  | x :: ds, 0, d, c, e => by
    have e' : x = d := Option.some.inj e
    subst e'
    rw [List.set_cons_zero, dv, dv, Nat.mul_zero, Nat.pow_zero]; omega
  | x :: ds, h + 1, d, c, e => by
    rw [List.set_cons_succ, dv, dv, dv_bumpN n ds h d c (by simpa using e), Nat.mul_add, Nat.mul_left_comm, ← Nat.pow_add, show n + n * h = n * (h + 1) by rw [Nat.mul_add]; omega, Nat.add_assoc]
theorem hsL_cons (k s : Nat) (ss : List Nat) : hsL k (s :: ss) = (hsL k ss).set (s % 16) (hs k ss (s % 16) + ck k (s / 16)) := by
  unfold hsL
  apply List.ext_getElem?
  intro i
  rw [List.getElem?_map, List.getElem?_set, List.length_map, List.length_range]
  have hl : s % 16 < 16 := Nat.mod_lt _ (by decide)
  by_cases hi : i < 16
  · rw [List.getElem?_range hi]
    by_cases h : s % 16 = i
    · rw [if_pos h, if_pos (by omega)]
      show some _ = some _
      rw [hs_cons, if_pos h, h, Nat.add_comm]
    · rw [if_neg h, List.getElem?_map, List.getElem?_range hi]
      show some _ = some _
      rw [hs_cons, if_neg h, Nat.zero_add]
  · rw [List.getElem?_eq_none (by simp; omega)]
    have h : ¬ s % 16 = i := by omega
    rw [if_neg h, List.getElem?_eq_none (by simp; omega)]
    rfl
theorem rK_dv (W k : Nat) (ss : List Nat) : rK W k ss = dv W (hsL k ss) := by
  induction ss with
  | nil =>
    have : hsL k [] = List.replicate 16 0 := rfl
    rw [this, dv_zeros]; rfl
  | cons s ss ih =>
    have hl : s % 16 < 16 := Nat.mod_lt _ (by decide)
    have e : (hsL k ss)[s % 16]? = some (hs k ss (s % 16)) := by
      unfold hsL; rw [List.getElem?_map, List.getElem?_range hl]; rfl
    rw [hsL_cons, dv_bumpN _ _ _ _ _ e, ← ih]
    unfold rK
    rw [List.map_cons, List.sum_cons, Nat.mul_comm (2 ^ _)]
    omega
theorem hsL_lt {k W : Nat} (hW : 7 ≤ W) (ss : List Nat) (h : ∀ s ∈ ss, s / 16 ≤ 3) (hl : ss.length ≤ 25) : ∀ d ∈ hsL k ss, d + 1 < 2 ^ W := by
  intro d hd
  obtain ⟨i, _, rfl⟩ := List.mem_map.mp hd
  have := hs_le (k := k) ss h i
  have h2 : 2 ^ 7 ≤ 2 ^ W := Nat.pow_le_pow_right (by decide) hW
  omega
theorem rK_lt {k W : Nat} (hW : 7 ≤ W) (ss : List Nat) (h : ∀ s ∈ ss, s / 16 ≤ 3) (hl : ss.length ≤ 25) : rK W k ss < 2 ^ (16 * W) - 1 := by
  have hd := hsL_lt (k := k) hW ss h hl
  rw [rK_dv]
  obtain ⟨a, l, e⟩ : ∃ a l, hsL k ss = a :: l := ⟨_, _, rfl⟩
  have h1 := dv_lt W ((a + 1) :: l) (List.forall_mem_cons.mpr ⟨hd a (e ▸ .head _), fun d hdl => by have := hd d (e ▸ .tail _ hdl); omega⟩)
  have h2 : l.length = 15 := by
    have := congrArg List.length e
    unfold hsL at this
    rw [List.length_map, List.length_range, List.length_cons] at this
    omega
  rw [dv, List.length_cons, h2, show 15 + 1 = 16 from rfl] at h1
  rw [e, dv, Nat.mul_comm 16 W]
  omega
theorem dg_of_dv (n : Nat) : ∀ ds : List Nat, (∀ d ∈ ds, d < 2 ^ n) → dg n ds.length (dv n ds) = ds
  | [], _ => rfl
  | d :: ds, h => by
    have h1 := h d (.head _)
    rw [List.length_cons, dg, dv, Nat.add_mul_mod_self_left, Nat.mod_eq_of_lt h1, Nat.add_mul_div_left _ _ (Nat.two_pow_pos n), Nat.div_eq_of_lt h1, Nat.zero_add, dg_of_dv n ds fun x hx => h x (.tail _ hx)]
theorem dg_zero (n : Nat) : ∀ k, dg n k 0 = List.replicate k 0
  | 0 => rfl
  | k + 1 => by rw [dg, Nat.zero_mod, Nat.zero_div, dg_zero n k, List.replicate_succ]
theorem dg_pad {n kk K x : Nat} (hk : kk ≤ K) (hx : x < 2 ^ (n * kk)) : dg n kk x ++ List.replicate (K - kk) 0 = dg n K x := by
  have e := dg_split n kk (K - kk) x
  rw [show kk + (K - kk) = K by omega, Nat.mod_eq_of_lt hx, Nat.div_eq_of_lt hx, dg_zero] at e
  exact e.symm
theorem digits_are {k W kk : Nat} (hW : 7 ≤ W) (ss : List Nat) (h : ∀ s ∈ ss, s / 16 ≤ 3) (hl : ss.length ≤ 25) (hk : kk ≤ 16) (hx : rK W k ss < 2 ^ (W * kk)) : dg W kk (rK W k ss) ++ List.replicate (16 - kk) 0 = hsL k ss := by
  rw [dg_pad hk hx, rK_dv]
  have := dg_of_dv W (hsL k ss) fun d hd => by have := hsL_lt (k := k) hW ss h hl d hd; omega
  have hlen : (hsL k ss).length = 16 := by unfold hsL; rw [List.length_map, List.length_range]
  rw [hlen] at this
  exact this
theorem hsL_sum (k : Nat) (ss : List Nat) : (hsL k ss).sum = (ss.map fun s => ck k (s / 16)).sum := by
  induction ss with
  | nil => rfl
  | cons s ss ih =>
    have hl : s % 16 < 16 := Nat.mod_lt _ (by decide)
    have e : (hsL k ss)[s % 16]? = some (hs k ss (s % 16)) := by
      unfold hsL; rw [List.getElem?_map, List.getElem?_range hl]; rfl
    have key : ∀ (ds : List Nat) (i d c : Nat), ds[i]? = some d → (ds.set i (d + c)).sum = ds.sum + c := by
      intro ds
      induction ds with
      | nil => intro i d c e; simp at e
      | cons x ds ih =>
        intro i d c e
        cases i with
        | zero => have e' : x = d := Option.some.inj e; subst e'; rw [List.set_cons_zero, List.sum_cons, List.sum_cons]; omega
        | succ i => rw [List.set_cons_succ, List.sum_cons, List.sum_cons, ih i d c (by simpa using e)]; omega
    rw [hsL_cons, key _ _ _ _ e, ih, List.map_cons, List.sum_cons]; omega
theorem mul_sum (W a : Nat) (ys : List Spot) : 2 ^ (W * a) * (ys.map fun y => 2 ^ (W * y.1)).sum = (ys.map (((fun s => 2 ^ (W * s)) ∘ (a + ·)) ∘ fun y => y.1)).sum := by
  induction ys with
  | nil => rfl
  | cons y ys ih =>
    rw [List.map_cons, List.map_cons, List.sum_cons, List.sum_cons, Nat.mul_add, ih, ← Nat.pow_add, ← Nat.mul_add]
    rfl
theorem numOf_mul (W : Nat) (xs ys : List Spot) : numOf W xs * numOf W ys = ((stepsOf xs ys).map fun s => 2 ^ (W * s)).sum := by
  unfold numOf stepsOf
  induction xs with
  | nil => simp
  | cons x xs ih =>
    rw [List.map_cons, List.sum_cons, Nat.add_mul, ih, List.map_cons, List.flatMap_cons, List.map_append, List.sum_append]
    congr 1
    rw [List.map_map, List.map_map]
    exact mul_sum W x.1 ys
theorem numOf_le (W : Nat) (xs : List Spot) (h : ∀ x ∈ xs, x.1 < 32) : numOf W xs ≤ xs.length * 2 ^ (W * 31) := by
  unfold numOf
  induction xs with
  | nil => simp
  | cons x xs ih =>
    have h1 := ih fun y hy => h y (.tail _ hy)
    have h2 : 2 ^ (W * x.1) ≤ 2 ^ (W * 31) := Nat.pow_le_pow_right (by decide) (Nat.mul_le_mul_left _ (by have := h x (.head _); omega))
    rw [List.map_cons, List.sum_cons, List.length_cons, Nat.add_mul, Nat.one_mul]
    omega
theorem numOf_lt {W : Nat} (hW : 7 ≤ W) (xs : List Spot) (h : ∀ x ∈ xs, x.1 < 32) (hl : xs.length ≤ 5) : numOf W xs < 2 ^ (W * 32) := by
  have h1 := numOf_le W xs h
  have h2 : xs.length * 2 ^ (W * 31) ≤ 5 * 2 ^ (W * 31) := Nat.mul_le_mul_right _ hl
  have h3 : 2 ^ (W * 32) = 2 ^ W * 2 ^ (W * 31) := by rw [← Nat.pow_add]; congr 1; omega
  have h4 : 2 ^ 7 ≤ 2 ^ W := Nat.pow_le_pow_right (by decide) hW
  have h5 : 2 ^ 7 * 2 ^ (W * 31) ≤ 2 ^ W * 2 ^ (W * 31) := Nat.mul_le_mul_right _ h4
  have h6 := Nat.two_pow_pos (W * 31)
  omega
theorem nK_lt {W k : Nat} (hW : 7 ≤ W) (hk : k ≤ 4) (xs ys : List Spot) (hx : ∀ x ∈ xs, x.1 < 32) (hy : ∀ x ∈ ys, x.1 < 32) (lx : xs.length ≤ 5) (ly : ys.length ≤ 5) (h : ∀ s ∈ stepsOf xs ys, s / 16 ≤ 3) : nK W k (stepsOf xs ys) < 2 ^ (16 * W * 60) := by
  have hdec : ∀ j, j ≤ 4 → nK W j (stepsOf xs ys) ≤ nK W 0 (stepsOf xs ys) := by
    intro j
    induction j with
    | zero => intro _; exact Nat.le_refl _
    | succ j ih =>
      intro hj
      have h1 := ih (by omega)
      have h2 := nK_step (W := W) (k := j) (by omega) (stepsOf xs ys) h
      have h3 : 2 ^ 1 ≤ 2 ^ (16 * W) := Nat.pow_le_pow_right (by decide) (by omega)
      have h4 : 1 * nK W (j + 1) (stepsOf xs ys) ≤ (2 ^ (16 * W) - 1) * nK W (j + 1) (stepsOf xs ys) := Nat.mul_le_mul_right _ (by omega)
      omega
  refine Nat.lt_of_le_of_lt (hdec k hk) ?_
  rw [nK_zero, ← numOf_mul]
  have a1 := numOf_lt hW xs hx lx
  have a2 := numOf_lt hW ys hy ly
  refine Nat.lt_of_lt_of_le (Nat.mul_lt_mul'' a1 a2) ?_
  rw [← Nat.pow_add]
  exact Nat.pow_le_pow_right (by decide) (by omega)
theorem steps_le (xs ys : List Spot) (hx : ∀ x ∈ xs, x.1 < 32) (hy : ∀ x ∈ ys, x.1 < 32) : ∀ s ∈ stepsOf xs ys, s / 16 ≤ 3 := by
  intro s hs
  unfold stepsOf at hs
  obtain ⟨a, ha, hs⟩ := List.mem_flatMap.mp hs
  obtain ⟨b, hb, rfl⟩ := List.mem_map.mp hs
  obtain ⟨x, hxm, rfl⟩ := List.mem_map.mp ha
  obtain ⟨y, hym, rfl⟩ := List.mem_map.mp hb
  have := hx x hxm
  have := hy y hym
  omega
theorem nK_divmod {W k : Nat} (hW : 7 ≤ W) (hk : k < 4) (ss : List Nat) (h : ∀ s ∈ ss, s / 16 ≤ 3) (hl : ss.length ≤ 25) : nK W k ss / (2 ^ (16 * W) - 1) = nK W (k + 1) ss ∧ nK W k ss % (2 ^ (16 * W) - 1) = rK W k ss := by
  have h1 := rK_lt (k := k) hW ss h hl
  have h2 := nK_step (W := W) hk ss h
  have h3 : 0 < 2 ^ (16 * W) - 1 := by omega
  rw [h2, Nat.add_mul_div_left _ _ h3, Nat.add_mul_mod_self_left, Nat.div_eq_of_lt h1, Nat.mod_eq_of_lt h1, Nat.zero_add]
  exact ⟨rfl, rfl⟩
end Mine
end

section -- Loop4
open PySem PySem.W PySem.Spec PySem.Calls PyProof.Rows
namespace Mine
section
variable {prog : Program} {w : World} {A : Around} {s : Shared} {env : Env} {h₀ : Heap}
/-- a loop over a range by ones, the name kept in a cell -/
theorem for_range_cell {E : Value → Shared → Prop} {Q : Flow → Shared → Prop} {x : Str} {px : Pos} {body : List Stmt} {r : Addr} {a b : Int} {t u v : Tok} {n : Nat} {m : Str → Option Value} {news : List (Addr × Obj)}
    (hh : A.handled = none)
    (F : Fr h₀ env.locals s.heap m) (N : News h₀ env.locals s.heap news) (hr : IsRange s.heap r a b 1 t u v) (hsm : Builtin.Range.small a b 1 = true) (hn : Builtin.Range.rangeSize a b 1 = ((n : Nat) : Int))
    (hE : PassesOwn (model prog w) A env E)
    (J : Nat → (Str → Option Value) → List (Addr × Obj) → Prop) (h0 : J 0 m news)
    (step : ∀ (I : Addr) i t m₁ news₁ h tk own, i < n → J i m₁ news₁ → (∀ p ∈ news₁, p.1 ≠ I) → (∃ io, own = [(I, io)] ∧ ∀ vs q t, io.data = .fields vs → vs[1]? = some (.str q t) → False) →
      Fr h₀ env.locals h m₁ → News h₀ env.locals h (own ++ news₁) →
      wpAny (model prog w) A (assign (.Name x px) env (.int (a + (i : Int)) t)) (fun _ s₂ => wpAny (model prog w) A (execs body env) (LoopStepU h₀ env.locals [I] own (J (i + 1)) { s with heap := h, toks := tk }) E s₂) E { s with heap := h, toks := tk })
    (hQ : ∀ h' tk m' news', Fr h₀ env.locals h' m' → News h₀ env.locals h' news' → J n m' news' → Q .next { s with heap := h', toks := tk }) :
    wpAny (model prog w) A (pyIter (.ref r)) (fun it s₂ => codeAny (model prog w) A (.forLoop (.Name x px) it body [] env) (fun r s' => match r with | .ok f => Q f s' | .error e => cameBackBy (model prog w) A env E e s') s₂) E s := by
  refine wpAny_pyIter_range hr hsm ?_
  have W := LCg.range_walks (prog := prog) (w := w) (I := s.heap.objs.size) hh a n
  have nope : h₀.get? s.heap.objs.size = none := by
    cases q : h₀.get? s.heap.objs.size with
    | none => rfl
    | some o => exact absurd (Heap.lt_size (F.keep _ _ q)) (Nat.lt_irrefl _)
  generalize hI : s.heap.objs.size = I at *
  have stepU : ∀ i v m₁ news₁ (s₁ : Shared) own, i < n → (∃ t, v = .int (a + (i : Int)) t) → (J i m₁ news₁ ∧ (∃ h tk, s₁ = { s with heap := h, toks := tk })) → (∀ p ∈ news₁, p.1 ≠ I) → (∃ io, own = [(I, io)] ∧ ∀ vs q t, io.data = .fields vs → vs[1]? = some (.str q t) → False) → Fr h₀ env.locals s₁.heap m₁ → News h₀ env.locals s₁.heap (own ++ news₁) →
      wpAny (model prog w) A (assign (.Name x px) env v) (fun _ s₂ => wpAny (model prog w) A (execs body env) (LoopStepU h₀ env.locals [I] own (J (i + 1)) s₁) (notedBy (model prog w) A env (cameBackBy (model prog w) A env E)) s₂) (notedBy (model prog w) A env (cameBackBy (model prog w) A env E)) s₁ := by
    rintro i v m₁ news₁ s₁ own hi ⟨t, rfl⟩ ⟨hJ, h, tk, rfl⟩ hnw hown F₁ N₁
    exact wpAny_mono (wpAny_passesOwn hE (step I i t m₁ news₁ h tk own hi hJ hnw hown F₁ N₁)) (fun _ s₂ h₂ => wpAny_passesOwn hE h₂) fun _ _ e => e
  refine codeAny_forLoop_any (fun k s' => ∃ h' tk m' news' i, s' = { s with heap := h', toks := tk } ∧ IsRangeIter h' I (a + (i : Nat) * 1) ((n : Int) - (i : Nat)) 1 ∧ Fr h₀ env.locals h' m' ∧ News h₀ env.locals h' news' ∧ (∀ p ∈ news', p.1 ≠ I) ∧ J i m' news' ∧ i ≤ n ∧ k = n + 1 - i) ?_ (n + 1)
    ⟨_, s.toks, m, news, 0, rfl, ?_, F.push _, (fun p hp => ⟨Heap.get?_push_of_some _ (N p hp).1, (N p hp).2⟩), ?_, h0, Nat.zero_le _, rfl⟩
  · rintro k s' ⟨h', tk, m', news', i, rfl, hst', F', N', hnw', hJ, hi, rfl⟩
    have hLI : env.locals ≠ I := by
      intro e
      have := F.ns.lt
      rw [e, hI] at this
      exact Nat.lt_irrefl _ this
    have old : ∀ b o, h₀.get? b = some o → b ≠ I := fun b o e q => by rw [q, nope] at e; cases e
    have next : ∀ h₁ : Heap, (∀ b o, b ∉ [I] → h'.get? b = some o → h₁.get? b = some o) → Fr h₀ env.locals h₁ m' ∧ News h₀ env.locals h₁ news' := fun h₁ hk₁ =>
      ⟨⟨F'.ns.at' fun o e => hk₁ _ o (by simpa using hLI) e, fun b o e => hk₁ b o (by simpa using old b o e) (F'.keep b o e), F'.above⟩, fun p hp => ⟨hk₁ _ _ (by simpa using hnw' p hp) (N' p hp).1, (N' p hp).2⟩⟩
    by_cases hlt : i < n
    · refine W.item i { s with heap := h', toks := tk } _ _ hlt hst' fun v h₁ tk₁ hP hst₁ hk₁ => ?_
      obtain ⟨F₁, N₁⟩ := next h₁ hk₁
      obtain ⟨io, st', hio⟩ : ∃ io : Obj, h₁.get? I = some io ∧ ∀ (vs : Array Value) q t, io.data = .fields vs → vs[1]? = some (.str q t) → False := ⟨_, hst₁, by rintro vs q t e e2; cases e; cases e2⟩
      refine wpAny_of_eq (by rfl : letOwnedTupleGo (.Name x px) (.ref I) v = pure ()) ?_
      refine wpAny_mono (stepU i v m' news' { s with heap := h₁, toks := tk₁ } [(I, io)] hlt hP ⟨hJ, h₁, tk₁, rfl⟩ hnw' ⟨io, rfl, hio⟩ F₁ (fun p hp => ?_)) (fun _ s₂ h₂ => wpAny_mono h₂ (fun f s₃ h₃ => ?_) fun _ _ e => e) fun _ _ e => e
      · rcases List.mem_append.mp hp with hp | hp
        · rw [List.mem_singleton.mp hp]; exact ⟨st', Ne.symm hLI, nope⟩
        · exact N₁ p hp
      · obtain ⟨rfl, h₃', tk₃, m₂, news₂, rfl, F₃, N₃, ha₃, hJ₃⟩ := h₃
        refine ⟨n + 1 - (i + 1), by omega, h₃', tk₃, m₂, news₂, i + 1, rfl, ?_, F₃, N₃.right, fun p hp q => ha₃ p hp (by rw [q]; exact .head _), hJ₃, hlt, rfl⟩
        have e := (N₃ _ (List.mem_append_left _ (.head _))).1
        have e2 : h₁.get? I = h₃'.get? I := st'.trans e.symm
        show h₃'.get? I = some _
        rw [← e2]; exact hst₁
    · have hin : i = n := by omega
      subst hin
      refine W.done { s with heap := h', toks := tk } _ _ hst' fun h₁ tk₁ hk₁ => wpAny_execs_nil ?_
      obtain ⟨F₁, N₁⟩ := next h₁ hk₁
      exact hQ h₁ tk₁ m' news' F₁ N₁ hJ
  · show IsRangeIter _ _ _ _ _
    rw [hn, ← hI]; simpa using Heap.get?_push_size _ rfl
  · intro p hp q
    have := Heap.lt_size (N p hp).1
    rw [q, hI] at this
    exact Nat.lt_irrefl _ this
end
end Mine
end

section -- Comp3
open PySem PySem.W PySem.Spec PySem.Calls PyProof.Rows
open LCg
namespace Mine
section
variable {prog : Program} {w : World} {A : Around} {E : Value → Shared → Prop} {s : Shared} {h₀ : Heap} {L : Addr} {m : Str → Option Value} {env : Env}
theorem pushed (h : Heap) (o : Obj) (ho : o.isFreed = false) : ∃ H, h.push o = H ∧ H.objs.size = h.objs.size + 1 ∧ H.get? h.objs.size = some o ∧ ∀ b o', h.get? b = some o' → H.get? b = some o' :=
  ⟨_, rfl, Heap.size_push h o, Heap.get?_push_size h ho, fun _ _ e => Heap.get?_push_of_some _ e⟩
/-- what an element's reckoning leaves -/
def NatEnd (s : Shared) (h₀ : Heap) (L : Addr) (m : Str → Option Value) (led : List (Addr × Obj)) (n : Nat) (y : Value) (s₂ : Shared) : Prop :=
  ∃ h' tk' t', y = .int (n : Int) t' ∧ s₂ = { s with heap := h', toks := tk' } ∧ Fr h₀ L h' m ∧ News h₀ L h' led
theorem NatEnd.intro {s : Shared} {led all : List (Addr × Obj)} {n : Nat} {v : Int} {t : Tok} {h' : Heap} {tk : Nat} (F : Fr h₀ L h' m) (N : News h₀ L h' all) (hs : ∀ p ∈ led, p ∈ all) (e : v = (n : Int)) : NatEnd s h₀ L m led n (.int v t) { s with heap := h', toks := tk } :=
  ⟨h', tk, t, by rw [e], rfl, F, fun p hp => N p (hs p hp)⟩
/-- what the source of a comprehension over a range is -/
def RngSrc (A : Around) (h₀ : Heap) (L : Addr) (m : Str → Option Value) (news : List (Addr × Obj)) (s : Shared) (xv : Value) (s₁ : Shared) : Prop :=
  ∃ r t u v, xv = .ref r ∧ A.handled = none ∧ Fr h₀ L s₁.heap m ∧ News h₀ L s₁.heap news ∧ IsRange s₁.heap r 0 16 1 t u v ∧ s₁ = { s with heap := s₁.heap, toks := s₁.toks }
theorem RngSrc.intro {news : List (Addr × Obj)} {r : Addr} {t u v : Tok} {h : Heap} {tk : Nat} (hh : A.handled = none) (F : Fr h₀ L h m) (N : News h₀ L h news) (hr : IsRange h r 0 16 1 t u v) : RngSrc A h₀ L m news s (.ref r) { s with heap := h, toks := tk } :=
  ⟨r, t, u, v, rfl, hh, F, N, hr, rfl⟩
theorem newEnv_cell {M : Model} {scope : Scope} {globals : Addr} {cl : List (Str × Addr)} {qual : Str} {Q : Env → Shared → Prop}
    (h : Q { scope, locals := s.heap.objs.size, globals, cells := cellsFrom (s.heap.objs.size + 1) scope.names cl, qual, func := none, code := env.code, frame := env.frame, builtins := env.builtins } { s with heap := pushCells (s.heap.push { cls := .type "dict", data := .dict #[] }) scope.names }) :
    wpAny M A (newFunctionEnv scope globals cl [] qual none .none (some env)) Q E s := by
  simp only [newFunctionEnv, Option.isSome_some, if_true]
  refine wpAny_bind (wpAny_alloc ?_)
  refine wpAny_bind (wpAny_layCells _ (fun name kind cells => by cases hkc : kind == NameKind.cell <;> simp [hkc]) _ _ _ _ ?_)
  rw [show ({ s with heap := s.heap.push { cls := .type "dict", data := .dict #[] } } : Shared).heap.objs.size = s.heap.objs.size + 1 from Heap.size_push ..]
  exact wpAny_bind (wpAny_pure (wpAny_pure h))
/-- a comprehension over a range whose name lies in a cell -/
theorem comp_cell {elt iter : PySem.Expr} {x : Str} {px : Pos} {scope : Scope} {cl : List (Str × Addr)} {pos : Pos} {Q : Value → Shared → Prop} {news : List (Addr × Obj)} (g : Nat → Nat)
    (F₀ : Fr h₀ L s.heap m) (N₀ : News h₀ L s.heap news) (hclos : closureFor scope env = pure cl) (hkind : scope.kind = .function) (hnames : ∀ y ∈ scope.names, y.2 = .local → scope.names.lookup y.1 = some .local)
    (hcells : ∀ k, cellsFrom k scope.names cl = (x, k) :: cl) (hpush : ∀ h, pushCells h scope.names = h.push { cls := .type "cell", data := .cell none }) (hx : (relabel scope env).names.lookup x = some .cell)
    (hiter : wpAny (model prog w) A (eval iter env) (RngSrc A h₀ L m news s) E s)
    (step : ∀ i (zs : List (Nat × Tok)) I oI C oC cc oc D t h tk (E' : Value → Shared → Prop), i < 16 → oc.data = .cell (some (.int (i : Int) t)) → Fr h₀ L h m → News h₀ L h ((cc, oc) :: (I, oI) :: (C, oC) :: (D, lst (zs.map fun z => Value.int (z.1 : Int) z.2)) :: news) →
      wpAny (model prog w) A (eval elt (compEnvC scope ((x, cc) :: cl) C env)) (NatEnd s h₀ L m ((cc, oc) :: (I, oI) :: (C, oC) :: (D, lst (zs.map fun z => Value.int (z.1 : Int) z.2)) :: news) (g i)) E' { s with heap := h, toks := tk })
    (fin : ∀ D h tk (zs : List (Nat × Tok)), Fr h₀ L h m → News h₀ L h ((D, lst (zs.map fun z => Value.int (z.1 : Int) z.2)) :: news) → (∀ p ∈ news, p.1 < D) → zs.map (·.1) = (List.range 16).map g → Q (.ref D) { s with heap := h, toks := tk })
    (hs : ∀ x, foldedSetIterable iter env x = pure x := by intro _; rfl) :
    wpAny (model prog w) A (eval (.ListComp elt [⟨.Name x px, iter, [], 0⟩] scope pos) env) Q E s := by
  rw [eval_ListComp]
  refine wpAny_comprehension_free (use := none) rfl hs hclos hkind hnames (wpAny_mono hiter (fun xv s₁ h₁ => ?_) fun _ _ e => e)
  obtain ⟨r, t, u, v, rfl, hh, F, N, hr, he⟩ := h₁
  generalize s₁.heap = hb at *
  generalize s₁.toks = tb at *
  subst he
  refine wpAny_pyIter_range hr (by decide) ?_
  refine wpAny_newObj_type (newEnv_cell ?_)
  rw [hpush, hcells]
  dsimp only
  obtain ⟨H1, hH1e, hH1s, hH1g, hH1k⟩ := pushed hb { cls := .type "range_iterator", data := .fields #[rawInt 0, rawInt (Builtin.Range.rangeSize 0 16 1), rawInt 1] } rfl
  obtain ⟨H2, hH2e, hH2s, hH2g, hH2k⟩ := pushed H1 { cls := .type "list", dict := none, data := .seq ([] : List Value).toArray } rfl
  obtain ⟨H3, hH3e, hH3s, hH3g, hH3k⟩ := pushed H2 { cls := .type "dict", data := .dict #[] } rfl
  obtain ⟨H4, hH4e, hH4s, hH4g, hH4k⟩ := pushed H3 { cls := .type "cell", data := .cell none } rfl
  have hH3n : H3.Ns H2.objs.size fun _ => none := hH3e ▸ Heap.Ns.new H2 (.type "dict")
  rw [hH1e, hH2e, hH3e, hH4e, ← hH3s]
  generalize hSe : hb.objs.size = S at *
  generalize hDe : H1.objs.size = D at *
  generalize hCe : H2.objs.size = C at *
  generalize hce : H3.objs.size = cc at *
  have oldS : ∀ b o, hb.get? b = some o → b < S := fun b o e => hSe ▸ Heap.lt_size e
  have K0 : ∀ b o, hb.get? b = some o → H4.get? b = some o := fun b o e => hH4k _ _ (hH3k _ _ (hH2k _ _ (hH1k _ _ e)))
  have hSD : S < D := by rw [hH1s]; exact Nat.lt_succ_self _
  have hDC : D < C := by rw [hH2s]; exact Nat.lt_succ_self _
  have hCc : C < cc := by rw [hH3s]; exact Nat.lt_succ_self _
  have hL : L < S := hSe ▸ F.ns.lt
  have fresh : ∀ a, S ≤ a → h₀.get? a = none := fun a ha => by
    cases e : h₀.get? a with
    | none => rfl
    | some o' => exact absurd (oldS a o' (F.keep a o' e)) (Nat.not_lt.mpr ha)
  have W := range_walks (prog := prog) (w := w) (I := S) hh 0 16
  have hI0 : IsRangeIter H4 S (0 + ((0 : Nat) : Int) * 1) (((16 : Nat) : Int) - ((0 : Nat) : Int)) 1 := by
    show H4.get? S = some _
    rw [hH4k _ _ (hH3k _ _ (hH2k _ _ hH1g))]
    rfl
  have hD0 : H4.get? D = some (lst []) := hH4k _ _ (hH3k _ _ hH2g)
  have hC0 : H4.Ns C fun _ => none := hH3n.at' fun o e => hH4k _ _ e
  have hc0 : H4.IsCell cc none := ⟨_, hH4g, rfl⟩
  have kk : (compEnvC scope ((x, cc) :: cl) C env).scope.kind = .function := hkind
  have lt3 : ∀ b, b < S → b ≠ S ∧ b ≠ D ∧ b ≠ C ∧ b ≠ cc := fun b hb => ⟨Nat.ne_of_lt hb, Nat.ne_of_lt (Nat.lt_trans hb hSD), Nat.ne_of_lt (Nat.lt_trans hb (Nat.lt_trans hSD hDC)), Nat.ne_of_lt (Nat.lt_trans hb (Nat.lt_trans hSD (Nat.lt_trans hDC hCc)))⟩
  have loop : ∀ tk0, codeAny (model prog w) A (.compLoop (.ListComp elt [⟨.Name x px, iter, [], 0⟩] scope pos) 0 (.ref S) (.ref D) (compEnvC scope ((x, cc) :: cl) C env)) (compPost (model prog w) A E none Q (.ref D) C) { s with heap := H4, toks := tk0 } := by
    intro tk0
    refine codeAny_compLoop_tests (fun k s' => ∃ h' tk' i zs v0 m', s' = { s with heap := h', toks := tk' } ∧ i ≤ 16 ∧ k = 16 + 1 - i ∧ Fr h₀ L h' m ∧ News h₀ L h' news ∧ IsRangeIter h' S (0 + (i : Nat) * 1) (((16 : Nat) : Int) - (i : Nat)) 1 ∧ h'.Ns C m' ∧ h'.IsCell cc v0 ∧ h'.get? D = some (lst ((zs : List (Nat × Tok)).map fun z => Value.int (z.1 : Int) z.2)) ∧ zs.length = i ∧ zs.map (·.1) = (List.range i).map g) ?_ (16 + 1)
      ⟨H4, tk0, 0, [], none, _, rfl, Nat.zero_le _, rfl, F.keeps K0, N.grown K0, hI0, hC0, hc0, hD0, rfl, rfl⟩
    rintro k s' ⟨h', tk', i, zs, v0, m', rfl, hi, rfl, F', N', hst, hC', hc', hD', hzl, hz⟩
    by_cases hlt : i < 16
    · refine W.item i { s with heap := h', toks := tk' } _ _ hlt hst fun v h₁ tk₁ hP hst₁ hk₁ => ?_
      obtain ⟨ti, rfl⟩ := hP
      rw [Int.zero_add]
      have kS : ∀ q o, q ≠ S → h'.get? q = some o → h₁.get? q = some o := fun q o hq e => hk₁ q o (by simpa using hq) e
      have hc1 : h₁.IsCell cc v0 := by obtain ⟨o, e, r⟩ := hc'; exact ⟨o, kS _ _ (Nat.ne_of_gt (Nat.lt_trans hSD (Nat.lt_trans hDC hCc))) e, r⟩
      refine wpAny_assign_Name (wpAny_storeName_cell kk hx (by simp [compEnvC]) hc1 fun h₂ hc₂ hs₂ => ?_)
      refine wpAny_tests_nil ?_
      rw [if_pos rfl]
      obtain ⟨oc, hoc, hocd⟩ := hc₂
      obtain ⟨oI, hoI⟩ : ∃ oI, h₁.get? S = some oI := ⟨_, hst₁⟩
      have kc : ∀ q o, q ≠ S → q ≠ cc → h'.get? q = some o → h₂.get? q = some o := fun q o h1 h2 e => (hs₂.2 q h2).trans (kS q o h1 e)
      obtain ⟨oC, hoC, nsC⟩ := ns_obj hC'
      have F2 : Fr h₀ L h₂ m := ⟨F'.ns.at' fun o e => kc _ o (lt3 L hL).1 (lt3 L hL).2.2.2 e, fun b o e => kc _ o (fun q => by rw [q, fresh S (Nat.le_refl _)] at e; cases e) (fun q => by rw [q, fresh cc (Nat.le_of_lt (Nat.lt_trans hSD (Nat.lt_trans hDC hCc)))] at e; cases e) (F'.keep b o e), F'.above⟩
      have N2 : News h₀ L h₂ ((cc, oc) :: (S, oI) :: (C, oC) :: (D, lst (zs.map fun z => Value.int (z.1 : Int) z.2)) :: news) := by
        intro p hp
        rcases List.mem_cons.mp hp with rfl | hp
        · exact ⟨hoc, Nat.ne_of_gt (Nat.lt_trans hL (Nat.lt_trans hSD (Nat.lt_trans hDC hCc))), fresh _ (Nat.le_of_lt (Nat.lt_trans hSD (Nat.lt_trans hDC hCc)))⟩
        rcases List.mem_cons.mp hp with rfl | hp
        · exact ⟨(hs₂.2 S (Nat.ne_of_lt (Nat.lt_trans hSD (Nat.lt_trans hDC hCc)))).trans hoI, Nat.ne_of_gt hL, fresh _ (Nat.le_refl _)⟩
        rcases List.mem_cons.mp hp with rfl | hp
        · exact ⟨kc _ _ (Nat.ne_of_gt (Nat.lt_trans hSD hDC)) (Nat.ne_of_lt hCc) hoC, Nat.ne_of_gt (Nat.lt_trans hL (Nat.lt_trans hSD hDC)), fresh _ (Nat.le_of_lt (Nat.lt_trans hSD hDC))⟩
        rcases List.mem_cons.mp hp with rfl | hp
        · exact ⟨kc _ _ (Nat.ne_of_gt hSD) (Nat.ne_of_lt (Nat.lt_trans hDC hCc)) hD', Nat.ne_of_gt (Nat.lt_trans hL hSD), fresh _ (Nat.le_of_lt hSD)⟩
        · have hl := oldS _ _ (N p hp).1
          exact ⟨kc _ _ (lt3 _ hl).1 (lt3 _ hl).2.2.2 (N' p hp).1, (N' p hp).2⟩
      refine wpAny_mono (step i zs S oI C oC cc oc D ti h₂ _ _ hlt hocd F2 N2) (fun y s₃ h₃ => ?_) fun _ _ e => e
      obtain ⟨h4, tk4, t4, rfl, rfl, F4, N4⟩ := h₃
      have zc := (N4 _ (.head _)).1
      have zS := (N4 _ (.tail _ (.head _))).1
      have zC := (N4 _ (.tail _ (.tail _ (.head _)))).1
      have zD := (N4 _ (.tail _ (.tail _ (.tail _ (.head _))))).1
      refine append_at (hsz := by show (zs.map fun z => Value.int (z.1 : Int) z.2).toArray.size ≤ sizeLine; rw [List.size_toArray, List.length_map, hzl]; exact Nat.le_trans (show i ≤ 16 by omega) (by decide)) zD fun h5 hs5 hD5 => ?_
      refine ⟨16 + 1 - (i + 1), by omega, h5, tk4, i + 1, zs ++ [(g i, t4)], some (.int (i : Int) ti), _, rfl, hlt, rfl, F4.change hs5 (Nat.ne_of_gt (Nat.lt_trans hL hSD)) (fresh _ (Nat.le_of_lt hSD)), ?_, ?_, (nsC.ns zC).sameBut hs5 (Nat.ne_of_gt hDC), ?_, ?_, ?_, ?_⟩
      · intro p hp
        have hl := oldS _ _ (N p hp).1
        have z := N4 p (.tail _ (.tail _ (.tail _ (.tail _ hp))))
        exact ⟨(hs5.2 _ (lt3 _ hl).2.1).trans z.1, z.2⟩
      · show h5.get? S = some _
        rw [hs5.2 S (Nat.ne_of_lt hSD), zS, ← hoI]
        exact hst₁
      · exact ⟨oc, (hs5.2 _ (Nat.ne_of_gt (Nat.lt_trans hDC hCc))).trans zc, hocd⟩
      · rw [hD5, List.map_append]
        have := lst_snoc (zs.map fun z => Value.int (z.1 : Int) z.2) (.int ((g i : Nat) : Int) t4)
        exact congrArg some this
      · rw [List.length_append, hzl]; rfl
      · rw [List.map_append, hz, List.range_succ, List.map_append]; rfl
    · have hin : i = 16 := by omega
      subst hin
      refine W.done { s with heap := h', toks := tk' } _ _ hst fun h₁ tk₁ hk₁ => ?_
      have kS : ∀ q o, q ≠ S → h'.get? q = some o → h₁.get? q = some o := fun q o hq e => hk₁ q o (by simpa using hq) e
      refine ⟨m', hC'.at' fun o e => kS _ o (Nat.ne_of_gt (Nat.lt_trans hSD hDC)) e, fun h₃ hs₃ => ?_⟩
      have k3 : ∀ q o, q ≠ S → q ≠ C → h'.get? q = some o → h₃.get? q = some o := fun q o h1 h2 e => (hs₃.2 q h2).trans (kS q o h1 e)
      refine fin D h₃ tk₁ zs ⟨F'.ns.at' fun o e => k3 _ o (lt3 L hL).1 (lt3 L hL).2.2.1 e, fun b o e => k3 _ o (fun q => by rw [q, fresh S (Nat.le_refl _)] at e; cases e) (fun q => by rw [q, fresh C (Nat.le_of_lt (Nat.lt_trans hSD hDC))] at e; cases e) (F'.keep b o e), F'.above⟩ (fun p hp => ?_) (fun p hp => Nat.lt_trans (oldS _ _ (N p hp).1) hSD) hz
      rcases List.mem_cons.mp hp with rfl | hp
      · exact ⟨k3 _ _ (Nat.ne_of_gt hSD) (Nat.ne_of_lt hDC) hD', Nat.ne_of_gt (Nat.lt_trans hL hSD), fresh _ (Nat.le_of_lt hSD)⟩
      · have hl := oldS _ _ (N p hp).1
        exact ⟨k3 _ _ (lt3 _ hl).1 (lt3 _ hl).2.2.1 (N' p hp).1, (N' p hp).2⟩
  exact codeAny_compStart_list (loop _) (W.self 0 { s with heap := H4, toks := tb } _ _ hI0 (loop _))
/-- a comprehension with a test over a list of ints -/
theorem compt_nat {ct elt : PySem.Expr} {x : Str} {scope : Scope} {cl : List (Str × Addr)} {S : List (Addr × Obj) → Prop} {Fin : List Value → List (Addr × Obj) → Prop} {news : List (Addr × Obj)} {zs : List (Nat × Tok)} (p : Nat → Bool) (g : Nat → Nat) (hS : S news)
    (htest : ∀ (z : Nat) tz I oI C oC D (ys : List Value) m₂ h tk (E' : Value → Shared → Prop), z ∈ zs.map (·.1) → NsObj oC m₂ → m₂ x = some (.int (z : Int) tz) → Fr h₀ L h m → News h₀ L h ((I, oI) :: (C, oC) :: (D, lst ys) :: news) →
      wpAny (model prog w) A (isTrue ct (compEnvC scope cl C env) (eval ct (compEnvC scope cl C env))) (fun ok s' => ok = p z ∧ ∃ tk', s' = { s with heap := h, toks := tk' }) E' { s with heap := h, toks := tk })
    (helt : ∀ (z : Nat) tz I oI C oC D (ys : List Value) m₂ h tk (E' : Value → Shared → Prop), z ∈ zs.map (·.1) → p z = true → NsObj oC m₂ → m₂ x = some (.int (z : Int) tz) → Fr h₀ L h m → News h₀ L h ((I, oI) :: (C, oC) :: (D, lst ys) :: news) →
      wpAny (model prog w) A (eval elt (compEnvC scope cl C env)) (NatEnd s h₀ L m ((I, oI) :: (C, oC) :: (D, lst ys) :: news) (g z)) E' { s with heap := h, toks := tk })
    (fin : ∀ ws : List (Nat × Tok), ws.map (·.1) = ((zs.map (·.1)).filter p).map g → Fin (ws.map fun z => Value.int (z.1 : Int) z.2) news) :
    LCt.CompRestT prog w A h₀ L m env ct elt x scope cl s S (fun i v => (zs.map fun z => Value.int (z.1 : Int) z.2).toArray[i]? = some v) Fin zs.length 0 [] news := by
  have key : ∀ k i (ws : List (Nat × Tok)), k + i = zs.length → ws.map (·.1) = (((zs.map (·.1)).take i).filter p).map g →
      LCt.CompRestT prog w A h₀ L m env ct elt x scope cl s S (fun i v => (zs.map fun z => Value.int (z.1 : Int) z.2).toArray[i]? = some v) Fin k i (ws.map fun z => Value.int (z.1 : Int) z.2) news := by
    intro k
    induction k with
    | zero =>
      intro i ws e hw
      refine LCt.CompRestT.zero (fin ws ?_)
      rw [hw, List.take_of_length_le (by rw [List.length_map]; omega)]
    | succ k ih =>
      intro i ws e hw
      refine LCt.CompRestT.succ ?_
      intro v I oI C oC D m₂ h tk E' hP hC hx F N off ne
      rw [List.getElem?_toArray, List.getElem?_map] at hP
      obtain ⟨⟨z, tz⟩, hz, rfl⟩ := Option.map_eq_some_iff.mp hP
      have hzt : ((zs.map (·.1)).take (i + 1)) = (zs.map (·.1)).take i ++ [z] := by
        rw [List.take_add_one, List.getElem?_map, hz]; rfl
      have hzm : z ∈ zs.map (·.1) := List.mem_map.mpr ⟨_, List.mem_of_getElem? hz, rfl⟩
      refine wpAny_mono (htest z tz I oI C oC D _ m₂ h tk E' hzm hC hx F N) (fun ok s' h' => ?_) fun _ _ e => e
      obtain ⟨rfl, tk', rfl⟩ := h'
      by_cases hp : p z = true
      · rw [if_pos hp]
        refine wpAny_mono (helt z tz I oI C oC D _ m₂ h tk' E' hzm hp hC hx F N) (fun y s' h' => ?_) fun _ _ e => e
        obtain ⟨h2, tk2, t2, rfl, rfl, F2, N2⟩ := h'
        refine ⟨h2, tk2, news, rfl, F2, N2, off, hS, ?_⟩
        have := ih (i + 1) (ws ++ [(g z, t2)]) (by omega) (by rw [List.map_append, hw, hzt, List.filter_append, List.map_append]; simp [hp])
        rw [List.map_append] at this
        exact this
      · rw [if_neg hp]
        exact ⟨h, tk', news, rfl, F, N, off, hS, ih (i + 1) ws (by omega) (by rw [hw, hzt, List.filter_append, List.map_append]; simp [hp])⟩
  exact key zs.length 0 [] rfl rfl
end
end Mine
end

section -- La
open PySem PySem.W PySem.Spec PySem.Calls PyProof.Rows
namespace Mine
theorem kn_postB {M : Model} {A : Around} {cd : Code} {s s₁ : Shared} {cw : ClaimW} {cl : Str → Option Addr} {mean : ExcName → Option Value} {args : List WData} {tabs : List (Addr × Addr)} (hT : TabsAt tabs s₁.heap)
    (h : codeAny M A cd (fun r s' => (∃ v d, r = .ok (.ret v) ∧ (∀ cls, cw.raises args cls = false) ∧ ReadsW cw.records cl s'.heap v d [] ∧ cw.post args d args = true) ∧ (∀ b o, (ghostOf s₁.heap tabs).get? b = some o → s'.heap.get? b = some o) ∧ s'.os = s₁.os ∧ AllBare s'.gens ∧ GrownAll tabs s'.heap) s) : codeAny M A cd (GoodWG cw cl mean args s₁) s :=
  codeAny_mono h fun r s' ⟨⟨v, d, e1, e2, e3, e4⟩, hk, hos, hg, hgr⟩ => by
    refine ⟨.inl ⟨v, d, [], e1, e2, e3, e4, fun _ => ⟨.nil, fun _ ha => nomatch ha⟩⟩, ⟨fun b o e => ?_, fun b o e => ?_⟩, hos, hg⟩
    all_goals by_cases hb : b ∈ tabs.map (·.2)
    all_goals first | (obtain ⟨q, hq, rfl⟩ := List.mem_map.mp hb; have e2 := (hT q hq).2; have e3 := Option.some.inj (e.symm.trans e2); subst e3; obtain ⟨ps, hP⟩ := hgr.get q hq) | have hP := hk b o (ghost_ne e hb)
    · exact .inr (.inl ⟨((hT q hq).1.tab e2).isCodeTable, rfl, #[], ps, rfl, by rw [Array.empty_append]; exact hP⟩)
    · exact .inl hP
    · exact ⟨_, hP⟩
    · exact ⟨_, hP⟩
def LawEnd (g₀ : Heap) (os : OsState) (f : Flow) (s' : Shared) : Prop := f = .ret (.bool true) ∧ (∀ b o, g₀.get? b = some o → s'.heap.get? b = some o) ∧ s'.os = os ∧ AllBare s'.gens ∧ GrownAll [(76, 72), (41, 37), (34, 30)] s'.heap

end Mine
end

section -- Lb
open PySem PySem.W PySem.Spec PySem.Calls PyProof.Rows
namespace Mine
theorem ints_xs {vs : List Value} {ns : List Int} (h : IntsAre vs ns) : ∃ xs : List (Int × Tok), vs = intsV xs ∧ xs.map (·.1) = ns := by
  induction h with
  | nil => exact ⟨[], rfl, rfl⟩
  | cons n t _ ih => obtain ⟨xs, rfl, rfl⟩ := ih; exact ⟨(n, t) :: xs, rfl, rfl⟩
theorem slice_len3 (vs : List Value) {a : Int} (ha : a = 0 ∨ a = 1) : (slicePick vs.toArray (some a) (some 6) (some 2)).toList.length ≤ 3 := by
  unfold slicePick
  refine Nat.le_trans (List.length_filterMap_le _ _) ?_
  unfold sliceRange sliceBounds
  rw [List.length_map, List.length_range]
  dsimp only [Option.getD]
  generalize vs.toArray.size = n
  rcases ha with rfl | rfl
  all_goals simp only [show (2 : Int) > 0 by decide, if_true]
  all_goals split
  all_goals omega
section
variable {prog : Program} {w : World} {A : Around} {E : Value → Shared → Prop} {s : Shared} {h₀ : Heap} {L l : Addr} {m : Str → Option Value} {news : List (Addr × Obj)}
theorem slice_law {value slice : PySem.Expr} {vs : List Value} {ns : List Int} {a : Int} {ta tb tc : Tok} {ops : List Value} {Q : Value → Shared → Prop} (ha : a = 0 ∨ a = 1) (F : Fr h₀ L s.heap m) (N : News h₀ L s.heap news) (hl : s.heap.IsList l vs.toArray) (hi : IntsAre vs ns) (hn : ¬ ((63 : Nat) : Int) < ((ns.length : Nat) : Int))
    (h : ∀ D h' xs, xs.length ≤ 3 → Fr h₀ L h' m → News h₀ L h' ((D, listOf (intsV xs).toArray 0) :: news) → (∀ p ∈ news, p.1 < D) → Q (.ref D) { s with heap := h' })
    (hs : subscripted slice false (.ref l) (.ref s.heap.objs.size) = operate ops (getItem (.ref l) (.ref s.heap.objs.size))) (ht : ∀ r, letTemporaryGo value (.ref l) r = pure ()) :
    wpAny (model prog w) A (subscriptTail value slice (.ref l) (.ref s.heap.objs.size)) Q E { s with heap := s.heap.push { cls := .type "slice", data := .fields #[.int a ta, .int 6 tb, .int 2 tc] } } := by
  refine kmk_slice3_lit F N hl (.int _ _) (.int _ _) (.int _ _) (by decide) rfl ?_ hs ht ?_
  · intro D h' F' N' lt
    obtain ⟨xs, e, _⟩ := ints_xs (hi.pick (some a) (some 6) (some 2))
    rw [e] at N'
    refine h D h' xs ?_ F' N' lt
    have := slice_len3 vs ha
    rw [e, List.length_map] at this
    exact this
  · rw [List.size_toArray, hi.length]; exact Nat.le_trans (show ns.length ≤ 63 by omega) (by decide)
theorem add_law {l b : Addr} {xs ys : List (Int × Tok)} {n1 n2 : Nat} {Q : Value → Shared → Prop} (F : Fr h₀ L s.heap m) (N : News h₀ L s.heap news) (hl : (l, listOf (intsV xs).toArray n1) ∈ news) (hb : (b, listOf (intsV ys).toArray n2) ∈ news) (hx : xs.length ≤ 10) (hy : ys.length ≤ 10)
    (h : ∀ D h', Fr h₀ L h' m → News h₀ L h' ((D, listOf (intsV (xs ++ ys)).toArray 0) :: news) → (∀ p ∈ news, p.1 < D) → Q (.ref D) { s with heap := h' }) : wpAny (model prog w) A (binaryOp .Add (.ref l) (.ref b)) Q E s := by
  refine add_lists F N ⟨_, (N _ hl).1, rfl, _, rfl⟩ ⟨_, (N _ hb).1, rfl, _, rfl⟩ (fun h' F' N' => ?_) ?_
  · rw [← List.map_append] at N'
    exact h _ h' F' N' fun p hp => Heap.lt_size (N p hp).1
  · rw [List.length_map, List.length_map]; exact Nat.le_trans (show xs.length + ys.length ≤ 20 by omega) (by decide)
end

end Mine
end

section -- Lc
open PySem PySem.W PySem.Spec PySem.Calls PyProof.Rows
namespace Mine
theorem off_tail {P : Addr × Obj → Prop} {a b c : Addr × Obj} {l : List (Addr × Obj)} (h : ∀ p ∈ a :: b :: c :: l, P p) : ∀ p ∈ l, P p := fun p hp => h p (.tail _ (.tail _ (.tail _ hp)))

end Mine
end

section -- Ld
open PySem PySem.W PySem.Spec PySem.Calls PyProof.Rows
namespace Mine

end Mine
end

section -- Le
open PySem PySem.W PySem.Spec PySem.Calls PyProof.Rows
namespace Mine

end Mine
end

section -- Lf
open PySem PySem.W PySem.Spec PySem.Calls PyProof.Rows
namespace Mine
theorem natsV_ints : ∀ (zs : List (Nat × Tok)), IntsAre (natsV zs) (zs.map fun z => (z.1 : Int))
  | [] => .nil
  | z :: zs => .cons _ _ (natsV_ints zs)
theorem fmod16z (z : Nat) : Int.fmod (z : Int) 16 = ((z % 16 : Nat) : Int) := by
  rw [Int.fmod_eq_emod_of_nonneg _ (by decide)]; rfl
theorem any_mem (cs : List (Nat × Tok)) (k : Nat) : ((cs.map fun z => (z.1 : Int)).any (· == (k : Int))) = decide (k ∈ cs.map (·.1)) := by
  induction cs with
  | nil => rfl
  | cons c cs ih =>
    rw [List.map_cons, List.any_cons, ih, List.map_cons]
    by_cases h : c.1 = k
    · simp [h]
    · have h1 : ((c.1 : Int) == (k : Int)) = false := by simp; omega
      rw [h1, Bool.false_or]
      have h2 : (k ∈ c.1 :: cs.map (·.1)) ↔ k ∈ cs.map (·.1) := by rw [List.mem_cons]; exact ⟨fun x => x.resolve_left (fun e => h e.symm), .inr⟩
      rw [decide_eq_decide.mpr h2]
theorem came_step (ss : List Nat) {i z : Nat} (h : ss[i]? = some z) : cameOf (ss.take (i + 1)) = if z % 16 ∈ cameOf (ss.take i) then cameOf (ss.take i) else cameOf (ss.take i) ++ [z % 16] := by
  unfold cameOf
  rw [List.take_add_one, h, List.foldl_append]; rfl

end Mine
end

section -- Lg
open PySem PySem.W PySem.Spec PySem.Calls PyProof.Rows
namespace Mine

end Mine
end

section -- Li
open PySem PySem.W PySem.Spec PySem.Calls PyProof.Rows
namespace Mine

end Mine
end

section -- Lj
open PySem PySem.W PySem.Spec PySem.Calls PyProof.Rows
namespace Mine
theorem getD_ck {i t : Nat} (hi : i < 4) (ht : t ≤ 3) : List.getD [1, (t : Int), pk2 (t : Int), pk3 (t : Int)] (Int.toNat (i : Int)) 0 = ((Mine.ck i t : Nat) : Int) := by
  rw [Int.toNat_natCast, ← comp_row i t ht]
  have : i = 0 ∨ i = 1 ∨ i = 2 ∨ i = 3 := by omega
  rcases this with rfl | rfl | rfl | rfl <;> rfl
theorem fmod_eq16 (z j : Nat) : (Int.fmod (z : Int) 16 == (j : Int)) = (z % 16 == j) := by
  rw [Int.fmod_eq_emod_of_nonneg _ (by decide)]
  have e : (z : Int) % 16 = ((z % 16 : Nat) : Int) := rfl
  rw [e]
  by_cases h : z % 16 = j
  · simp [h]
  · have h' : ¬ ((z % 16 : Nat) : Int) = (j : Int) := by omega
    rw [beq_eq_false_iff_ne.mpr h', beq_eq_false_iff_ne.mpr h]
theorem sum_cast : ∀ ws : List (Nat × Tok), (ws.map fun z => (z.1 : Int)).sum = (((ws.map (·.1)).sum : Nat) : Int)
  | [] => rfl
  | w :: ws => by rw [List.map_cons, List.map_cons, List.sum_cons, List.sum_cons, sum_cast ws, Int.natCast_add]

end Mine
end

section -- Lk
open PySem PySem.W PySem.Spec PySem.Calls PyProof.Rows
namespace Mine
theorem dict_item {prog : Program} {w : World} {A : Around} {E : Value → Shared → Prop} {s : Shared} {d : Addr} {od : Obj} {kvs : List (Int × Value)} {k : Int} {t : Tok} {v : Value} {value slice : PySem.Expr} {Q : Value → Shared → Prop}
    (hd : s.heap.get? d = some od) (ho : od.IsDictOf (intKind prog w) kvs) (hv : valueAt kvs k = some v) (h : Q v { s with toks := s.toks + 1 })
    (hs : subscripted slice false (.ref d) (.int k t) = operate [.ref d, .int k t] (getItem (.ref d) (.int k t)) := by with_unfolding_all rfl) :
    wpAny (model prog w) A (subscriptTail value slice (.ref d) (.int k t)) Q E s := by
  have hm : s.heap.DictOf (intKind prog w) d kvs := Heap.dictOf_iff.mpr ⟨od, hd, ho⟩
  exact tail_any hm.typeIs slot_dict_getitem.lookup (wpAny_getItem_of (intKind_is prog w k t) hm.mapOf hv h) hs
theorem EntRel.val {l : List (Addr × Obj)} {k : Int} {r : Row} : ∀ {kvs : List (Int × Value)} {E : List Ent}, EntRel l kvs E → valE E k = some r → ∃ q t, valueAt kvs k = some (.ref q) ∧ (q, tupR r t) ∈ l
  | [], [], _, h => by cases h
  | kv :: kvs, e :: E, ⟨h1, ⟨q, t, h2, h3⟩, h4⟩, h => by
    unfold valE at h
    by_cases hk : e.1 = k
    · rw [if_pos hk] at h
      obtain rfl := Option.some.inj h
      exact ⟨q, t, by simp [valueAt, h1.trans hk, h2], h3⟩
    · rw [if_neg hk] at h
      obtain ⟨q', t', a, b⟩ := h4.val h
      have hkv : ¬ kv.1 = k := fun x => hk (h1.symm.trans x)
      refine ⟨q', t', ?_, b⟩
      have : valueAt (kv :: kvs) k = valueAt kvs k := by simp [valueAt, hkv]
      rw [this, a]
theorem snoc_nat (ws : List (Nat × Tok)) (n : Nat) (t : Tok) : natsV ws ++ [.int (n : Int) t] = natsV (ws ++ [(n, t)]) := by
  show List.map _ _ ++ _ = List.map _ _
  rw [List.map_append]; rfl
theorem tup_at {i : Nat} (hi : i < 4) (r : Row) (a b c d : Tok) (v : Value) : ∃ t, [Value.int r.1 a, .int r.2.1 b, .int r.2.2.1 c, .int r.2.2.2 d, v][i]? = some (.int (comp i r) t) := by
  have : i = 0 ∨ i = 1 ∨ i = 2 ∨ i = 3 := by omega
  rcases this with rfl | rfl | rfl | rfl <;> exact ⟨_, rfl⟩
theorem seq_at {i : Nat} (hi : i < 4) : seqIndex? (i : Int) 5 = some i := by
  have : i = 0 ∨ i = 1 ∨ i = 2 ∨ i = 3 := by omega
  rcases this with rfl | rfl | rfl | rfl <;> rfl
theorem sum_cast' : ∀ ws : List (Nat × Tok), (ws.map fun z => (z.1 : Int)).sum = (((ws.map (·.1)).sum : Nat) : Int)
  | [] => rfl
  | w :: ws => by rw [List.map_cons, List.map_cons, List.sum_cons, List.sum_cons, sum_cast' ws, Int.natCast_add]
theorem getD_comp {i : Nat} (hi : i < 4) (r : Row) : List.getD [r.1, r.2.1, r.2.2.1, r.2.2.2] (Int.toNat (i : Int)) 0 = comp i r := by
  rw [Int.toNat_natCast]
  have : i = 0 ∨ i = 1 ∨ i = 2 ∨ i = 3 := by omega
  rcases this with rfl | rfl | rfl | rfl <;> rfl

end Mine
end

section -- Lm
open PySem PySem.W PySem.Spec PySem.Calls PyProof.Rows
namespace Mine

end Mine
end

section
open PySem PySem.W PySem.Spec PySem.Calls PyProof.Rows
namespace Mine
structure Wrap (P : Prop) : Prop where
  out : P
section -- walk La

noncomputable def pLa : {P : Prop // Wrap P → Challenge.rw_ph0127_01.Holds} := by
  refine ⟨?P, ?walk⟩
  case walk =>
    intro hole
    refine hd ?_
    k_fill
    intro w s₀ s₁ mg mb G Y fa o pm cd doc dV kV ho hd hcd hD hmg hg args vals as hpre hlay hrd hwl hlo
    have KX := km_in_of Y
    km_tabs Y
    have X := (Ground.X G).1
    have V := (Ground.X G).2
    refine Ground.open G ?_
    intro T B D TE TW
    try (refine guard_noD D (by decide +kernel) ?_; clear D)
    have hT9 : TabsAt ([(76, 72), (41, 37), (34, 30)] : List (Addr × Addr)) _ := List.forall_mem_cons.mpr ⟨⟨codeHd_of_K (c := 76) (P := 72) KX (by kernel_rfl), hT8 72 (.head _)⟩, List.forall_mem_cons.mpr ⟨⟨codeHd_of_K (c := 41) (P := 37) KX (by kernel_rfl), hT8 37 (.tail _ (.head _))⟩, List.forall_mem_cons.mpr ⟨⟨codeHd_of_K (c := 34) (P := 30) KX (by kernel_rfl), hT8 30 (.tail _ (.tail _ (.head _)))⟩, List.forall_mem_nil _⟩⟩⟩
    clear hmg
    wrow_args hpre hlay hrd hwl hlo
    all_goals (
      first | refine callC_kw (enter_call ?_) | refine enter_call ?_
      w_top on
      refine kn_postB hT9 ?_
      w_call any ho hd hcd hD T F
      clear hd
      kn_ghosts F T
      k_drop
      skip)
    all_goals try k_fold
    have hC30 : CodeHd (ghostOf s₁.heap [(76, 72), (41, 37), (34, 30)]) 34 30 := by assumption
    have hC37 : CodeHd (ghostOf s₁.heap [(76, 72), (41, 37), (34, 30)]) 41 37 := by assumption
    have hC72 : CodeHd (ghostOf s₁.heap [(76, 72), (41, 37), (34, 30)]) 76 72 := by assumption
    rename Heap.IsList (ghostOf _ _) _ _ => hScr
    rename IntsAre _ _ => hInts
    rename ¬ (_ < _) => hlen63
    clear hT8 V TE TW
    generalize hgh : ghostOf s₁.heap [(76, 72), (41, 37), (34, 30)] = g₀ at *
    generalize hLL : s₁.heap.objs.size = L at *
    refine wpAny_mono (Q := LawEnd g₀ s₁.os) (E := fun _ _ => False) ?_ ?_ (fun _ _ h => h.elim)
    case refine_2 =>
      rintro f s' ⟨rfl, hk1, hk2, hk3, hk4⟩
      refine ⟨⟨.bool true, .bool true, rfl, raisesW_false ?_, .bool true, ?_⟩, hk1, hk2, hk3, hk4⟩
      · wrow_none_raised
      · wrow_post
    clear hgh ho
    w_top off
    rename_i z0q z1q z2q z3q z4q z5q z6q z7q z8q z9q z10q z11q z12q z13q z14q z15q z16q z17q z18q z19q z20q z21q z22q z23q z24q z25q z26q z27q z28q z29q z30q z31q z32q z33q z34q z35q z36q z37q
    revert w s₀ s₁ mg mb G Y fa o pm cd doc hcd hg X T B hT9 z0q z1q z2q z3q z4q z5q z6q z7q z8q z9q z10q z11q z12q z13q z14q hInts z15q hlen63 z16q hD z17q z18q z19q z20q z21q z22q z23q g₀ z24q z25q z26q hScr z27q z28q codeHd hC30 hC37 hC72 L hLL z29q z30q z31q z32q z33q z34q z35q z36q z37q
    exact hole.out
end

section -- walk Lb
local macro_rules | `(tactic| walk_at "subscriptTail Name Slice ref ref") => `(tactic| (k_here; k_dflt (refine' slice_law ?o ?F ?N ?l ?i ?n ?_ ?s ?t; (case o => first | exact .inl rfl | exact .inr rfl); (case F => k_asm); (case N => k_asm); (case l => exact Fr.lst (by k_asm) (by k_asm)); (case i => assumption); (case n => assumption); (case s => with_unfolding_all rfl); (case t => kmk_pure)); intro D' h' xs' hx' F' N' l1))
local macro_rules | `(tactic| walk_at "binaryOp Add ref ref") => `(tactic| (k_here; refine Halt.out ?_))
local macro_rules | `(tactic| walk_at "call ref") => `(tactic| (k_here; refine Halt.out ?_))
set_option tactic.hygienic false in
noncomputable def pLb : {P : Prop // Wrap P → pLa.1} := by
  refine ⟨?P, ?walk⟩
  case walk =>
    intro hole
    intro w s₀ s₁ mg mb G Y fa o pm cd doc hcd hg X T B hT9 w_1 hs hlay0 hL hr hl2 w_2 w_3 w_4 w_5 w_6 hL_1 ra w1 r0 hInts hr_1 hlen63 hcond' hD h₁ tk₁ w_7 w_8 w_9 w_10 w_11 g₀ X' T' K' hScr codeHd codeHd_1 codeHd_2 hC30 hC37 hC72 L hLL left left_1 left_2 left_3 right X0 l0 F' N'
    k_steps
    refine Halt.on ?_
    rename Fr _ _ _ _ => F1
    rename News _ _ _ _ => N1
    rename List (Int × Tok) => ya
    rename _ ≤ 3 => hya
    refine add_law (xs := [(245, _), (5, _)]) (ys := ya) F1 N1 (.tail _ (.head _)) (.head _) (by show 2 ≤ 10; decide) (by omega) ?_
    intro D1 h1 F2 N2 lt2
    clear F1 N1
    k_steps
    refine Halt.on ?_
    rename Fr _ _ _ _ => F3
    rename News _ _ _ _ => N3
    refine sp_call (xs := [(245, _), (5, _)] ++ ya) (by assumption) F3 (by assumption) N3 (.head _) (by rw [List.length_append]; show 2 + ya.length ≤ 100; omega) (by assumption) rfl ?_ ?_ ?_
    · decide
    · decide
    intro Do h4 tk4 vsO lsO F4 N4 hsO hDo hlO
    clear F3 N3
    k_steps
    refine Halt.on ?_
    rename Fr _ _ _ _ => F5
    rename News _ _ _ _ => N5
    rename List (Int × Tok) => yb
    rename List.length yb ≤ 3 => hyb
    refine add_law (xs := [(30, _), (457, _)]) (ys := yb) F5 N5 (.tail _ (.head _)) (.head _) (by show 2 ≤ 10; decide) (by omega) ?_
    intro D5 h5 F6 N6 lt6
    clear F5 N5
    k_steps
    refine Halt.on ?_
    rename Fr _ _ _ _ => F7
    rename News _ _ _ _ => N7
    refine sp_call (xs := [(30, _), (457, _)] ++ yb) (by assumption) F7 (by assumption) N7 (.head _) (by rw [List.length_append]; show 2 + yb.length ≤ 100; omega) (by assumption) rfl ?_ ?_ ?_
    · decide
    · decide
    intro Dt h8 tk8 vsT lsT F8 N8 hsT hDt hlT
    clear F7 N7
    obtain ⟨XO, hrO, hxO, okO⟩ : ∃ XO : List Spot, SpotsRel lsO vsO XO ∧ XO.length ≤ 5 ∧ ∀ x ∈ XO, SpotOk x := ⟨_, hsO, by rw [List.length_map, List.length_append]; show 2 + ya.length ≤ 5; omega, fun x hx => by obtain ⟨y, _, rfl⟩ := List.mem_map.mp hx; exact spotOf_ok _⟩
    obtain ⟨XT, hrT, hxT, okT⟩ : ∃ XT : List Spot, SpotsRel lsT vsT XT ∧ XT.length ≤ 5 ∧ ∀ x ∈ XT, SpotOk x := ⟨_, hsT, by rw [List.length_map, List.length_append]; show 2 + yb.length ≤ 5; omega, fun x hx => by obtain ⟨y, _, rfl⟩ := List.mem_map.mp hx; exact spotOf_ok _⟩
    clear hsO hsT
    rename_i z0q z1q z2q z3q z4q z5q z6q z7q z8q z9q z10q z11q z12q z13q z14q
    revert w s₀ s₁ mg mb G Y fa o pm cd doc hcd hg X T B hT9 w_1 hs hlay0 hL hr hl2 w_2 w_3 w_4 w_5 w_6 hL_1 ra w1 r0 hInts hr_1 hlen63 hcond' hD h₁ tk₁ w_7 w_8 w_9 w_10 w_11 g₀ X' T' K' hScr codeHd codeHd_1 codeHd_2 hC30 hC37 hC72 L hLL left left_1 left_2 left_3 right X0 l0 z0q z1q z2q z3q z4q ya hya z5q D1 h1 lt2 Do h4 tk4 vsO lsO hDo hlO z6q tk z7q z8q z9q z10q z11q z12q z13q yb hyb z14q D5 h5 lt6 Dt h8 tk8 vsT lsT F8 N8 hDt hlT XO hrO hxO okO XT hrT hxT okT
    exact hole.out
end

section -- walk Lc
local macro_rules | `(tactic| walk_at "call ref") => `(tactic| (k_here; refine Halt.out ?_))
set_option tactic.hygienic false in
noncomputable def pLc : {P : Prop // Wrap P → pLb.1} := by
  refine ⟨?P, ?walk⟩
  case walk =>
    intro hole
    intro w s₀ s₁ mg mb G Y fa o pm cd doc hcd hg X T B hT9 w_1 hs hlay0 hL hr hl2 w_2 w_3 w_4 w_5 w_6 hL_1 ra w1 r0 hInts hr_1 hlen63 hcond' hD h₁ tk₁ w_7 w_8 w_9 w_10 w_11 g₀ X' T' K' hScr codeHd codeHd_1 codeHd_2 hC30 hC37 hC72 L hLL left left_1 left_2 left_3 right X0 l0 l' h' l1 D' h'_1 ya hya l1_1 D1 h1 lt2 Do h4 tk4 vsO lsO hDo hlO h'_2 tk l'_1 h'_3 F' N' l1_2 D'_1 h'_4 yb hyb l1_3 D5 h5 lt6 Dt h8 tk8 vsT lsT F8 N8 hDt hlT XO hrO hxO okO XT hrT hxT okT
    obtain ⟨cLed, hcLed⟩ : ∃ l : List (Addr × Obj), l = [(L + 1 + 1 + 1 + 1 + 1, w_7), (L + 1 + 1 + 1 + 1, w_8), (L + 1 + 1 + 1, w_9), (L + 1 + 1, w_10), (L + 1, w_11), (72, tabObj #[]), (37, tabObj #[]), (30, tabObj #[])] := ⟨_, rfl⟩
    have oO : ∀ p ∈ cLed, p.1 ≠ Do := fun p hp => hDo p (List.mem_append_right _ (.tail _ (.tail _ (.tail _ (hcLed ▸ hp)))))
    have oO2 : ∀ p ∈ lsO, ∀ q ∈ cLed, q.1 < p.1 := fun p hp q hq => hlO p hp q (.tail _ (.tail _ (.tail _ (hcLed ▸ hq))))
    have oT : ∀ p ∈ cLed, p.1 ≠ Dt := fun p hp => hDt p (List.mem_append_right _ (.tail _ (.tail _ (.tail _ (.tail _ (List.mem_append_right _ (.tail _ (.tail _ (.tail _ (hcLed ▸ hp)))))))))) 
    have oT2 : ∀ p ∈ lsT, ∀ q ∈ cLed, q.1 < p.1 := fun p hp q hq => hlT p hp q (.tail _ (.tail _ (.tail _ (.tail _ (List.mem_append_right _ (.tail _ (.tail _ (.tail _ (hcLed ▸ hq)))))))))
    obtain ⟨R, hRe⟩ : ∃ R : List (Addr × Obj), R = (Do, LCg.lst vsO) :: (Dt, LCg.lst vsT) :: (lsO ++ lsT) := ⟨_, rfl⟩
    have hR : ∀ q ∈ cLed, ∀ p ∈ R, p.1 ≠ q.1 := by
      intro q hq p hp
      rw [hRe] at hp
      rcases List.mem_cons.mp hp with h | hp
      · rw [h]; exact Ne.symm (oO q hq)
      rcases List.mem_cons.mp hp with h | hp
      · rw [h]; exact Ne.symm (oT q hq)
      rcases List.mem_append.mp hp with h | h
      · exact Nat.ne_of_gt (oO2 p h q hq)
      · exact Nat.ne_of_gt (oT2 p h q hq)
    have hlOm : (Do, LCg.lst vsO) ∈ R := by rw [hRe]; exact .head _
    have hlTm : (Dt, LCg.lst vsT) ∈ R := by rw [hRe]; exact .tail _ (.head _)
    have hsO' : SpotsRel R vsO XO := hrO.mono fun p hp => by rw [hRe]; exact .tail _ (.tail _ (List.mem_append_left _ hp))
    have hsT' : SpotsRel R vsT XT := hrT.mono fun p hp => by rw [hRe]; exact .tail _ (.tail _ (List.mem_append_right _ hp))
    have N9 : News g₀ L h8 ((L + 1 + 1 + 1 + 1 + 1, w_7) :: (L + 1 + 1 + 1 + 1, w_8) :: (L + 1 + 1 + 1, w_9) :: (L + 1 + 1, w_10) :: (L + 1, w_11) :: (72, tabObj #[]) :: (37, tabObj #[]) :: (30, tabObj #[]) :: R) := News.perm N8 (by
      intro p hp
      have hp' : p ∈ cLed ++ R := by rw [hcLed]; exact hp
      clear hp
      rcases List.mem_append.mp hp' with h | h
      · exact .tail _ (List.mem_append_right _ (.tail _ (.tail _ (.tail _ (.tail _ (List.mem_append_right _ (.tail _ (.tail _ (.tail _ (hcLed ▸ h))))))))))
      rw [hRe] at h
      rcases List.mem_cons.mp h with h | h
      · exact .tail _ (List.mem_append_right _ (.tail _ (.tail _ (.tail _ (h ▸ .head _)))))
      rcases List.mem_cons.mp h with h | h
      · exact h ▸ .head _
      rcases List.mem_append.mp h with h | h
      · exact .tail _ (List.mem_append_right _ (.tail _ (.tail _ (.tail _ (.tail _ (List.mem_append_left _ h))))))
      · exact .tail _ (List.mem_append_left _ h))
    have hOff : OffC [L + 1 + 1 + 1 + 1 + 1, L + 1 + 1 + 1 + 1, L + 1 + 1 + 1, L + 1 + 1, L + 1, 72, 37, 30] R := by
      refine List.forall_mem_cons.mpr ⟨hR (L + 1 + 1 + 1 + 1 + 1, w_7) (hcLed ▸ .head _), List.forall_mem_cons.mpr ⟨hR (L + 1 + 1 + 1 + 1, w_8) (hcLed ▸ .tail _ (.head _)), List.forall_mem_cons.mpr ⟨hR (L + 1 + 1 + 1, w_9) (hcLed ▸ .tail _ (.tail _ (.head _))), List.forall_mem_cons.mpr ⟨hR (L + 1 + 1, w_10) (hcLed ▸ .tail _ (.tail _ (.tail _ (.head _)))), List.forall_mem_cons.mpr ⟨hR (L + 1, w_11) (hcLed ▸ .tail _ (.tail _ (.tail _ (.tail _ (.head _))))), List.forall_mem_cons.mpr ⟨hR (72, tabObj #[]) (hcLed ▸ .tail _ (.tail _ (.tail _ (.tail _ (.tail _ (.head _)))))), List.forall_mem_cons.mpr ⟨hR (37, tabObj #[]) (hcLed ▸ .tail _ (.tail _ (.tail _ (.tail _ (.tail _ (.tail _ (.head _))))))), List.forall_mem_cons.mpr ⟨hR (30, tabObj #[]) (hcLed ▸ .tail _ (.tail _ (.tail _ (.tail _ (.tail _ (.tail _ (.tail _ (.head _)))))))), List.forall_mem_nil _⟩⟩⟩⟩⟩⟩⟩⟩
    clear N8 hDo hDt hlO hlT hrO hrT oO oO2 oT oT2 hRe hR hcLed lt2 lt6
    obtain ⟨l72, l37, l30⟩ := l0
    refine storeX_C F8 N9 rfl (.tail (neN (by omega)) (.tail (neN (by omega)) (.tail (neN (by omega)) (.tail (neN (by omega)) (.head ?_))))) (by assumption) ?_
    · exact List.forall_mem_cons.mpr ⟨neN (by omega), List.forall_mem_cons.mpr ⟨neN (by omega), List.forall_mem_cons.mpr ⟨neN (by omega), hOff _ (.tail _ (.tail _ (.tail _ (.tail _ (.head _)))))⟩⟩⟩
    intro h9 c1 F10 N10 d1
    clear F8 N9
    (try dsimp only [List.cons_append, List.nil_append] at N10)
    k_steps
    refine Halt.on ?_
    rename_i z0q z1q z2q z3q z4q z5q z6q z7q
    revert w s₀ s₁ mg mb G Y fa o pm cd doc hcd hg X T B hT9 w_1 hs hlay0 hL hr hl2 w_2 w_3 w_4 w_5 w_6 hL_1 ra w1 r0 hInts hr_1 hlen63 hcond' hD h₁ tk₁ w_7 w_8 w_9 w_10 w_11 g₀ X' T' K' hScr codeHd codeHd_1 codeHd_2 hC30 hC37 hC72 L hLL left left_1 left_2 left_3 right X0 l' h' l1 D' h'_1 ya hya l1_1 D1 h1 Do h4 tk4 vsO lsO h'_2 z0q l'_1 h'_3 l1_2 D'_1 h'_4 yb hyb l1_3 D5 h5 Dt h8 tk8 vsT lsT XO hxO okO XT hxT okT cLed R hlOm hlTm hsO' hsT' hOff l72 l37 l30 h9 c1 d1 z1q z2q z3q z4q z5q z6q z7q tk
    exact hole.out
end

section -- walk Ld
local macro_rules | `(tactic| walk_at "call ref") => `(tactic| (k_here; refine Halt.out ?_))
local macro_rules | `(tactic| walk_at "eval ListComp") => `(tactic| (k_here; refine Halt.out ?_))
set_option tactic.hygienic false in
noncomputable def pLd : {P : Prop // Wrap P → pLc.1} := by
  refine ⟨?P, ?walk⟩
  case walk =>
    intro hole
    intro w s₀ s₁ mg mb G Y fa o pm cd doc hcd hg X T B hT9 w_1 hs hlay0 hL hr hl2 w_2 w_3 w_4 w_5 w_6 hL_1 ra w1 r0 hInts hr_1 hlen63 hcond' hD h₁ tk₁ w_7 w_8 w_9 w_10 w_11 g₀ X' T' K' hScr codeHd codeHd_1 codeHd_2 hC30 hC37 hC72 L hLL left left_1 left_2 left_3 right X0 l' h' l1 D' h'_1 ya hya l1_1 D1 h1 Do h4 tk4 vsO lsO h'_2 tk l'_1 h'_3 l1_2 D'_1 h'_4 yb hyb l1_3 D5 h5 Dt h8 tk8 vsT lsT XO hxO okO XT hxT okT cLed R hlOm hlTm hsO' hsT' hOff l72 l37 l30 h9 c1 d1 tk_1 h'_5 tk' t' h'_6 F' N' tk_2
    rename Fr _ _ _ _ => F11
    rename News _ _ _ _ => N11
    have hc5 : ∃ v, w_7.data = .cell v := ⟨_, by assumption⟩
    have hc4 : ∃ v, w_8.data = .cell v := ⟨_, by assumption⟩
    have hc3 : ∃ v, w_9.data = .cell v := ⟨_, by assumption⟩
    have hc2 : ∃ v, w_10.data = .cell v := ⟨_, by assumption⟩
    refine pa_call (vs1 := vsO) (n1 := vsO.length) (xs1 := XO) (vs2 := vsT) (n2 := vsT.length) (xs2 := XT) (ps := #[]) (news := (L + 1 + 1 + 1 + 1 + 1, w_7) :: (L + 1 + 1 + 1 + 1, w_8) :: (L + 1 + 1 + 1, w_9) :: (L + 1 + 1, w_10) :: (L + 1, c1) :: (37, tabObj #[]) :: (30, tabObj #[]) :: R) (by assumption) F11 (by assumption) (News.perm N11 ?_) (.tail _ (.tail _ (.tail _ (.tail _ (.tail _ (.tail _ (.tail _ hlOm))))))) (.tail _ (.tail _ (.tail _ (.tail _ (.tail _ (.tail _ (.tail _ hlTm))))))) (hsO'.mono fun p hp => .tail _ (.tail _ (.tail _ (.tail _ (.tail _ (.tail _ (.tail _ hp))))))) (hsT'.mono fun p hp => .tail _ (.tail _ (.tail _ (.tail _ (.tail _ (.tail _ (.tail _ hp))))))) okO okT hxO hxT hC72 trivial ?_ (by assumption) rfl (by decide) (by decide) (AllBare.of_eq hg) ?_
    · intro p hp
      simp only [List.mem_cons] at hp ⊢
      rcases hp with h | h | h | h | h | h | h | h | h <;> simp only [h, true_or, or_true]
    · exact List.forall_mem_cons.mpr ⟨neN (by omega), List.forall_mem_cons.mpr ⟨neN (by omega), List.forall_mem_cons.mpr ⟨neN (by omega), List.forall_mem_cons.mpr ⟨neN (by omega), List.forall_mem_cons.mpr ⟨neN (by omega), List.forall_mem_cons.mpr ⟨neN (by omega), List.forall_mem_cons.mpr ⟨neN (by omega), hOff _ (.tail _ (.tail _ (.tail _ (.tail _ (.tail _ (.head _))))))⟩⟩⟩⟩⟩⟩⟩
    intro Rv Dv oD ps72 ents0 kvs h12 tk12 g12 y0 y1 y2 y3 hg12 ht72 F12 N12 hoD hE0 hDsys hD72 hR72 he72
    clear F11 N11
    generalize hst : outerP XO XT st0 = st at *
    obtain ⟨ents, hEsub, hE, hEtup⟩ := hE0.clean
    have hin : ∀ a ∈ [L + 1 + 1 + 1 + 1 + 1, L + 1 + 1 + 1 + 1, L + 1 + 1 + 1, L + 1 + 1, L + 1, 72, 37, 30], ∃ o, (a, o) ∈ (72, tabObj ps72) :: (Rv, tup [.int st.tot.1 y0, .int st.tot.2.1 y1, .int st.tot.2.2.1 y2, .int st.tot.2.2.2 y3, .ref Dv]) :: (Dv, oD) :: (ents0 ++ (L + 1 + 1 + 1 + 1 + 1, w_7) :: (L + 1 + 1 + 1 + 1, w_8) :: (L + 1 + 1 + 1, w_9) :: (L + 1 + 1, w_10) :: (L + 1, c1) :: (37, tabObj #[]) :: (30, tabObj #[]) :: R) ∧ ((∃ v, o.data = .cell v) ∨ o.cls = .none) := by
      have up : ∀ p ∈ (L + 1 + 1 + 1 + 1 + 1, w_7) :: (L + 1 + 1 + 1 + 1, w_8) :: (L + 1 + 1 + 1, w_9) :: (L + 1 + 1, w_10) :: (L + 1, c1) :: (37, tabObj #[]) :: (30, tabObj #[]) :: R, p ∈ (72, tabObj ps72) :: (Rv, tup [.int st.tot.1 y0, .int st.tot.2.1 y1, .int st.tot.2.2.1 y2, .int st.tot.2.2.2 y3, .ref Dv]) :: (Dv, oD) :: (ents0 ++ (L + 1 + 1 + 1 + 1 + 1, w_7) :: (L + 1 + 1 + 1 + 1, w_8) :: (L + 1 + 1 + 1, w_9) :: (L + 1 + 1, w_10) :: (L + 1, c1) :: (37, tabObj #[]) :: (30, tabObj #[]) :: R) := fun p hp => .tail _ (.tail _ (.tail _ (List.mem_append_right _ hp)))
      exact List.forall_mem_cons.mpr ⟨⟨_, up _ (.head _), .inl hc5⟩, List.forall_mem_cons.mpr ⟨⟨_, up _ (.tail _ (.head _)), .inl hc4⟩, List.forall_mem_cons.mpr ⟨⟨_, up _ (.tail _ (.tail _ (.head _))), .inl hc3⟩, List.forall_mem_cons.mpr ⟨⟨_, up _ (.tail _ (.tail _ (.tail _ (.head _)))), .inl hc2⟩, List.forall_mem_cons.mpr ⟨⟨_, up _ (.tail _ (.tail _ (.tail _ (.tail _ (.head _))))), .inl ⟨_, d1⟩⟩, List.forall_mem_cons.mpr ⟨⟨_, .head _, .inr rfl⟩, List.forall_mem_cons.mpr ⟨⟨_, up _ (.tail _ (.tail _ (.tail _ (.tail _ (.tail _ (.head _)))))), .inr rfl⟩, List.forall_mem_cons.mpr ⟨⟨_, up _ (.tail _ (.tail _ (.tail _ (.tail _ (.tail _ (.tail _ (.head _))))))), .inr rfl⟩, List.forall_mem_nil _⟩⟩⟩⟩⟩⟩⟩⟩
    obtain ⟨R2, hR2⟩ : ∃ R2 : List (Addr × Obj), R2 = (Rv, tup [.int st.tot.1 y0, .int st.tot.2.1 y1, .int st.tot.2.2.1 y2, .int st.tot.2.2.2 y3, .ref Dv]) :: (Dv, oD) :: (ents ++ R) := ⟨_, rfl⟩
    have hOff2 : OffC [L + 1 + 1 + 1 + 1 + 1, L + 1 + 1 + 1 + 1, L + 1 + 1 + 1, L + 1 + 1, L + 1, 72, 37, 30] R2 := by
      rw [hR2]
      refine OffC.cons (off_plain N12 hin (.tail _ (.head _)) (plain_tup _)) (OffC.cons (off_plain N12 hin (.tail _ (.tail _ (.head _))) (isDict_cls hoD)) (OffC.append (fun a ha p hp => ?_) hOff))
      obtain ⟨r, t, e⟩ := hEtup p hp
      exact off_plain N12 hin (.tail _ (.tail _ (.tail _ (List.mem_append_left _ (hEsub p hp))))) (by rw [e]; exact plain_tup _) a ha
    have hRvm : (Rv, tup [.int st.tot.1 y0, .int st.tot.2.1 y1, .int st.tot.2.2.1 y2, .int st.tot.2.2.2 y3, .ref Dv]) ∈ R2 := hR2 ▸ .head _
    have hDvm : (Dv, oD) ∈ R2 := hR2 ▸ .tail _ (.head _)
    have hE2 : EntRel R2 kvs st.ents := hE.mono fun p hp => by rw [hR2]; exact .tail _ (.tail _ (List.mem_append_left _ hp))
    have hRR : ∀ p ∈ R, p ∈ R2 := fun p hp => by rw [hR2]; exact .tail _ (.tail _ (List.mem_append_right _ hp))
    have N13 : News g₀ L h12 ((L + 1 + 1 + 1 + 1 + 1, w_7) :: (L + 1 + 1 + 1 + 1, w_8) :: (L + 1 + 1 + 1, w_9) :: (L + 1 + 1, w_10) :: (L + 1, c1) :: (72, tabObj ps72) :: (37, tabObj #[]) :: (30, tabObj #[]) :: R2) := News.perm N12 (by
      intro p hp
      have hp' : p ∈ (72, tabObj ps72) :: (Rv, tup [.int st.tot.1 y0, .int st.tot.2.1 y1, .int st.tot.2.2.1 y2, .int st.tot.2.2.2 y3, .ref Dv]) :: (Dv, oD) :: (ents ++ (L + 1 + 1 + 1 + 1 + 1, w_7) :: (L + 1 + 1 + 1 + 1, w_8) :: (L + 1 + 1 + 1, w_9) :: (L + 1 + 1, w_10) :: (L + 1, c1) :: (37, tabObj #[]) :: (30, tabObj #[]) :: R) := by
        rw [hR2] at hp
        simp only [List.mem_cons, List.mem_append] at hp ⊢
        rcases hp with h | h | h | h | h | h | h | h | h | h | h | h <;> simp only [h, true_or, or_true]
      rcases List.mem_cons.mp hp' with h | h
      · exact h ▸ .head _
      rcases List.mem_cons.mp h with h | h
      · exact h ▸ .tail _ (.head _)
      rcases List.mem_cons.mp h with h | h
      · exact h ▸ .tail _ (.tail _ (.head _))
      rcases List.mem_append.mp h with h | h
      · exact .tail _ (.tail _ (.tail _ (List.mem_append_left _ (hEsub p h))))
      · exact .tail _ (.tail _ (.tail _ (List.mem_append_right _ h))))
    clear N12 hin hE0 hEsub hE hEtup he72 hD72 hR72
    refine storeX_C F12 N13 rfl (.tail (neN (by omega)) (.tail (neN (by omega)) (.tail (neN (by omega)) (.head ?_)))) hc2.choose_spec ?_
    · exact List.forall_mem_cons.mpr ⟨neN (by omega), List.forall_mem_cons.mpr ⟨neN (by omega), List.forall_mem_cons.mpr ⟨neN (by omega), List.forall_mem_cons.mpr ⟨neN (by omega), hOff2 _ (.tail _ (.tail _ (.tail _ (.head _))))⟩⟩⟩⟩
    intro h13 c2 F14 N14 d2
    clear F12 N13
    (try dsimp only [List.cons_append, List.nil_append] at N14)
    k_steps
    refine Halt.on ?_
    rename_i z0q
    revert w s₀ s₁ mg mb G Y fa o pm cd doc hcd hg X T B hT9 w_1 hs hlay0 hL hr hl2 w_2 w_3 w_4 w_5 w_6 hL_1 ra w1 r0 hInts hr_1 hlen63 hcond' hD h₁ tk₁ w_7 w_8 w_9 w_10 w_11 g₀ X' T' K' hScr codeHd codeHd_1 codeHd_2 hC30 hC37 hC72 L hLL left left_1 left_2 left_3 right X0 l' h' l1 D' h'_1 ya hya l1_1 D1 h1 Do h4 tk4 vsO lsO h'_2 z0q l'_1 h'_3 l1_2 D'_1 h'_4 yb hyb l1_3 D5 h5 Dt h8 tk8 vsT lsT XO hxO okO XT hxT okT cLed R hlOm hlTm hsO' hsT' hOff l72 l37 l30 h9 c1 d1 tk_1 h'_5 tk' t' h'_6 tk_2 hc5 hc4 hc3 hc2 Rv Dv oD ps72 ents0 kvs h12 tk12 g12 y0 y1 y2 y3 hg12 ht72 hoD hDsys st hst ents R2 hR2 hOff2 hRvm hDvm hE2 hRR h13 c2 F14 N14 d2 tk
    exact hole.out
end

section -- walk Le
local macro_rules | `(tactic| walk_at "call ref") => `(tactic| (k_here; refine Halt.out ?_))
local macro_rules | `(tactic| walk_at "eval ListComp") => `(tactic| (k_here; refine Halt.out ?_))
local macro_rules | `(tactic| walk_at "exec For Name Name cons nil") => `(tactic| (k_here; refine Halt.out ?_))
local macro_rules | `(tactic| walk_at "pyIter ref") => `(tactic| (k_here; refine Halt.out ?_))
set_option tactic.hygienic false in
noncomputable def pLe : {P : Prop // Wrap P → pLd.1} := by
  refine ⟨?P, ?walk⟩
  case walk =>
    intro hole
    intro w s₀ s₁ mg mb G Y fa o pm cd doc hcd hg X T B hT9 w_1 hs hlay0 hL hr hl2 w_2 w_3 w_4 w_5 w_6 hL_1 ra w1 r0 hInts hr_1 hlen63 hcond' hD h₁ tk₁ w_7 w_8 w_9 w_10 w_11 g₀ X' T' K' hScr codeHd codeHd_1 codeHd_2 hC30 hC37 hC72 L hLL left left_1 left_2 left_3 right X0 l' h' l1 D' h'_1 ya hya l1_1 D1 h1 Do h4 tk4 vsO lsO h'_2 tk l'_1 h'_3 l1_2 D'_1 h'_4 yb hyb l1_3 D5 h5 Dt h8 tk8 vsT lsT XO hxO okO XT hxT okT cLed R hlOm hlTm hsO' hsT' hOff l72 l37 l30 h9 c1 d1 tk_1 h'_5 tk' t' h'_6 tk_2 hc5 hc4 hc3 hc2 Rv Dv oD ps72 ents0 kvs h12 tk12 g12 y0 y1 y2 y3 hg12 ht72 hoD hDsys st hst ents R2 hR2 hOff2 hRvm hDvm hE2 hRR h13 c2 F14 N14 d2 tk_3
    refine comp2 (vs1 := vsO) (vs2 := vsT) (as := XO.map (·.1)) (bs := XT.map (·.1)) (l1 := Do) (l2 := Dt) F14 N14 rfl (by rfl) (by decide) (by rfl) (by decide) (by rfl) (by rfl) (by decide) ?_ ?_ (by intro _; rfl) (by intro _ _; rfl) ⟨_, (N14 _ (.tail _ (.tail _ (.tail _ (.tail _ (.tail _ (.tail _ (.tail _ (.tail _ (hRR _ hlOm)))))))))).1, rfl, _, rfl⟩ ⟨_, (N14 _ (.tail _ (.tail _ (.tail _ (.tail _ (.tail _ (.tail _ (.tail _ (.tail _ (hRR _ hlTm)))))))))).1, rfl, _, rfl⟩ (by rw [List.length_map]; exact hsO'.length) (by rw [List.length_map]; exact hsT'.length) (by rw [List.length_map]; omega) (by rw [List.length_map]; omega) ?_ ?_
    · intro E'
      exact nameX_L F14 rfl ⟨rfl, rfl⟩
    · intro C h tk m₂ E' hk hn
      exact wpAny_Name (wpAny_loadName_cell rfl rfl rfl ⟨c1, hk _ _ (N14 _ (.tail _ (.tail _ (.tail _ (.tail _ (.head _)))))).1, d1⟩ ⟨rfl, rfl⟩) (by decide)
    · intro A' i j v u a b C h' tk' m' E' hA hv ha hu hb hk hn hx' hy'
      obtain ⟨X1, a1, t1, n1, hX1, rfl, hm1⟩ := hsO'.at hv
      obtain ⟨X2, a2, t2, n2, hX2, rfl, hm2⟩ := hsT'.at hu
      rw [List.getElem?_map, hX1] at ha
      rw [List.getElem?_map, hX2] at hb
      obtain rfl := Option.some.inj ha
      obtain rfl := Option.some.inj hb
      refine elt_two (cenv := compEnvC _ _ C _) rfl rfl rfl (by decide) (by decide) hn hx' hy' ⟨_, hk _ _ (N14 _ (.tail _ (.tail _ (.tail _ (.tail _ (.tail _ (.tail _ (.tail _ (.tail _ (hRR _ hm1)))))))))).1, rfl, _, rfl⟩ ⟨_, hk _ _ (N14 _ (.tail _ (.tail _ (.tail _ (.tail _ (.tail _ (.tail _ (.tail _ (.tail _ (hRR _ hm2)))))))))).1, rfl, _, rfl⟩ rfl rfl
    intro Ds h15 tk15 zs F15 N15 lt15 hzs
    clear F14 N14
    have hzs' : zs.map (·.1) = stepsOf XO XT := hzs
    clear hzs
    have hDs : ∀ a ∈ [L + 1 + 1 + 1 + 1 + 1, L + 1 + 1 + 1 + 1, L + 1 + 1 + 1, L + 1 + 1, L + 1, 72, 37, 30], (Ds : Nat) ≠ a := by
      refine List.forall_mem_cons.mpr ⟨Nat.ne_of_gt (lt15 _ (.head _)), List.forall_mem_cons.mpr ⟨Nat.ne_of_gt (lt15 _ (.tail _ (.head _))), List.forall_mem_cons.mpr ⟨Nat.ne_of_gt (lt15 _ (.tail _ (.tail _ (.head _)))), List.forall_mem_cons.mpr ⟨Nat.ne_of_gt (lt15 _ (.tail _ (.tail _ (.tail _ (.head _))))), List.forall_mem_cons.mpr ⟨Nat.ne_of_gt (lt15 _ (.tail _ (.tail _ (.tail _ (.tail _ (.head _)))))), List.forall_mem_cons.mpr ⟨Nat.ne_of_gt (lt15 _ (.tail _ (.tail _ (.tail _ (.tail _ (.tail _ (.head _))))))), List.forall_mem_cons.mpr ⟨Nat.ne_of_gt (lt15 _ (.tail _ (.tail _ (.tail _ (.tail _ (.tail _ (.tail _ (.head _)))))))), List.forall_mem_cons.mpr ⟨Nat.ne_of_gt (lt15 _ (.tail _ (.tail _ (.tail _ (.tail _ (.tail _ (.tail _ (.tail _ (.head _))))))))), List.forall_mem_nil _⟩⟩⟩⟩⟩⟩⟩⟩
    obtain ⟨R3, hR3⟩ : ∃ R3 : List (Addr × Obj), R3 = (Ds, LCg.lst (natsV zs)) :: R2 := ⟨_, rfl⟩
    have hOff3 : OffC [L + 1 + 1 + 1 + 1 + 1, L + 1 + 1 + 1 + 1, L + 1 + 1 + 1, L + 1 + 1, L + 1, 72, 37, 30] R3 := by rw [hR3]; exact OffC.cons hDs hOff2
    have hR23 : ∀ p ∈ R2, p ∈ R3 := fun p hp => by rw [hR3]; exact .tail _ hp
    have hDsm : (Ds, LCg.lst (natsV zs)) ∈ R3 := by rw [hR3]; exact .head _
    have N16 : News g₀ L h15 ((L + 1 + 1 + 1 + 1 + 1, w_7) :: (L + 1 + 1 + 1 + 1, w_8) :: (L + 1 + 1 + 1, w_9) :: (L + 1 + 1, c2) :: (L + 1, c1) :: (72, tabObj ps72) :: (37, tabObj #[]) :: (30, tabObj #[]) :: R3) := News.perm N15 (by
      intro p hp
      rw [hR3] at hp
      simp only [List.mem_cons] at hp ⊢
      rcases hp with h | h | h | h | h | h | h | h | h | h
      · simp only [h, true_or, or_true]
      · simp only [h, true_or, or_true]
      · simp only [h, true_or, or_true]
      · simp only [h, true_or, or_true]
      · simp only [h, true_or, or_true]
      · simp only [h, true_or, or_true]
      · simp only [h, true_or, or_true]
      · simp only [h, true_or, or_true]
      · exact .inl h
      · simp only [h, true_or, or_true])
    clear N15 lt15 hDs
    refine storeX_C F15 N16 rfl (.tail (neN (by omega)) (.tail (neN (by omega)) (.head ?_))) hc3.choose_spec ?_
    · exact List.forall_mem_cons.mpr ⟨neN (by omega), List.forall_mem_cons.mpr ⟨neN (by omega), List.forall_mem_cons.mpr ⟨neN (by omega), List.forall_mem_cons.mpr ⟨neN (by omega), List.forall_mem_cons.mpr ⟨neN (by omega), hOff3 _ (.tail _ (.tail _ (.head _)))⟩⟩⟩⟩⟩
    intro h16 c3 F17 N17 d3
    clear F15 N16
    (try dsimp only [List.cons_append, List.nil_append] at N17)
    k_steps
    rename Fr _ _ _ _ => F18
    rename News _ _ _ _ => N18
    rename _ < _ ∧ _ < _ ∧ _ < _ ∧ _ < _ ∧ _ < _ ∧ _ < _ ∧ _ < _ ∧ _ < _ ∧ AllLt _ _ => lt18
    obtain ⟨q1, q2, q3, q4, q5, q6, q7, q8, q9⟩ := lt18
    refine name_it (P := fun (q : Nat) => 72 < q) q6 ?_
    intro Dc hDc
    subst hDc
    refine storeX_C F18 N18 rfl (.tail (Nat.ne_of_gt q2) (.tail (neN (by omega)) (.head ?_))) hc4.choose_spec ?_
    · exact List.forall_mem_cons.mpr ⟨neN (by omega), List.forall_mem_cons.mpr ⟨neN (by omega), List.forall_mem_cons.mpr ⟨neN (by omega), List.forall_mem_cons.mpr ⟨neN (by omega), List.forall_mem_cons.mpr ⟨neN (by omega), List.forall_mem_cons.mpr ⟨neN (by omega), hOff3 _ (.tail _ (.head _))⟩⟩⟩⟩⟩⟩
    intro h19 c4 F19 N19 d4
    clear F18 N18
    (try dsimp only [List.cons_append, List.nil_append] at N19)
    rename_i z0q
    revert w s₀ s₁ mg mb G Y fa o pm cd doc hcd hg X T B hT9 w_1 hs hlay0 hL hr hl2 w_2 w_3 w_4 w_5 w_6 hL_1 ra w1 r0 hInts hr_1 hlen63 hcond' hD h₁ tk₁ w_7 w_8 w_9 w_10 w_11 g₀ X' T' K' hScr codeHd codeHd_1 codeHd_2 hC30 hC37 hC72 L hLL left left_1 left_2 left_3 right X0 l' h' l1 D' h'_1 ya hya l1_1 D1 h1 Do h4 tk4 vsO lsO h'_2 tk l'_1 h'_3 l1_2 D'_1 h'_4 yb hyb l1_3 D5 h5 Dt h8 tk8 vsT lsT XO hxO okO XT hxT okT cLed R hlOm hlTm hsO' hsT' hOff l72 l37 l30 h9 c1 d1 tk_1 h'_5 tk' t' h'_6 tk_2 hc5 hc4 hc3 hc2 Rv Dv oD ps72 ents0 kvs h12 tk12 g12 y0 y1 y2 y3 hg12 ht72 hoD hDsys st hst ents R2 hR2 hOff2 hRvm hDvm hE2 hRR h13 c2 d2 tk_3 Ds h15 tk15 zs hzs' R3 hR3 hOff3 hR23 hDsm h16 c3 d3 z0q Dc q1 q2 q3 q4 q5 q6 q7 q8 q9 h19 c4 F19 N19 d4
    exact hole.out
end

section -- walk Lf
local macro_rules | `(tactic| walk_at "call ref") => `(tactic| (k_here; refine Halt.out ?_))
local macro_rules | `(tactic| walk_at "eval ListComp") => `(tactic| (k_here; refine Halt.out ?_))
local macro_rules | `(tactic| walk_at "exec For Name Name cons nil") => `(tactic| (k_here; refine Halt.out ?_))
local macro_rules | `(tactic| walk_at "pyIter ref") => `(tactic| (k_here; refine Halt.out ?_))
local macro_rules | `(tactic| walk_at "compareOp NotIn int ref") => `(tactic| (k_here; refine Halt.out ?_))
local macro_rules | `(tactic| walk_at "compareOp NotEq ref ref") => `(tactic| (k_here; refine Halt.out ?_))
local macro_rules | `(tactic| walk_at "call builtin:list.append") => `(tactic| (k_here; refine Halt.out ?_))
set_option tactic.hygienic false in
noncomputable def pLf : {P : Prop // Wrap P → pLe.1} := by
  refine ⟨?P, ?walk⟩
  case walk =>
    intro hole
    intro w s₀ s₁ mg mb G Y fa o pm cd doc hcd hg X T B hT9 w_1 hs hlay0 hL hr hl2 w_2 w_3 w_4 w_5 w_6 hL_1 ra w1 r0 hInts hr_1 hlen63 hcond' hD h₁ tk₁ w_7 w_8 w_9 w_10 w_11 g₀ X' T' K' hScr codeHd codeHd_1 codeHd_2 hC30 hC37 hC72 L hLL left left_1 left_2 left_3 right X0 l' h' l1 D' h'_1 ya hya l1_1 D1 h1 Do h4 tk4 vsO lsO h'_2 tk l'_1 h'_3 l1_2 D'_1 h'_4 yb hyb l1_3 D5 h5 Dt h8 tk8 vsT lsT XO hxO okO XT hxT okT cLed R hlOm hlTm hsO' hsT' hOff l72 l37 l30 h9 c1 d1 tk_1 h'_5 tk' t' h'_6 tk_2 hc5 hc4 hc3 hc2 Rv Dv oD ps72 ents0 kvs h12 tk12 g12 y0 y1 y2 y3 hg12 ht72 hoD hDsys st hst ents R2 hR2 hOff2 hRvm hDvm hE2 hRR h13 c2 d2 tk_3 Ds h15 tk15 zs hzs' R3 hR3 hOff3 hR23 hDsm h16 c3 d3 h'_7 Dc q1 q2 q3 q4 q5 q6 q7 q8 q9 h19 c4 F19 N19 d4
    obtain ⟨W, hW, hW7, hW12⟩ : ∃ W : Nat, 7 + Int.fmod w_1.sum 6 = (W : Int) ∧ 7 ≤ W ∧ W ≤ 12 := by
      have a1 := Int.fmod_nonneg_of_pos w_1.sum (show (0 : Int) < 6 by decide)
      have a2 := Int.fmod_lt_of_pos w_1.sum (show (0 : Int) < 6 by decide)
      exact ⟨(7 + Int.fmod w_1.sum 6).toNat, by omega, by omega, by omega⟩
    rw [hW] at F19
    k_steps
    refine Halt.on ?_
    refine wpAny_For ?_
    k_steps
    refine Halt.on ?_
    rename Fr _ _ _ _ => F20
    rename News _ _ _ _ => N20
    have hDsm2 : (Ds, LCg.lst (natsV zs)) ∈ (Dc, listOf #[] 0) :: (L + 1 + 1 + 1 + 1 + 1, w_7) :: (L + 1 + 1 + 1 + 1, c4) :: (L + 1 + 1 + 1, c3) :: (L + 1 + 1, c2) :: (L + 1, c1) :: (72, tabObj ps72) :: (37, tabObj #[]) :: (30, tabObj #[]) :: R3 := .tail _ (.tail _ (.tail _ (.tail _ (.tail _ (.tail _ (.tail _ (.tail _ (.tail _ hDsm))))))))
    have hDcO : ∀ p ∈ (L + 1 + 1 + 1 + 1 + 1, w_7) :: (L + 1 + 1 + 1 + 1, c4) :: (L + 1 + 1 + 1, c3) :: (L + 1 + 1, c2) :: (L + 1, c1) :: (72, tabObj ps72) :: (37, tabObj #[]) :: (30, tabObj #[]) :: R3, p.1 < Dc :=
      List.forall_mem_cons.mpr ⟨q1, List.forall_mem_cons.mpr ⟨q2, List.forall_mem_cons.mpr ⟨q3, List.forall_mem_cons.mpr ⟨q4, List.forall_mem_cons.mpr ⟨q5, List.forall_mem_cons.mpr ⟨q6, List.forall_mem_cons.mpr ⟨q7, List.forall_mem_cons.mpr ⟨q8, fun p hp => ktn_ltOf q9 p hp⟩⟩⟩⟩⟩⟩⟩⟩
    refine for_list (l := Ds) (vs := natsV zs) rfl rfl rfl F20 N20 ⟨_, (N20 _ hDsm2).1, rfl, _, rfl⟩ (N20 _ hDsm2).2.1 (by passes_own)
      (fun i m' news' g => g = g12 ∧ ∃ (cs : List (Nat × Tok)) (nc : Nat) (tw : Tok), m' (Str.ofString "width") = some (.int (W : Int) tw) ∧ m' (Str.ofString "ones") = some (.ref Do) ∧ news' = (Dc, listOf (natsV cs).toArray nc) :: (L + 1 + 1 + 1 + 1 + 1, w_7) :: (L + 1 + 1 + 1 + 1, c4) :: (L + 1 + 1 + 1, c3) :: (L + 1 + 1, c2) :: (L + 1, c1) :: (72, tabObj ps72) :: (37, tabObj #[]) :: (30, tabObj #[]) :: R3 ∧ cs.map (·.1) = cameOf ((zs.map (·.1)).take i) ∧ cs.length ≤ i)
      ⟨rfl, [], 0, _, rfl, rfl, rfl, rfl, Nat.le_refl _⟩ ?_ ?_
    · rintro i v m5 news5 h5' tk5 g5 own hv ⟨rfl, cs, nc, tw, hmw, hmo, rfl, hcs, hcl⟩ hne ⟨io, hio⟩ hown htk F21 N21
      clear F20 N20
      obtain ⟨⟨z, tz⟩, hzi, rfl⟩ : ∃ y, zs[i]? = some y ∧ Value.int (y.1 : Int) y.2 = v := by
        rw [List.getElem?_map] at hv
        obtain ⟨y, e1, e2⟩ := Option.map_eq_some_iff.mp hv
        exact ⟨y, e1, e2⟩
      rw [map_known hmw, map_known hmo] at F21
      dsimp only at F21
      have N21b : News _ _ _ ((Dc, listOf (natsV cs).toArray nc) :: (L + 1 + 1 + 1 + 1 + 1, w_7) :: (L + 1 + 1 + 1 + 1, c4) :: (L + 1 + 1 + 1, c3) :: (L + 1 + 1, c2) :: (L + 1, c1) :: (72, tabObj ps72) :: (37, tabObj #[]) :: (30, tabObj #[]) :: (own ++ R3)) := News.perm N21 (by
        intro p hp
        simp only [List.mem_cons, List.mem_append] at hp ⊢
        rcases hp with h | h | h | h | h | h | h | h | h | h | h <;> simp only [h, true_or, or_true])
      clear N21
      try k_fold
      k_steps
      refine Halt.on ?_
      rename Fr _ _ _ _ => F22
      rename News _ _ _ _ => N22
      refine notin_list_ints (vs := natsV cs) (ns := cs.map fun z => (z.1 : Int)) ⟨_, nat_ N22 0 rfl, rfl, _, rfl⟩ (natsV_ints cs) ?_
      rw [fmod16z, any_mem]
      have hzi' : (zs.map (·.1))[i]? = some z := by rw [List.getElem?_map, hzi]; rfl
      have hcome := came_step (zs.map (·.1)) hzi'
      rw [← hcs] at hcome
      have hN : ∀ (nc' : Nat) (cs' : List (Nat × Tok)) (h' : Heap), News g₀ L h' ((Dc, listOf (natsV cs').toArray nc') :: (L + 1 + 1 + 1 + 1 + 1, w_7) :: (L + 1 + 1 + 1 + 1, c4) :: (L + 1 + 1 + 1, c3) :: (L + 1 + 1, c2) :: (L + 1, c1) :: (72, tabObj ps72) :: (37, tabObj #[]) :: (30, tabObj #[]) :: (own ++ R3)) → News g₀ L h' (own ++ ((Dc, listOf (natsV cs').toArray nc') :: (L + 1 + 1 + 1 + 1 + 1, w_7) :: (L + 1 + 1 + 1 + 1, c4) :: (L + 1 + 1 + 1, c3) :: (L + 1 + 1, c2) :: (L + 1, c1) :: (72, tabObj ps72) :: (37, tabObj #[]) :: (30, tabObj #[]) :: R3)) := fun nc' cs' h' N => News.perm N (by
        intro p hp
        simp only [List.mem_cons, List.mem_append] at hp ⊢
        rcases hp with h | h | h | h | h | h | h | h | h | h | h <;> simp only [h, true_or, or_true])
      have hne' : ∀ (nc' : Nat) (cs' : List (Nat × Tok)), ∀ p ∈ (Dc, listOf (natsV cs').toArray nc') :: (L + 1 + 1 + 1 + 1 + 1, w_7) :: (L + 1 + 1 + 1 + 1, c4) :: (L + 1 + 1 + 1, c3) :: (L + 1 + 1, c2) :: (L + 1, c1) :: (72, tabObj ps72) :: (37, tabObj #[]) :: (30, tabObj #[]) :: R3, p.1 ∉ [h19.objs.size] := fun nc' cs' p hp q => by
        have q' := List.mem_singleton.mp q
        rcases List.mem_cons.mp hp with h | h
        · rw [h] at q'; exact hne (Dc, _) (.head _) q'
        · exact hne p (.tail _ h) q'
      by_cases hmem : z % 16 ∈ cs.map (·.1)
      · rw [decide_eq_true hmem]
        rw [if_pos hmem] at hcome
        k_steps
        refine GStep.next F22 (hN nc cs _ N22) (hne' nc cs) ⟨rfl, cs, nc, tw, rfl, rfl, rfl, hcome.symm, Nat.le_succ_of_le hcl⟩
      · rw [decide_eq_false hmem]
        rw [if_neg hmem] at hcome
        k_steps
        refine Halt.on ?_
        rename Fr _ _ _ _ => F23
        rename News _ _ _ _ => N23
        refine append_K F23 N23 (.head ?_) ?_ ?_
        · refine List.forall_mem_cons.mpr ⟨Nat.ne_of_lt q1, List.forall_mem_cons.mpr ⟨Nat.ne_of_lt q2, List.forall_mem_cons.mpr ⟨Nat.ne_of_lt q3, List.forall_mem_cons.mpr ⟨Nat.ne_of_lt q4, List.forall_mem_cons.mpr ⟨Nat.ne_of_lt q5, List.forall_mem_cons.mpr ⟨Nat.ne_of_lt q6, List.forall_mem_cons.mpr ⟨Nat.ne_of_lt q7, List.forall_mem_cons.mpr ⟨Nat.ne_of_lt q8, fun p hp => ?_⟩⟩⟩⟩⟩⟩⟩⟩
          rcases List.mem_append.mp hp with h | h
          · rcases hown p h with e | e
            · rw [e]; exact Ne.symm (hne (Dc, _) (.head _))
            · rw [e]; exact Nat.ne_of_lt (hDcO _ (.tail _ (.tail _ (.tail _ (.tail _ (.tail _ (.tail _ (.tail _ (.tail _ hDsm)))))))))
          · exact Nat.ne_of_lt (ktn_ltOf q9 p h)
        · intro h9 F24 N24
          rw [fmod16z, natsV_push] at N24
          clear F23 N23
          k_steps
          refine GStep.next F24 (hN _ _ _ N24) (hne' _ _) ⟨rfl, _, _, tw, rfl, rfl, rfl, ?_, ?_⟩
          · rw [List.map_append, hcome]; rfl
          · rw [List.length_append]; exact Nat.succ_le_succ hcl
        · rw [List.size_toArray, List.length_map]
          have hz25 : i < zs.length := (List.getElem?_eq_some_iff.mp hzi).1
          have e1 : zs.length = (stepsOf XO XT).length := by rw [← hzs', List.length_map]
          rw [stepsOf_len] at e1
          have e2 : XO.length * XT.length ≤ 5 * 5 := Nat.mul_le_mul hxO hxT
          exact Nat.le_trans (show cs.length ≤ 25 by omega) (by decide)
    · intro h' tk g m' news' F' N' hJ
      obtain ⟨rfl, cs, nc, tw, hmw, hmo, rfl, hcs, hcl⟩ := hJ
      rw [map_known hmw, map_known hmo] at F'
      rw [List.length_map, ← List.length_map (f := (·.1)) (as := zs), List.take_length] at hcs
      clear F20 N20
      have N21 : News g₀ L h' ((Rv, tup [.int st.tot.1 y0, .int st.tot.2.1 y1, .int st.tot.2.2.1 y2, .int st.tot.2.2.2 y3, .ref Dv]) :: (Dv, oD) :: (Dc, listOf (natsV cs).toArray nc) :: (L + 1 + 1 + 1 + 1 + 1, w_7) :: (L + 1 + 1 + 1 + 1, c4) :: (L + 1 + 1 + 1, c3) :: (L + 1 + 1, c2) :: (L + 1, c1) :: (72, tabObj ps72) :: (37, tabObj #[]) :: (30, tabObj #[]) :: R3) := News.perm N' (by
        intro p hp
        rcases List.mem_cons.mp hp with h | h
        · exact .tail _ (.tail _ (.tail _ (.tail _ (.tail _ (.tail _ (.tail _ (.tail _ (.tail _ (h ▸ hR23 _ hRvm)))))))))
        rcases List.mem_cons.mp h with h | h
        · exact .tail _ (.tail _ (.tail _ (.tail _ (.tail _ (.tail _ (.tail _ (.tail _ (.tail _ (h ▸ hR23 _ hDvm)))))))))
        · exact h)
      clear N'
      show wpAny _ _ _ _ _ _
      k_steps
      rename Fr _ _ _ _ => F22
      rename News _ _ _ _ => N22
      have hkl : kvs.length ≤ 100 := by
        rw [hE2.length, ← hst]
        have b2 := outer_len XO XT st0
        have b5 : XO.length * XT.length ≤ 5 * 5 := Nat.mul_le_mul hxO hxT
        have b6 : st0.ents.length = 0 := rfl
        omega
      refine list_dict rfl F22 N22 (nat_ N22 1 rfl) hoD hDsys hkl ?_
      intro Dk ck hk tkk vsk F23 N23 ltk hIk
      clear F22 N22
      k_steps
      refine Halt.on ?_
      rename Fr _ _ _ _ => F24
      rename News _ _ _ _ => N24
      refine ne_intsK ⟨_, nat_ N24 0 rfl, rfl, _, rfl⟩ hIk ⟨_, nat_ N24 3 rfl, rfl, _, rfl⟩ (natsV_ints cs) (by show callerA.units + 3 + 64 < cLine; decide) ?_
      have hkeys : kvs.map (·.1) = cs.map fun z => (z.1 : Int) := by
        rw [hE2.keys, ← hst, outerP_eq, keys_came, ← hzs', ← hcs, List.map_map]; rfl
      rw [decide_eq_true hkeys]
      k_steps
      refine Halt.on ?_
      rename Fr _ _ _ _ => F25
      rename News _ _ _ _ => N25
      obtain ⟨R5, hR5⟩ : ∃ R5 : List (Addr × Obj), R5 = (Dc, listOf (natsV cs).toArray nc) :: R3 := ⟨_, rfl⟩
      have hOff5 : OffC (CT L) R5 := by
        rw [hR5]
        refine OffC.cons ?_ hOff3
        exact List.forall_mem_cons.mpr ⟨Nat.ne_of_gt q1, List.forall_mem_cons.mpr ⟨Nat.ne_of_gt q2, List.forall_mem_cons.mpr ⟨Nat.ne_of_gt q3, List.forall_mem_cons.mpr ⟨Nat.ne_of_gt q4, List.forall_mem_cons.mpr ⟨Nat.ne_of_gt q5, List.forall_mem_cons.mpr ⟨Nat.ne_of_gt q6, List.forall_mem_cons.mpr ⟨Nat.ne_of_gt q7, List.forall_mem_cons.mpr ⟨Nat.ne_of_gt q8, List.forall_mem_nil _⟩⟩⟩⟩⟩⟩⟩⟩
      have hR35 : ∀ p ∈ R3, p ∈ R5 := fun p hp => by rw [hR5]; exact .tail _ hp
      have hDcm : (Dc, listOf (natsV cs).toArray nc) ∈ R5 := by rw [hR5]; exact .head _
      have N26 : News g₀ L _ ((30, tabObj #[]) :: (37, tabObj #[]) :: RestL L w_7 c4 c3 c2 c1 ps72 R5) := News.perm N25 (by
        intro p hp
        rw [hR5] at hp
        simp only [List.mem_cons] at hp ⊢
        rcases hp with h | h | h | h | h | h | h | h | h | h <;> simp only [h, true_or, or_true])
      clear N25
      have hT0 : Tabs #[] #[] (RestL L w_7 c4 c3 c2 c1 ps72 R5) := tabs0 (List.forall_mem_cons.mpr ⟨neN (by omega), List.forall_mem_cons.mpr ⟨neN (by omega), List.forall_mem_cons.mpr ⟨neN (by omega), List.forall_mem_cons.mpr ⟨neN (by omega), List.forall_mem_cons.mpr ⟨neN (by omega), List.forall_mem_cons.mpr ⟨neN (by omega), hOff5 _ (.tail _ (.tail _ (.tail _ (.tail _ (.tail _ (.tail _ (.tail _ (.head _))))))))⟩⟩⟩⟩⟩⟩) (List.forall_mem_cons.mpr ⟨neN (by omega), List.forall_mem_cons.mpr ⟨neN (by omega), List.forall_mem_cons.mpr ⟨neN (by omega), List.forall_mem_cons.mpr ⟨neN (by omega), List.forall_mem_cons.mpr ⟨neN (by omega), List.forall_mem_cons.mpr ⟨neN (by omega), hOff5 _ (.tail _ (.tail _ (.tail _ (.tail _ (.tail _ (.tail _ (.head _)))))))⟩⟩⟩⟩⟩⟩)
      have hRR5 : ∀ p ∈ R, p ∈ RestL L w_7 c4 c3 c2 c1 ps72 R5 := fun p hp => .tail _ (.tail _ (.tail _ (.tail _ (.tail _ (.tail _ (hR35 _ (hR23 _ (hRR _ hp))))))))
      refine ln_call (l := Do) (vs := vsO) (nl := vsO.length) (xs := XO) (by assumption) F25 (by assumption) N26 hT0 hC37 (hRR5 _ hlOm) (hsO'.mono hRR5) okO hxO hW7 (by omega) (by assumption) rfl (by decide) (by decide) ?_
      intro hl1 tkl1 p37a exa ua Fa Na hTa hGa
      clear F25 N26
      obtain ⟨R6, hR56, hOff6, hT6, N27⟩ := absorb Na hTa hGa hOff5
      clear Na
      k_steps
      refine Halt.on ?_
      rename_i z0q z1q z2q
      revert w s₀ s₁ mg mb G Y fa o pm cd doc hcd hg X T B hT9 w_1 hs hlay0 hL hr hl2 w_2 w_3 w_4 w_5 w_6 hL_1 ra w1 r0 hInts hr_1 hlen63 hcond' hD h₁ tk₁ w_7 w_8 w_9 w_10 w_11 g₀ X' T' K' hScr codeHd codeHd_1 codeHd_2 hC30 hC37 hC72 L hLL left left_1 left_2 left_3 right X0 l' z0q l1 D' h'_1 ya hya l1_1 D1 h1 Do h4 tk4 vsO lsO h'_2 z1q l'_1 h'_3 l1_2 D'_1 h'_4 yb hyb l1_3 D5 h5 Dt h8 tk8 vsT lsT XO hxO okO XT hxT okT cLed R hlOm hlTm hsO' hsT' hOff l72 l37 l30 h9 c1 d1 tk_1 h'_5 tk' t' h'_6 tk_2 hc5 hc4 hc3 hc2 Rv Dv oD ps72 ents0 kvs h12 tk12 y0 y1 y2 y3 ht72 hoD hDsys st hst ents R2 hR2 hOff2 hRvm hDvm hE2 hRR h13 c2 d2 tk_3 Ds h15 tk15 zs hzs' R3 hR3 hOff3 hR23 hDsm h16 c3 d3 h'_7 Dc q1 q2 q3 q4 q5 q6 q7 q8 q9 h19 c4 d4 W hW hW7 hW12 z2q hDsm2 hDcO h' tk g m' hg12 cs nc tw hmw hmo hcs hcl hkl Dk ck hk tkk vsk ltk hIk hkeys R5 hR5 hOff5 hR35 hDcm hT0 hRR5 hl1 tkl1 p37a exa ua Fa hTa hGa R6 hR56 hOff6 hT6 N27
      exact hole.out
end

section -- walk Lg
local macro_rules | `(tactic| walk_at "call ref") => `(tactic| (k_here; refine Halt.out ?_))
local macro_rules | `(tactic| walk_at "eval ListComp") => `(tactic| (k_here; refine Halt.out ?_))
local macro_rules | `(tactic| walk_at "binaryOp Mult int int") => `(tactic| (k_here; refine Halt.out ?_))
local macro_rules | `(tactic| walk_at "exec For Name Call cons nil") => `(tactic| (k_here; refine Halt.out ?_))
local macro_rules | `(tactic| walk_at "pyIter ref") => `(tactic| (k_here; refine Halt.out ?_))
local macro_rules | `(tactic| walk_at "compareOp NotEq ref ref") => `(tactic| (k_here; refine Halt.out ?_))
set_option tactic.hygienic false in
noncomputable def pLg : {P : Prop // Wrap P → pLf.1} := by
  refine ⟨?P, ?walk⟩
  case walk =>
    intro hole
    intro w s₀ s₁ mg mb G Y fa o pm cd doc hcd hg X T B hT9 w_1 hs hlay0 hL hr hl2 w_2 w_3 w_4 w_5 w_6 hL_1 ra w1 r0 hInts hr_1 hlen63 hcond' hD h₁ tk₁ w_7 w_8 w_9 w_10 w_11 g₀ X' T' K' hScr codeHd codeHd_1 codeHd_2 hC30 hC37 hC72 L hLL left left_1 left_2 left_3 right X0 l' h' l1 D' h'_1 ya hya l1_1 D1 h1 Do h4 tk4 vsO lsO h'_2 tk l'_1 h'_3 l1_2 D'_1 h'_4 yb hyb l1_3 D5 h5 Dt h8 tk8 vsT lsT XO hxO okO XT hxT okT cLed R hlOm hlTm hsO' hsT' hOff l72 l37 l30 h9 c1 d1 tk_1 h'_5 tk' t' h'_6 tk_2 hc5 hc4 hc3 hc2 Rv Dv oD ps72 ents0 kvs h12 tk12 y0 y1 y2 y3 ht72 hoD hDsys st hst ents R2 hR2 hOff2 hRvm hDvm hE2 hRR h13 c2 d2 tk_3 Ds h15 tk15 zs hzs' R3 hR3 hOff3 hR23 hDsm h16 c3 d3 h'_7 Dc q1 q2 q3 q4 q5 q6 q7 q8 q9 h19 c4 d4 W hW hW7 hW12 tk_4 hDsm2 hDcO h'_8 tk_5 g m' hg12 cs nc tw hmw hmo hcs hcl hkl Dk ck hk tkk vsk ltk hIk hkeys R5 hR5 hOff5 hR35 hDcm hT0 hRR5 hl1 tkl1 p37a exa ua Fa hTa hGa R6 hR56 hOff6 hT6 N27
    have hRR6 : ∀ p ∈ R, p ∈ RestL L w_7 c4 c3 c2 c1 ps72 R6 := fun p hp => .tail _ (.tail _ (.tail _ (.tail _ (.tail _ (.tail _ (hR56 _ (hR35 _ (hR23 _ (hRR _ hp)))))))))
    refine ln_call (l := Dt) (vs := vsT) (nl := vsT.length) (xs := XT) (p30 := #[]) (p37 := p37a) (news := RestL L w_7 c4 c3 c2 c1 ps72 R6) (by assumption) Fa (by assumption) (News.perm N27 ?_) hT6 hC37 (hRR6 _ hlTm) (hsT'.mono hRR6) okT hxT hW7 (by omega) (by assumption) rfl (by decide) (by decide) ?_
    · intro p hp
      simp only [List.mem_cons] at hp ⊢
      rcases hp with h | h | h | h | h | h | h | h | h <;> simp only [h, true_or, or_true]
    intro hl2 tkl2 p37b exb ub Fb Nb hTb hGb
    clear Fa N27
    obtain ⟨R7, hR67, hOff7, hT7, N28⟩ := absorb Nb hTb hGb hOff6
    clear Nb
    k_steps
    refine Halt.on ?_
    rename Fr _ _ _ _ => F29
    rename News _ _ _ _ => N29
    have hx32 : ∀ x ∈ XO, x.1 < 32 := fun x hx => (okO x hx).1
    have hy32 : ∀ x ∈ XT, x.1 < 32 := fun x hx => (okT x hx).1
    have hbitsO : Builtin.Int.intBits ((numOf W XO : Nat) : Int) ≤ W * 32 := intBits_le_iff.mpr (by rw [Int.natAbs_natCast]; exact numOf_lt hW7 XO hx32 hxO)
    have hbitsT : Builtin.Int.intBits ((numOf W XT : Nat) : Int) ≤ W * 32 := intBits_le_iff.mpr (by rw [Int.natAbs_natCast]; exact numOf_lt hW7 XT hy32 hxT)
    have h20 : W * 32 ≤ 2 ^ 20 := Nat.le_trans (Nat.mul_le_mul_right 32 hW12) (by decide)
    refine mul_int ?_ (IntMulOk.of_bits (Nat.le_trans hbitsO h20) (Nat.le_trans hbitsT h20))
    rw [← Int.natCast_mul, numOf_mul, ← nK_zero]
    generalize hss : stepsOf XO XT = ss at *
    have hs3 : ∀ s ∈ ss, s / 16 ≤ 3 := hss ▸ steps_le XO XT hx32 hy32
    have hs25 : ss.length ≤ 25 := by
      rw [← hss, stepsOf_len]; exact Nat.mul_le_mul hxO hxT
    have hnlt : ∀ k, k ≤ 4 → nK W k ss < 2 ^ (16 * W * 60) := fun k hk => hss ▸ nK_lt hW7 hk XO XT hx32 hy32 hxO hxT (hss ▸ hs3)
    k_steps
    refine Halt.on ?_
    refine wpAny_For ?_
    k_steps
    refine Halt.on ?_
    rename_i z0q z1q z2q z3q z4q
    revert w s₀ s₁ mg mb G Y fa o pm cd doc hcd hg X T B hT9 w_1 hs hlay0 hL hr z0q w_2 w_3 w_4 w_5 w_6 hL_1 ra w1 r0 hInts hr_1 hlen63 hcond' hD h₁ tk₁ w_7 w_8 w_9 w_10 w_11 g₀ X' T' K' hScr codeHd codeHd_1 codeHd_2 hC30 hC37 hC72 L hLL left left_1 left_2 left_3 right X0 l' h' l1 D' h'_1 ya hya l1_1 D1 h1 Do h4 tk4 vsO lsO h'_2 z1q l'_1 h'_3 l1_2 D'_1 h'_4 yb hyb l1_3 D5 h5 Dt h8 tk8 vsT lsT XO hxO okO XT hxT okT cLed R hlOm hlTm hsO' hsT' hOff l72 l37 l30 h9 c1 d1 tk_1 h'_5 tk' t' h'_6 tk_2 hc5 hc4 hc3 hc2 Rv Dv oD ps72 ents0 kvs h12 tk12 y0 y1 y2 y3 ht72 hoD hDsys st hst ents R2 hR2 hOff2 hRvm hDvm hE2 hRR h13 c2 d2 tk_3 Ds h15 tk15 zs R3 hR3 hOff3 hR23 hDsm h16 c3 d3 h'_7 Dc q1 q2 q3 q4 q5 q6 q7 q8 q9 h19 c4 d4 W hW hW7 hW12 tk_4 hDsm2 hDcO h'_8 tk_5 g m' hg12 cs nc tw hmw hmo hcs hcl hkl Dk ck hk tkk vsk ltk hIk hkeys R5 hR5 hOff5 hR35 hDcm hT0 hRR5 hl1 tkl1 p37a exa ua hTa hGa R6 hR56 hOff6 hT6 hRR6 hl2 tkl2 p37b exb ub hTb hGb R7 hR67 hOff7 hT7 hx32 hy32 hbitsO hbitsT h20 ss hss hzs' hs3 hs25 hnlt z2q z3q z4q tk h'_9 tk_6 t₁ u₁ v₁ a a_1 a_2 a_3
    exact hole.out
end

section -- walk Li
local macro_rules | `(tactic| walk_at "call ref") => `(tactic| (k_here; refine Halt.out ?_))
local macro_rules | `(tactic| walk_at "eval ListComp") => `(tactic| (k_here; refine Halt.out ?_))
local macro_rules | `(tactic| walk_at "compareOp NotEq ref ref") => `(tactic| (k_here; refine Halt.out ?_))
local macro_rules | `(tactic| walk_at "binaryOp Mult ref int") => `(tactic| (k_here; refine Halt.out ?_))
local macro_rules | `(tactic| walk_at "call builtin:len") => `(tactic| (k_here; refine Halt.out ?_))
local macro_rules | `(tactic| walk_at "binaryOp Pow int int") => `(tactic| (k_here; refine Halt.out ?_))
local macro_rules | `(tactic| walk_at "binaryOp Add ref ref") => `(tactic| (k_here; refine Halt.out ?_))
set_option tactic.hygienic false in
noncomputable def pLi : {P : Prop × Prop // Wrap P.1 → Wrap P.2 → pLg.1} := by
  refine ⟨(?P, ?Q), ?walk⟩
  case walk =>
    intro hole hole2
    intro w s₀ s₁ mg mb G Y fa o pm cd doc hcd hg X T B hT9 w_1 hs hlay0 hL hr hl2 w_2 w_3 w_4 w_5 w_6 hL_1 ra w1 r0 hInts hr_1 hlen63 hcond' hD h₁ tk₁ w_7 w_8 w_9 w_10 w_11 g₀ X' T' K' hScr codeHd codeHd_1 codeHd_2 hC30 hC37 hC72 L hLL left left_1 left_2 left_3 right X0 l' h' l1 D' h'_1 ya hya l1_1 D1 h1 Do h4 tk4 vsO lsO h'_2 tk l'_1 h'_3 l1_2 D'_1 h'_4 yb hyb l1_3 D5 h5 Dt h8 tk8 vsT lsT XO hxO okO XT hxT okT cLed R hlOm hlTm hsO' hsT' hOff l72 l37 l30 h9 c1 d1 tk_1 h'_5 tk' t' h'_6 tk_2 hc5 hc4 hc3 hc2 Rv Dv oD ps72 ents0 kvs h12 tk12 y0 y1 y2 y3 ht72 hoD hDsys st hst ents R2 hR2 hOff2 hRvm hDvm hE2 hRR h13 c2 d2 tk_3 Ds h15 tk15 zs R3 hR3 hOff3 hR23 hDsm h16 c3 d3 h'_7 Dc q1 q2 q3 q4 q5 q6 q7 q8 q9 h19 c4 d4 W hW hW7 hW12 tk_4 hDsm2 hDcO h'_8 tk_5 g m' hg12 cs nc tw hmw hmo hcs hcl hkl Dk ck hk tkk vsk ltk hIk hkeys R5 hR5 hOff5 hR35 hDcm hT0 hRR5 hl1 tkl1 p37a exa ua hTa hGa R6 hR56 hOff6 hT6 hRR6 hl2_1 tkl2 p37b exb ub hTb hGb R7 hR67 hOff7 hT7 hx32 hy32 hbitsO hbitsT h20 ss hss hzs' hs3 hs25 hnlt h'_9 F' N' tk_6 h'_9_1 tk_6_1 t₁ u₁ v₁ a a_1 a_2 a_3
    rename Fr _ _ _ _ => F31
    rename News _ _ _ _ => N31
    rename IsRange _ _ _ _ _ _ _ _ => hrg
    refine for_range_cell (n := 4) rfl F31 N31 hrg (by decide) (by decide) (by passes_own)
      (fun i m' news' => ∃ (c5 : Obj) (p30 p37 : Array Value) (Rx : List (Addr × Obj)) (tw tn : Tok) (v5 : Option Value), m' (Str.ofString "width") = some (.int (W : Int) tw) ∧ m' (Str.ofString "number") = some (.int ((nK W i ss : Nat) : Int) tn) ∧ news' = LedL L c5 c4 c3 c2 c1 ps72 p37 p30 Rx ∧ c5.data = .cell v5 ∧ (∀ p ∈ R7, p ∈ Rx) ∧ OffC (CT L) Rx ∧ Tabs p30 p37 (RestL L c5 c4 c3 c2 c1 ps72 Rx))
      ⟨w_7, #[], p37b, R7, _, _, _, rfl, rfl, rfl, hc5.choose_spec, fun _ h => h, hOff7, hT7⟩ ?_ ?_
    · rintro I i t m32 news32 h32 tk32 own hi ⟨c5, p30, p37, Rx, tw2, tn, v5, hmw, hmn, rfl, hv5, hR7x, hOffx, hTx⟩ hne ⟨io, rfl, hio⟩ F32 N32
      clear F31 N31
      rw [Int.zero_add]
      have N33 : News g₀ L h32 (LedL L c5 c4 c3 c2 c1 ps72 p37 p30 ((I, io) :: Rx)) := News.perm N32 (by
        intro p hp
        simp only [List.mem_cons, List.singleton_append] at hp ⊢
        rcases hp with h | h | h | h | h | h | h | h | h | h <;> simp only [h, true_or, or_true])
      clear N32
      have hOffI : OffC (CT L) ((I, io) :: Rx) := by
        refine OffC.cons ?_ hOffx
        exact List.forall_mem_cons.mpr ⟨Ne.symm (hne _ (.head _)), List.forall_mem_cons.mpr ⟨Ne.symm (hne _ (.tail _ (.head _))), List.forall_mem_cons.mpr ⟨Ne.symm (hne _ (.tail _ (.tail _ (.head _)))), List.forall_mem_cons.mpr ⟨Ne.symm (hne _ (.tail _ (.tail _ (.tail _ (.head _))))), List.forall_mem_cons.mpr ⟨Ne.symm (hne _ (.tail _ (.tail _ (.tail _ (.tail _ (.head _)))))), List.forall_mem_cons.mpr ⟨Ne.symm (hne _ (.tail _ (.tail _ (.tail _ (.tail _ (.tail _ (.head _))))))), List.forall_mem_cons.mpr ⟨Ne.symm (hne _ (.tail _ (.tail _ (.tail _ (.tail _ (.tail _ (.tail _ (.head _)))))))), List.forall_mem_cons.mpr ⟨Ne.symm (hne _ (.tail _ (.tail _ (.tail _ (.tail _ (.tail _ (.tail _ (.tail _ (.head _))))))))), List.forall_mem_nil _⟩⟩⟩⟩⟩⟩⟩⟩
      rw [map_known hmw, map_known hmn] at F32
      dsimp only at F32
      refine wpAny_assign_Name (storeX_C F32 N33 rfl (.head ?_) hv5 ?_)
      · exact List.forall_mem_cons.mpr ⟨neN (by omega), List.forall_mem_cons.mpr ⟨neN (by omega), List.forall_mem_cons.mpr ⟨neN (by omega), List.forall_mem_cons.mpr ⟨neN (by omega), List.forall_mem_cons.mpr ⟨neN (by omega), List.forall_mem_cons.mpr ⟨neN (by omega), List.forall_mem_cons.mpr ⟨neN (by omega), hOffI _ (.head _)⟩⟩⟩⟩⟩⟩⟩
      intro h34 c5n F34 N34 d5n
      clear F32 N33
      have hTn : Tabs p30 p37 (RestL L c5n c4 c3 c2 c1 ps72 ((I, io) :: Rx)) := hTx.cell hv5 (fun p hp => .tail _ hp) hOffI
      k_steps
      refine Halt.on ?_
      refine pow_int_small (by omega) (by omega) (by decide) ?_
      k_steps
      refine Halt.on ?_
      rename Fr _ _ _ _ => F35
      rename News _ _ _ _ => N35
      rw [mask_cast]
      have hb1 : 1 ≤ 16 * W := by omega
      have hb0 : 0 < 2 ^ (16 * W) - 1 := by
        have : 2 ^ 1 ≤ 2 ^ (16 * W) := Nat.pow_le_pow_right (by decide) hb1
        omega
      obtain ⟨hdiv, hmod⟩ := nK_divmod hW7 hi ss hs3 hs25
      refine dp_call (x := nK W i ss) (b := 2 ^ (16 * W) - 1) (n := 16 * W) (p30 := p30) (p37 := p37) (news := RestL L c5n c4 c3 c2 c1 ps72 ((I, io) :: Rx)) (by assumption) F35 (by assumption) (News.perm N35 ?_) hTn hC30 hC37 hb0 (bits_mask hb1) (by omega) (hnlt i (by omega)) (by assumption) rfl (by decide) (by decide) ?_
      · intro p hp
        simp only [List.mem_cons] at hp ⊢
        rcases hp with h | h | h | h | h | h | h | h | h | h <;> simp only [h, true_or, or_true]
      intro Dq h36 tk36 p30b p37b2 exq u1 u2 F36 N36 hT36 hG36 hlt36 h37D
      clear F35 N35
      rw [hdiv, hmod] at N36
      obtain ⟨ex1, hOffA, hTA, N37, hexA, hfA⟩ := absorb2 (extra := (Dq, tup [.int ((nK W (i + 1) ss : Nat) : Int) u1, .int ((rK W i ss : Nat) : Int) u2]) :: exq) (R := (I, io) :: Rx) N36 (hT36.sub (fun p hp _ => .tail _ hp) (List.forall_mem_cons.mpr ⟨Nat.ne_of_gt (Nat.lt_trans (by decide) h37D), hT36.2.2.1⟩) (List.forall_mem_cons.mpr ⟨Nat.ne_of_gt h37D, hT36.2.2.2⟩)) (List.forall_mem_cons.mpr ⟨.inr hlt36, hG36⟩) hOffI
      have hDqm := hexA _ (.head _) hlt36
      clear N36 hG36 hT36 hexA
      have N38 : News g₀ L h36 ((Dq, tup [.int ((nK W (i + 1) ss : Nat) : Int) u1, .int ((rK W i ss : Nat) : Int) u2]) :: LedL L c5n c4 c3 c2 c1 ps72 p37b2 p30b (ex1 ++ (I, io) :: Rx)) := News.perm N37 (by
        intro p hp
        rcases List.mem_cons.mp hp with h | h
        · rw [h]; exact .tail _ (.tail _ (.tail _ (.tail _ (.tail _ (.tail _ (.tail _ (.tail _ (List.mem_append_left _ hDqm))))))))
        · exact h)
      clear N37
      k_steps
      refine Halt.on ?_
      rename Fr _ _ _ _ => F39
      rename News _ _ _ _ => N39
      have hrlt : rK W i ss < 2 ^ (W * 16) := by
        have := rK_lt (k := i) hW7 ss hs3 hs25
        rw [Nat.mul_comm W]; omega
      refine iT_call (x := rK W i ss) (n := W) (p30 := p30b) (p37 := p37b2) (news := RestL L c5n c4 c3 c2 c1 ps72 (ex1 ++ (I, io) :: Rx)) (by assumption) F39 (by assumption) (News.perm N39 ?_) hTA hC30 (by omega) (by omega) (Nat.lt_of_lt_of_le hrlt (Nat.pow_le_pow_right (by decide) (Nat.mul_le_mul_left _ (by decide)))) (by assumption) rfl (by decide) (by decide) ?_
      · intro p hp
        simp only [List.mem_cons, List.mem_append] at hp ⊢
        rcases hp with h | h | h | h | h | h | h | h | h | h | h <;> simp only [h, true_or, or_true]
      intro Dd h40 tk40 ys nl p30c exi kk hys hxk hKmin F40 N40 hT40 hG40 hlt40 h37Dd
      clear F39 N39
      obtain ⟨ex2, hOffB, hTB, N41, hexB, hfB⟩ := absorb2 (extra := (Dd, listOf (natsV ys).toArray nl) :: exi) (R := ex1 ++ (I, io) :: Rx) N40 (hT40.sub (fun p hp _ => .tail _ hp) (List.forall_mem_cons.mpr ⟨Nat.ne_of_gt (Nat.lt_trans (by decide) h37Dd), hT40.2.2.1⟩) (List.forall_mem_cons.mpr ⟨Nat.ne_of_gt h37Dd, hT40.2.2.2⟩)) (List.forall_mem_cons.mpr ⟨.inr hlt40, hG40⟩) hOffA
      have hDdm := hexB _ (.head _) hlt40
      clear N40 hG40 hT40 hexB
      have hkk16 : kk ≤ 16 := hKmin 16 hrlt
      have hyl : ys.length = kk := by rw [← dg_len W kk (rK W i ss), ← hys, List.length_map]
      have N42 : News g₀ L h40 ((Dd, listOf (natsV ys).toArray nl) :: LedL L c5n c4 c3 c2 c1 ps72 p37b2 p30c (ex2 ++ (ex1 ++ (I, io) :: Rx))) := News.perm N41 (by
        intro p hp
        rcases List.mem_cons.mp hp with h | h
        · rw [h]; exact .tail _ (.tail _ (.tail _ (.tail _ (.tail _ (.tail _ (.tail _ (.tail _ (List.mem_append_left _ hDdm))))))))
        · exact h)
      clear N41
      k_steps
      refine Halt.on ?_
      rename Fr _ _ _ _ => F43
      rename News _ _ _ _ => N43
      refine call_len_list ⟨_, nat_ N43 1 rfl, rfl, _, rfl⟩ (by rw [List.size_toArray, List.length_map, hyl]; omega) ?_
      rw [List.size_toArray, List.length_map, hyl]
      k_steps
      refine Halt.on ?_
      rename Fr _ _ _ _ => F44
      rename News _ _ _ _ => N44
      have e16 : (16 : Int) - (kk : Int) = ((16 - kk : Nat) : Int) := by omega
      rw [e16]
      refine KM.mul (ns := [0]) F44 N44 ⟨_, nat_ N44 0 rfl, rfl, _, rfl⟩ (.cons _ _ .nil) (by omega) (by omega) (by show 1 * Int.toNat ((16 - kk : Nat) : Int) ≤ 2 ^ 24; omega) ?_
      intro Dm h45 F45 N45 lt45 _ _ _ _ _ _
      rw [rep_nats] at N45
      clear F44 N44
      obtain ⟨tz, N45⟩ : ∃ tz, News g₀ L h45 ((Dm, listOf (natsV (List.replicate (16 - kk) (0, tz))).toArray 0) :: _) := ⟨_, N45⟩
      refine kmk_add_lit (its := (natsV ys).toArray) (its2 := (natsV (List.replicate (16 - kk) (0, tz))).toArray) (zs := natsV (ys ++ List.replicate (16 - kk) (0, tz))) F45 N45 ⟨_, nat_ N45 2 rfl, rfl, _, rfl⟩ ⟨_, nat_ N45 0 rfl, rfl, _, rfl⟩ List.map_append.symm ?_ ?_
      case' refine_2 => show (natsV ys).length + (natsV (List.replicate (16 - kk) (0, tz))).length ≤ sizeLine; rw [List.length_map, List.length_map, hyl, List.length_replicate]; exact Nat.le_trans (show kk + (16 - kk) ≤ 16 by omega) (by decide)
      intro Dg h46 F46 N46 lt46
      obtain ⟨gs, hgs, hgl, N47⟩ : ∃ gs : List (Nat × Tok), gs.map (·.1) = hsL i ss ∧ gs.length = 16 ∧ News g₀ L h46 ((Dg, listOf (natsV gs).toArray 0) :: LedL L c5n c4 c3 c2 c1 ps72 p37b2 p30c (ex2 ++ (ex1 ++ (I, io) :: Rx))) := by
        refine ⟨ys ++ List.replicate (16 - kk) (0, tz), ?_, ?_, News.perm N46 ?_⟩
        · rw [List.map_append, hys, List.map_replicate]; exact digits_are hW7 ss hs3 hs25 hkk16 hxk
        · rw [List.length_append, hyl, List.length_replicate]; omega
        · intro p hp
          rcases List.mem_cons.mp hp with h | h
          · rw [h]; exact .head _
          · exact .tail _ (.tail _ (.tail _ (.tail _ h)))
      clear F45 N45 N46
      k_steps
      refine Halt.on ?_
      rename_i z0q z1q z2q z3q z4q z5q z6q z7q z8q z9q z10q z11q z12q z13q
      revert w s₀ s₁ mg mb G Y fa o pm cd doc hcd hg X T B hT9 w_1 hs hlay0 hL hr hl2 w_2 w_3 w_4 w_5 w_6 hL_1 ra w1 r0 hInts hr_1 hlen63 hcond' hD h₁ tk₁ w_7 w_8 w_9 w_10 w_11 g₀ X' T' K' hScr codeHd codeHd_1 codeHd_2 hC30 hC37 hC72 L hLL left left_1 left_2 left_3 right X0 l' h' l1 D' h'_1 ya hya l1_1 D1 h1 Do h4 tk4 vsO lsO h'_2 z0q l'_1 h'_3 l1_2 D'_1 h'_4 yb hyb l1_3 D5 h5 Dt h8 tk8 vsT lsT XO hxO okO XT hxT okT cLed R hlOm hlTm hsO' hsT' hOff l72 l37 l30 h9 c1 d1 tk_1 h'_5 tk' t' h'_6 tk_2 hc5 hc4 hc3 hc2 Rv Dv oD ps72 ents0 kvs h12 tk12 y0 y1 y2 y3 ht72 hoD hDsys st hst ents R2 hR2 hOff2 hRvm hDvm hE2 hRR h13 c2 d2 tk_3 Ds h15 tk15 zs R3 hR3 hOff3 hR23 hDsm h16 c3 d3 h'_7 Dc q1 q2 q3 q4 q5 q6 q7 q8 q9 h19 c4 d4 W hW hW7 hW12 tk_4 hDsm2 hDcO h'_8 tk_5 g m' hg12 cs nc tw z1q hmo hcs hcl hkl Dk ck hk tkk vsk ltk hIk hkeys R5 hR5 hOff5 hR35 hDcm hT0 hRR5 hl1 tkl1 p37a exa ua hTa hGa R6 hR56 hOff6 hT6 hRR6 hl2_1 tkl2 p37b exb ub hTb hGb R7 hR67 hOff7 hT7 hx32 hy32 hbitsO hbitsT h20 ss hss hzs' hs3 hs25 hnlt h'_9 tk_6 h'_9_1 tk_6_1 t₁ u₁ v₁ hrg a_3 I i t m32 h32 tk32 hi c5 p30 p37 Rx tw2 tn v5 hmw hmn hv5 hR7x hOffx hTx hne io hio hOffI h34 c5n d5n hTn hb1 hb0 hdiv hmod Dq h36 tk36 p30b p37b2 exq u1 u2 hlt36 h37D ex1 hOffA hTA hfA hDqm z2q z3q z4q z5q hrlt Dd h40 tk40 ys nl p30c exi kk hys hxk hKmin hlt40 h37Dd ex2 hOffB hTB hfB hDdm hkk16 hyl z6q z7q z8q z9q z10q e16 Dm h45 lt45 a N a_1 a_2 a_4 a_5 tz Dg h46 lt46 gs hgs hgl z11q z12q z13q tk
      exact hole.out
    · revert w s₀ s₁ mg mb G Y fa o pm cd doc hcd hg X T B hT9 w_1 hs hlay0 hL hr hl2 w_2 w_3 w_4 w_5 w_6 hL_1 ra w1 r0 hInts hr_1 hlen63 hcond' hD h₁ tk₁ w_7 w_8 w_9 w_10 w_11 g₀ X' T' K' hScr codeHd codeHd_1 codeHd_2 hC30 hC37 hC72 L hLL left left_1 left_2 left_3 right X0 l' h' l1 D' h'_1 ya hya l1_1 D1 h1 Do h4 tk4 vsO lsO h'_2 tk l'_1 h'_3 l1_2 D'_1 h'_4 yb hyb l1_3 D5 h5 Dt h8 tk8 vsT lsT XO hxO okO XT hxT okT cLed R hlOm hlTm hsO' hsT' hOff l72 l37 l30 h9 c1 d1 tk_1 h'_5 tk' t' h'_6 tk_2 hc5 hc4 hc3 hc2 Rv Dv oD ps72 ents0 kvs h12 tk12 y0 y1 y2 y3 ht72 hoD hDsys st hst ents R2 hR2 hOff2 hRvm hDvm hE2 hRR h13 c2 d2 tk_3 Ds h15 tk15 zs R3 hR3 hOff3 hR23 hDsm h16 c3 d3 h'_7 Dc q1 q2 q3 q4 q5 q6 q7 q8 q9 h19 c4 d4 W hW hW7 hW12 tk_4 hDsm2 hDcO h'_8 tk_5 g m' hg12 cs nc tw hmw hmo hcs hcl hkl Dk ck hk tkk vsk ltk hIk hkeys R5 hR5 hOff5 hR35 hDcm hT0 hRR5 hl1 tkl1 p37a exa ua hTa hGa R6 hR56 hOff6 hT6 hRR6 hl2_1 tkl2 p37b exb ub hTb hGb R7 hR67 hOff7 hT7 hx32 hy32 hbitsO hbitsT h20 ss hss hzs' hs3 hs25 hnlt h'_9 F' N' tk_6 h'_9_1 tk_6_1 t₁ u₁ v₁ hrg F31 N31 a_3
      exact hole2.out
end

section -- walk Lj
local macro_rules | `(tactic| walk_at "call ref") => `(tactic| (k_here; refine Halt.out ?_))
local macro_rules | `(tactic| walk_at "eval ListComp") => `(tactic| (k_here; refine Halt.out ?_))
local macro_rules | `(tactic| walk_at "CompSrcT") => `(tactic| (refine Halt.out ?_))
local macro_rules | `(tactic| walk_at "RngSrc") => `(tactic| (refine Halt.out ?_))
local macro_rules | `(tactic| walk_at "NatEnd") => `(tactic| (refine Halt.out ?_))
local macro_rules | `(tactic| walk_at "compareOp NotEq ref ref") => `(tactic| (k_here; refine Halt.out ?_))
set_option tactic.hygienic false in
noncomputable def pLj : {P : Prop // Wrap P → pLi.1.1} := by
  refine ⟨?P, ?walk⟩
  case walk =>
    intro hole
    intro w s₀ s₁ mg mb G Y fa o pm cd doc hcd hg X T B hT9 w_1 hs hlay0 hL hr hl2 w_2 w_3 w_4 w_5 w_6 hL_1 ra w1 r0 hInts hr_1 hlen63 hcond' hD h₁ tk₁ w_7 w_8 w_9 w_10 w_11 g₀ X' T' K' hScr codeHd codeHd_1 codeHd_2 hC30 hC37 hC72 L hLL left left_1 left_2 left_3 right X0 l' h' l1 D' h'_1 ya hya l1_1 D1 h1 Do h4 tk4 vsO lsO h'_2 tk l'_1 h'_3 l1_2 D'_1 h'_4 yb hyb l1_3 D5 h5 Dt h8 tk8 vsT lsT XO hxO okO XT hxT okT cLed R hlOm hlTm hsO' hsT' hOff l72 l37 l30 h9 c1 d1 tk_1 h'_5 tk' t' h'_6 tk_2 hc5 hc4 hc3 hc2 Rv Dv oD ps72 ents0 kvs h12 tk12 y0 y1 y2 y3 ht72 hoD hDsys st hst ents R2 hR2 hOff2 hRvm hDvm hE2 hRR h13 c2 d2 tk_3 Ds h15 tk15 zs R3 hR3 hOff3 hR23 hDsm h16 c3 d3 h'_7 Dc q1 q2 q3 q4 q5 q6 q7 q8 q9 h19 c4 d4 W hW hW7 hW12 tk_4 hDsm2 hDcO h'_8 tk_5 g m' hg12 cs nc tw hmw hmo hcs hcl hkl Dk ck hk tkk vsk ltk hIk hkeys R5 hR5 hOff5 hR35 hDcm hT0 hRR5 hl1 tkl1 p37a exa ua hTa hGa R6 hR56 hOff6 hT6 hRR6 hl2_1 tkl2 p37b exb ub hTb hGb R7 hR67 hOff7 hT7 hx32 hy32 hbitsO hbitsT h20 ss hss hzs' hs3 hs25 hnlt h'_9 tk_6 h'_9_1 tk_6_1 t₁ u₁ v₁ hrg a_3 I i t m32 h32 tk32 hi c5 p30 p37 Rx tw2 tn v5 hmw_1 hmn hv5 hR7x hOffx hTx hne io hio hOffI h34 c5n d5n hTn hb1 hb0 hdiv hmod Dq h36 tk36 p30b p37b2 exq u1 u2 hlt36 h37D ex1 hOffA hTA hfA hDqm h'_10 h'_11 h'_12 tk_7 hrlt Dd h40 tk40 ys nl p30c exi kk hys hxk hKmin hlt40 h37Dd ex2 hOffB hTB hfB hDdm hkk16 hyl h'_13 tk_8 l'_2 h'_14 l1_4 e16 Dm h45 lt45 a N a_1 a_2 a_4 a_5 tz Dg h46 lt46 gs hgs hgl h'_15 F' N' tk_9
    rename Fr _ _ _ _ => F48
    rename News _ _ _ _ => N48
    have hDsx : (Ds, LCg.lst (natsV zs)) ∈ ex2 ++ (ex1 ++ (I, io) :: Rx) := List.mem_append_right _ (List.mem_append_right _ (.tail _ (hR7x _ (hR67 _ (hR56 _ (hR35 _ hDsm))))))
    obtain ⟨Ry, hRy⟩ : ∃ Ry : List (Addr × Obj), Ry = ex2 ++ (ex1 ++ (I, io) :: Rx) := ⟨_, rfl⟩
    rw [← hRy] at hDsx
    have N49 : News g₀ L _ ((Dg, listOf (natsV gs).toArray 0) :: (Ds, LCg.lst (natsV zs)) :: (L + 1 + 1 + 1 + 1 + 1, c5n) :: (L + 1 + 1 + 1 + 1, c4) :: (L + 1 + 1 + 1, c3) :: (L + 1 + 1, c2) :: (L + 1, c1) :: (72, tabObj ps72) :: (37, tabObj p37b2) :: (30, tabObj p30c) :: Ry) := News.perm N48 (by
      intro p hp
      rw [← hRy]
      rcases List.mem_cons.mp hp with h | h
      · exact h ▸ .head _
      rcases List.mem_cons.mp h with h | h
      · rw [h]; exact .tail _ (.tail _ (.tail _ (.tail _ (.tail _ (.tail _ (.tail _ (.tail _ (.tail _ hDsx))))))))
      · exact .tail _ h)
    clear N48
    have hzl : zs.length = ss.length := by rw [← hzs', List.length_map]
    refine comp_cell (g := Mine.hs i ss) F48 N49 (by rfl) (by rfl) (by decide) (by intro _; rfl) (by intro _; rfl) (by rfl) ?_ ?_ ?_
    · k_steps
      refine Halt.on ?_
      exact RngSrc.intro rfl (by assumption) (by assumption) (by assumption)
    · intro j zj I2 oI2 C2 oC2 cc oc D2 tj h50 tk50 E50 hj hocd F50 N50
      clear F48 N49
      k_steps
      refine Halt.on ?_
      rename Fr _ _ _ _ => F51
      rename News _ _ _ _ => N51
      refine LCt.ListComp_T (F₀ := F51) (by rfl) (by decide) (by rfl) (by decide) (by rfl) ?_
      k_steps
      refine Halt.on ?_
      rename Fr _ _ _ _ => F52
      rename News _ _ _ _ => N52
      refine LCt.CompSrcT.ledger rfl F52 N52 (List.mem_of_getElem? (i := 5) rfl) (by rw [List.size_toArray, List.length_map, hzl]; exact Nat.le_trans hs25 (by decide)) ?_
      intro g52
      rw [List.size_toArray, List.length_map]
      refine compt_nat (zs := zs) (p := fun z => z % 16 == j) (g := fun z => Mine.ck i (z / 16)) (.inr ⟨_, List.mem_of_getElem? (i := 5) rfl, rfl, _, rfl⟩) ?_ ?_ ?_
      · intro z tz I3 oI3 C3 oC3 D3 ys3 m3 h53 tk53 E53 hzm hns3 hx3 F53 N53
        clear F52 N52
        k_steps
        exact fmod_eq16 z j
      · intro z tz I3 oI3 C3 oC3 D3 ys3 m3 h53 tk53 E53 hzm hpz hns3 hx3 F53 N53
        clear F52 N52
        have hz4 : z / 16 ≤ 3 := hs3 z (hzs' ▸ hzm)
        k_steps
        refine Halt.on ?_
        rename Fr _ _ _ _ => F54
        rename News _ _ _ _ => N54
        rw [show Int.fdiv (z : Int) 16 = ((z / 16 : Nat) : Int) by rw [Int.fdiv_eq_ediv_of_nonneg _ (by decide)]; rfl]
        refine lp_call (t := ((z / 16 : Nat) : Int)) (by omega) (by omega) (by assumption) F54 (by assumption) N54 (by assumption) rfl (by decide) (by decide) ?_
        intro D4 h55 tk55 v0 v1 v2 v3 F55 N55 lt55
        clear F54 N54
        k_steps
        refine Halt.on ?_
        rename Fr _ _ _ _ => F56
        rename News _ _ _ _ => N56
        exact NatEnd.intro F56 N56 (fun p hp => .tail _ hp) (getD_ck hi hz4)
      · intro ws hws
        unfold LCg.FinE
        intro D3 h54 tk54 F54 N54 off54
        have hI54 := natsV_ints ws
        clear F52 N52
        k_steps
        refine Halt.on ?_
        refine NatEnd.intro (by assumption) (by assumption) ?_ ?_
        · exact fun p hp => .tail _ hp
        · rw [sum_cast, hws, hzs']; rfl
    · intro D3 h60 tk60 z3 F60 N60 lt60 hz3
      clear F48 N49
      k_steps
      refine Halt.on ?_
      rename Fr _ _ _ _ => F61
      rename News _ _ _ _ => N61
      refine ne_intsK (vs := natsV gs) (ns := gs.map fun z => (z.1 : Int)) (us := natsV z3) (ms := z3.map fun z => (z.1 : Int)) ⟨_, nat_ N61 1 rfl, rfl, _, rfl⟩ (natsV_ints gs) ⟨_, nat_ N61 0 rfl, rfl, _, rfl⟩ (natsV_ints z3) (by show callerA.units + 3 + 64 < cLine; decide) ?_
      have heq3 : (gs.map fun z => (z.1 : Int)) = z3.map fun z => (z.1 : Int) := by
        have e : ∀ l : List (Nat × Tok), (l.map fun z => (z.1 : Int)) = (l.map (·.1)).map fun n : Nat => (n : Int) := fun l => by rw [List.map_map]; rfl
        rw [e, e, hgs, hz3]; rfl
      rw [decide_eq_true heq3]
      k_steps
      refine Halt.on ?_
      revert w s₀ s₁ mg mb G Y fa o pm cd doc hcd hg X T B hT9 w_1 hs hlay0 hL hr hl2 w_2 w_3 w_4 w_5 w_6 hL_1 ra w1 r0 hInts hr_1 hlen63 hcond' hD h₁ tk₁ w_7 w_8 w_9 w_10 w_11 g₀ X' T' K' hScr codeHd codeHd_1 codeHd_2 hC30 hC37 hC72 L hLL left left_1 left_2 left_3 right X0 l' h' l1 D' h'_1 ya hya l1_1 D1 h1 Do h4 tk4 vsO lsO h'_2 tk l'_1 h'_3 l1_2 D'_1 h'_4 yb hyb l1_3 D5 h5 Dt h8 tk8 vsT lsT XO hxO okO XT hxT okT cLed R hlOm hlTm hsO' hsT' hOff l72 l37 l30 h9 c1 d1 tk_1 h'_5 tk' t' h'_6 tk_2 hc5 hc4 hc3 hc2 Rv Dv oD ps72 ents0 kvs h12 tk12 y0 y1 y2 y3 ht72 hoD hDsys st hst ents R2 hR2 hOff2 hRvm hDvm hE2 hRR h13 c2 d2 tk_3 Ds h15 tk15 zs R3 hR3 hOff3 hR23 hDsm h16 c3 d3 h'_7 Dc q1 q2 q3 q4 q5 q6 q7 q8 q9 h19 c4 d4 W hW hW7 hW12 tk_4 hDsm2 hDcO h'_8 tk_5 g m' hg12 cs nc tw hmw hmo hcs hcl hkl Dk ck hk tkk vsk ltk hIk hkeys R5 hR5 hOff5 hR35 hDcm hT0 hRR5 hl1 tkl1 p37a exa ua hTa hGa R6 hR56 hOff6 hT6 hRR6 hl2_1 tkl2 p37b exb ub hTb hGb R7 hR67 hOff7 hT7 hx32 hy32 hbitsO hbitsT h20 ss hss hzs' hs3 hs25 hnlt h'_9 tk_6 h'_9_1 tk_6_1 t₁ u₁ v₁ hrg a_3 I i t m32 h32 tk32 hi c5 p30 p37 Rx tw2 tn v5 hmw_1 hmn hv5 hR7x hOffx hTx hne io hio hOffI h34 c5n d5n hTn hb1 hb0 hdiv hmod Dq h36 tk36 p30b p37b2 exq u1 u2 hlt36 h37D ex1 hOffA hTA hfA hDqm h'_10 h'_11 h'_12 tk_7 hrlt Dd h40 tk40 ys nl p30c exi kk hys hxk hKmin hlt40 h37Dd ex2 hOffB hTB hfB hDdm hkk16 hyl h'_13 tk_8 l'_2 h'_14 l1_4 e16 Dm h45 lt45 a N a_1 a_2 a_4 a_5 tz Dg h46 lt46 gs hgs hgl h'_15 tk_9 Ry hDsx hRy hzl D3 h60 tk60 z3 F61 N61 lt60 hz3 heq3
      exact hole.out
end

section -- walk Lk
local macro_rules | `(tactic| walk_at "call ref") => `(tactic| (k_here; refine Halt.out ?_))
local macro_rules | `(tactic| walk_at "eval ListComp") => `(tactic| (k_here; refine Halt.out ?_))
local macro_rules | `(tactic| walk_at "CompSrc") => `(tactic| (refine Halt.out ?_))
local macro_rules | `(tactic| walk_at "CompEnd") => `(tactic| (refine Halt.out ?_))
local macro_rules | `(tactic| walk_at "compareOp NotEq ref ref") => `(tactic| (k_here; refine Halt.out ?_))
local macro_rules | `(tactic| walk_at "compareOp In int ref") => `(tactic| (k_here; refine Halt.out ?_))
local macro_rules | `(tactic| walk_at "subscriptTail Subscript Name ref int") => `(tactic| (k_here; refine Halt.out ?_))
set_option tactic.hygienic false in
theorem pLk : pLj.1 := by
  intro w s₀ s₁ mg mb G Y fa o pm cd doc hcd hg X T B hT9 w_1 hs hlay0 hL hr hl2 w_2 w_3 w_4 w_5 w_6 hL_1 ra w1 r0 hInts hr_1 hlen63 hcond' hD h₁ tk₁ w_7 w_8 w_9 w_10 w_11 g₀ X' T' K' hScr codeHd codeHd_1 codeHd_2 hC30 hC37 hC72 L hLL left left_1 left_2 left_3 right X0 l' h' l1 D' h'_1 ya hya l1_1 D1 h1 Do h4 tk4 vsO lsO h'_2 tk l'_1 h'_3 l1_2 D'_1 h'_4 yb hyb l1_3 D5 h5 Dt h8 tk8 vsT lsT XO hxO okO XT hxT okT cLed R hlOm hlTm hsO' hsT' hOff l72 l37 l30 h9 c1 d1 tk_1 h'_5 tk' t' h'_6 tk_2 hc5 hc4 hc3 hc2 Rv Dv oD ps72 ents0 kvs h12 tk12 y0 y1 y2 y3 ht72 hoD hDsys st hst ents R2 hR2 hOff2 hRvm hDvm hE2 hRR h13 c2 d2 tk_3 Ds h15 tk15 zs R3 hR3 hOff3 hR23 hDsm h16 c3 d3 h'_7 Dc q1 q2 q3 q4 q5 q6 q7 q8 q9 h19 c4 d4 W hW hW7 hW12 tk_4 hDsm2 hDcO h'_8 tk_5 g m' hg12 cs nc tw hmw hmo hcs hcl hkl Dk ck hk tkk vsk ltk hIk hkeys R5 hR5 hOff5 hR35 hDcm hT0 hRR5 hl1 tkl1 p37a exa ua hTa hGa R6 hR56 hOff6 hT6 hRR6 hl2_1 tkl2 p37b exb ub hTb hGb R7 hR67 hOff7 hT7 hx32 hy32 hbitsO hbitsT h20 ss hss hzs' hs3 hs25 hnlt h'_9 tk_6 h'_9_1 tk_6_1 t₁ u₁ v₁ hrg a_3 I i t m32 h32 tk32 hi c5 p30 p37 Rx tw2 tn v5 hmw_1 hmn hv5 hR7x hOffx hTx hne io hio hOffI h34 c5n d5n hTn hb1 hb0 hdiv hmod Dq h36 tk36 p30b p37b2 exq u1 u2 hlt36 h37D ex1 hOffA hTA hfA hDqm h'_10 h'_11 h'_12 tk_7 hrlt Dd h40 tk40 ys nl p30c exi kk hys hxk hKmin hlt40 h37Dd ex2 hOffB hTB hfB hDdm hkk16 hyl h'_13 tk_8 l'_2 h'_14 l1_4 e16 Dm h45 lt45 a N a_1 a_2 a_4 a_5 tz Dg h46 lt46 gs hgs hgl h'_15 tk_9 Ry hDsx hRy hzl D3 h60 tk60 z3 F61 N61 lt60 hz3 heq3
  rename Fr _ _ _ _ => F62
  rename News _ _ _ _ => N62
  have hR5y : ∀ p ∈ R5, p ∈ Ry := fun p hp => by rw [hRy]; exact List.mem_append_right _ (List.mem_append_right _ (.tail _ (hR7x _ (hR67 _ (hR56 _ hp)))))
  have hR2y : ∀ p ∈ R2, p ∈ Ry := fun p hp => hR5y _ (hR35 _ (hR23 _ hp))
  have hEy : EntRel Ry kvs st.ents := hE2.mono hR2y
  have N63 : News g₀ L _ ((Dg, listOf (natsV gs).toArray 0) :: (Dc, listOf (natsV cs).toArray nc) :: (Rv, tup [.int st.tot.1 y0, .int st.tot.2.1 y1, .int st.tot.2.2.1 y2, .int st.tot.2.2.2 y3, .ref Dv]) :: (Dv, oD) :: (L + 1 + 1 + 1 + 1 + 1, c5n) :: (L + 1 + 1 + 1 + 1, c4) :: (L + 1 + 1 + 1, c3) :: (L + 1 + 1, c2) :: (L + 1, c1) :: (72, tabObj ps72) :: (37, tabObj p37b2) :: (30, tabObj p30c) :: Ry) := News.perm N62 (by
    have up : ∀ p ∈ Ry, p ∈ (D3, LCg.lst (List.map (fun z => Value.int (z.1 : Int) z.2) z3)) :: (Dg, listOf (natsV gs).toArray 0) :: (Ds, LCg.lst (natsV zs)) :: (L + 1 + 1 + 1 + 1 + 1, c5n) :: (L + 1 + 1 + 1 + 1, c4) :: (L + 1 + 1 + 1, c3) :: (L + 1 + 1, c2) :: (L + 1, c1) :: (72, tabObj ps72) :: (37, tabObj p37b2) :: (30, tabObj p30c) :: Ry := fun p hp => .tail _ (.tail _ (.tail _ (.tail _ (.tail _ (.tail _ (.tail _ (.tail _ (.tail _ (.tail _ (.tail _ hp))))))))))
    refine List.forall_mem_cons.mpr ⟨.tail _ (.head _), List.forall_mem_cons.mpr ⟨up _ (hR5y _ hDcm), List.forall_mem_cons.mpr ⟨up _ (hR2y _ hRvm), List.forall_mem_cons.mpr ⟨up _ (hR2y _ hDvm), fun p hp => .tail _ (.tail _ (.tail _ hp))⟩⟩⟩⟩)
  clear N62
  have hcs' : cs.map (·.1) = cameOf ss := by rw [hcs, hzs']
  refine LCg.ListComp_U (F₀ := F62) (by rfl) (by decide) (by rfl) (by decide) (by rfl) ?_
  k_steps
  refine Halt.on ?_
  rename Fr _ _ _ _ => F64
  rename News _ _ _ _ => N64
  rename IsRange _ _ _ _ _ _ _ _ => hrg2
  refine LCg.CompSrc.range (n := 16) rfl F64 N64 hrg2 (by decide) (by decide) (by decide) ?_
  intro g64
  refine comp_ind (fun j ys nw => nw = (Dg, listOf (natsV gs).toArray 0) :: (Dc, listOf (natsV cs).toArray nc) :: (Rv, tup [.int st.tot.1 y0, .int st.tot.2.1 y1, .int st.tot.2.2.1 y2, .int st.tot.2.2.2 y3, .ref Dv]) :: (Dv, oD) :: (L + 1 + 1 + 1 + 1 + 1, c5n) :: (L + 1 + 1 + 1 + 1, c4) :: (L + 1 + 1 + 1, c3) :: (L + 1 + 1, c2) :: (L + 1, c1) :: (72, tabObj ps72) :: (37, tabObj p37b2) :: (30, tabObj p30c) :: Ry ∧ ∃ ws : List (Nat × Tok), ys = natsV ws ∧ ws.map (·.1) = (List.range j).map (Mine.hs i ss)) ⟨rfl, [], rfl, rfl⟩ ?_ ?_
  · rintro j ys nw v I2 oI2 C2 oC2 D2 m₂ h tk E' hj ⟨tj, hv⟩ ⟨rfl, ws, rfl, hws⟩ hC hx F65 N65 off ne
    rw [Int.zero_add] at hv
    subst hv
    clear F64 N64
    k_steps
    refine Halt.on ?_
    rename Fr _ _ _ _ => F66
    rename News _ _ _ _ => N66
    refine in_list_ints (vs := natsV cs) (ns := cs.map fun z => (z.1 : Int)) ⟨_, nat_ N66 4 rfl, rfl, _, rfl⟩ (natsV_ints cs) ?_
    rw [any_mem, hcs']
    have hval := ents_val i j ss hs3
    rw [← hss, ← outerP_eq, hst, hss] at hval
    by_cases hmem : j ∈ cameOf ss
    · rw [decide_eq_true hmem]
      obtain ⟨r, hr⟩ : ∃ r, valE st.ents (j : Int) = some r := by
        cases hv : valE st.ents (j : Int) with
        | some r => exact ⟨r, rfl⟩
        | none =>
          refine absurd ?_ ((valE_none _ _).mp hv)
          rw [← hst, outerP_eq, hss, keys_came]
          exact List.mem_map.mpr ⟨j, hmem, rfl⟩
      rw [hr] at hval
      have hval' : comp i r = ((Mine.hs i ss j : Nat) : Int) := hval
      obtain ⟨q, tq, hvq, hqm⟩ := hEy.val hr
      k_steps
      rename Fr _ _ _ _ => F67
      rename News _ _ _ _ => N67
      refine wpAny_getItem_of (intKind_is _ _ _ _) (Heap.DictOf.mapOf (Heap.dictOf_iff.mpr ⟨oD, nat_ N67 6 rfl, hoD⟩)) hvq ?_
      have N68 : News g₀ L _ ((q, tupR r tq) :: _) := List.forall_mem_cons.mpr ⟨N67 _ (.tail _ (.tail _ (.tail _ (.tail _ (.tail _ (.tail _ (.tail _ (.tail _ (.tail _ (.tail _ (.tail _ (.tail _ (.tail _ (.tail _ (.tail _ hqm))))))))))))))), N67⟩
      clear N67
      k_steps
      refine Halt.on ?_
      rename Fr _ _ _ _ => F69
      rename News _ _ _ _ => N69
      rw [getD_comp hi r, hval']
      refine LCg.CompEnd.intro F69 N69 _ (fun p hp => .tail _ hp) off trivial ⟨rfl, _, snoc_nat ws _ _, ?_⟩
      · rw [List.map_append, hws, List.range_succ, List.map_append, List.map_singleton, List.map_singleton]
    · rw [decide_eq_false hmem]
      k_steps
      refine Halt.on ?_
      rename Fr _ _ _ _ => F67
      rename News _ _ _ _ => N67
      refine LCg.CompEnd.intro F67 N67 _ (fun p hp => hp) off trivial ⟨rfl, _, snoc_nat ws 0 _, ?_⟩
      · rw [List.map_append, hws, List.range_succ, List.map_append, List.map_singleton, List.map_singleton, hs_none i j ss hmem]
  · rintro ys nw ⟨rfl, ws, rfl, hws⟩
    unfold LCg.FinE
    intro D4 h70 tk70 F70 N70 off70
    clear F64 N64
    k_steps
    refine Halt.on ?_
    rename Fr _ _ _ _ => F71
    rename News _ _ _ _ => N71
    refine ne_intsK (vs := natsV gs) (ns := gs.map fun z => (z.1 : Int)) (us := natsV ws) (ms := ws.map fun z => (z.1 : Int)) ⟨_, nat_ N71 1 rfl, rfl, _, rfl⟩ (natsV_ints gs) ⟨_, nat_ N71 0 rfl, rfl, _, rfl⟩ (natsV_ints ws) (by show callerA.units + 3 + 64 < cLine; decide) ?_
    have heq4 : (gs.map fun z => (z.1 : Int)) = ws.map fun z => (z.1 : Int) := by
      have e : ∀ l : List (Nat × Tok), (l.map fun z => (z.1 : Int)) = (l.map (·.1)).map fun n : Nat => (n : Int) := fun l => by rw [List.map_map]; rfl
      rw [e, e, hgs, hws]; rfl
    rw [decide_eq_true heq4]
    have hIgs := natsV_ints gs
    k_steps
    rename Fr _ _ _ _ => F72
    rename News _ _ _ _ => N72
    obtain ⟨tx, htx⟩ := tup_at hi st.tot y0 y1 y2 y3 (.ref Dv)
    have htot : comp i st.tot = (gs.map fun z => (z.1 : Int)).sum := by
      rw [sum_cast', hgs, hsL_sum, ← hst, outerP_eq, hss, tot_sum i ss hs3]
    rw [htot] at htx
    refine item_tupleL (l := [.int st.tot.1 y0, .int st.tot.2.1 y1, .int st.tot.2.2.1 y2, .int st.tot.2.2.2 y3, .ref Dv]) (j := i) ⟨_, nat_ N72 3 rfl, rfl, _, rfl⟩ (by omega) (by omega) (seq_at hi) htx ?_
    k_steps
    · contradiction
    · rename Fr _ _ _ _ => F73
      rename News _ _ _ _ => N73
      have hIx : ∀ p ∈ Rx, p.1 ≠ I := fun p hp => hne p (.tail _ (.tail _ (.tail _ (.tail _ (.tail _ (.tail _ (.tail _ (.tail _ hp))))))))
      have hI1 : ∀ p ∈ ex1, p.1 ≠ I := fun p hp => Nat.ne_of_gt (hfA p hp (I, io) (.tail _ (.tail _ (.tail _ (.tail _ (.tail _ (.tail _ (.head _))))))))
      have hI2 : ∀ p ∈ ex2, p.1 ≠ I := fun p hp => Nat.ne_of_gt (hfB p hp (I, io) (.tail _ (.tail _ (.tail _ (.tail _ (.tail _ (.tail _ (List.mem_append_right _ (.head _))))))))) 
      have hIR : ∀ p ∈ ex2 ++ (ex1 ++ Rx), p.1 ≠ I := fun p hp => by
        rcases List.mem_append.mp hp with h | h
        · exact hI2 p h
        · rcases List.mem_append.mp h with h | h
          · exact hI1 p h
          · exact hIx p h
      have hRsub : ∀ p ∈ ex2 ++ (ex1 ++ Rx), p ∈ Ry := fun p hp => by
        rw [hRy]
        rcases List.mem_append.mp hp with h | h
        · exact List.mem_append_left _ h
        · rcases List.mem_append.mp h with h | h
          · exact List.mem_append_right _ (List.mem_append_left _ h)
          · exact List.mem_append_right _ (List.mem_append_right _ (.tail _ h))
      refine LoopStepU.intro (news₂ := LedL L c5n c4 c3 c2 c1 ps72 p37b2 p30c (ex2 ++ (ex1 ++ Rx))) F73 ?_ ?_ ?_
      · refine News.perm N73 ?_
        have hIy : (I, io) ∈ Ry := by rw [hRy]; exact List.mem_append_right _ (List.mem_append_right _ (.head _))
        have up5 : ∀ p, p ∈ ((L + 1 + 1 + 1 + 1 + 1, c5n) :: (L + 1 + 1 + 1 + 1, c4) :: (L + 1 + 1 + 1, c3) :: (L + 1 + 1, c2) :: (L + 1, c1) :: (72, tabObj ps72) :: (37, tabObj p37b2) :: (30, tabObj p30c) :: Ry : List (Addr × Obj)) → p ∈ ((D4, LCg.lst (natsV ws)) :: (Dg, listOf (natsV gs).toArray 0) :: (Dc, listOf (natsV cs).toArray nc) :: (Rv, tup [.int st.tot.1 y0, .int st.tot.2.1 y1, .int st.tot.2.2.1 y2, .int st.tot.2.2.2 y3, .ref Dv]) :: (Dv, oD) :: (L + 1 + 1 + 1 + 1 + 1, c5n) :: (L + 1 + 1 + 1 + 1, c4) :: (L + 1 + 1 + 1, c3) :: (L + 1 + 1, c2) :: (L + 1, c1) :: (72, tabObj ps72) :: (37, tabObj p37b2) :: (30, tabObj p30c) :: Ry : List (Addr × Obj)) := fun p hp => .tail _ (.tail _ (.tail _ (.tail _ (.tail _ hp))))
        intro p hp
        apply up5
        rcases List.mem_append.mp hp with hp | hp
        · rw [List.mem_singleton.mp hp]
          exact .tail _ (.tail _ (.tail _ (.tail _ (.tail _ (.tail _ (.tail _ (.tail _ hIy)))))))
        · rcases List.mem_cons.mp hp with h | hp
          · rw [h]; exact .head _
          refine .tail _ ?_
          rcases List.mem_cons.mp hp with h | hp
          · rw [h]; exact .head _
          refine .tail _ ?_
          rcases List.mem_cons.mp hp with h | hp
          · rw [h]; exact .head _
          refine .tail _ ?_
          rcases List.mem_cons.mp hp with h | hp
          · rw [h]; exact .head _
          refine .tail _ ?_
          rcases List.mem_cons.mp hp with h | hp
          · rw [h]; exact .head _
          refine .tail _ ?_
          rcases List.mem_cons.mp hp with h | hp
          · rw [h]; exact .head _
          refine .tail _ ?_
          rcases List.mem_cons.mp hp with h | hp
          · rw [h]; exact .head _
          refine .tail _ ?_
          rcases List.mem_cons.mp hp with h | hp
          · rw [h]; exact .head _
          exact .tail _ (hRsub p hp)
      · have hx : ∀ p ∈ LedL L c5n c4 c3 c2 c1 ps72 p37b2 p30c (ex2 ++ (ex1 ++ Rx)), p.1 ≠ I :=
          List.forall_mem_cons.mpr ⟨hne (L + 1 + 1 + 1 + 1 + 1, c5) (.head _), List.forall_mem_cons.mpr ⟨hne _ (.tail _ (.head _)), List.forall_mem_cons.mpr ⟨hne _ (.tail _ (.tail _ (.head _))), List.forall_mem_cons.mpr ⟨hne _ (.tail _ (.tail _ (.tail _ (.head _)))), List.forall_mem_cons.mpr ⟨hne _ (.tail _ (.tail _ (.tail _ (.tail _ (.head _))))), List.forall_mem_cons.mpr ⟨hne _ (.tail _ (.tail _ (.tail _ (.tail _ (.tail _ (.head _)))))), List.forall_mem_cons.mpr ⟨hne (37, tabObj p37) (.tail _ (.tail _ (.tail _ (.tail _ (.tail _ (.tail _ (.head _))))))), List.forall_mem_cons.mpr ⟨hne (30, tabObj p30) (.tail _ (.tail _ (.tail _ (.tail _ (.tail _ (.tail _ (.tail _ (.head _)))))))), hIR⟩⟩⟩⟩⟩⟩⟩⟩
        intro p hp h
        exact hx p hp (List.mem_singleton.mp h)
      · have hsubR : ∀ p ∈ ex2 ++ (ex1 ++ Rx), p ∈ ex2 ++ (ex1 ++ (I, io) :: Rx) := fun p hp => by rw [← hRy]; exact hRsub p hp
        refine ⟨c5n, p30c, p37b2, ex2 ++ (ex1 ++ Rx), tw2, u1, _, ?_, ?_, rfl, d5n, fun p hp => List.mem_append_right _ (List.mem_append_right _ (hR7x p hp)), fun a ha p hp => hOffB a ha p (hsubR p hp), ?_⟩
        · rfl
        · rfl
        · have hni : ¬ IsCode io := fun ⟨vs, q, t, e1, e2⟩ => hio vs q t e1 e2
          refine hTB.sub ?_ ?_ ?_
          · intro p hp hcode
            rcases List.mem_cons.mp hp with h | hp
            · rw [h]; exact .head _
            refine .tail _ ?_
            rcases List.mem_cons.mp hp with h | hp
            · rw [h]; exact .head _
            refine .tail _ ?_
            rcases List.mem_cons.mp hp with h | hp
            · rw [h]; exact .head _
            refine .tail _ ?_
            rcases List.mem_cons.mp hp with h | hp
            · rw [h]; exact .head _
            refine .tail _ ?_
            rcases List.mem_cons.mp hp with h | hp
            · rw [h]; exact .head _
            refine .tail _ ?_
            rcases List.mem_cons.mp hp with h | hp
            · rw [h]; exact .head _
            refine .tail _ ?_
            rcases List.mem_append.mp hp with h | h
            · exact List.mem_append_left _ h
            · rcases List.mem_append.mp h with h | h
              · exact List.mem_append_right _ (List.mem_append_left _ h)
              · rcases List.mem_cons.mp h with h | h
                · rw [h] at hcode; exact absurd hcode hni
                · exact List.mem_append_right _ (List.mem_append_right _ h)
          · refine List.forall_mem_cons.mpr ⟨hTB.2.2.1 _ (.head _), List.forall_mem_cons.mpr ⟨hTB.2.2.1 _ (.tail _ (.head _)), List.forall_mem_cons.mpr ⟨hTB.2.2.1 _ (.tail _ (.tail _ (.head _))), List.forall_mem_cons.mpr ⟨hTB.2.2.1 _ (.tail _ (.tail _ (.tail _ (.head _)))), List.forall_mem_cons.mpr ⟨hTB.2.2.1 _ (.tail _ (.tail _ (.tail _ (.tail _ (.head _))))), List.forall_mem_cons.mpr ⟨hTB.2.2.1 _ (.tail _ (.tail _ (.tail _ (.tail _ (.tail _ (.head _)))))), fun p hp => hTB.2.2.1 p (.tail _ (.tail _ (.tail _ (.tail _ (.tail _ (.tail _ (hsubR p hp)))))))⟩⟩⟩⟩⟩⟩
          · refine List.forall_mem_cons.mpr ⟨hTB.2.2.2 _ (.head _), List.forall_mem_cons.mpr ⟨hTB.2.2.2 _ (.tail _ (.head _)), List.forall_mem_cons.mpr ⟨hTB.2.2.2 _ (.tail _ (.tail _ (.head _))), List.forall_mem_cons.mpr ⟨hTB.2.2.2 _ (.tail _ (.tail _ (.tail _ (.head _)))), List.forall_mem_cons.mpr ⟨hTB.2.2.2 _ (.tail _ (.tail _ (.tail _ (.tail _ (.head _))))), List.forall_mem_cons.mpr ⟨hTB.2.2.2 _ (.tail _ (.tail _ (.tail _ (.tail _ (.tail _ (.head _)))))), fun p hp => hTB.2.2.2 p (.tail _ (.tail _ (.tail _ (.tail _ (.tail _ (.tail _ (hsubR p hp)))))))⟩⟩⟩⟩⟩⟩
end

section -- walk Lm

set_option tactic.hygienic false in
theorem pLm : pLi.1.2 := by
  intro w s₀ s₁ mg mb G Y fa o pm cd doc hcd hg X T B hT9 w_1 hs hlay0 hL hr hl2 w_2 w_3 w_4 w_5 w_6 hL_1 ra w1 r0 hInts hr_1 hlen63 hcond' hD h₁ tk₁ w_7 w_8 w_9 w_10 w_11 g₀ X' T' K' hScr codeHd codeHd_1 codeHd_2 hC30 hC37 hC72 L hLL left left_1 left_2 left_3 right X0 l' h' l1 D' h'_1 ya hya l1_1 D1 h1 Do h4 tk4 vsO lsO h'_2 tk l'_1 h'_3 l1_2 D'_1 h'_4 yb hyb l1_3 D5 h5 Dt h8 tk8 vsT lsT XO hxO okO XT hxT okT cLed R hlOm hlTm hsO' hsT' hOff l72 l37 l30 h9 c1 d1 tk_1 h'_5 tk' t' h'_6 tk_2 hc5 hc4 hc3 hc2 Rv Dv oD ps72 ents0 kvs h12 tk12 y0 y1 y2 y3 ht72 hoD hDsys st hst ents R2 hR2 hOff2 hRvm hDvm hE2 hRR h13 c2 d2 tk_3 Ds h15 tk15 zs R3 hR3 hOff3 hR23 hDsm h16 c3 d3 h'_7 Dc q1 q2 q3 q4 q5 q6 q7 q8 q9 h19 c4 d4 W hW hW7 hW12 tk_4 hDsm2 hDcO h'_8 tk_5 g m' hg12 cs nc tw hmw hmo hcs hcl hkl Dk ck hk tkk vsk ltk hIk hkeys R5 hR5 hOff5 hR35 hDcm hT0 hRR5 hl1 tkl1 p37a exa ua hTa hGa R6 hR56 hOff6 hT6 hRR6 hl2_1 tkl2 p37b exb ub hTb hGb R7 hR67 hOff7 hT7 hx32 hy32 hbitsO hbitsT h20 ss hss hzs' hs3 hs25 hnlt h'_9 F' N' tk_6 h'_9_1 tk_6_1 t₁ u₁ v₁ hrg F31 N31 a_3 h'_10 tk_7 m'_1 news' a a_1 a_2
  obtain ⟨c5, p30, p37, Rx, tw2, tn, v5, hmw, hmn, rfl, hv5, hR7x, hOffx, hTx⟩ := by assumption
  rename Fr _ _ _ _ => F80
  rename News _ _ _ _ => N80
  rw [nK_four] at hmn
  rw [map_known hmn] at F80
  dsimp only at F80 ⊢
  k_steps
  exact ⟨rfl, F80.keep, rfl, by assumption, GrownAt.of N80 (.tail _ (.tail _ (.tail _ (.tail _ (.tail _ (.head _)))))), GrownAt.of N80 (.tail _ (.tail _ (.tail _ (.tail _ (.tail _ (.tail _ (.head _))))))), GrownAt.of N80 (.tail _ (.tail _ (.tail _ (.tail _ (.tail _ (.tail _ (.tail _ (.head _)))))))), trivial⟩
end

theorem whole : Challenge.rw_ph0127_01.Holds := pLa.2 ⟨pLb.2 ⟨pLc.2 ⟨pLd.2 ⟨pLe.2 ⟨pLf.2 ⟨pLg.2 ⟨pLi.2 ⟨pLj.2 ⟨pLk⟩⟩ ⟨pLm⟩⟩⟩⟩⟩⟩⟩⟩
end Mine
end
theorem PySem.Challenge.cw_ph0127_01_holds : PySem.Challenge.rw_ph0127_01.Holds := by
  exact Mine.whole
