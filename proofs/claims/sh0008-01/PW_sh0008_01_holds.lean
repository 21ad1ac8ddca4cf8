import PyProof.Rows.All
import Wide.All
import OpenK.AllK
import Wide.FinOn
import PySem.Challenge.RW_sh0008_01
open PySem PySem.W PySem.Calls PyProof.Rows
set_option Elab.async false
set_option maxRecDepth 100000
set_option maxHeartbeats 8000000

namespace Mine
open_top hd for PySem.Challenge.rw_sh0008_01
end Mine

namespace Mine

abbrev prg : Program := PySem.Challenge.rw_sh0008_01.row.prog

/-- what a call of the function at f does with args, over the ledger news: Post tells the answer and the ledger behind it -/
def Con (w : World) (f : Addr) (args : List Value) (room : Nat) (news : List (Addr × Obj)) (Post : Value → List (Addr × Obj) → Prop) : Prop :=
  ∀ (mean : ExcName → Option Value) (mg mb : Str → Option Value) (dp un : Nat) (gd : Option (List Code)) (cn : Str) (cs : Scope) (a : Addr) (ccd : Value) (cl : List (Str × Addr)) (outer : List Env) (A₀ : Around) (base h₀ : Heap) (L : Addr) (m : Str → Option Value) (s : Shared) (Q E : Value → Shared → Prop),
    Below A₀ base outer h₀ → Fr h₀ L s.heap m → (hd.heap_39 w.params).In h₀ → News h₀ L s.heap news → Top hd.view_39 (looseW hd.view_39 []) mean mg mb h₀ → cs.kind = .function →
    dp + room < recursionLimit → un + 8 * room < cLine →
    (∀ r news' h' tk', Fr h₀ L h' m → News h₀ L h' news' → Post r news' → Q r { s with heap := h', toks := tk' }) →
    wpAny (model PySem.Challenge.rw_sh0008_01.row.prog w) (ktrTop dp un gd cn cs L a ccd cl outer) (call (.ref f) args) Q E s

theorem con_high (w : World) (n : Int) (t : Tok) (news : List (Addr × Obj)) :
    Con w 28 [.int n t] 2 news (fun r news' => news' = news ∧ ∃ t', r = .int ((Builtin.Int.intBits n : Int) - 1) t') := by
  unfold Con
  k_fill
  intro mean mg mb dp un gd cn cs a ccd cl outer A₀ base h₀ L m s Q E B F X N T hk hd hu hret
  refine wpAny_call ?_
  k_dflt ktr_enter
  k_steps
  exact hret _ _ _ _ (by assumption) (by assumption) ⟨rfl, _, rfl⟩
end Mine

namespace Mine
/-- the walk halts here: what follows is done by hand -/
@[irreducible] def Stop (P : Prop) : Prop := P
theorem stop_at {P : Prop} (h : Stop P) : P := by unfold Stop at h; exact h
theorem stop_go {P : Prop} (h : P) : Stop P := by unfold Stop; exact h

section
variable {prog : Program} {w : World} {A : Around} {E : Value → Shared → Prop} {s : Shared} {env : Env} {h₀ : Heap} {L : Addr} {m : Str → Option Value} {news : List (Addr × Obj)}

/-- a while by an invariant; nothing in it raises -/
theorem while_inv {test : Expr} {body : List Stmt} {pos : Pos} {Q : Flow → Shared → Prop} (I : Nat → Shared → Prop)
    (turn : ∀ n s, I n s → wpAny (model prog w) A (isTrue test env (eval test env)) (fun b s₂ =>
      if b then wpAny (model prog w) A (execs body env) (fun f s₃ => match f with
          | .next | .cont => Stop (∃ m, m < n ∧ I m s₃)
          | .brk => Q .next s₃
          | .ret v => Q (.ret v) s₃) (fun _ _ => False) s₂
      else Q .next s₂) (fun _ _ => False) s)
    (n : Nat) (h : I n s) : wpAny (model prog w) A (exec (.While test body [] pos) env) Q E s := by
  refine wpAny_While (codeAny_whileLoop I (fun n s hI => ?_) n h)
  refine wpAny_mono (turn n s hI) (fun b s₂ h₂ => ?_) fun _ _ x => x.elim
  cases b with
  | false =>
    simp only [Bool.false_eq_true, if_false] at h₂ ⊢
    exact wpAny_execs_nil h₂
  | true =>
    simp only [if_true] at h₂ ⊢
    refine wpAny_mono h₂ (fun f s₃ h₃ => ?_) fun _ _ x => x.elim
    cases f with
    | next => exact stop_at h₃
    | cont => exact stop_at h₃
    | brk => exact h₃
    | ret v => exact h₃

/-- an iterator of the call's own over a list, at place i -/
def IterO (o : Obj) (l : Addr) (i : Nat) : Prop := o.cls = .type "list_iterator" ∧ o.data = .fields #[.ref l, .int i 0]
theorem IterO.at {h : Heap} {o : Obj} {l it : Addr} {i : Nat} (a : IterO o l i) (ho : h.get? it = some o) : h.IsListIter it l i := ⟨o, ho, a.1, a.2⟩
theorem IterO.new (l : Addr) : IterO { cls := .type "list_iterator", data := .fields #[.ref l, .int 0 0] } l 0 := ⟨rfl, rfl⟩

theorem iter_list {l : Addr} {vs : Array Value} {Q : Value → Shared → Prop} (F : Fr h₀ L s.heap m) (N : News h₀ L s.heap news) (hl : s.heap.IsList l vs)
    (h : ∀ I o h', Fr h₀ L h' m → News h₀ L h' ((I, o) :: news) → IterO o l 0 → (∀ p ∈ news, p.1 < I) → l ≠ I → Q (.ref I) { s with heap := h' }) :
    wpAny (model prog w) A (pyIter (.ref l)) Q E s := by
  refine wpAny_pyIter_list hl ?_
  exact h _ _ _ (F.push _) (N.push F _) (IterO.new l) (fun p hp => Heap.lt_size (N p hp).1) (by obtain ⟨o, ho, _⟩ := hl; exact Nat.ne_of_lt (Heap.lt_size ho))

theorem call_iter {l : Addr} {vs : Array Value} {Q : Value → Shared → Prop} (F : Fr h₀ L s.heap m) (N : News h₀ L s.heap news) (hl : s.heap.IsList l vs)
    (h : ∀ I o h', Fr h₀ L h' m → News h₀ L h' ((I, o) :: news) → IterO o l 0 → (∀ p ∈ news, p.1 < I) → l ≠ I → Q (.ref I) { s with heap := h' }) :
    wpAny (model prog w) A (call (.builtin "iter") [.ref l]) Q E s := by
  refine call_function_entry (by decide +kernel) (by decide +kernel) kdk_entry_iter (kdk_args_iter _) ?_
  unfold Builtin.«iter»
  refine wpAny_bind (m := someArgs "iter" 1 2 _) (wpAny_of_eq (a := [Value.ref l]) (by first | rfl | kernel_rfl!) ?_)
  show wpAny _ _ (pyIter (.ref l) >>= _) _ _ _
  refine wpAny_bind (iter_list F N hl fun I o h' F' N' ho hlt hne => ?_)
  exact wpAny_pure ⟨_, rfl, h I o h' F' N' ho hlt hne⟩

/-- what a list's iterator at place i hands on -/
theorem special_list {it l : Addr} {i : Nat} {items : Array Value} {x : Value} {Q : Option Value → Shared → Prop} (at_i : s.heap.IsListIter it l i) (on : s.heap.IsList l items) (item : items[i]? = some x)
    (next : ∀ h', h'.IsListIter it l (i + 1) → Heap.SameBut it s.heap h' → Q (some x) { s with heap := h' }) : wpAny (model prog w) A (callSpecial? (.ref it) (Str.ofString "__next__")) Q E s := by
  have ty := at_i.typeIs
  rcases at_i with ⟨oi, got, cls, fields⟩
  rcases on with ⟨ol, gotl, _, room, seq⟩
  refine wpAny_callSpecial?_slot ty slot_listiter_next (wpAny_call_entry slot_listiter_next ty entry_listiter_next ?body (args_listiter_next _))
  have moved : (s.heap.update it (Obj.mapFields (·.setIfInBounds 1 (rawInt ((i : Int) + 1))))).IsListIter it l (i + 1) :=
    ⟨_, Heap.get?_update_self _ got (Obj.isFreed_of_fields (Obj.data_mapFields fields _)), by rw [Obj.cls_mapFields, cls], by rw [Obj.data_mapFields fields]; simp [rawInt]⟩
  refine wpAny_bind (m := field (.ref it) 0) (wpAny_field got fields (x := .ref l) rfl ?_)
  refine wpAny_bind (m := field (.ref it) 1) (wpAny_field got fields (x := .int (i : Int) 0) rfl (wpAny_bind (m := seqItems? (.ref l)) (wpAny_seqItems gotl seq ?_)))
  have here : items[((i : Int)).toNat]? = some x := by rw [Int.toNat_natCast]; exact item
  dsimp only
  rw [here]
  exact wpAny_bind (wpAny_setField got fields (by simp) (wpAny_pure ⟨x, rfl, next _ moved (Heap.SameBut.update ..)⟩))

/-- next(it) on an iterator of the call's own -/
theorem call_next {I l : Addr} {i : Nat} {o : Obj} {items : Array Value} {x : Value} {g : Obj → List (Addr × Obj)} {Q : Value → Shared → Prop} (F : Fr h₀ L s.heap m) (N : News h₀ L s.heap news)
    (U : UpdF I o news g) (hi : IterO o l i) (hl : s.heap.IsList l items) (hx : items[i]? = some x)
    (h : ∀ h' o', Fr h₀ L h' m → News h₀ L h' (g o') → IterO o' l (i + 1) → Q x { s with heap := h' }) :
    wpAny (model prog w) A (call (.builtin "next") [.ref I]) Q E s := by
  obtain ⟨pre, post, hl', hg, a, b⟩ := U.split
  have hmem : (I, o) ∈ news := by rw [hl']; exact List.mem_append_right _ (.head _)
  have hm := N (I, o) hmem
  have hit := hi.at hm.1
  refine call_function_entry (by decide +kernel) (by decide +kernel) kdk_entry_next (kdk_args_next _) ?_
  unfold Builtin.«next»
  refine wpAny_bind (m := someArgs "next" 1 2 _) (wpAny_of_eq (a := [Value.ref I]) (by first | rfl | kernel_rfl!) ?_)
  dsimp only
  refine wpAny_bind (wpAny_specialOf (name := Str.ofString "__next__") hit.typeIs slot_listiter_next.lookup ?_)
  refine wpAny_ite_split (fun hab => absurd hab (by decide)) (fun _ => ?_)
  refine wpAny_bind (special_list hit hl hx fun h' hit' hs => ?_)
  obtain ⟨o', ho', hc', hd'⟩ := hit'
  exact wpAny_pure ⟨_, rfl, h h' o' (F.change hs hm.2.1 hm.2.2) (hg o' ▸ (show News h₀ L s.heap (pre ++ (I, o) :: post) from hl' ▸ N).setIn a b hs ho') ⟨hc', hd'⟩⟩

/-- the state at a loop's head: the iterator stands on the ledger's head -/
def LoopSt (h₀ : Heap) (L I l : Addr) (i : Nat) (J : (Str → Option Value) → List (Addr × Obj) → Prop) (s₀ s : Shared) : Prop :=
  ∃ h tk m news o, s = { s₀ with heap := h, toks := tk } ∧ Fr h₀ L h m ∧ News h₀ L h ((I, o) :: news) ∧ IterO o l i ∧ (∀ p ∈ news, p.1 ≠ I) ∧ J m news

/-- a for over a list on the ledger (or below), by an invariant over the frame's map and the ledger; nothing in it raises -/
theorem for_list {target : Expr} {body : List Stmt} {l : Addr} {vs : Array Value} {Q : Flow → Shared → Prop} (J : Nat → (Str → Option Value) → List (Addr × Obj) → Prop)
    (hh : A.handled = none) (F : Fr h₀ L s.heap m) (N : News h₀ L s.heap news) (hl : s.heap.IsList l vs) (hj : J 0 m news)
    (hkeep : ∀ i m' news' I o h, J i m' news' → Fr h₀ L h m' → News h₀ L h ((I, o) :: news') → h.IsList l vs)
    (turn : ∀ i v h tk m₁ news₁ I o, vs[i]? = some v → J i m₁ news₁ → Fr h₀ L h m₁ → News h₀ L h ((I, o) :: news₁) → IterO o l (i + 1) → (∀ p ∈ news₁, p.1 ≠ I) → l ≠ I →
      wpAny (model prog w) A (assign target env v) (fun _ s₂ => wpAny (model prog w) A (execs body env) (fun f s₃ => match f with
          | .next | .cont => Stop (LoopSt h₀ L I l (i + 1) (J (i + 1)) s s₃)
          | .brk => Q .next s₃
          | .ret v => Q (.ret v) s₃) (fun _ _ => False) s₂) (fun _ _ => False) { s with heap := h, toks := tk })
    (done : ∀ h tk m₁ news₁, J vs.size m₁ news₁ → Fr h₀ L h m₁ → News h₀ L h news₁ → Q .next { s with heap := h, toks := tk })
    (ht : ∀ l I h i v A s (Q : Unit → Shared → Prop), h.IsListIter I l i → s.heap = h → Q () s → wpAny (model prog w) A (letOwnedTupleGo target (.ref I) v) Q (fun _ _ => False) s) :
    wpAny (model prog w) A (pyIter (.ref l)) (fun it s₂ => codeAny (model prog w) A (.forLoop target it body [] env) (fun r s' => match r with | .ok f => Q f s' | .error e => cameBackBy (model prog w) A env E e s') s₂) E s := by
  refine iter_list F N hl fun I o h' F' N' ho hlt hne => ?_
  refine codeAny_forLoop_any (fun n s' => ∃ i, n = vs.size - i ∧ i ≤ vs.size ∧ LoopSt h₀ L I l i (J i) s s') ?_ (vs.size - 0)
    ⟨0, rfl, Nat.zero_le _, h', s.toks, m, news, o, rfl, F', N', ho, fun p hp => Nat.ne_of_lt (hlt p hp), hj⟩
  rintro n s' ⟨i, rfl, hi, h, tk, m₁, news₁, o₁, rfl, F₁, N₁, ho₁, hap, hJ⟩
  have hl₁ := hkeep _ _ _ _ _ _ hJ F₁ N₁
  have hm := N₁ (I, o₁) (.head _)
  have hit := ho₁.at hm.1
  cases hv : vs[i]? with
  | none =>
    have hsz : i = vs.size := Nat.le_antisymm hi (by simpa using hv)
    refine wpAny_pyNext_list_end hh hit hl₁ hv fun h₂ he => ?_
    refine wpAny_execs_nil ?_
    subst hsz
    refine done h₂ tk m₁ news₁ hJ ?_ fun p hp => ?_
    · obtain ⟨oL, a1, a2, hoL, a3⟩ := F₁.ns
      refine ⟨⟨oL, a1, a2, he _ _ hm.2.1.symm hoL, a3⟩, fun b x e => he b x ?_ (F₁.keep b x e), F₁.above⟩
      rintro rfl
      rw [hm.2.2] at e; cases e
    · have := N₁ p (.tail _ hp)
      exact ⟨he _ _ (hap p hp) this.1, this.2⟩
  | some v =>
    have hlt : i < vs.size := (Array.getElem?_eq_some_iff.mp hv).1
    refine wpAny_pyNext_list_item hit hl₁ hv fun h₂ hit₂ hs₂ => ?_
    dsimp only
    obtain ⟨o₂, ho₂, hc₂, hd₂⟩ := id hit₂
    have F₂ : Fr h₀ L h₂ m₁ := F₁.change hs₂ hm.2.1 hm.2.2
    have N₂ : News h₀ L h₂ ((I, o₂) :: news₁) := News.setIn (own := []) N₁ (fun _ h => nomatch h) hap hs₂ ho₂
    refine wpAny_mono (ht _ _ _ _ _ _ _ _ hit₂ rfl ?_) (fun _ _ x => x) fun _ _ x => x.elim
    refine wpAny_mono (turn i v h₂ tk m₁ news₁ I o₂ hv hJ F₂ N₂ ⟨hc₂, hd₂⟩ hap hne) (fun _ s₂ h₂ => ?_) fun _ _ x => x.elim
    refine wpAny_mono h₂ (fun f s₃ h₃ => ?_) fun _ _ x => x.elim
    cases f with
    | next => exact ⟨vs.size - (i + 1), by omega, i + 1, rfl, hlt, stop_at h₃⟩
    | cont => exact ⟨vs.size - (i + 1), by omega, i + 1, rfl, hlt, stop_at h₃⟩
    | brk => exact h₃
    | ret v => exact h₃
end
end Mine

namespace Mine

section
variable {g h : Heap} {L : Addr} {m m' : Str → Option Value} {x x' x'' : Str} {v v' v'' : Value}
theorem fr_eqv (F : Fr g L h m) (e : ∀ y, m y = m' y) : Fr g L h m' := by
  have : m = m' := funext e
  rwa [← this]
theorem fr_open1 (F : Fr g L h m) (e : m x = some v) : ∃ m0 : Str → Option Value, Fr g L h (fun y => if y = x then some v else m0 y) :=
  ⟨m, fr_eqv F fun y => by
    by_cases h1 : y = x
    · rw [if_pos h1, h1, e]
    · rw [if_neg h1]⟩
theorem fr_open2 (F : Fr g L h m) (e : m x = some v) (e' : m x' = some v') : ∃ m0 : Str → Option Value, Fr g L h (fun y => if y = x then some v else if y = x' then some v' else m0 y) :=
  ⟨m, fr_eqv F fun y => by
    by_cases h1 : y = x
    · rw [if_pos h1, h1, e]
    · rw [if_neg h1]
      by_cases h1 : y = x'
      · rw [if_pos h1, h1, e']
      · rw [if_neg h1]⟩
theorem fr_open3 (F : Fr g L h m) (e : m x = some v) (e' : m x' = some v') (e'' : m x'' = some v'') : ∃ m0 : Str → Option Value, Fr g L h (fun y => if y = x then some v else if y = x' then some v' else if y = x'' then some v'' else m0 y) :=
  ⟨m, fr_eqv F fun y => by
    by_cases h1 : y = x
    · rw [if_pos h1, h1, e]
    · rw [if_neg h1]
      by_cases h1 : y = x'
      · rw [if_pos h1, h1, e']
      · rw [if_neg h1]
        by_cases h1 : y = x''
        · rw [if_pos h1, h1, e'']
        · rw [if_neg h1]⟩
end
end Mine

namespace Mine

inductive T where
  | leaf (n : Nat)
  | fork (p : Nat) (l r : T)

def T.size : T → Nat
  | .leaf _ => 1
  | .fork _ l r => l.size + r.size + 1

def octsGo (n : Nat) (acc : List Nat) : List Nat :=
  if 63 < n then octsGo (n / 64) ((64 + n / 64 % 64) :: acc) else acc
termination_by n
decreasing_by omega

def octs (n : Nat) : List Nat := octsGo n [n % 64]

def marked (l : List Nat) : List Nat := l.mapIdx fun i o => o + 128 - 128 * (i % 2)

def tape : T → List Nat
  | .leaf n => 0 :: marked (octs n)
  | .fork p l r => (129 + p) :: (octs (tape l).length ++ tape l ++ tape r)

def find (x : Nat) : T → Nat
  | .leaf n => n
  | .fork p l r => if x / 2 ^ p % 2 = 1 then find x r else find x l

def grown (x place : Nat) : T → T
  | .leaf n => if x / 2 ^ place % 2 = 1 then .fork place (.leaf n) (.leaf x) else .fork place (.leaf x) (.leaf n)
  | .fork p l r =>
    if p < place then (if x / 2 ^ place % 2 = 1 then .fork place (.fork p l r) (.leaf x) else .fork place (.leaf x) (.fork p l r))
    else if x / 2 ^ p % 2 = 1 then .fork p l (grown x place r) else .fork p (grown x place l) r

def keys : T → List Nat
  | .leaf n => [n]
  | .fork _ l r => keys l ++ keys r
end Mine

namespace Mine

theorem ite_shadow {α : Type} {c : Prop} [Decidable c] {a b d : α} : (if c then a else if c then b else d) = if c then a else d := by split <;> rfl
theorem fdiv_nat (a b : Nat) : (a : Int).fdiv (b : Int) = ((a / b : Nat) : Int) := by
  rw [Int.fdiv_eq_ediv_of_nonneg _ (Int.natCast_nonneg b)]; rfl
theorem fmod_nat (a b : Nat) : (a : Int).fmod (b : Int) = ((a % b : Nat) : Int) := by
  rw [Int.fmod_eq_emod_of_nonneg _ (Int.natCast_nonneg b)]; rfl

local macro_rules | `(tactic| walk_at "exec While") => `(tactic| (k_here; (with_reducible show wpAny _ _ (exec (PySem.Stmt.While _ _ _ _) _) _ _ _); refine stop_at ?_))
local macro_rules | `(tactic| walk_at "exec For") => `(tactic| (k_here; (with_reducible show wpAny _ _ (exec (PySem.Stmt.For _ _ _ _ _) _) _ _ _); refine stop_at ?_))
local macro_rules | `(tactic| walk_at "call ref") => `(tactic| (k_here; (with_reducible show wpAny _ _ (call (Value.ref _) _) _ _ _); refine stop_at ?_))

theorem con_octs (w : World) (n : Nat) (t : Tok) (news : List (Addr × Obj)) (hn : n < 64 ^ 11) :
    Con w 35 [.int (n : Int) t] 2 news (fun r news' => ∃ D vs c, r = .ref D ∧ news' = (D, listOf vs c) :: news ∧ IntsAre vs.toList ((octs n).map Int.ofNat) ∧ ∀ p ∈ news, p.1 < D) := by
  unfold Con
  k_fill
  intro mean mg mb dp un gd cn cs a ccd cl outer A₀ base h₀ L m s Q E B F X N T hk hd hu hret
  refine wpAny_call ?_
  k_dflt ktr_enter
  rename_i g₁ L₁ h₁ FG₁ F₁ N₁ B₁ X₁ T₁
  obtain ⟨m0, F₂⟩ := fr_open1 (x := Str.ofString "number") F₁ rfl
  clear F₁
  k_steps
  refine stop_go ?_
  refine while_inv (fun k s' => ∃ h tk t D vs c, s' = { s with heap := h, toks := tk } ∧
    Fr g₁ L₁ h (fun y => if y = Str.ofString "number" then some (.int (k : Int) t) else if y = Str.ofString "octets" then some (.ref D) else m0 y) ∧
    News g₁ L₁ h ((D, W.listOf vs c) :: news) ∧ (∀ p ∈ news, p.1 < D) ∧ ∃ acc, IntsAre vs.toList (acc.map Int.ofNat) ∧ octsGo k acc = octs n ∧ acc.length ≤ 11 ∧ k < 64 ^ (12 - acc.length)) ?_ n ?_
  · rintro k s' ⟨h, tk, t, D, vs, c, rfl, F₁, N₁, hlt, acc, hi, ho, hl, hk⟩
    k_steps
    · rename_i hgt _ F₃ N₃
      have hl2 : acc.length = vs.toList.length := by have := hi.length; simpa using this.symm
      have hk63 : 63 < k := by omega
      have hz : vs.toList.length ≤ sizeLine := by rw [sizeLine_eq]; omega
      refine kl_insert (l := .int (64 + ((k : Int).fdiv 64).fmod 64) (tk + 1 + 1 + 1 + 1 + 1 + 1 + 1) :: vs.toList) F₃ N₃ rfl (by simp [kl_ins]) (.head fun p hp => Nat.ne_of_lt (hlt p hp)) hz fun h' F₄ N₄ => ?_
      clear F₃ N₃
      k_steps
      dsimp only
      refine stop_go ?_
      have e : (k : Int).fdiv 64 = ((k / 64 : Nat) : Int) := fdiv_nat k 64
      have e2 : ((k / 64 : Nat) : Int).fmod 64 = ((k / 64 % 64 : Nat) : Int) := fmod_nat _ 64
      rw [e, e2] at N₄
      rw [e] at F₄
      simp only [ite_shadow] at F₄
      refine ⟨k / 64, by omega, h', _, _, D, _, c + 1, rfl, F₄, N₄, hlt, (64 + k / 64 % 64) :: acc, ?_, ?_, ?_, ?_⟩
      · exact IntsAre.cons _ _ hi
      · rw [← ho]
        conv => rhs; rw [octsGo, if_pos hk63]
      · have : acc.length ≠ 11 := by
          intro q
          rw [q] at hk
          omega
        rw [List.length_cons]
        omega
      · have e3 : 12 - acc.length = (12 - (acc.length + 1)) + 1 := by
          have : acc.length ≠ 12 := by omega
          omega
        rw [e3, Nat.pow_succ] at hk
        rw [List.length_cons]
        omega
    · have hk63 : ¬ 63 < k := by omega
      refine hret _ _ _ _ (by assumption) (by assumption) ⟨D, vs, c, rfl, rfl, ?_, hlt⟩
      rw [← ho, octsGo, if_neg hk63]
      exact hi
  · rename_i l1 _ F₃ N₃
    refine ⟨_, _, t, _, _, _, rfl, fr_eqv F₃ fun y => ?_, N₃, l1, [n % 64], ?_, rfl, Nat.le_of_ble_eq_true rfl, hn⟩
    · by_cases h1 : y = Str.ofString "number"
      · subst h1; rfl
      · by_cases h2 : y = Str.ofString "octets"
        · subst h2; rfl
        · simp only [if_neg h1, if_neg h2]
    · rw [show (n : Int).fmod 64 = ((n % 64 : Nat) : Int) from fmod_nat n 64]
      exact IntsAre.cons _ _ .nil
end Mine

namespace Mine

theorem bitAnd_nat (a b : Nat) : Builtin.bitAnd (a : Int) (b : Int) = ((a &&& b : Nat) : Int) := by
  unfold Builtin.bitAnd
  have h1 : decide (0 ≤ (a : Int)) = true := by simp
  have h2 : decide (0 ≤ (b : Int)) = true := by simp
  rw [h1, h2]
  simp
theorem bitNot_eq (x : Int) : Builtin.bitNot x = -x - 1 := by
  first | rfl | (unfold Builtin.bitNot; omega)
theorem bitOr_nat (a b : Nat) : Builtin.bitOr (a : Int) (b : Int) = ((a ||| b : Nat) : Int) := by
  unfold Builtin.bitOr Builtin.bitAnd
  have h1 : decide (0 ≤ Builtin.bitNot (a : Int)) = false := by rw [bitNot_eq]; simp; omega
  have h2 : decide (0 ≤ Builtin.bitNot (b : Int)) = false := by rw [bitNot_eq]; simp; omega
  rw [h1, h2]
  simp only [bitNot_eq]
  have e1 : (-(-(a : Int) - 1) - 1).toNat = a := by omega
  have e2 : (-(-(b : Int) - 1) - 1).toNat = b := by omega
  rw [e1, e2]
  omega
theorem add_eq_or (x y : Nat) (h : x &&& y = 0) : x + y = x ||| y := by
  have hx : x < 2 ^ (x + y) := Nat.lt_of_le_of_lt (Nat.le_add_right x y) Nat.lt_two_pow_self
  have hy : y < 2 ^ (x + y) := Nat.lt_of_le_of_lt (Nat.le_add_left y x) Nat.lt_two_pow_self
  have e : (BitVec.ofNat (x + y) x) &&& (BitVec.ofNat (x + y) y) = 0#(x + y) := by
    apply BitVec.eq_of_toNat_eq
    simp only [BitVec.toNat_and, BitVec.toNat_ofNat, Nat.mod_eq_of_lt hx, Nat.mod_eq_of_lt hy, h, Nat.zero_mod]
  have h1 := BitVec.toNat_add_of_and_eq_zero e
  have h2 := BitVec.add_eq_or_of_and_eq_zero _ _ e
  rw [h2] at h1
  simp only [BitVec.toNat_or, BitVec.toNat_ofNat, Nat.mod_eq_of_lt hx, Nat.mod_eq_of_lt hy] at h1
  exact h1.symm
theorem or_sub_and (a b : Nat) : (a ||| b) = (a ^^^ b) + (a &&& b) := by
  have h : (a ^^^ b) &&& (a &&& b) = 0 := by
    apply Nat.eq_of_testBit_eq
    intro i
    simp only [Nat.testBit_and, Nat.testBit_xor, Nat.zero_testBit]
    cases a.testBit i <;> cases b.testBit i <;> rfl
  have e : (a ^^^ b) + (a &&& b) = (a ^^^ b) ||| (a &&& b) := by
    exact add_eq_or _ _ h
  rw [e]
  apply Nat.eq_of_testBit_eq
  intro i
  simp only [Nat.testBit_and, Nat.testBit_xor, Nat.testBit_or]
  cases a.testBit i <;> cases b.testBit i <;> rfl
theorem bitXor_nat (a b : Nat) : Builtin.bitXor (a : Int) (b : Int) = ((a ^^^ b : Nat) : Int) := by
  unfold Builtin.bitXor
  rw [bitOr_nat, bitAnd_nat, or_sub_and]
  omega
theorem and_63 (b : Nat) : b &&& 63 = b % 64 := Nat.and_two_pow_sub_one_eq_mod b 6
theorem and_64 (b : Nat) : b &&& 64 = 64 * (b / 64 % 2) := by
  apply Nat.eq_of_testBit_eq
  intro i
  have e : (64 : Nat) = 2 ^ 6 := rfl
  rw [Nat.testBit_and, e, Nat.testBit_two_pow_mul, Nat.testBit_two_pow]
  by_cases h : i = 6
  · subst h
    simp [Nat.testBit, Nat.shiftRight_eq_div_pow, Nat.and_comm, Nat.and_one_is_mod]
  · by_cases h6 : 6 ≤ i
    · have : (b / 2 ^ 6 % 2).testBit (i - 6) = false := by
        apply Nat.testBit_lt_two_pow
        have h1 : b / 2 ^ 6 % 2 < 2 := Nat.mod_lt _ (by omega)
        have h2 : 2 ^ 1 ≤ 2 ^ (i - 6) := Nat.pow_le_pow_right (by omega) (by omega)
        omega
      rw [this]
      simp [Ne.symm h]
    · have h6' : ¬ (i ≥ 6) := h6
      simp [h6', Ne.symm h]
theorem or_shift (a b : Nat) (h : b < 64) : (a * 64) ||| b = a * 64 + b := by
  have := Nat.shiftLeft_add_eq_or_of_lt (i := 6) (b := b) (by omega) a
  rw [Nat.shiftLeft_eq] at this
  exact this.symm
end Mine

namespace Mine

/-- going on from acc, the octets l read as v -/
inductive Enc : Nat → List Nat → Nat → Prop
  | last {acc b : Nat} : b / 64 % 2 = 0 → Enc acc [b] (acc * 64 + b % 64)
  | more {acc b v : Nat} {l : List Nat} : b / 64 % 2 = 1 → Enc (acc * 64 + b % 64) l v → Enc acc (b :: l) v
theorem Enc.le {acc v : Nat} {l : List Nat} (h : Enc acc l v) : acc * 64 ≤ v := by
  induction h with
  | last _ => omega
  | more _ _ ih => omega

theorem and63 (b : Nat) : Builtin.bitAnd (b : Int) 63 = ((b % 64 : Nat) : Int) := by
  rw [← and_63]; exact bitAnd_nat b 63
theorem and64 (b : Nat) : Builtin.bitAnd (b : Int) 64 = ((64 * (b / 64 % 2) : Nat) : Int) := by
  rw [← and_64]; exact bitAnd_nat b 64

local macro_rules | `(tactic| walk_at "exec While") => `(tactic| (k_here; (with_reducible show wpAny _ _ (exec (PySem.Stmt.While _ _ _ _) _) _ _ _); refine stop_at ?_))
local macro_rules | `(tactic| walk_at "call builtin:next") => `(tactic| (k_here; (with_reducible show wpAny _ _ (call (Value.builtin "next") [Value.ref _]) _ _ _); refine stop_at ?_))

theorem con_parse (w : World) (I l : Addr) (i : Nat) (o : Obj) (vs : Array Value) (c : Nat) (ns enc rest : List Nat) (v : Nat) (news : List (Addr × Obj))
    (hl : (l, W.listOf vs c) ∈ news) (hI : ∀ p ∈ news, p.1 ≠ I) (ho : IterO o l i) (hi : IntsAre vs.toList (ns.map Int.ofNat)) (hd : ns.drop i = enc ++ rest) (he : Enc 0 enc v) (hv : v < 2 ^ 60) :
    Con w 21 [.ref I] 2 ((I, o) :: news) (fun r news' => ∃ o', news' = (I, o') :: news ∧ IterO o' l (i + enc.length) ∧ ∃ t, r = .int (v : Int) t) := by
  unfold Con
  k_fill
  intro mean mg mb dp un gd cn cs a ccd cl outer A₀ base h₀ L m s Q E B F X N T hk hd' hu hret
  refine wpAny_call ?_
  k_dflt ktr_enter
  rename_i g₁ L₁ h₁ FG₁ F₁ N₁ B₁ X₁ T₁
  obtain ⟨m0, F₂⟩ := fr_open1 (x := Str.ofString "iterator") F₁ rfl
  clear F₁
  k_steps
  have hlist : ∀ {h : Heap} {L : Addr} {o : Obj}, News g₁ L h ((I, o) :: news) → h.IsList l vs := fun N => News.isList N (List.mem_cons_of_mem _ hl)
  have get : ∀ {j b : Nat} {r : List Nat}, ns.drop j = b :: r → ∃ t, vs[j]? = some (.int (b : Int) t) := fun {j b r} e => by
    have h1 : ns[j]? = some b := by
      have := List.getElem?_drop (xs := ns) (i := j) (j := 0)
      rw [e] at this
      simpa using this.symm
    obtain ⟨t, ht⟩ := hi.get j (b : Int) (by rw [List.getElem?_map, h1]; rfl)
    exact ⟨t, by simpa using ht⟩
  refine stop_go ?_
  obtain ⟨b0, enc', rfl⟩ : ∃ b r, enc = b :: r := by cases he <;> exact ⟨_, _, rfl⟩
  obtain ⟨t0, hx⟩ := get hd
  refine call_next F₂ N₁ (.head hI) ho (hlist N₁) hx fun h₂ o₂ F₃ N₃ ho₃ => ?_
  clear F₂ N₁
  k_steps
  rename_i F₄ N₄
  refine stop_go ?_
  refine while_inv (fun k s' => ∃ h tk acc b l' j tb ta o, s' = { s with heap := h, toks := tk } ∧ k = l'.length ∧
    Fr g₁ L₁ h (fun y => if y = Str.ofString "val" then some (.int ((acc * 64 + b % 64 : Nat) : Int) ta) else if y = Str.ofString "b" then some (.int (b : Int) tb) else if y = Str.ofString "iterator" then some (.ref I) else m0 y) ∧
    News g₁ L₁ h ((I, o) :: news) ∧ IterO o l j ∧ Enc acc (b :: l') v ∧ ns.drop j = l' ++ rest ∧ j + l'.length = i + (b0 :: enc').length) ?_ enc'.length ?_
  · rintro k s' ⟨h, tk, acc, b, l', j, tb, ta, o', rfl, rfl, F₅, N₅, ho₅, hE, hdr, hj⟩
    k_steps
    · rename Builtin.bitAnd (b : Int) 64 ≠ 0 => hne
      rw [and64] at hne
      have hb : b / 64 % 2 = 1 := by omega
      cases hE with
      | last h0 => omega
      | more _ hE' =>
      have hle := hE'.le
      refine ilshift_int_small (by decide) (by decide) (by omega) ?_
      k_steps
      rename Fr _ _ _ _ => F₇
      rename News _ _ _ _ => N₇
      refine stop_go ?_
      obtain ⟨b', l'', rfl⟩ : ∃ b r, l' = b :: r := by cases hE' <;> exact ⟨_, _, rfl⟩
      obtain ⟨t', hx'⟩ := get (r := l'' ++ rest) hdr
      refine call_next F₇ N₇ (.head hI) ho₅ (hlist N₇) hx' fun h₈ o₈ F₈ N₈ ho₈ => ?_
      clear F₇ N₇
      k_steps
      rename Fr _ _ _ _ => F₉
      rename News _ _ _ _ => N₉
      refine stop_go ?_
      have ev : Builtin.bitOr (((acc * 64 + b % 64 : Nat) : Int) * 2 ^ (6 : Int).toNat) (Builtin.bitAnd (b' : Int) 63) = (((acc * 64 + b % 64) * 64 + b' % 64 : Nat) : Int) := by
        rw [and63, show (((acc * 64 + b % 64 : Nat) : Int) * 2 ^ (6 : Int).toNat) = (((acc * 64 + b % 64) * 64 : Nat) : Int) from by rw [Int.natCast_mul]; rfl, bitOr_nat, or_shift _ _ (Nat.mod_lt _ (by omega))]
      rw [ev] at F₉
      refine' ⟨l''.length, by simp, _, _, acc * 64 + b % 64, b', l'', j + 1, t', _, o₈, rfl, rfl, fr_eqv F₉ (fun y => _), N₉, ho₈, hE', _, _⟩
      rotate_left
      · by_cases h1 : y = Str.ofString "val"
        · subst h1; rfl
        · by_cases h2 : y = Str.ofString "b"
          · subst h2; rfl
          · simp only [if_neg h1, if_neg h2]
      · have := List.drop_drop (i := 1) (j := j) (l := ns)
        rw [hdr] at this
        simpa using this.symm
      · rw [← hj]; simp; omega
    · rename Builtin.bitAnd (b : Int) 64 = 0 => hne
      rw [and64] at hne
      have hb : b / 64 % 2 = 0 := by omega
      cases hE with
      | more h0 _ => omega
      | last _ => exact hret _ _ _ _ (by assumption) (by assumption) ⟨o', rfl, by rw [← hj]; simpa using ho₅, _, rfl⟩
  · rw [show Builtin.bitAnd (b0 : Int) 63 = ((0 * 64 + b0 % 64 : Nat) : Int) from by rw [and63, Nat.zero_mul, Nat.zero_add]] at F₄
    refine ⟨_, _, 0, b0, enc', i + 1, _, _, o₂, rfl, rfl, F₄, N₄, ho₃, he, ?_, ?_⟩
    · have := List.drop_drop (i := 1) (j := i) (l := ns)
      rw [hd] at this
      simpa using this.symm
    · simp; omega
end Mine

namespace Mine

section
variable {prog : Program} {w : World} {A : Around} {E : Value → Shared → Prop} {s : Shared} {env : Env} {h₀ : Heap} {L : Addr} {m : Str → Option Value} {news : List (Addr × Obj)}

theorem fr_ext {h h' : Heap} {I : Addr} (F : Fr h₀ L h m) (he : Heap.ExtBut I h h') (hL : I ≠ L) (hn : h₀.get? I = none) : Fr h₀ L h' m := by
  obtain ⟨oL, a1, a2, hoL, a3⟩ := F.ns
  refine ⟨⟨oL, a1, a2, he _ _ hL.symm hoL, a3⟩, fun b x e => he b x ?_ (F.keep b x e), F.above⟩
  rintro rfl
  rw [hn] at e; cases e
theorem news_ext {h h' : Heap} {I : Addr} {o : Obj} (N : News h₀ L h ((I, o) :: news)) (he : Heap.ExtBut I h h') (hap : ∀ p ∈ news, p.1 ≠ I) : News h₀ L h' news := fun p hp => by
  have := N p (.tail _ hp)
  exact ⟨he _ _ (hap p hp) this.1, this.2⟩

/-- the state at the head of a loop over a range -/
def RangeSt (h₀ : Heap) (L I : Addr) (n i : Nat) (J : (Str → Option Value) → List (Addr × Obj) → Prop) (s₀ s : Shared) : Prop :=
  ∃ h tk m news, s = { s₀ with heap := h, toks := tk } ∧ Fr h₀ L h m ∧
    News h₀ L h ((I, { cls := .type "range_iterator", dict := none, data := .fields #[rawInt (i : Int), rawInt ((n : Int) - i), rawInt 1], slots := #[] }) :: news) ∧ (∀ p ∈ news, p.1 ≠ I) ∧ J m news

theorem for_range {target : Expr} {body : List Stmt} {n : Nat} {t : Tok} {Q : Flow → Shared → Prop} (J : Nat → (Str → Option Value) → List (Addr × Obj) → Prop)
    (hh : A.handled = none) (F : Fr h₀ L s.heap m) (N : News h₀ L s.heap news) (hn : n < 2 ^ 62) (hj : J 0 m news)
    (turn : ∀ i t' h tk m₁ news₁ I o, i < n → J i m₁ news₁ → Fr h₀ L h m₁ → News h₀ L h ((I, o) :: news₁) → o = { cls := .type "range_iterator", dict := none, data := .fields #[rawInt ((i + 1 : Nat) : Int), rawInt ((n : Int) - (i + 1 : Nat)), rawInt 1], slots := #[] } → (∀ p ∈ news₁, p.1 ≠ I) →
      wpAny (model prog w) A (assign target env (.int (i : Int) t')) (fun _ s₂ => wpAny (model prog w) A (execs body env) (fun f s₃ => match f with
          | .next | .cont => Stop (RangeSt h₀ L I n (i + 1) (J (i + 1)) s s₃)
          | .brk => Q .next s₃
          | .ret v => Q (.ret v) s₃) (fun _ _ => False) s₂) (fun _ _ => False) { s with heap := h, toks := tk })
    (done : ∀ h tk m₁ news₁, J n m₁ news₁ → Fr h₀ L h m₁ → News h₀ L h news₁ → Q .next { s with heap := h, toks := tk })
    (ht : ∀ it v, letOwnedTupleGo target it v = pure () := by intro _ _; rfl) :
    wpAny (model prog w) A (call (.type "range") [.int (n : Int) t]) (fun x s₁ => wpAny (model prog w) A (pyIter x) (fun it s₂ => codeAny (model prog w) A (.forLoop target it body [] env) (fun r s' => match r with | .ok f => Q f s' | .error e => cameBackBy (model prog w) A env E e s') s₂) E s₁) E s := by
  refine call_range_1 ?_
  refine wpAny_pyIter_range (IsRange.new ..) (small_one (by omega) (by omega) (by omega) (by omega)) ?_
  have hsz : Builtin.Range.rangeSize 0 (n : Int) 1 = (n : Int) := by rw [rangeSize_one]; split <;> omega
  rw [hsz]
  have F₁ := (F.push { cls := .type "range", data := .fields #[.int 0 s.toks, .int (n : Int) t, .int 1 (s.toks + 1)] })
  have N₁ : News h₀ L (s.heap.push { cls := .type "range", data := .fields #[.int 0 s.toks, .int (n : Int) t, .int 1 (s.toks + 1)] }) news := fun p hp => (News.push F N _ rfl) p (.tail _ hp)
  have N₂ := News.push F₁ N₁ { cls := .type "range_iterator", data := .fields #[rawInt 0, rawInt (n : Int), rawInt 1] } rfl
  have hlt : ∀ p ∈ news, p.1 ≠ (s.heap.push { cls := .type "range", data := .fields #[.int 0 s.toks, .int (n : Int) t, .int 1 (s.toks + 1)] }).objs.size := fun p hp => Nat.ne_of_lt (Heap.lt_size (N₁ p hp).1)
  have F₂ := F₁.push { cls := .type "range_iterator", data := .fields #[rawInt 0, rawInt (n : Int), rawInt 1] }
  dsimp only
  generalize (s.heap.push { cls := .type "range", data := .fields #[.int 0 s.toks, .int (n : Int) t, .int 1 (s.toks + 1)] }).objs.size = I at N₂ hlt ⊢
  refine codeAny_forLoop_any (fun k s' => ∃ i, k = n - i ∧ i ≤ n ∧ RangeSt h₀ L I n i (J i) s s') ?_ (n - 0)
    ⟨0, rfl, Nat.zero_le _, _, _, m, news, rfl, F₂, ?_, hlt, hj⟩
  · rintro k s' ⟨i, rfl, hi, h, tk, m₁, news₁, rfl, F₅, N₅, hap, hJ⟩
    have hm := N₅ (_, _) (.head _)
    have hit : IsRangeIter h I (i : Int) ((n : Int) - i) 1 := hm.1
    by_cases hlt : i < n
    · refine wpAny_pyNext_range_item hit (by omega) fun h₂ hit₂ hs₂ => ?_
      dsimp only
      have F₆ : Fr h₀ L h₂ m₁ := F₅.change hs₂ hm.2.1 hm.2.2
      have N₆ := News.setIn (own := []) N₅ (fun _ h => nomatch h) hap hs₂ hit₂
      refine wpAny_of_eq (ht _ _) ?_
      refine wpAny_mono (turn i _ h₂ _ m₁ news₁ _ _ hlt hJ F₆ N₆ (by
        have e1 : (i : Int) + 1 = ((i + 1 : Nat) : Int) := by omega
        have e2 : (n : Int) - i - 1 = (n : Int) - (i + 1 : Nat) := by omega
        rw [e1, e2]) hap) (fun _ s₂ h₂ => ?_) fun _ _ x => x.elim
      refine wpAny_mono h₂ (fun f s₃ h₃ => ?_) fun _ _ x => x.elim
      cases f with
      | next => exact ⟨n - (i + 1), by omega, i + 1, rfl, hlt, stop_at h₃⟩
      | cont => exact ⟨n - (i + 1), by omega, i + 1, rfl, hlt, stop_at h₃⟩
      | brk => exact h₃
      | ret v => exact h₃
    · have hsz : i = n := by omega
      subst hsz
      refine wpAny_pyNext_range_end hh hit (by omega) fun h₂ he => ?_
      refine wpAny_execs_nil ?_
      exact done h₂ tk m₁ news₁ hJ (fr_ext F₅ he hm.2.1 hm.2.2) (news_ext N₅ he hap)
  · simpa using N₂
end

theorem Con.use {w : World} {f : Addr} {args : List Value} {room : Nat} {news : List (Addr × Obj)} {Post : Value → List (Addr × Obj) → Prop} (C : Con w f args room news Post)
    {mean : ExcName → Option Value} {mg mb : Str → Option Value} {dp un : Nat} {gd : Option (List Code)} {cn : Str} {cs : Scope} {a : Addr} {ccd : Value} {cl : List (Str × Addr)} {outer : List Env} {A₀ : Around} {base h₀ : Heap} {L : Addr} {m : Str → Option Value} {s : Shared} {Q E : Value → Shared → Prop}
    (B : Below A₀ base outer h₀) (F : Fr h₀ L s.heap m) (X : (hd.heap_39 w.params).In h₀) (N : News h₀ L s.heap news) (T : Top hd.view_39 (looseW hd.view_39 []) mean mg mb h₀) (hk : cs.kind = .function)
    (hd : dp + room < recursionLimit) (hu : un + 8 * room < cLine)
    (ret : ∀ r news' h' tk', Fr h₀ L h' m → News h₀ L h' news' → Post r news' → Q r { s with heap := h', toks := tk' }) :
    wpAny (model PySem.Challenge.rw_sh0008_01.row.prog w) (ktrTop dp un gd cn cs L a ccd cl outer) (call (.ref f) args) Q E s :=
  C _ _ _ _ _ _ _ _ _ _ _ _ _ _ _ _ _ _ _ _ B F X N T hk hd hu ret
end Mine

namespace Mine
section
variable {prog : Program} {w : World} {A : Around} {E : Value → Shared → Prop} {s : Shared} {t u : Tok} {Q : Value → Shared → Prop}

theorem pow2_int {k : Nat} {n : Int} (hn : n = (k : Int)) (hk : k ≤ 2 ^ 24) (h : Q (.int ((2 ^ k : Nat) : Int) s.toks) { s with toks := s.toks + 1 }) :
    wpAny (model prog w) A (binaryOp .Pow (.int 2 t) (.int n u)) Q E s := by
  subst hn
  refine pow_int (by omega) ?_ ?_
  · have : (Builtin.Int.intBits 2 : Int) = 2 := by decide +kernel
    rw [this]; omega
  · have e : (2 : Int) ^ ((k : Int)).toNat = ((2 ^ k : Nat) : Int) := by rw [Int.toNat_natCast]; simp
    rw [e]; exact h

theorem div_nat {x d : Nat} (hd : 0 < d) (hp : Builtin.divisionGoesByPylong (x : Int) (d : Int) = false) (h : Q (.int ((x / d : Nat) : Int) s.toks) { s with toks := s.toks + 1 }) :
    wpAny (model prog w) A (binaryOp .FloorDiv (.int (x : Int) t) (.int (d : Int) u)) Q E s := by
  refine floordiv_int (by omega) ?_ (Or.inl hp)
  rw [fdiv_nat]; exact h

theorem noPylong_pow {x : Int} {k : Nat} (hk : k < 9000) : Builtin.divisionGoesByPylong x ((2 ^ k : Nat) : Int) = false := by
  refine PyProof.noPylong_of_log2 ?_
  rw [Int.natAbs_natCast, Nat.log2_two_pow]
  exact hk

theorem digits_mono {x y : Nat} (h : x ≤ y) : (if ((x : Int) == 0) = true then 0 else (x : Int).natAbs.log2 / 30 + 1) ≤ (if ((y : Int) == 0) = true then 0 else (y : Int).natAbs.log2 / 30 + 1) := by
  by_cases h0 : x = 0
  · rw [if_pos (by simp [h0])]; exact Nat.zero_le _
  · have hy : y ≠ 0 := by omega
    rw [if_neg (by simpa using h0), if_neg (by simpa using hy), Int.natAbs_natCast, Int.natAbs_natCast]
    have : x.log2 ≤ y.log2 := by
      have := (Nat.le_log2 hy (k := x.log2)).mpr (Nat.le_trans (Nat.log2_self_le h0) h)
      exact this
    omega
theorem noPylong_le {x y : Nat} (h : x ≤ y) : Builtin.divisionGoesByPylong (x : Int) (y : Int) = false := by
  have := digits_mono h
  show (decide ((if ((y : Int) == 0) = true then 0 else (y : Int).natAbs.log2 / 30 + 1) > 300) && decide ((if ((x : Int) == 0) = true then 0 else (x : Int).natAbs.log2 / 30 + 1) > (if ((y : Int) == 0) = true then 0 else (y : Int).natAbs.log2 / 30 + 1) + 150)) = false
  rw [decide_eq_false (p := (if ((x : Int) == 0) = true then 0 else (x : Int).natAbs.log2 / 30 + 1) > _) (by omega), Bool.and_false]
end
end Mine

namespace Mine

theorem octsGo_enc (k : Nat) (acc : List Nat) : ∀ (n M r : Nat), n = k * M + r → (∀ a, Enc a acc ((a * 64 + k % 64) * M + r)) → Enc 0 (octsGo k acc) n := by
  induction k, acc using octsGo.induct with
  | case1 k acc h ih =>
    intro n M r hn hE
    rw [octsGo, if_pos h]
    refine ih n (64 * M) ((k % 64) * M + r) ?_ fun a => ?_
    · have h1 : k * M = (k / 64 * 64 + k % 64) * M := by rw [Nat.div_add_mod' k 64]
      rw [hn, h1, Nat.add_mul, Nat.mul_assoc, Nat.add_assoc]
    · have e : (a * 64 + k / 64 % 64) * (64 * M) + (k % 64 * M + r) = ((a * 64 + k / 64 % 64) * 64 + k % 64) * M + r := by
        rw [Nat.add_mul _ (k % 64) M, ← Nat.mul_assoc, Nat.add_assoc]
      rw [e]
      refine .more (by omega) ?_
      have e2 : (64 + k / 64 % 64) % 64 = k / 64 % 64 := by omega
      rw [e2]
      exact hE _
  | case2 k acc h =>
    intro n M r hn hE
    rw [octsGo, if_neg h]
    have := hE 0
    rw [Nat.zero_mul, Nat.zero_add, Nat.mod_eq_of_lt (by omega), ← hn] at this
    exact this
theorem octs_enc (n : Nat) : Enc 0 (octs n) n := by
  unfold octs
  refine octsGo_enc n [n % 64] n 1 0 (by omega) fun a => ?_
  have e : (a * 64 + n % 64) * 1 + 0 = a * 64 + (n % 64) % 64 := by omega
  rw [e]
  exact .last (by omega)
theorem enc_map {a v : Nat} {l : List Nat} (h : Enc a l v) : ∀ f : Nat → Nat → Nat, (∀ i o, f i o = o ∨ f i o = o + 128) → Enc a (l.mapIdx f) v := by
  induction h with
  | last hb =>
    intro f hf
    rename_i acc b
    rw [List.mapIdx_cons, List.mapIdx_nil]
    rcases hf 0 b with e | e
    · rw [e]; exact .last hb
    · rw [e]
      have e2 : b % 64 = (b + 128) % 64 := by omega
      rw [e2]
      exact .last (by omega)
  | more hb _ ih =>
    intro f hf
    rename_i acc b v l _
    rw [List.mapIdx_cons]
    have := ih (fun i => f (i + 1)) fun i o => hf (i + 1) o
    rcases hf 0 b with e | e
    · rw [e]; exact .more hb this
    · rw [e]
      have e2 : b % 64 = (b + 128) % 64 := by omega
      refine .more (by omega) ?_
      rw [← e2]
      exact this
theorem marked_enc (n : Nat) : Enc 0 (marked (octs n)) n := enc_map (octs_enc n) _ fun i o => by omega

/-- the tree is one that a tape can bear -/
inductive Ok : T → Prop
  | leaf {n : Nat} : n < 2 ^ 60 → Ok (.leaf n)
  | fork {p : Nat} {l r : T} : p < 60 → Ok l → Ok r → (tape l).length < 2 ^ 22 → Ok (.fork p l r)

/-- what a tree's first octet tells, and what stands behind it -/
def mark : T → Nat
  | .leaf _ => 0
  | .fork p _ _ => p + 1
def behind : T → List Nat
  | .leaf n => marked (octs n)
  | .fork _ l r => octs (tape l).length ++ tape l ++ tape r
theorem tape_split (t : T) (h : Ok t) : ∃ b, tape t = b :: behind t ∧ Enc 0 [b] (mark t) := by
  cases h with
  | leaf h => exact ⟨_, rfl, .last (acc := 0) (b := 0) rfl⟩
  | fork hp _ _ _ =>
    rename_i p l r _ _ _
    refine ⟨129 + p, rfl, ?_⟩
    have e : mark (.fork p l r) = 0 * 64 + (129 + p) % 64 := by show p + 1 = _; omega
    rw [e]
    exact .last (by omega)

theorem mark_lt : ∀ u, Ok u → mark u < 2 ^ 60 := fun u hu => by
  cases hu with
  | leaf _ => exact (by decide : (0 : Nat) < 2 ^ 60)
  | fork hp _ _ _ => rename_i p _ _ _ _ _; show p + 1 < 2 ^ 60; omega

local macro_rules | `(tactic| walk_at "exec While") => `(tactic| (k_here; (with_reducible show wpAny _ _ (exec (PySem.Stmt.While _ _ _ _) _) _ _ _); refine stop_at ?_))
local macro_rules | `(tactic| walk_at "exec For Name Call cons nil") => `(tactic| (k_here; (with_reducible show wpAny _ _ (exec (PySem.Stmt.For _ _ _ _ _) _) _ _ _); refine stop_at ?_))
local macro_rules | `(tactic| walk_at "call ref") => `(tactic| (k_here; (with_reducible show wpAny _ _ (call (Value.ref _) _) _ _ _); refine stop_at ?_))
local macro_rules | `(tactic| walk_at "call builtin:next") => `(tactic| (k_here; (with_reducible show wpAny _ _ (call (Value.builtin "next") [Value.ref _]) _ _ _); refine stop_at ?_))
local macro_rules | `(tactic| walk_at "call builtin:iter") => `(tactic| (k_here; (with_reducible show wpAny _ _ (call (Value.builtin "iter") [Value.ref _]) _ _ _); refine stop_at ?_))
local macro_rules | `(tactic| walk_at "call type:range") => `(tactic| (k_here; (with_reducible show wpAny _ _ (call (Value.type "range") [Value.int _ _]) _ _ _); refine stop_at ?_))
local macro_rules | `(tactic| walk_at "binaryOp Pow int int") => `(tactic| (k_here; refine stop_at ?_))
local macro_rules | `(tactic| walk_at "binaryOp FloorDiv int int") => `(tactic| (k_here; refine stop_at ?_))

theorem con_met (w : World) (l : Addr) (x : Nat) (t : Tok) (vs : Array Value) (c : Nat) (tr : T) (news : List (Addr × Obj))
    (hl : (l, W.listOf vs c) ∈ news) (hi : IntsAre vs.toList ((tape tr).map Int.ofNat)) (ok : Ok tr) :
    Con w 47 [.ref l, .int (x : Int) t] 4 news (fun r news' => news' = news ∧ ∃ t', r = .int (find x tr : Int) t') := by
  unfold Con
  k_fill
  intro mean mg mb dp un gd cn cs a ccd cl outer A₀ base h₀ L m s Q E B F X N T hk hd' hu hret
  refine wpAny_call ?_
  k_dflt ktr_enter
  rename_i g₁ L₁ h₁ FG₁ F₁ N₁ B₁ X₁ T₁
  obtain ⟨m0, F₂⟩ := fr_open2 (x := Str.ofString "number") (x' := Str.ofString "tape") F₁ rfl rfl
  clear F₁
  k_steps
  refine stop_go ?_
  refine call_iter F₂ N₁ (News.isList N₁ hl) fun I o h₃ F₃ N₃ ho hlt hne => ?_
  clear F₂ N₁
  have hI : ∀ p ∈ news, p.1 ≠ I := fun p hp => Nat.ne_of_lt (hlt p hp)
  k_steps
  rename Fr _ _ _ _ => F₄
  rename News _ _ _ _ => N₄
  refine stop_go ?_
  obtain ⟨b0, hb0, he0⟩ := tape_split tr ok
  have hm : ∀ u, Ok u → mark u < 2 ^ 60 := mark_lt
  with_unfolding_all refine Con.use (con_parse w I l 0 o vs c (tape tr) [b0] (behind tr) (mark tr) news hl hI ho hi (by rw [List.drop_zero, hb0]; rfl) he0 (hm _ ok)) B₁ F₄ X₁ N₄ T₁ rfl (show dp + 1 + 2 < recursionLimit by omega) (show un + 3 + 8 * 2 < cLine by omega) ?_
  rintro r news' h₅ tk₅ F₅ N₅ ⟨o₅, rfl, ho₅, t₅, rfl⟩
  clear F₄ N₄
  k_steps
  rename Fr _ _ _ _ => F₆
  rename News _ _ _ _ => N₆
  refine stop_go ?_
  obtain ⟨m1, F₇⟩ := fr_open3 (x := Str.ofString "mark") (x' := Str.ofString "octets") (x'' := Str.ofString "number") F₆ rfl rfl rfl
  clear F₆
  refine while_inv (fun k s' => ∃ (h : Heap) (tk : Nat) (u : Mine.T) (rest : List Nat) (j : Nat) (tm : Tok) (o : Obj) (m1 : Str → Option Value), s' = { s with heap := h, toks := tk } ∧ k = u.size ∧ Ok u ∧ find x u = find x tr ∧
    Fr g₁ L₁ h (fun y => if y = Str.ofString "mark" then some (.int (mark u : Int) tm) else if y = Str.ofString "octets" then some (.ref I) else if y = Str.ofString "number" then some (.int (x : Int) t) else m1 y) ∧
    News g₁ L₁ h ((I, o) :: news) ∧ IterO o l j ∧ (tape tr).drop j = behind u ++ rest) ?_ tr.size ?_
  · rintro k s' ⟨h, tk, u, rest, j, tm, o', m1, rfl, rfl, oku, hfu, F₈, N₈, ho₈, hdr⟩
    k_steps
    · rename (0 : Int) < _ => hpos
      refine stop_go ?_
      cases oku with
      | leaf _ => exact absurd hpos (Int.lt_irrefl 0)
      | fork hp okl okr hlen =>
      rename_i p lt rt
      have hdr' : (tape tr).drop j = octs (tape lt).length ++ (tape lt ++ tape rt ++ rest) := by rw [hdr]; simp [behind]
      rename Fr _ _ _ _ => F₉
      rename News _ _ _ _ => N₉
      with_unfolding_all refine Con.use (con_parse w I l j o' vs c (tape tr) _ _ _ news hl hI ho₈ hi hdr' (octs_enc _) (by omega)) B₁ F₉ X₁ N₉ T₁ rfl (show dp + 1 + 2 < recursionLimit by omega) (show un + 3 + 8 * 2 < cLine by omega) ?_
      rintro r news' h₅ tk₅ F₅ N₅ ⟨o₅, rfl, ho₅, t₅, rfl⟩
      k_steps
      refine stop_go ?_
      refine pow2_int (k := p) (show ((p + 1 : Nat) : Int) - 1 = (p : Int) by omega) (by omega) ?_
      k_steps
      refine stop_go ?_
      refine div_nat (Nat.two_pow_pos p) (noPylong_pow (by omega)) ?_
      k_steps
      · rename _ = (1 : Int) => hbit
        rw [show ((x / 2 ^ p : Nat) : Int).fmod 2 = ((x / 2 ^ p % 2 : Nat) : Int) from fmod_nat _ 2] at hbit
        have hbit' : x / 2 ^ p % 2 = 1 := by omega
        refine stop_go ?_
        rename Fr _ _ _ _ => F₁₁
        rename News _ _ _ _ => N₁₁
        refine' wpAny_For ?h ?hs
        case hs => intro _; rfl
        k_steps
        refine stop_go ?_
        rename Fr _ _ _ _ => F₁₁
        rename News _ _ _ _ => N₁₁
        obtain ⟨m2, F₁₂⟩ := fr_open3 (x := Str.ofString "mark") (x' := Str.ofString "octets") (x'' := Str.ofString "number") F₁₁ rfl rfl rfl
        refine for_range (fun i m' news' => ∃ (o : Obj) (m1 : Str → Option Value), news' = (I, o) :: news ∧ IterO o l (j + (octs (tape lt).length).length + i) ∧
          m' = fun y => if y = Str.ofString "mark" then some (.int (mark (.fork p lt rt) : Int) tm) else if y = Str.ofString "octets" then some (.ref I) else if y = Str.ofString "number" then some (.int (x : Int) t) else m1 y) rfl F₁₂ N₁₁ (by omega) ⟨o₅, m2, rfl, ho₅, rfl⟩ ?_ ?_
        · rintro i t' h tk m₁ news₁ Ir or hi' ⟨o₈, m1, rfl, ho₈, rfl⟩ F₁₂ N₁₂ rfl hap
          k_steps
          rename Fr _ _ _ _ => F₁₃
          rename News _ _ _ _ => N₁₃
          refine stop_go ?_
          have hd3 : (tape tr).drop (j + (octs (tape lt).length).length) = tape lt ++ tape rt ++ rest := by rw [← List.drop_drop, hdr', List.drop_left]
          obtain ⟨b, hb⟩ : ∃ b, (tape tr)[j + (octs (tape lt).length).length + i]? = some b := by
            rw [← List.getElem?_drop, hd3]
            exact ⟨_, List.getElem?_eq_getElem (by simp; omega)⟩
          obtain ⟨tb, htb⟩ := hi.get _ (b : Int) (by rw [List.getElem?_map, hb]; rfl)
          refine call_next F₁₃ N₁₃ (.tail (fun e => hap (I, o₈) (.head _) e.symm) (.head hI)) ho₈ (News.isList N₁₃ (.tail _ (.tail _ hl))) (by simpa using htb) fun h' o₉ F₁₄ N₁₄ ho₉ => ?_
          clear F₁₃ N₁₃
          k_steps
          refine stop_go ?_
          obtain ⟨m3, F₁₅⟩ := fr_open3 (x := Str.ofString "mark") (x' := Str.ofString "octets") (x'' := Str.ofString "number") F₁₄ rfl rfl rfl
          exact ⟨_, _, _, _, rfl, F₁₅, N₁₄, fun q hq => by
            rcases List.mem_cons.mp hq with rfl | hq
            · exact hap (I, o₈) (.head _)
            · exact hap q (.tail _ hq), o₉, m3, rfl, ho₉, rfl⟩
        · rintro h tk m₁ news₁ ⟨o₈, m1, rfl, ho₈, rfl⟩ F₁₂ N₁₂
          k_steps
          refine stop_go ?_
          obtain ⟨b2, hb2, he2⟩ := tape_split rt okr
          have hdr2 : (tape tr).drop (j + (octs (tape lt).length).length + (tape lt).length) = [b2] ++ (behind rt ++ rest) := by
            rw [← List.drop_drop, ← List.drop_drop, hdr', List.drop_left, List.append_assoc, List.drop_left, hb2]; simp
          with_unfolding_all refine Con.use (con_parse w I l (j + (octs (tape lt).length).length + (tape lt).length) o₈ vs c (tape tr) _ _ _ news hl hI ho₈ hi hdr2 he2 (mark_lt _ okr)) B₁ F₁₂ X₁ N₁₂ T₁ rfl (show dp + 1 + 2 < recursionLimit by omega) (show un + 3 + 8 * 2 < cLine by omega) ?_
          rintro r news' h₆ tk₆ F₁₃ N₁₃ ⟨o₆, rfl, ho₆, t₆, rfl⟩
          k_steps
          rename Fr _ _ _ _ => F₁₄
          rename News _ _ _ _ => N₁₄
          refine stop_go ?_
          obtain ⟨m2, F₁₅⟩ := fr_open3 (x := Str.ofString "mark") (x' := Str.ofString "octets") (x'' := Str.ofString "number") F₁₄ rfl rfl rfl
          refine ⟨rt.size, by simp only [Mine.T.size]; omega, _, _, rt, rest, _, _, o₆, m2, rfl, rfl, okr, ?_, F₁₅, N₁₄, ho₆, ?_⟩
          · rw [← hfu]; simp only [find, if_pos hbit']
          · have := List.drop_drop (i := 1) (j := j + (octs (tape lt).length).length + (tape lt).length) (l := tape tr)
            rw [hdr2] at this
            simpa using this.symm
      · rename _ ≠ (1 : Int) => hbit
        rw [show ((x / 2 ^ p : Nat) : Int).fmod 2 = ((x / 2 ^ p % 2 : Nat) : Int) from fmod_nat _ 2] at hbit
        have hbit' : ¬ x / 2 ^ p % 2 = 1 := by omega
        refine stop_go ?_
        rename Fr _ _ _ _ => F₁₁
        rename News _ _ _ _ => N₁₁
        obtain ⟨b2, hb2, he2⟩ := tape_split lt okl
        have hdr2 : (tape tr).drop (j + (octs (tape lt).length).length) = [b2] ++ (behind lt ++ (tape rt ++ rest)) := by
          rw [← List.drop_drop, hdr', List.drop_left, hb2]; simp
        with_unfolding_all refine Con.use (con_parse w I l (j + (octs (tape lt).length).length) o₅ vs c (tape tr) _ _ _ news hl hI ho₅ hi hdr2 he2 (mark_lt _ okl)) B₁ F₁₁ X₁ N₁₁ T₁ rfl (show dp + 1 + 2 < recursionLimit by omega) (show un + 3 + 8 * 2 < cLine by omega) ?_
        rintro r news' h₆ tk₆ F₁₃ N₁₃ ⟨o₆, rfl, ho₆, t₆, rfl⟩
        k_steps
        rename Fr _ _ _ _ => F₁₄
        rename News _ _ _ _ => N₁₄
        refine stop_go ?_
        obtain ⟨m2, F₁₅⟩ := fr_open3 (x := Str.ofString "mark") (x' := Str.ofString "octets") (x'' := Str.ofString "number") F₁₄ rfl rfl rfl
        refine ⟨lt.size, by simp only [Mine.T.size]; omega, _, _, lt, (tape rt ++ rest), _, _, o₆, m2, rfl, rfl, okl, ?_, F₁₅, N₁₄, ho₆, ?_⟩
        · rw [← hfu]; simp only [find, if_neg hbit']
        · have := List.drop_drop (i := 1) (j := j + (octs (tape lt).length).length) (l := tape tr)
          rw [hdr2] at this
          simpa using this.symm
    · rename ¬ (0 : Int) < _ => hpos
      refine stop_go ?_
      cases oku with
      | fork _ _ _ _ => rename_i p _ _ _ _ _ _; exact absurd (show (0 : Int) < ((p + 1 : Nat) : Int) by omega) hpos
      | leaf hv =>
      rename_i n
      with_unfolding_all refine Con.use (con_parse w I l j o' vs c (tape tr) _ _ _ news hl hI ho₈ hi hdr (marked_enc n) hv) B₁ F₈ X₁ N₈ T₁ rfl (show dp + 1 + 2 < recursionLimit by omega) (show un + 3 + 8 * 2 < cLine by omega) ?_
      rintro r news' h₆ tk₆ F₁₃ N₁₃ ⟨o₆, rfl, ho₆, t₆, rfl⟩
      k_steps
      exact hret _ _ _ _ (by assumption) (fun p hp => (by assumption : News h₀ L h₆ ((I, o₆) :: news)) p (.tail _ hp)) ⟨rfl, t₆, by rw [← hfu]; rfl⟩
  · exact ⟨_, _, tr, [], 0 + [b0].length, _, _, m1, rfl, rfl, ok, rfl, F₇, N₆, ho₅, by rw [hb0]; simp⟩
end Mine

namespace Mine

/-- what hands a loop's target its values, one by one: its footprint, what of it is written, what is said of a value -/
structure Feed (prog : Program) (w : World) (A : Around) (target : Expr) (I : Addr) (fp wr : List Addr) (n : Nat) (P : Nat → Value → Heap → Prop) (St : Nat → Heap → Prop) : Prop where
  sub : ∀ b ∈ wr, b ∈ fp
  frame : ∀ i h h', St i h → (∀ b ∈ fp, ∀ o, h.get? b = some o → h'.get? b = some o) → St i h'
  exi : ∀ i h, St i h → ∀ b ∈ wr, ∃ o, h.get? b = some o
  item : ∀ i (s : Shared) (Q : Value → Shared → Prop) (E : Value → Shared → Prop), i < n → St i s.heap →
    (∀ v h' tk, P i v h' → St (i + 1) h' → (∀ b o, b ∉ wr → s.heap.get? b = some o → h'.get? b = some o) → Q v { s with heap := h', toks := tk }) →
    wpAny (model prog w) A (pyNext (.ref I)) (fun r s₁ => match r with | none => False | some v => wpAny (model prog w) A (letOwnedTupleGo target (.ref I) v) (fun _ s₂ => Q v s₂) E s₁) E s
  done : ∀ (s : Shared) (Q : Option Value → Shared → Prop) (E : Value → Shared → Prop), St n s.heap →
    (∀ h' tk, (∀ b o, b ∉ wr → s.heap.get? b = some o → h'.get? b = some o) → Q none { s with heap := h', toks := tk }) → wpAny (model prog w) A (pyNext (.ref I)) Q E s
  self : ∀ i (s : Shared) (Q : Value → Shared → Prop) (E : Value → Shared → Prop), St i s.heap → Q (.ref I) s → wpAny (model prog w) A (pyIter (.ref I)) Q E s

theorem Feed.list {prog : Program} {w : World} {A : Around} (hh : A.handled = none) (I ax : Addr) (hne : ax ≠ I) (items : Array Value) (x : Str) (px : Pos) :
    Feed prog w A (.Name x px) I [I, ax] [I] items.size (fun i v _ => items[i]? = some v) (fun i h => h.IsListIter I ax i ∧ h.IsList ax items) where
  sub := (Walks.list (prog := prog) (w := w) hh I ax hne items).sub
  frame := (Walks.list (prog := prog) (w := w) hh I ax hne items).frame
  exi := fun i h st b hb => by
    rcases List.mem_cons.mp hb with rfl | hb
    · obtain ⟨⟨o, ho, _⟩, _⟩ := st; exact ⟨o, ho⟩
    · cases hb
  item := fun i s Q E hi st hQ => by
    refine wpAny_mono ((Walks.list (prog := prog) (w := w) hh I ax hne items).item i s (fun r s₁ => match r with | none => False | some v => Q v s₁) E hi st hQ) (fun r s₁ h => ?_) fun _ _ e => e
    cases r with
    | none => exact h
    | some v => exact wpAny_pure h
  done := (Walks.list (prog := prog) (w := w) hh I ax hne items).done
  self := (Walks.list (prog := prog) (w := w) hh I ax hne items).self

theorem Feed.ofU {prog : Program} {w : World} {A : Around} {I : Addr} {fp wr : List Addr} {n : Nat} {Pt : Nat → Array Value → Prop} {St : Nat → Heap → Prop} {Mid : Nat → Addr → Heap → Prop}
    (W : WalksU prog w A I fp wr n Pt St Mid) (hex : ∀ i h, St i h → ∀ b ∈ wr, ∃ o, h.get? b = some o) (elts : List Expr) (k : Nat) (pos : Pos) :
    Feed prog w A (.Tuple elts k pos) I fp wr n (fun i v h => ∃ T vals, v = .ref T ∧ h.IsTuple T vals ∧ Pt i vals) St where
  sub := W.sub
  frame := W.frame
  exi := hex
  item := fun i s Q E hi st hQ => by
    refine W.item i s _ E hi st fun T vals h' tk hP hT hm hk => ?_
    dsimp only
    refine W.go elts k pos i T _ _ E hm fun h'' st' hk' => ?_
    refine hQ _ h'' tk ⟨T, vals, rfl, ?_, hP⟩ st' fun b o hb e => hk' b o hb (hk b o hb e)
    obtain ⟨o, ho, r⟩ := hT
    exact ⟨o, hk' T o (W.apart i T _ hm) ho, r⟩
  done := W.done
  self := W.self

section
variable {prog : Program} {w : World} {A : Around} {E : Value → Shared → Prop} {s : Shared} {env : Env} {h₀ : Heap} {L : Addr} {m : Str → Option Value} {news : List (Addr × Obj)}

/-- the entries of a heap at these addresses -/
theorem entries_of {h : Heap} : ∀ (wr : List Addr), (∀ b ∈ wr, ∃ o, h.get? b = some o) → ∃ itn : List (Addr × Obj), itn.map (·.1) = wr ∧ ∀ p ∈ itn, h.get? p.1 = some p.2
  | [], _ => ⟨[], rfl, fun _ hp => nomatch hp⟩
  | b :: r, hx => by
    obtain ⟨o, ho⟩ := hx b (.head _)
    obtain ⟨itn, e, hi⟩ := entries_of r fun c hc => hx c (.tail _ hc)
    exact ⟨(b, o) :: itn, by rw [List.map_cons, e], fun p hp => by
      rcases List.mem_cons.mp hp with rfl | hp
      · exact ho
      · exact hi p hp⟩

theorem fr_keepOut {h h' : Heap} {wr : List Addr} (F : Fr h₀ L h m) (hk : ∀ b o, b ∉ wr → h.get? b = some o → h'.get? b = some o) (hL : L ∉ wr) (hn : ∀ b ∈ wr, h₀.get? b = none) : Fr h₀ L h' m := by
  obtain ⟨oL, a1, a2, hoL, a3⟩ := F.ns
  refine ⟨⟨oL, a1, a2, hk _ _ hL hoL, a3⟩, fun b x e => hk b x (fun hb => ?_) (F.keep b x e), F.above⟩
  rw [hn b hb] at e; cases e

/-- one step of the feed, on the ledger -/
theorem feed_ledger {h h' : Heap} {wr : List Addr} {itn : List (Addr × Obj)} (F : Fr h₀ L h m) (hw : itn.map (·.1) = wr) (N : News h₀ L h (itn ++ news)) (hap : ∀ p ∈ news, p.1 ∉ wr)
    (hk : ∀ b o, b ∉ wr → h.get? b = some o → h'.get? b = some o) : Fr h₀ L h' m ∧ News h₀ L h' news ∧ ∀ itn', itn'.map (·.1) = wr → (∀ p ∈ itn', h'.get? p.1 = some p.2) → News h₀ L h' (itn' ++ news) := by
  have hwr : ∀ b ∈ wr, b ≠ L ∧ h₀.get? b = none := fun b hb => by
    rw [← hw] at hb
    obtain ⟨p, hp, rfl⟩ := List.mem_map.mp hb
    exact (N p (List.mem_append.mpr (.inl hp))).2
  have N₁ : News h₀ L h' news := fun p hp => by
    have := N p (List.mem_append.mpr (.inr hp))
    exact ⟨hk _ _ (hap p hp) this.1, this.2⟩
  refine ⟨fr_keepOut F hk (fun hL => (hwr L hL).1 rfl) fun b hb => (hwr b hb).2, N₁, fun itn' e hi p hp => ?_⟩
  rcases List.mem_append.mp hp with hp | hp
  · have hb : p.1 ∈ wr := by rw [← e]; exact List.mem_map_of_mem hp
    exact ⟨hi p hp, hwr _ hb⟩
  · exact N₁ p hp

/-- what holds of a state behind a turn: the feed's own entries itn stand, kp stands -/
def FeedSt (h₀ : Heap) (L : Addr) (wr : List Addr) (kp itn : List (Addr × Obj)) (J : (Str → Option Value) → List (Addr × Obj) → Prop) (s₀ s : Shared) : Prop :=
  ∃ h tk m news, s = { s₀ with heap := h, toks := tk } ∧ Fr h₀ L h m ∧ News h₀ L h (itn ++ news) ∧ (∀ p ∈ news, p.1 ∉ wr) ∧ (∀ p ∈ kp, p ∈ news) ∧ J m news

theorem feed_stands {target : Expr} {I : Addr} {fp wr : List Addr} {n : Nat} {P : Nat → Value → Heap → Prop} {St : Nat → Heap → Prop} (W : Feed prog w A target I fp wr n P St) {kp itn nw nw' : List (Addr × Obj)} {h h' : Heap} {i : Nat} {L' : Addr}
    (hfp : ∀ b ∈ fp, b ∈ wr ∨ (∃ o, (b, o) ∈ kp) ∨ ∃ o, h₀.get? b = some o) (hw : itn.map (·.1) = wr) (F : ∀ b o, h₀.get? b = some o → h.get? b = some o) (N : News h₀ L h (itn ++ nw)) (hkp : ∀ p ∈ kp, p ∈ nw) (F' : ∀ b o, h₀.get? b = some o → h'.get? b = some o) (N' : News h₀ L' h' (itn ++ nw')) (hkp' : ∀ p ∈ kp, p ∈ nw')
    (st : St i h) : St i h' := by
  refine W.frame i h h' st fun b hb o e => ?_
  rcases hfp b hb with hb | ⟨o', hb⟩ | ⟨o', hb⟩
  · rw [← hw] at hb
    obtain ⟨p, hp, rfl⟩ := List.mem_map.mp hb
    have h1 := (N p (List.mem_append.mpr (.inl hp))).1
    have h2 := (N' p (List.mem_append.mpr (.inl hp))).1
    rw [h1] at e; cases e; exact h2
  · have h1 := (N _ (List.mem_append.mpr (.inr (hkp _ hb)))).1
    have h2 := (N' _ (List.mem_append.mpr (.inr (hkp' _ hb)))).1
    rw [h1] at e; cases e; exact h2
  · have h1 := F b o' hb
    have h2 := F' b o' hb
    rw [h1] at e; cases e; exact h2

theorem for_feed {target : Expr} {body : List Stmt} {I : Addr} {fp wr : List Addr} {n : Nat} {P : Nat → Value → Heap → Prop} {St : Nat → Heap → Prop} {Q : Flow → Shared → Prop} (W : Feed prog w A target I fp wr n P St) (kp : List (Addr × Obj)) (itn : List (Addr × Obj))
    (J : Nat → (Str → Option Value) → List (Addr × Obj) → Prop) (hfp : ∀ b ∈ fp, b ∈ wr ∨ (∃ o, (b, o) ∈ kp) ∨ ∃ o, h₀.get? b = some o)
    (F : Fr h₀ L s.heap m) (hw : itn.map (·.1) = wr) (N : News h₀ L s.heap (itn ++ news)) (hap : ∀ p ∈ news, p.1 ∉ wr) (hkp : ∀ p ∈ kp, p ∈ news) (hst : St 0 s.heap) (hj : J 0 m news)
    (turn : ∀ i v h tk m₁ news₁ itn₁, i < n → P i v h → J i m₁ news₁ → (∀ p ∈ kp, p ∈ news₁) → itn₁.map (·.1) = wr → Fr h₀ L h m₁ → News h₀ L h (itn₁ ++ news₁) → (∀ p ∈ news₁, p.1 ∉ wr) →
      wpAny (model prog w) A (assign target env v) (fun _ s₂ => wpAny (model prog w) A (execs body env) (fun f s₃ => match f with
          | .next | .cont => Stop (FeedSt h₀ L wr kp itn₁ (J (i + 1)) s s₃)
          | .brk => Q .next s₃
          | .ret v => Q (.ret v) s₃) (fun _ _ => False) s₂) (fun _ _ => False) { s with heap := h, toks := tk })
    (done : ∀ h tk m₁ news₁, J n m₁ news₁ → Fr h₀ L h m₁ → News h₀ L h news₁ → (∀ p ∈ kp, p ∈ news₁) → Q .next { s with heap := h, toks := tk }) :
    codeAny (model prog w) A (.forLoop target (.ref I) body [] env) (fun r s' => match r with | .ok f => Q f s' | .error e => cameBackBy (model prog w) A env E e s') s := by
  refine codeAny_forLoop_any (fun k s' => ∃ i itn, k = n - i ∧ i ≤ n ∧ itn.map (·.1) = wr ∧ St i s'.heap ∧ FeedSt h₀ L wr kp itn (J i) s s') ?_ (n - 0)
    ⟨0, itn, rfl, Nat.zero_le _, hw, hst, s.heap, s.toks, m, news, rfl, F, N, hap, hkp, hj⟩
  rintro k s' ⟨i, itn, rfl, hi, hw, hst, h, tk, m₁, news₁, rfl, F₁, N₁, hap, hkp, hJ⟩
  by_cases hlt : i < n
  · refine wpAny_mono (W.item i _ (fun v s₂ => wpAny (model prog w) A (assign target env v) (fun _ s₂ => wpAny (model prog w) A (execs body env) (fun f s₃ => match f with
            | .next | .cont => ∃ k, k < n - i ∧ ∃ i itn, k = n - i ∧ i ≤ n ∧ itn.map (·.1) = wr ∧ St i s₃.heap ∧ FeedSt h₀ L wr kp itn (J i) s s₃
            | .brk => Q .next s₃
            | .ret v => Q (.ret v) s₃) (fun _ _ => False) s₂) (fun _ _ => False) s₂) (fun _ _ => False) hlt hst ?_) (fun r s₁ hr => ?_) fun _ _ e => e.elim
    · intro v h' tk' hP hst' hk
      obtain ⟨F₂, N₂, mk⟩ := feed_ledger F₁ hw N₁ hap hk
      obtain ⟨itn', e', hi'⟩ := entries_of wr (W.exi _ _ hst')
      have N₃ := mk itn' e' hi'
      refine wpAny_mono (turn i v h' tk' m₁ news₁ itn' hlt hP hJ hkp e' F₂ N₃ hap) (fun _ s₂ h₂ => ?_) fun _ _ e => e
      refine wpAny_mono h₂ (fun f s₃ h₃ => ?_) fun _ _ e => e
      have fin : FeedSt h₀ L wr kp itn' (J (i + 1)) s s₃ → ∃ k, k < n - i ∧ ∃ i itn, k = n - i ∧ i ≤ n ∧ itn.map (·.1) = wr ∧ St i s₃.heap ∧ FeedSt h₀ L wr kp itn (J i) s s₃ := fun st => by
        refine ⟨n - (i + 1), by omega, i + 1, itn', rfl, hlt, e', ?_, st⟩
        obtain ⟨h₄, tk₄, m₄, news₄, rfl, F₄, N₄, hap₄, hkp₄, hJ₄⟩ := st
        exact feed_stands W hfp e' F₂.keep N₃ hkp F₄.keep N₄ hkp₄ hst'
      cases f with
      | next => exact fin (stop_at h₃)
      | cont => exact fin (stop_at h₃)
      | brk => exact h₃
      | ret v => exact h₃
    · cases r with
      | none => exact hr.elim
      | some v =>
        dsimp only at hr ⊢
        refine wpAny_mono hr (fun _ s₂ h₂ => ?_) fun _ _ e => e.elim
        refine wpAny_mono h₂ (fun _ s₂ h₂ => ?_) fun _ _ e => e.elim
        refine wpAny_mono h₂ (fun f s₃ h₃ => ?_) fun _ _ e => e.elim
        cases f <;> exact h₃
  · have hin : i = n := by omega
    subst hin
    refine W.done _ _ _ hst fun h' tk' hk => ?_
    obtain ⟨F₂, N₂, _⟩ := feed_ledger F₁ hw N₁ hap hk
    exact wpAny_execs_nil (done h' tk' m₁ news₁ hJ F₂ N₂ hkp)
end
end Mine

namespace Mine

section
variable {prog : Program} {w : World} {A : Around} {E : Value → Shared → Prop} {s : Shared} {env : Env} {h₀ : Heap} {L : Addr} {m : Str → Option Value} {news : List (Addr × Obj)}

theorem newEnv_comp {M : Model} {scope : Scope} {globals : Addr} {cl : List (Str × Addr)} {qual : Str} {Q : Env → Shared → Prop}
    (hQ : Q { scope, locals := s.heap.objs.size, globals, cells := cellsFrom (s.heap.objs.size + 1) scope.names cl, qual, func := none, code := env.code, frame := env.frame, builtins := env.builtins }
      { s with heap := pushCells (s.heap.push { cls := .type "dict", data := .dict #[] }) scope.names }) :
    wpAny M A (newFunctionEnv scope globals cl [] qual none .none (some env)) Q E s := by
  simp only [newFunctionEnv, Option.isSome_some, if_true]
  refine wpAny_bind (wpAny_alloc ?_)
  refine wpAny_bind (wpAny_layCells _ (fun name kind cells => by cases hkc : kind == NameKind.cell <;> simp [hkc]) _ _ _ _ ?_)
  rw [show ({ s with heap := s.heap.push { cls := .type "dict", data := .dict #[] } } : Shared).heap.objs.size = s.heap.objs.size + 1 from Heap.size_push ..]
  refine wpAny_bind ?_
  rw [List.forIn_nil]
  exact wpAny_pure (wpAny_pure hQ)

/-- what holds behind a turn of a comprehension -/
def CompSt (h₀ : Heap) (L : Addr) (m : Str → Option Value) (wr : List Addr) (kp itn : List (Addr × Obj)) (C D : Addr) (oD : Obj) (J : List (Addr × Obj) → Prop) (s₀ s : Shared) : Prop :=
  ∃ h tk oC mC news, s = { s₀ with heap := h, toks := tk } ∧ Fr h₀ L h m ∧ LCg.NsObj oC mC ∧ News h₀ L h ((C, oC) :: (D, oD) :: (itn ++ news)) ∧ (∀ p ∈ news, p.1 ≠ C ∧ p.1 ≠ D ∧ p.1 ∉ wr) ∧ (∀ p ∈ kp, p ∈ news) ∧ J news

def ownL (own : Option Obj) (C : Addr) : List (Addr × Obj) := match own with
  | none => []
  | some o => [(C + 1, o)]

theorem comp_block {elt target iter : Expr} {ifs : List Expr} {scope : Scope} {cl : List (Str × Addr)} {pos : Pos} {I : Addr} {fp wr : List Addr} {n : Nat} {P : Nat → Value → Heap → Prop} {St : Nat → Heap → Prop}
    {RR : Value → Addr → Result → Shared → Prop} (W : Feed prog w A target I fp wr n P St) (kp itn : List (Addr × Obj)) (own : Option Obj) (J : Nat → List Value → List (Addr × Obj) → Prop)
    (hfree : ∀ o, own = some o → o.isFreed = false) (hp : ∀ h, pushCells h scope.names = match own with | none => h | some o => h.push o)
    (hfp : ∀ b ∈ fp, b ∈ wr ∨ (∃ o, (b, o) ∈ kp) ∨ ∃ o, h₀.get? b = some o)
    (F : Fr h₀ L s.heap m) (hw : itn.map (·.1) = wr) (N : News h₀ L s.heap (itn ++ news)) (hap : ∀ p ∈ news, p.1 ∉ wr) (hkp : ∀ p ∈ kp, p ∈ news) (hst : St 0 s.heap) (hn : n ≤ sizeLine)
    (hlen : ∀ i ys nw, J i ys nw → ys.length ≤ i)
    (hj : ∀ C, (∀ p ∈ itn ++ news, p.1 < C) → J 0 [] (ownL own C ++ news))
    (turn : ∀ C D i v h tk oC mC c ys news₁ itn₁, i < n → P i v h → J i ys news₁ → (∀ p ∈ kp, p ∈ news₁) → itn₁.map (·.1) = wr → Fr h₀ L h m → LCg.NsObj oC mC → News h₀ L h ((C, oC) :: (D, PySem.W.listOf ys.toArray c) :: (itn₁ ++ news₁)) →
      (∀ p ∈ itn₁ ++ news₁, p.1 ≠ C ∧ p.1 ≠ D) → C ≠ D → (∀ p ∈ news₁, p.1 ∉ wr) →
      wpAny (model prog w) A (assign target (compEnvC scope (cellsFrom (C + 1) scope.names cl) C env) v) (fun _ s₂ =>
        wpAny (model prog w) A (forIn ifs true fun c r => if r = true then do let ok ← isTrue c (compEnvC scope (cellsFrom (C + 1) scope.names cl) C env) (eval c (compEnvC scope (cellsFrom (C + 1) scope.names cl) C env)); pure (ForInStep.yield ok) else pure (ForInStep.yield r)) (fun ok s₃ =>
          if ok = true then wpAny (model prog w) A (eval elt (compEnvC scope (cellsFrom (C + 1) scope.names cl) C env)) (fun y s₄ => Stop (CompSt h₀ L m wr kp itn₁ C D (PySem.W.listOf ys.toArray c) (J (i + 1) (ys ++ [y])) s s₄)) (fun _ _ => False) s₃
          else Stop (CompSt h₀ L m wr kp itn₁ C D (PySem.W.listOf ys.toArray c) (J (i + 1) ys) s s₃)) (fun _ _ => False) s₂) (fun _ _ => False) { s with heap := h, toks := tk })
    (fin : ∀ C D h tk oC mC c ys news₁, J n ys news₁ → (∀ p ∈ kp, p ∈ news₁) → Fr h₀ L h m → LCg.NsObj oC mC → News h₀ L h ((C, oC) :: (D, PySem.W.listOf ys.toArray c) :: news₁) → (∀ p ∈ news₁, p.1 ≠ C ∧ p.1 ≠ D) → C ≠ D → (∀ p ∈ itn ++ news, p.1 < D) →
      RR (.ref D) C (.ok .next) { s with heap := h, toks := tk }) :
    wpAny (model prog w) A (newList []) (fun acc s₃ => wpAny (model prog w) A (newFunctionEnv scope env.globals cl [] env.qual none .none (some env)) (fun cenv s₄ =>
      codeAny (model prog w) A (.compStart (.ListComp elt [⟨target, iter, ifs, 0⟩] scope pos) 0 (.ref I) acc { cenv with scope := relabel scope env }) (RR acc cenv.locals) s₄) E s₃) E s := by
  refine newList_K F N (fun D h₁ F₁ N₁ hltD => ?_) (Nat.zero_le _)
  refine newEnv_comp ?_
  dsimp only
  have F₂ : Fr h₀ L (h₁.push { cls := .type "dict", data := .dict #[] }) m := F₁.push _
  have N₂ := News.push F₁ N₁ { cls := .type "dict", data := .dict #[] } rfl
  have hltC : ∀ p ∈ (D, PySem.W.listOf [].toArray 0) :: (itn ++ news), p.1 < h₁.objs.size := fun p hp => Heap.lt_size (N₁ p hp).1
  have hszC : (h₁.push { cls := .type "dict", data := .dict #[] }).objs.size = h₁.objs.size + 1 := Heap.size_push ..
  have hns : LCg.NsObj { cls := .type "dict", data := .dict #[] } (fun _ => none) := ⟨#[], 0, rfl, fun e he => absurd he (by simp), fun _ => rfl⟩
  generalize h₁.objs.size = C at N₂ hltC hszC ⊢
  have hF3 : Fr h₀ L (pushCells (h₁.push { cls := .type "dict", data := .dict #[] }) scope.names) m ∧
      News h₀ L (pushCells (h₁.push { cls := .type "dict", data := .dict #[] }) scope.names) ((C, { cls := .type "dict", data := .dict #[] }) :: (D, PySem.W.listOf [].toArray 0) :: (itn ++ (ownL own C ++ news))) := by
    rw [hp]
    cases own with
    | none => exact ⟨F₂, N₂⟩
    | some o =>
      refine ⟨F₂.push o, fun p hp => ?_⟩
      have N₃ := News.push F₂ N₂ o (hfree o rfl)
      rw [hszC] at N₃
      refine N₃ p ?_
      simp only [ownL, List.mem_cons, List.mem_append, List.not_mem_nil, or_false] at hp ⊢
      rcases hp with h | h | h | h | h
      · exact .inr (.inl h)
      · exact .inr (.inr (.inl h))
      · exact .inr (.inr (.inr (.inl h)))
      · exact .inl h
      · exact .inr (.inr (.inr (.inr h)))
  obtain ⟨F₃, N₃⟩ := hF3
  have hDC : D < C := hltC _ (.head _)
  have hitC : ∀ p ∈ itn ++ news, p.1 < C := fun p hp => hltC p (.tail _ hp)
  have hJ0 := hj C hitC
  have hoap : ∀ p ∈ ownL own C ++ news, p.1 ≠ C ∧ p.1 ≠ D ∧ p.1 ∉ wr := fun p hp => by
    rcases List.mem_append.mp hp with hp | hp
    · have : p.1 = C + 1 := by
        cases own with
        | none => cases hp
        | some o => rcases List.mem_cons.mp hp with rfl | hp; rfl; cases hp
      refine ⟨by rw [this]; exact Nat.succ_ne_self C, by rw [this]; exact Nat.ne_of_gt (Nat.lt_succ_of_lt hDC), fun hb => ?_⟩
      rw [← hw] at hb
      obtain ⟨q, hq, e⟩ := List.mem_map.mp hb
      have h9 := hitC q (List.mem_append.mpr (.inl hq))
      rw [e, this] at h9
      exact absurd (Nat.lt_of_succ_lt h9) (Nat.lt_irrefl C)
    · have h1 := hitC p (List.mem_append.mpr (.inr hp))
      have h2 := hltD p (List.mem_append.mpr (.inr hp))
      exact ⟨Nat.ne_of_lt h1, Nat.ne_of_lt h2, hap p hp⟩
  have hitn0 : ∀ p ∈ itn, p.1 ≠ C ∧ p.1 ≠ D := fun p hp => ⟨Nat.ne_of_lt (hitC p (List.mem_append.mpr (.inl hp))), Nat.ne_of_lt (hltD p (List.mem_append.mpr (.inl hp)))⟩
  have hwrCD : C ∉ wr ∧ D ∉ wr := by
    constructor <;> intro hb <;> rw [← hw] at hb <;> obtain ⟨q, hq, e⟩ := List.mem_map.mp hb
    · exact (hitn0 q hq).1 e
    · exact (hitn0 q hq).2 e
  have st₃ : St 0 (pushCells (h₁.push { cls := .type "dict", data := .dict #[] }) scope.names) :=
    feed_stands W hfp hw F.keep N hkp F₃.keep (fun p hp => N₃ p (.tail _ (.tail _ hp))) (fun p hp => List.mem_append.mpr (.inr (hkp p hp))) hst
  have loop : ∀ s₃ : Shared, s₃.heap = pushCells (h₁.push { cls := .type "dict", data := .dict #[] }) scope.names → (∃ tk, s₃ = { s with heap := pushCells (h₁.push { cls := .type "dict", data := .dict #[] }) scope.names, toks := tk }) →
      codeAny (model prog w) A (.compLoop (.ListComp elt [⟨target, iter, ifs, 0⟩] scope pos) 0 (.ref I) (.ref D) (compEnvC scope (cellsFrom (C + 1) scope.names cl) C env)) (RR (.ref D) C) s₃ := by
    rintro s₃ - ⟨tk₃, rfl⟩
    refine codeAny_loop rfl (fun k s' => ∃ i itn ys c, k = n - i ∧ i ≤ n ∧ itn.map (·.1) = wr ∧ St i s'.heap ∧ CompSt h₀ L m wr kp itn C D (PySem.W.listOf ys.toArray c) (J i ys) s s') ?_ (n - 0)
      ⟨0, itn, [], 0, rfl, Nat.zero_le _, hw, st₃, _, tk₃, _, _, _, rfl, F₃, hns, N₃, hoap, fun p hp => List.mem_append.mpr (.inr (hkp p hp)), hJ0⟩
    rintro k s' ⟨i, itn, ys, c, rfl, hi, hw, hst, h, tk, oC, mC, news₁, rfl, F₁, hC₁, N₁, hap, hkp, hJ⟩
    show wpAny _ A ((compTurn (.ListComp elt [⟨target, iter, ifs, 0⟩] scope pos) 0 (.ref I) (.ref D) (compEnvC scope (cellsFrom (C + 1) scope.names cl) C env)).onRaise (fun x => do noteFrame x (compEnvC scope (cellsFrom (C + 1) scope.names cl) C env); theTreesLotGoes x)) _ _ _
    refine wpAny_noted ?_
    rw [compTurn_list]
    refine wpAny_bind (wpAny_standAt (wpAny_bind ?_))
    have N₁' : News h₀ L h (itn ++ ((C, oC) :: (D, PySem.W.listOf ys.toArray c) :: news₁)) := fun p hp => N₁ p (by
      simp only [List.mem_cons, List.mem_append] at hp ⊢
      rcases hp with h | h | h | h
      · exact .inr (.inr (.inl h))
      · exact .inl h
      · exact .inr (.inl h)
      · exact .inr (.inr (.inr h)))
    have hap' : ∀ p ∈ (C, oC) :: (D, PySem.W.listOf ys.toArray c) :: news₁, p.1 ∉ wr := fun p hp => by
      rcases List.mem_cons.mp hp with rfl | hp
      · exact hwrCD.1
      · rcases List.mem_cons.mp hp with rfl | hp
        · exact hwrCD.2
        · exact (hap p hp).2.2
    by_cases hlt : i < n
    · have key : ∀ v h' tk', P i v h' → St (i + 1) h' → (∀ b o, b ∉ wr → h.get? b = some o → h'.get? b = some o) →
          wpAny (model prog w) A (assign target (compEnvC scope (cellsFrom (C + 1) scope.names cl) C env) v) (fun _ s₂ =>
            wpAny (model prog w) A (forIn ifs true fun c r => if r = true then do let ok ← isTrue c (compEnvC scope (cellsFrom (C + 1) scope.names cl) C env) (eval c (compEnvC scope (cellsFrom (C + 1) scope.names cl) C env)); pure (ForInStep.yield ok) else pure (ForInStep.yield r)) (fun ok s₃ =>
              if ok = true then wpAny (model prog w) A (eval elt (compEnvC scope (cellsFrom (C + 1) scope.names cl) C env)) (fun y s₄ => wpAny (model prog w) A (call (.builtin "list.append") [.ref D, y]) (fun _ s₅ => ∃ k, k < n - i ∧ ∃ i itn ys c, k = n - i ∧ i ≤ n ∧ itn.map (·.1) = wr ∧ St i s₅.heap ∧ CompSt h₀ L m wr kp itn C D (PySem.W.listOf ys.toArray c) (J i ys) s s₅) (fun _ _ => False) s₄) (fun _ _ => False) s₃
              else ∃ k, k < n - i ∧ ∃ i itn ys c, k = n - i ∧ i ≤ n ∧ itn.map (·.1) = wr ∧ St i s₃.heap ∧ CompSt h₀ L m wr kp itn C D (PySem.W.listOf ys.toArray c) (J i ys) s s₃) (fun _ _ => False) s₂) (fun _ _ => False) { s with heap := h', toks := tk' } := by
        intro v h' tk' hP hst' hk
        obtain ⟨F₂, N₂, mk⟩ := feed_ledger F₁ hw N₁' hap' hk
        obtain ⟨itn', e', hi'⟩ := entries_of wr (W.exi _ _ hst')
        have N₃ := mk itn' e' hi'
        have N₄ : News h₀ L h' ((C, oC) :: (D, PySem.W.listOf ys.toArray c) :: (itn' ++ news₁)) := fun p hp => N₃ p (by
          simp only [List.mem_cons, List.mem_append] at hp ⊢
          rcases hp with h | h | h | h
          · exact .inr (.inl h)
          · exact .inr (.inr (.inl h))
          · exact .inl h
          · exact .inr (.inr (.inr h)))
        have hitn' : ∀ p ∈ itn', p.1 ≠ C ∧ p.1 ≠ D := fun p hp => by
          have hb : p.1 ∈ wr := by rw [← e']; exact List.mem_map_of_mem hp
          exact ⟨fun e => hwrCD.1 (e ▸ hb), fun e => hwrCD.2 (e ▸ hb)⟩
        refine wpAny_mono (turn C D i v h' tk' oC mC c ys news₁ itn' hlt hP hJ hkp e' F₂ hC₁ N₄ (fun p hp => ?_) (Nat.ne_of_gt hDC) fun p hp => (hap p hp).2.2) (fun _ s₂ h₂ => ?_) fun _ _ e => e
        · rcases List.mem_append.mp hp with hp | hp
          · exact hitn' p hp
          · exact ⟨(hap p hp).1, (hap p hp).2.1⟩
        refine wpAny_mono h₂ (fun ok s₃ h₃ => ?_) fun _ _ e => e
        cases ok with
        | false =>
          simp only [Bool.false_eq_true, if_false] at h₃ ⊢
          have st := stop_at h₃
          refine ⟨n - (i + 1), by omega, i + 1, itn', ys, c, rfl, hlt, e', ?_, st⟩
          obtain ⟨h₅, tk₅, oC₅, mC₅, news₅, rfl, F₅, hC₅, N₅, hap₅, hkp₅, hJ₅⟩ := st
          exact feed_stands W hfp e' F₂.keep (fun p hp => N₄ p (.tail _ (.tail _ hp))) hkp F₅.keep (fun p hp => N₅ p (.tail _ (.tail _ hp))) hkp₅ hst'
        | true =>
          simp only [if_true] at h₃ ⊢
          refine wpAny_mono h₃ (fun y s₄ h₄ => ?_) fun _ _ e => e
          obtain ⟨h₅, tk₅, oC₅, mC₅, news₅, rfl, F₅, hC₅, N₅, hap₅, hkp₅, hJ₅⟩ := stop_at h₄
          have hst₅ := feed_stands W hfp e' F₂.keep (fun p hp => N₄ p (.tail _ (.tail _ hp))) hkp F₅.keep (fun p hp => N₅ p (.tail _ (.tail _ hp))) hkp₅ hst'
          have hysl : ys.length ≤ i := hlen _ _ _ hJ
          refine append_K (x := y) F₅ N₅ (.tail (Nat.ne_of_gt hDC) (.head fun p hp => ?_)) (fun h₆ F₆ N₆ => ?_) (by simpa using (show ys.length ≤ sizeLine by omega))
          · rcases List.mem_append.mp hp with hp | hp
            · exact (hitn' p hp).2
            · exact (hap₅ p hp).2.1
          refine ⟨n - (i + 1), by omega, i + 1, itn', ys ++ [y], c + 1, rfl, hlt, e', ?_, h₆, tk₅, oC₅, mC₅, news₅, rfl, F₆, hC₅, ?_, hap₅, hkp₅, hJ₅⟩
          · exact feed_stands W hfp e' F₅.keep (fun p hp => N₅ p (.tail _ (.tail _ hp))) hkp₅ F₆.keep (fun p hp => N₆ p (.tail _ (.tail _ hp))) hkp₅ hst₅
          · have e9 : ys.toArray.push y = (ys ++ [y]).toArray := by simp
            rw [e9] at N₆
            exact N₆
      refine wpAny_mono (W.item i _ (fun v s₂ => wpAny (model prog w) A (assign target (compEnvC scope (cellsFrom (C + 1) scope.names cl) C env) v) _ (fun _ _ => False) s₂) (fun _ _ => False) hlt hst key) (fun r s₁ hr => ?_) fun _ _ e => e.elim
      cases r with
      | none => exact hr.elim
      | some v =>
        refine wpAny_bind (wpAny_mono hr (fun _ s₂ h₂ => ?_) fun _ _ e => e.elim)
        refine wpAny_bind (wpAny_mono h₂ (fun _ s₂ h₂ => wpAny_bind (wpAny_mono h₂ (fun ok s₃ h₃ => ?_) fun _ _ e => e.elim)) fun _ _ e => e.elim)
        cases ok with
        | false =>
          simp only [Bool.false_eq_true, if_false] at h₃
          exact wpAny_pure ⟨rfl, h₃⟩
        | true =>
          simp only [if_true] at h₃
          exact wpAny_bind (wpAny_bind (wpAny_mono h₃ (fun x s₄ h₄ => wpAny_bind (wpAny_mono h₄ (fun _ s₅ h₅ => wpAny_pure (wpAny_pure ⟨rfl, h₅⟩)) fun _ _ e => e.elim)) fun _ _ e => e.elim))
    · have hin : i = n := by omega
      subst hin
      refine W.done _ _ _ hst fun h' tk' hk => ?_
      obtain ⟨F₂, N₂, _⟩ := feed_ledger F₁ hw N₁' hap' hk
      exact wpAny_pure (fin C D h' tk' oC mC c ys news₁ hJ hkp F₂ hC₁ N₂ (fun p hp => ⟨(hap p hp).1, (hap p hp).2.1⟩) (Nat.ne_of_gt hDC) hltD)
  exact codeAny_compStart_list (loop _ rfl ⟨_, rfl⟩) (W.self 0 _ _ _ st₃ (loop _ rfl ⟨_, rfl⟩))
end
end Mine

namespace Mine
section
variable {prog : Program} {w : World} {A : Around} {E : Value → Shared → Prop} {s : Shared} {env : Env} {h₀ : Heap} {L C : Addr} {m mC : Str → Option Value} {news : List (Addr × Obj)} {oC : Obj} {scope : Scope} {cs : List (Str × Addr)}

theorem news_but {h h' : Heap} {L C : Addr} {oC : Obj} {news : List (Addr × Obj)} (N : News h₀ L h ((C, oC) :: news)) (hap : ∀ p ∈ news, p.1 ≠ C) (hs : Heap.SameBut C h h') : News h₀ L h' news := fun p hp => by
  have := N p (.tail _ hp)
  exact ⟨(hs.2 p.1 (hap p hp)).trans this.1, this.2⟩

theorem compPost_eval {M : Model} {acc : Value} {Q : Value → Shared → Prop} (F : Fr h₀ L s.heap m) (hC : LCg.NsObj oC mC) (N : News h₀ L s.heap ((C, oC) :: news)) (hap : ∀ p ∈ news, p.1 ≠ C)
    (k : ∀ h', Fr h₀ L h' m → News h₀ L h' news → Q acc { s with heap := h' }) : compPost M A E none Q acc C (.ok .next) s := by
  have hm := N (C, oC) (.head _)
  exact ⟨mC, hC.ns hm.1, fun h' hs => k h' (F.change hs hm.2.1 hm.2.2) (news_but N hap hs)⟩

theorem compPost_assign {M : Model} {acc : Value} {y : Str} {py : Pos} {Q : Value → Shared → Prop} (F : Fr h₀ L s.heap m) (hC : LCg.NsObj oC mC) (N : News h₀ L s.heap ((C, oC) :: news)) (hap : ∀ p ∈ news, p.1 ≠ C)
    (k : ∀ h', Fr h₀ L h' (fun z => if z = y then some acc else m z) → News h₀ L h' news → Q .none { s with heap := h', toks := s.toks + 1 })
    (hLL : env.locals = L) (hy : env.kindOf y = some .local) (hp : (env.scope.kind == .class || (env.scope.kind == .module && env.locals != env.globals)) = false) :
    compPost M A E (some (assign (.Name y py) env)) Q acc C (.ok .next) s := by
  subst hLL
  have hm := N (C, oC) (.head _)
  show wpAny M A (assign (.Name y py) env acc) _ _ _
  refine wpAny_assign_Name (wpAny_storeName_local hy F.ns (fun h₂ hn₂ hs₂ => ?_) hp)
  have F₂ := F.set hn₂ hs₂
  have N₂ : News h₀ env.locals h₂ ((C, oC) :: news) := News.set N hs₂
  have hm₂ := N₂ (C, oC) (.head _)
  exact ⟨mC, hC.ns hm₂.1, fun h₃ hs₃ => k h₃ (F₂.change hs₃ hm₂.2.1 hm₂.2.2) (news_but N₂ hap hs₃)⟩

/-- near = [..]: the list goes into the name before the block's own names are let go -/
theorem exec_comp_assign {elt target iter : Expr} {ifs : List Expr} {scope : Scope} {pos spos py : Pos} {y : Str} {cl : List (Str × Addr)} {Q : Flow → Shared → Prop}
    (hsw : swapsWith (.ListComp elt [⟨target, iter, ifs, 0⟩] scope pos) (some (.Name y py)) spos.line env = pure true) (hclos : closureFor scope env = pure cl)
    (hkind : scope.kind = .function) (hnames : ∀ x ∈ scope.names, x.2 = .local → scope.names.lookup x.1 = some .local)
    (h : wpAny (model prog w) A (eval iter env) (fun x s₁ => wpAny (model prog w) A (pyIter x) (fun it s₂ => wpAny (model prog w) A (newList []) (fun acc s₃ =>
      wpAny (model prog w) A (newFunctionEnv scope env.globals cl [] env.qual none .none (some env)) (fun cenv s₄ =>
        codeAny (model prog w) A (.compStart (.ListComp elt [⟨target, iter, ifs, 0⟩] scope pos) 0 it acc { cenv with scope := relabel scope env }) (compPost (model prog w) A E (some (assign (.Name y py) env)) (fun _ s' => Q .next s') acc cenv.locals) s₄) E s₃) E s₂) E s₁) E s)
    (hs : ∀ x, foldedSetIterable iter env x = pure x := by intro _; rfl) :
    wpAny (model prog w) A (exec (.Assign [.Name y py] (.ListComp elt [⟨target, iter, ifs, 0⟩] scope pos) spos) env) Q E s := by
  rw [exec_Assign_Name_used _ _ _ _ hsw]
  refine wpAny_bind (wpAny_standAt (wpAny_bind ?_))
  show wpAny _ A (do let _ ← comprehension (.ListComp elt [⟨target, iter, ifs, 0⟩] scope pos) scope env _ (newList []) false (eval iter env) (some (assign (.Name y py) env))) _ _ s
  exact wpAny_bind (wpAny_mono (wpAny_comprehension_free (use := some (assign (.Name y py) env)) (Q := fun _ s' => Q .next s') rfl hs hclos hkind hnames h) (fun _ s' hq => wpAny_pure (wpAny_pure hq)) fun _ _ e => e)

theorem eval_comp {elt target iter : Expr} {ifs : List Expr} {scope : Scope} {pos : Pos} {cl : List (Str × Addr)} {Q : Value → Shared → Prop}
    (hclos : closureFor scope env = pure cl) (hkind : scope.kind = .function) (hnames : ∀ x ∈ scope.names, x.2 = .local → scope.names.lookup x.1 = some .local)
    (h : wpAny (model prog w) A (eval iter env) (fun x s₁ => wpAny (model prog w) A (pyIter x) (fun it s₂ => wpAny (model prog w) A (newList []) (fun acc s₃ =>
      wpAny (model prog w) A (newFunctionEnv scope env.globals cl [] env.qual none .none (some env)) (fun cenv s₄ =>
        codeAny (model prog w) A (.compStart (.ListComp elt [⟨target, iter, ifs, 0⟩] scope pos) 0 it acc { cenv with scope := relabel scope env }) (compPost (model prog w) A E none Q acc cenv.locals) s₄) E s₃) E s₂) E s₁) E s)
    (hs : ∀ x, foldedSetIterable iter env x = pure x := by intro _; rfl) :
    wpAny (model prog w) A (eval (.ListComp elt [⟨target, iter, ifs, 0⟩] scope pos) env) Q E s := by
  rw [eval_ListComp]
  exact wpAny_comprehension_free (use := none) rfl hs hclos hkind hnames h

-- names within a block
theorem c_local {M : Model} {x : Str} {pos : Pos} {v : Value} {Q : Value → Shared → Prop} (hC : LCg.NsObj oC mC) (N : News h₀ L s.heap ((C, oC) :: news)) (hv : mC x = some v) (h : Q v s)
    (hk : (compEnvC scope cs C env).scope.kind = .function := by rfl) (hl : (compEnvC scope cs C env).kindOf x = some .local := by rfl) (hd : (x == ("__debug__" : Str)) = false := by decide) :
    wpAny M A (eval (.Name x pos) (compEnvC scope cs C env)) Q E s := ldVarK (hC.ns (N _ (.head _)).1) hv h hk hl hd

theorem c_cell {M : Model} {x : Str} {pos : Pos} {c : Addr} {o : Obj} {v : Value} {Q : Value → Shared → Prop} (N : News h₀ L s.heap news) (hm : (c, o) ∈ news) (hd : o.data = .cell (some v)) (h : Q v s)
    (hc : (compEnvC scope cs C env).cells.lookup x = some c := by rfl)
    (hk : (compEnvC scope cs C env).scope.kind = .function := by rfl) (hl : (compEnvC scope cs C env).kindOf x = some .cell := by rfl) (hb : (x == ("__debug__" : Str)) = false := by decide) :
    wpAny M A (eval (.Name x pos) (compEnvC scope cs C env)) Q E s := kcf_cell N hc hm hd h hk hl hb

theorem c_store {M : Model} {x : Str} {px : Pos} {v : Value} {Q : Unit → Shared → Prop} (F : Fr h₀ L s.heap m) (hC : LCg.NsObj oC mC) (N : News h₀ L s.heap ((C, oC) :: news)) (hap : ∀ p ∈ news, p.1 ≠ C)
    (h : ∀ h' oC', Fr h₀ L h' m → LCg.NsObj oC' (fun z => if z = x then some v else mC z) → News h₀ L h' ((C, oC') :: news) → Q () { s with heap := h', toks := s.toks + 1 })
    (hl : (compEnvC scope cs C env).kindOf x = some .local := by rfl)
    (hp : ((compEnvC scope cs C env).scope.kind == .class || ((compEnvC scope cs C env).scope.kind == .module && (compEnvC scope cs C env).locals != (compEnvC scope cs C env).globals)) = false := by rfl) :
    wpAny M A (assign (.Name x px) (compEnvC scope cs C env) v) Q E s := by
  have hm := N (C, oC) (.head _)
  refine wpAny_assign_Name (wpAny_storeName_local hl (hC.ns hm.1) (fun h' hn hs => ?_) hp)
  obtain ⟨oC', ho', hC'⟩ := LCg.ns_obj hn
  refine h h' oC' (F.change hs hm.2.1 hm.2.2) hC' fun p hp => ?_
  rcases List.mem_cons.mp hp with rfl | hp
  · exact ⟨ho', hm.2⟩
  · exact news_but N hap hs p hp

theorem c_pair {a b : Str} {pa pb tp : Pos} {kk : Nat} {T : Addr} {x y : Value} {Q : Unit → Shared → Prop} (hh : A.handled = none) (F : Fr h₀ L s.heap m) (hC : LCg.NsObj oC mC) (N : News h₀ L s.heap ((C, oC) :: news)) (hap : ∀ p ∈ news, p.1 ≠ C)
    (ht : s.heap.IsTuple T #[x, y])
    (h : ∀ h' tk oC', Fr h₀ L h' m → LCg.NsObj oC' (fun z => if z = b then some y else if z = a then some x else mC z) → News h₀ L h' ((C, oC') :: news) → Q () { s with heap := h', toks := tk })
    (ha : (compEnvC scope cs C env).kindOf a = some .local := by rfl) (hb : (compEnvC scope cs C env).kindOf b = some .local := by rfl)
    (hp : ((compEnvC scope cs C env).scope.kind == .class || ((compEnvC scope cs C env).scope.kind == .module && (compEnvC scope cs C env).locals != (compEnvC scope cs C env).globals)) = false := by rfl) :
    wpAny (model prog w) A (assign (.Tuple [.Name a pa, .Name b pb] kk tp) (compEnvC scope cs C env) (.ref T)) Q E s := by
  have hm := N (C, oC) (.head _)
  refine kcp_assign hh ht ha hb hp (hC.ns hm.1) fun h' tk hn hk => ?_
  obtain ⟨oC', ho', hC'⟩ := LCg.ns_obj hn
  have hL : L ≠ C := Ne.symm hm.2.1
  refine h h' tk oC' ?_ hC' fun p hp => ?_
  · obtain ⟨oL, a1, a2, hoL, a3⟩ := F.ns
    exact ⟨⟨oL, a1, a2, hk _ _ hL hoL, a3⟩, fun b x e => hk b x (fun e1 => by
      have h9 := hm.2.2
      have e2 : b = C := e1
      rw [show h₀.get? C = some x from e2 ▸ e] at h9; cases h9) (F.keep b x e), F.above⟩
  · rcases List.mem_cons.mp hp with rfl | hp
    · exact ⟨ho', hm.2⟩
    · have := N p (.tail _ hp)
      exact ⟨hk _ _ (hap p hp) this.1, this.2⟩

/-- enumerate(list) -/
theorem call_enum {l : Addr} {vs : Array Value} {Q : Value → Shared → Prop} (F : Fr h₀ L s.heap m) (N : News h₀ L s.heap news) (hl : s.heap.IsList l vs)
    (h : ∀ e it h' itn, Fr h₀ L h' m → itn.map (·.1) = [e, it] → News h₀ L h' (itn ++ news) → ((∃ old, IsEnum h' e it ((0 : Nat) : Int) old) ∧ h'.IsListIter it l 0 ∧ h'.IsList l vs) → e ≠ it → l ≠ e → l ≠ it → (∀ p ∈ news, p.1 ∉ [e, it]) → Q (.ref e) { s with heap := h' }) :
    wpAny (model prog w) A (call (.type "enumerate") [.ref l]) Q E s := by
  refine call_enumerate_list hl fun h' he hit hsz hk => ?_
  have hit' := hit
  obtain ⟨oi, hoi, _⟩ := hit'
  have hlt : l < s.heap.objs.size := by obtain ⟨o, ho, _⟩ := hl; exact Heap.lt_size ho
  have hLlt : L < s.heap.objs.size := F.ns.lt
  have hnone : ∀ b, s.heap.objs.size ≤ b → h₀.get? b = none := fun b hb => by
    cases e : h₀.get? b with
    | none => rfl
    | some o => exact absurd (Nat.lt_of_lt_of_le (Heap.lt_size (F.keep _ _ e)) hb) (Nat.lt_irrefl _)
  refine h _ _ h' [(s.heap.objs.size + 1, { cls := .type "enumerate", dict := none, data := .fields #[.none, .bool false, .ref s.heap.objs.size, rawInt 0, .none, .none], slots := #[] }), (s.heap.objs.size, oi)] ?_ rfl (fun p (hp : p ∈ _) => ?_) ⟨⟨.none, he⟩, hit, ?_⟩ (Nat.succ_ne_self _) (Nat.ne_of_lt (Nat.lt_succ_of_lt hlt)) (Nat.ne_of_lt hlt) (fun p (hp : p ∈ news) hb => ?_)
  · obtain ⟨oL, a1, a2, hoL, a3⟩ := F.ns
    exact ⟨⟨oL, a1, a2, hk _ _ hoL, a3⟩, fun b x e => hk b x (F.keep b x e), F.above⟩
  · rcases List.mem_cons.mp hp with rfl | hp
    · exact ⟨he, Nat.ne_of_gt (Nat.lt_succ_of_lt hLlt), hnone _ (Nat.le_succ _)⟩
    · rcases List.mem_cons.mp hp with rfl | hp
      · exact ⟨hoi, Nat.ne_of_gt hLlt, hnone _ (Nat.le_refl _)⟩
      · have := N p hp
        exact ⟨hk _ _ this.1, this.2⟩
  · obtain ⟨o, ho, r⟩ := hl
    exact ⟨o, hk _ _ ho, r⟩
  · have hlt := Heap.lt_size (N p hp).1
    rcases List.mem_cons.mp hb with e | hb
    · rw [e] at hlt; exact absurd (Nat.lt_of_succ_lt hlt) (Nat.lt_irrefl _)
    · rcases List.mem_cons.mp hb with e | hb
      · rw [e] at hlt; exact absurd hlt (Nat.lt_irrefl _)
      · cases hb

theorem Feed.enum {prog : Program} {w : World} {A : Around} (hh : A.handled = none) (e it l : Addr) (hei : e ≠ it) (hle : l ≠ e) (hli : l ≠ it) (items : Array Value) (elts : List Expr) (k : Nat) (pos : Pos) :
    Feed prog w A (.Tuple elts k pos) e [e, it, l] [e, it] items.size (fun i v h => ∃ T vals, v = .ref T ∧ h.IsTuple T vals ∧ ∃ t x, items[i]? = some x ∧ vals = #[.int i t, x])
      (fun i h => (∃ old, IsEnum h e it i old) ∧ h.IsListIter it l i ∧ h.IsList l items) :=
  Feed.ofU (WalksT.enumerate hh e it l hei hle hli items).toU (fun i h st b hb => by
    obtain ⟨⟨old, he⟩, ⟨oi, hoi, _⟩, _⟩ := st
    rcases List.mem_cons.mp hb with rfl | hb
    · exact ⟨_, he⟩
    · rcases List.mem_cons.mp hb with rfl | hb
      · exact ⟨_, hoi⟩
      · cases hb) elts k pos
end
end Mine

namespace Mine

abbrev tupO (vs : Array Value) (n : Nat) : Obj := { cls := .type "tuple", data := .seq vs n }

/-- the ledger bears the tree at v -/
inductive TreeIn (news : List (Addr × Obj)) : Value → Mine.T → Prop where
  | leaf {a : Addr} {n : Nat} {tk : Tok} {c : Nat} : (a, tupO #[.int (n : Int) tk] c) ∈ news → TreeIn news (.ref a) (.leaf n)
  | fork {a : Addr} {p : Nat} {tk : Tok} {vl vr : Value} {l r : Mine.T} {c : Nat} : (a, tupO #[.int (p : Int) tk, vl, vr] c) ∈ news → TreeIn news vl l → TreeIn news vr r → TreeIn news (.ref a) (.fork p l r)
theorem TreeIn.mono {news news' : List (Addr × Obj)} {v : Value} {t : Mine.T} (h : TreeIn news v t) (hs : ∀ p ∈ news, p ∈ news') : TreeIn news' v t := by
  induction h with
  | leaf hm => exact .leaf (hs _ hm)
  | fork hm _ _ ih1 ih2 => exact .fork (hs _ hm) ih1 ih2

local macro_rules | `(tactic| walk_at "call ref") => `(tactic| (k_here; (with_reducible show wpAny _ _ (call (Value.ref _) _) _ _ _); refine stop_at ?_))
local macro_rules | `(tactic| walk_at "eval ListComp") => `(tactic| (k_here; (with_reducible show wpAny _ _ (eval (PySem.Expr.ListComp _ _ _ _) _) _ _ _); refine stop_at ?_))

local macro_rules | `(tactic| walk_at "call type:enumerate") => `(tactic| (k_here; (with_reducible show wpAny _ _ (call (Value.type "enumerate") [Value.ref _]) _ _ _); refine stop_at ?_))

theorem ints_snoc {vs : List Value} {ns : List Int} {a : Int} {t : Tok} (h : IntsAre vs ns) : IntsAre (vs ++ [.int a t]) (ns ++ [a]) := by
  induction h with
  | nil => exact .cons _ _ .nil
  | cons _ _ _ ih => exact .cons _ _ ih
theorem ints_append {vs vs' : List Value} {ns ns' : List Int} (h : IntsAre vs ns) (h' : IntsAre vs' ns') : IntsAre (vs ++ vs') (ns ++ ns') := by
  induction h with
  | nil => exact h'
  | cons _ _ _ ih => exact .cons _ _ ih

def height : Mine.T → Nat
  | .leaf _ => 1
  | .fork _ l r => max (height l) (height r) + 1

def TapePost (news : List (Addr × Obj)) (tr : Mine.T) (r : Value) (news' : List (Addr × Obj)) : Prop :=
  ∃ D vs c, r = .ref D ∧ news' = (D, W.listOf vs c) :: news ∧ IntsAre vs.toList ((tape tr).map Int.ofNat) ∧ ∀ p ∈ news, p.1 < D

theorem con_tape_leaf (w : World) (n : Nat) (v : Value) (news : List (Addr × Obj)) (ht : TreeIn news v (.leaf n)) (ok : Ok (.leaf n)) (hlen : (tape (.leaf n)).length ≤ 2 ^ 22) :
    Con w 40 [v] (height (.leaf n) + 3) news (TapePost news (.leaf n)) := by
  unfold Con
  k_fill
  intro mean mg mb dp un gd cn cs a ccd cl outer A₀ base h₀ L m s Q E B F X N T hk hd' hu hret
  cases ht with
  | leaf hm =>
  rename_i a' tk c
  refine wpAny_call ?_
  k_dflt ktr_enter
  rename_i g₁ L₁ h₁ FG₁ F₁ N₁ B₁ X₁ T₁
  obtain ⟨m0, F₂⟩ := fr_open1 (x := Str.ofString "tree") F₁ rfl
  clear F₁
  k_steps
  refine stop_go ?_
  rename Addr => l₁
  rename ∀ p ∈ news, p.1 < l₁ => hl₁
  rename Fr _ _ _ _ => F₃
  rename News _ _ _ _ => N₃
  refine eval_comp (cl := []) rfl rfl (by decide) ?_
  k_steps
  refine item_tupleT (News.isTup N₃ (List.mem_cons_of_mem _ hm)) (by decide) (by decide) rfl rfl ?_
  k_steps
  refine stop_go ?_
  cases ok with
  | leaf hn =>
  with_unfolding_all refine Con.use (con_octs w n _ _ (by omega)) B₁ F₃ X₁ N₃ T₁ rfl (show dp + 1 + 2 < recursionLimit by omega) (show un + 3 + 8 * 2 < cLine by omega) ?_
  rintro r news' h₄ tk₄ F₄ N₄ ⟨D, vs, c', rfl, rfl, hi, hlt⟩
  k_steps
  refine stop_go ?_
  refine call_enum F₄ N₄ (News.isList N₄ (.head _)) fun e it h₅ itn F₅ hw N₅ hst hei hle hli hap => ?_
  have hvl : vs.size = (octs n).length := by have := hi.length; simpa using this
  refine (Feed.enum rfl e it D hei hle hli vs [] 0 default).self 0 _ _ _ hst ?_
  have hml : (marked (octs n)).length = (octs n).length := List.length_mapIdx
  have hol : (octs n).length ≤ 2 ^ 22 := by
    have : (tape (.leaf n)).length = (octs n).length + 1 := by rw [tape, List.length_cons, hml]
    omega
  refine comp_block (Feed.enum rfl e it D hei hle hli vs _ _ _) [(D, W.listOf vs c')] itn none
    (fun i ys (nw : List (Addr × Obj)) => nw = (D, W.listOf vs c') :: (l₁, W.listOf #[.int 0 tk] 0) :: news ∧ ys.length = min i (octs n).length ∧ IntsAre ys (((marked (octs n)).take i).map Int.ofNat)) (fun _ e => nomatch e) (fun _ => rfl)
    (fun b hb => ?_) F₅ hw N₅ hap (fun p hp => ?_) hst (by rw [hvl, sizeLine_eq]; omega) (fun i ys nw (h : _ ∧ _ ∧ _) => ?_) (fun C hC => ⟨rfl, by simp, .nil⟩) ?_ ?_
  · rcases List.mem_cons.mp hb with rfl | hb
    · exact .inl (.head _)
    · rcases List.mem_cons.mp hb with rfl | hb
      · exact .inl (.tail _ (.head _))
      · rcases List.mem_cons.mp hb with rfl | hb
        · exact .inr (.inl ⟨_, .head _⟩)
        · cases hb
  · rcases List.mem_cons.mp hp with rfl | hp
    · exact .head _
    · cases hp
  · rw [h.2.1]; omega
  · rintro C D' i v h₆ tk₆ oC mC c₆ ys news₆ itn₆ hin ⟨Tt, vals, rfl, hT, ti, xi, hxi, rfl⟩ ⟨rfl, hyl, hys⟩ hkp hw₆ F₆ hC N₆ hap₆ hCD hapw
    obtain ⟨o, ho⟩ : ∃ o, (octs n)[i]? = some o := ⟨_, List.getElem?_eq_getElem (by omega)⟩
    obtain ⟨to, hto⟩ := hi.get i (o : Int) (by rw [List.getElem?_map, ho]; rfl)
    have hxe : xi = .int (o : Int) to := by
      have h1 : vs[i]? = some (.int (o : Int) to) := by simpa using hto
      rw [hxi] at h1; exact Option.some.inj h1
    subst hxe
    have hil : i < (octs n).length := by omega
    refine c_pair rfl F₆ hC N₆ (fun p hp => ?_) hT fun h₇ tk₇ oC₇ F₇ hC₇ N₇ => ?_
    · rcases List.mem_cons.mp hp with rfl | hp
      · exact Ne.symm hCD
      · exact (hap₆ p hp).1
    refine wpAny_tests_nil ?_
    rw [if_pos rfl]
    refine wpAny_BinOp (wpAny_BinOp (c_local hC₇ N₇ rfl (wpAny_Constant_int (add_int (wpAny_BinOp (wpAny_Constant_int (wpAny_BinOp (c_local hC₇ N₇ rfl (wpAny_Constant_int (mod_int' (by decide) (mul_int (sub_int' (stop_go ?_)) ?_)))))))))))
    · have ev : (o : Int) + 128 - 128 * (i : Int).fmod 2 = Int.ofNat (o + 128 - 128 * (i % 2)) := by
        rw [show (i : Int).fmod 2 = ((i % 2 : Nat) : Int) from fmod_nat i 2]
        show _ = ((o + 128 - 128 * (i % 2) : Nat) : Int)
        omega
      rw [ev]
      refine ⟨h₇, _, oC₇, _, _, rfl, F₇, hC₇, N₇, fun p hp => ?_, hkp, rfl, ?_, ?_⟩
      · have := hap₆ p (List.mem_append.mpr (.inr hp))
        exact ⟨this.1, this.2, hapw p hp⟩
      · rw [List.length_append, hyl, List.length_singleton]; omega
      · have et : (marked (octs n)).take (i + 1) = (marked (octs n)).take i ++ [o + 128 - 128 * (i % 2)] := by
          rw [List.take_add_one]
          have : (marked (octs n))[i]? = some (o + 128 - 128 * (i % 2)) := by
            unfold marked
            rw [List.getElem?_mapIdx, ho]; rfl
          rw [this]; rfl
        rw [et, List.map_append]
        exact ints_snoc hys
    · rw [show (i : Int).fmod 2 = ((i % 2 : Nat) : Int) from fmod_nat i 2]
      refine IntMulOk.of_le (m := 8) (n := 8) (by decide +kernel) ?_ (by decide)
      refine intBits_le_iff.mpr ?_
      rw [Int.natAbs_natCast]
      have := Nat.mod_lt i (show 2 > 0 by decide)
      omega
  · rintro C D' h₆ tk₆ oC mC c₆ ys news₆ ⟨rfl, hyl, hys⟩ hkp F₆ hC N₆ hap₆ hCD -
    have hys' : IntsAre ys ((marked (octs n)).map Int.ofNat) := by
      rw [List.take_of_length_le (by omega)] at hys
      exact hys
    refine compPost_eval F₆ hC N₆ (fun p hp => ?_) fun h₇ F₇ N₇ => ?_
    · rcases List.mem_cons.mp hp with rfl | hp
      · exact Ne.symm hCD
      · exact (hap₆ p hp).1
    clear F₆ N₆ F₅ N₅ F₄ N₄ F₃ N₃
    k_steps
    rename IntsAre _ ([0] ++ _) => hI
    rename News h₀ L _ _ => N₈
    obtain ⟨_, _, _, hA⟩ := (by assumption : D' < _ ∧ D < _ ∧ l₁ < _ ∧ AllLt _ news)
    refine hret _ _ _ _ (by assumption) (fun p hp => N₈ p ?_) ⟨_, _, 0, rfl, rfl, hI, tb_ltOf hA⟩
    rcases List.mem_cons.mp hp with rfl | hp
    · exact .head _
    · exact .tail _ (.tail _ (.tail _ (.tail _ hp)))
end Mine

namespace Mine

local macro_rules | `(tactic| walk_at "call ref") => `(tactic| (k_here; (with_reducible show wpAny _ _ (call (Value.ref _) _) _ _ _); refine stop_at ?_))
local macro_rules | `(tactic| walk_at "eval ListComp") => `(tactic| (k_here; (with_reducible show wpAny _ _ (eval (PySem.Expr.ListComp _ _ _ _) _) _ _ _); refine stop_at ?_))
local macro_rules | `(tactic| walk_at "call type:enumerate") => `(tactic| (k_here; (with_reducible show wpAny _ _ (call (Value.type "enumerate") [Value.ref _]) _ _ _); refine stop_at ?_))

theorem con_tape_fork (w : World) (p : Nat) (l r : Mine.T)
    (ihl : ∀ (v : Value) (news : List (Addr × Obj)), TreeIn news v l → Ok l → (tape l).length ≤ 2 ^ 22 → Con w 40 [v] (height l + 3) news (TapePost news l))
    (ihr : ∀ (v : Value) (news : List (Addr × Obj)), TreeIn news v r → Ok r → (tape r).length ≤ 2 ^ 22 → Con w 40 [v] (height r + 3) news (TapePost news r))
    (v : Value) (news : List (Addr × Obj)) (ht : TreeIn news v (.fork p l r)) (ok : Ok (.fork p l r)) (hlen : (tape (.fork p l r)).length ≤ 2 ^ 22) :
    Con w 40 [v] (height (.fork p l r) + 3) news (TapePost news (.fork p l r)) := by
  unfold Con
  k_fill
  intro mean mg mb dp un gd cn cs a ccd cl outer A₀ base h₀ L m s Q E B F X N T hk hd' hu hret
  have hh : height (.fork p l r) = max (height l) (height r) + 1 := rfl
  have htl : (tape (.fork p l r)).length = (octs (tape l).length).length + (tape l).length + (tape r).length + 1 := by
    rw [tape, List.length_cons, List.length_append, List.length_append]
  cases ht with
  | fork hm hl hr =>
  rename_i a' tk vl vr c
  cases ok with
  | fork hp60 okl okr _ =>
  refine wpAny_call ?_
  k_dflt ktr_enter
  rename_i g₁ L₁ h₁ FG₁ F₁ N₁ B₁ X₁ T₁
  obtain ⟨m0, F₂⟩ := fr_open1 (x := Str.ofString "tree") F₁ rfl
  clear F₁
  k_steps
  refine stop_go ?_
  rename Fr _ _ _ _ => F₃
  rename News _ _ _ _ => N₃
  with_unfolding_all refine Con.use (ihl vl news hl okl (by omega)) B₁ F₃ X₁ N₃ T₁ rfl (show dp + 1 + (height l + 3) < recursionLimit by omega) (show un + 3 + 8 * (height l + 3) < cLine by omega) ?_
  rintro r₁ news' h₄ tk₄ F₄ N₄ ⟨D, vs, c', rfl, rfl, hi, hlt⟩
  clear F₃ N₃
  k_steps
  rename News _ _ _ _ => N₅
  refine item_tupleT (News.isTup N₅ (List.mem_cons_of_mem _ hm)) (by decide) (by decide) rfl rfl ?_
  k_steps
  refine stop_go ?_
  rename Addr => l₁
  rename _ ∧ AllLt l₁ news => hl₁
  rename Fr _ _ _ _ => F₆
  rename News _ _ _ _ => N₆
  have hll : (List.map Int.ofNat (tape l)).length = (tape l).length := List.length_map _
  with_unfolding_all refine Con.use (con_octs w (List.map Int.ofNat (tape l)).length _ _ (by omega)) B₁ F₆ X₁ N₆ T₁ rfl (show dp + 1 + 2 < recursionLimit by omega) (show un + 3 + 8 * 2 < cLine by omega) ?_
  rintro r₂ news' h₇ tk₇ F₇ N₇ ⟨D₂, vs₂, c₂, rfl, rfl, hi₂, hlt₂⟩
  rw [hll] at hi₂
  clear F₆ N₆
  k_steps
  rename Fr _ _ _ _ => F₈
  rename News _ _ _ _ => N₈
  have up : ∀ (x1 x2 x3 x4 x5 : Addr × Obj), ∀ q ∈ news, q ∈ x1 :: x2 :: x3 :: x4 :: x5 :: news := fun _ _ _ _ _ q hq => .tail _ (.tail _ (.tail _ (.tail _ (.tail _ hq))))
  refine item_tupleT (News.isTup N₈ (up _ _ _ _ _ _ hm)) (by decide) (by decide) rfl rfl ?_
  k_steps
  refine stop_go ?_
  with_unfolding_all refine Con.use (ihr vr _ (hr.mono (up _ _ _ _ _)) okr (by omega)) B₁ F₈ X₁ N₈ T₁ rfl (show dp + 1 + (height r + 3) < recursionLimit by omega) (show un + 3 + 8 * (height r + 3) < cLine by omega) ?_
  rintro r₃ news' h₉ tk₉ F₉ N₉ ⟨D₃, vs₃, c₃, rfl, rfl, hi₃, hlt₃⟩
  clear F₈ N₈
  k_steps
  rename IntsAre _ (_ ++ List.map Int.ofNat (tape r)) => hI
  rename News h₀ L _ _ => N₁₀
  rename _ ∧ _ ∧ _ ∧ _ ∧ _ ∧ _ ∧ AllLt _ news => hA
  have et : (tape (.fork p l r)).map Int.ofNat = [129 + (p : Int)] ++ (octs (tape l).length).map Int.ofNat ++ (tape l).map Int.ofNat ++ (tape r).map Int.ofNat := by
    rw [tape, List.map_cons, List.map_append, List.map_append]
    have : Int.ofNat (129 + p) = 129 + (p : Int) := by show ((129 + p : Nat) : Int) = _; omega
    rw [this]; simp
  refine hret _ _ _ _ (by assumption) (fun q hq => N₁₀ q ?_) ⟨_, _, 0, rfl, rfl, by rw [et]; exact hI, tb_ltOf hA.2.2.2.2.2.2⟩
  rcases List.mem_cons.mp hq with rfl | hq
  · exact .head _
  · exact .tail _ (.tail _ (up _ _ _ _ _ q hq))

theorem con_tape (w : World) (tr : Mine.T) : ∀ (v : Value) (news : List (Addr × Obj)), TreeIn news v tr → Ok tr → (tape tr).length ≤ 2 ^ 22 →
    Con w 40 [v] (height tr + 3) news (TapePost news tr) := by
  induction tr with
  | leaf n => exact con_tape_leaf w n
  | fork p l r ihl ihr => exact con_tape_fork w p l r ihl ihr
end Mine

namespace Mine

local macro_rules | `(tactic| walk_at "call ref") => `(tactic| (k_here; (with_reducible show wpAny _ _ (call (Value.ref _) _) _ _ _); refine stop_at ?_))
local macro_rules | `(tactic| walk_at "binaryOp Pow int int") => `(tactic| (k_here; refine stop_at ?_))
local macro_rules | `(tactic| walk_at "binaryOp FloorDiv int int") => `(tactic| (k_here; refine stop_at ?_))

def GrownPost (news : List (Addr × Obj)) (tr : Mine.T) (r : Value) (news' : List (Addr × Obj)) : Prop :=
  ∃ tl, news' = tl ++ news ∧ TreeIn (tl ++ news) r tr ∧ ∀ q ∈ tl, ∀ p ∈ news, p.1 < q.1

theorem con_grown_leaf (w : World) (n x place : Nat) (t t' : Tok) (v : Value) (news : List (Addr × Obj)) (ht : TreeIn news v (.leaf n)) (hp : place < 60) :
    Con w 54 [v, .int (x : Int) t, .int (place : Int) t'] 2 news (GrownPost news (grown x place (.leaf n))) := by
  unfold Con
  k_fill
  intro mean mg mb dp un gd cn cs a ccd cl outer A₀ base h₀ L m s Q E B F X N T hk hd' hu hret
  cases ht with
  | leaf hm =>
  rename_i a' tk c
  have hT := TreeIn.leaf hm
  refine wpAny_call ?_
  k_dflt ktr_enter
  rename_i g₁ L₁ h₁ FG₁ F₁ N₁ B₁ X₁ T₁
  obtain ⟨m0, F₂⟩ := fr_open3 (x := Str.ofString "tree") (x' := Str.ofString "number") (x'' := Str.ofString "place") F₁ rfl rfl rfl
  clear F₁
  k_steps
  refine stop_go ?_
  refine pow2_int (k := place) rfl (by omega) ?_
  k_steps
  refine stop_go ?_
  refine div_nat (Nat.two_pow_pos place) (noPylong_pow (by omega)) ?_
  k_steps
  · rename _ = (1 : Int) => hbit
    rw [show ((x / 2 ^ place : Nat) : Int).fmod 2 = ((x / 2 ^ place % 2 : Nat) : Int) from fmod_nat _ 2] at hbit
    have hbit' : x / 2 ^ place % 2 = 1 := by omega
    rename _ ∧ AllLt _ news => hA
    rename ∀ p ∈ news, p.1 < _ => hB
    refine hret _ (_ :: _ :: news) _ _ (by assumption) (by assumption) ⟨[_, _], rfl, ?_, ?_⟩
    · rw [grown, if_pos hbit']
      exact .fork (.head _) (hT.mono fun q hq => .tail _ (.tail _ hq)) (.leaf (.tail _ (.head _)))
    · intro q hq p hp
      rcases List.mem_cons.mp hq with rfl | hq
      · exact tb_ltOf hA.2 p hp
      · rcases List.mem_cons.mp hq with rfl | hq
        · exact hB p hp
        · cases hq
  · rename _ ≠ (1 : Int) => hbit
    rw [show ((x / 2 ^ place : Nat) : Int).fmod 2 = ((x / 2 ^ place % 2 : Nat) : Int) from fmod_nat _ 2] at hbit
    have hbit' : ¬ x / 2 ^ place % 2 = 1 := by omega
    rename _ ∧ AllLt _ news => hA
    rename ∀ p ∈ news, p.1 < _ => hB
    refine hret _ (_ :: _ :: news) _ _ (by assumption) (by assumption) ⟨[_, _], rfl, ?_, ?_⟩
    · rw [grown, if_neg hbit']
      exact .fork (.head _) (.leaf (.tail _ (.head _))) (hT.mono fun q hq => .tail _ (.tail _ hq))
    · intro q hq p hp
      rcases List.mem_cons.mp hq with rfl | hq
      · exact tb_ltOf hA.2 p hp
      · rcases List.mem_cons.mp hq with rfl | hq
        · exact hB p hp
        · cases hq

theorem con_grown_fork (w : World) (p0 : Nat) (l r : Mine.T) (x place : Nat) (t t' : Tok) (v : Value) (news : List (Addr × Obj)) (ht : TreeIn news v (.fork p0 l r)) (hp : place < 60) (hp0 : p0 < 60)
    (ihl : ∀ (t t' : Tok) (v : Value) (news : List (Addr × Obj)), TreeIn news v l → Con w 54 [v, .int (x : Int) t, .int (place : Int) t'] (height l + 1) news (GrownPost news (grown x place l)))
    (ihr : ∀ (t t' : Tok) (v : Value) (news : List (Addr × Obj)), TreeIn news v r → Con w 54 [v, .int (x : Int) t, .int (place : Int) t'] (height r + 1) news (GrownPost news (grown x place r))) :
    Con w 54 [v, .int (x : Int) t, .int (place : Int) t'] (height (.fork p0 l r) + 1) news (GrownPost news (grown x place (.fork p0 l r))) := by
  unfold Con
  k_fill
  intro mean mg mb dp un gd cn cs a ccd cl outer A₀ base h₀ L m s Q E B F X N T hk hd' hu hret
  have hh : height (.fork p0 l r) = max (height l) (height r) + 1 := rfl
  cases ht with
  | fork hm hl hr =>
  rename_i a' tk vl vr c
  have hT := TreeIn.fork hm hl hr
  refine wpAny_call ?_
  k_dflt ktr_enter
  rename_i g₁ L₁ h₁ FG₁ F₁ N₁ B₁ X₁ T₁
  obtain ⟨m0, F₂⟩ := fr_open3 (x := Str.ofString "tree") (x' := Str.ofString "number") (x'' := Str.ofString "place") F₁ rfl rfl rfl
  clear F₁
  k_steps
  all_goals refine stop_go ?_
  · have hlt' : p0 < place := by omega
    refine pow2_int (k := place) rfl (by omega) ?_
    k_steps
    refine stop_go ?_
    refine div_nat (Nat.two_pow_pos place) (noPylong_pow (by omega)) ?_
    k_steps
    · rename _ = (1 : Int) => hbit
      rw [show ((x / 2 ^ place : Nat) : Int).fmod 2 = ((x / 2 ^ place % 2 : Nat) : Int) from fmod_nat _ 2] at hbit
      have hbit' : x / 2 ^ place % 2 = 1 := by omega
      rename _ ∧ AllLt _ news => hA
      rename ∀ p ∈ news, p.1 < _ => hB
      refine hret _ (_ :: _ :: news) _ _ (by assumption) (by assumption) ⟨[_, _], rfl, ?_, ?_⟩
      · rw [grown, if_pos hlt', if_pos hbit']
        exact .fork (.head _) (hT.mono fun q hq => .tail _ (.tail _ hq)) (.leaf (.tail _ (.head _)))
      · intro q hq p hp
        rcases List.mem_cons.mp hq with rfl | hq
        · exact tb_ltOf hA.2 p hp
        · rcases List.mem_cons.mp hq with rfl | hq
          · exact hB p hp
          · cases hq
    · rename _ ≠ (1 : Int) => hbit
      rw [show ((x / 2 ^ place : Nat) : Int).fmod 2 = ((x / 2 ^ place % 2 : Nat) : Int) from fmod_nat _ 2] at hbit
      have hbit' : ¬ x / 2 ^ place % 2 = 1 := by omega
      rename _ ∧ AllLt _ news => hA
      rename ∀ p ∈ news, p.1 < _ => hB
      refine hret _ (_ :: _ :: news) _ _ (by assumption) (by assumption) ⟨[_, _], rfl, ?_, ?_⟩
      · rw [grown, if_pos hlt', if_neg hbit']
        exact .fork (.head _) (.leaf (.tail _ (.head _))) (hT.mono fun q hq => .tail _ (.tail _ hq))
      · intro q hq p hp
        rcases List.mem_cons.mp hq with rfl | hq
        · exact tb_ltOf hA.2 p hp
        · rcases List.mem_cons.mp hq with rfl | hq
          · exact hB p hp
          · cases hq
  · have hlt' : ¬ p0 < place := by omega
    refine pow2_int (k := p0) rfl (by omega) ?_
    k_steps
    refine stop_go ?_
    refine div_nat (Nat.two_pow_pos p0) (noPylong_pow (by omega)) ?_
    k_steps
    · rename _ = (1 : Int) => hbit
      rw [show ((x / 2 ^ p0 : Nat) : Int).fmod 2 = ((x / 2 ^ p0 % 2 : Nat) : Int) from fmod_nat _ 2] at hbit
      have hbit' : x / 2 ^ p0 % 2 = 1 := by omega
      refine stop_go ?_
      with_unfolding_all refine Con.use (ihr _ _ vr news hr) B₁ F₂ X₁ N₁ T₁ rfl (show dp + 1 + (height r + 1) < recursionLimit by omega) (show un + 3 + 8 * (height r + 1) < cLine by omega) ?_
      rintro r₉ news' h₉ tk₉ F₉ N₉ ⟨tl, rfl, ht₉, hlt₉⟩
      k_steps
      rename ∀ p ∈ tl ++ news, p.1 < _ => hB
      refine hret _ (_ :: (tl ++ news)) _ _ (by assumption) (by assumption) ⟨_ :: tl, rfl, ?_, ?_⟩
      · rw [grown, if_neg hlt', if_pos hbit']
        exact .fork (.head _) (hl.mono fun q hq => .tail _ (List.mem_append.mpr (.inr hq))) (ht₉.mono fun q hq => .tail _ hq)
      · intro q hq p hp
        rcases List.mem_cons.mp hq with rfl | hq
        · exact hB p (List.mem_append.mpr (.inr hp))
        · exact hlt₉ q hq p hp
    · rename _ ≠ (1 : Int) => hbit
      rw [show ((x / 2 ^ p0 : Nat) : Int).fmod 2 = ((x / 2 ^ p0 % 2 : Nat) : Int) from fmod_nat _ 2] at hbit
      have hbit' : ¬ x / 2 ^ p0 % 2 = 1 := by omega
      refine stop_go ?_
      with_unfolding_all refine Con.use (ihl _ _ vl news hl) B₁ F₂ X₁ N₁ T₁ rfl (show dp + 1 + (height l + 1) < recursionLimit by omega) (show un + 3 + 8 * (height l + 1) < cLine by omega) ?_
      rintro r₉ news' h₉ tk₉ F₉ N₉ ⟨tl, rfl, ht₉, hlt₉⟩
      k_steps
      rename ∀ p ∈ tl ++ news, p.1 < _ => hB
      refine hret _ (_ :: (tl ++ news)) _ _ (by assumption) (by assumption) ⟨_ :: tl, rfl, ?_, ?_⟩
      · rw [grown, if_neg hlt', if_neg hbit']
        exact .fork (.head _) (ht₉.mono fun q hq => .tail _ hq) (hr.mono fun q hq => .tail _ (List.mem_append.mpr (.inr hq)))
      · intro q hq p hp
        rcases List.mem_cons.mp hq with rfl | hq
        · exact hB p (List.mem_append.mpr (.inr hp))
        · exact hlt₉ q hq p hp

/-- the places of a tree are small -/
inductive Low : Mine.T → Prop
  | leaf {n : Nat} : Low (.leaf n)
  | fork {p : Nat} {l r : Mine.T} : p < 60 → Low l → Low r → Low (.fork p l r)
theorem con_grown (w : World) (tr : Mine.T) (x place : Nat) (hp : place < 60) (lo : Low tr) : ∀ (t t' : Tok) (v : Value) (news : List (Addr × Obj)), TreeIn news v tr →
    Con w 54 [v, .int (x : Int) t, .int (place : Int) t'] (height tr + 1) news (GrownPost news (grown x place tr)) := by
  induction lo with
  | leaf => exact fun t t' v news ht => con_grown_leaf w _ x place t t' v news ht hp
  | fork h1 _ _ ihl ihr => exact fun t t' v news ht => con_grown_fork w _ _ _ x place t t' v news ht hp h1 ihl ihr
end Mine

namespace Mine

local macro_rules | `(tactic| walk_at "call ref") => `(tactic| (k_here; (with_reducible show wpAny _ _ (call (Value.ref _) _) _ _ _); refine stop_at ?_))
local macro_rules | `(tactic| walk_at "exec While") => `(tactic| (k_here; (with_reducible show wpAny _ _ (exec (PySem.Stmt.While _ _ _ _) _) _ _ _); refine stop_at ?_))
local macro_rules | `(tactic| walk_at "exec While Compare cons nil") => `(tactic| (k_here; (with_reducible show wpAny _ _ (exec (PySem.Stmt.While _ _ _ _) _) _ _ _); refine stop_at ?_))
local macro_rules | `(tactic| walk_at "exec Assign cons ListComp") => `(tactic| (k_here; refine stop_at ?_))
local macro_rules | `(tactic| walk_at "binaryOp Pow int int") => `(tactic| (k_here; refine stop_at ?_))
local macro_rules | `(tactic| walk_at "binaryOp FloorDiv int int") => `(tactic| (k_here; refine stop_at ?_))

local macro_rules | `(tactic| walk_at "call builtin:len") => `(tactic| (k_here; (with_reducible show wpAny _ _ (call (Value.builtin "len") [Value.ref _]) _ _ _); refine stop_at ?_))
local macro_rules | `(tactic| walk_at "subscriptTail") => `(tactic| (k_here; (with_reducible show wpAny _ _ (subscriptTail _ _ (Value.ref _) _) _ _ _); refine stop_at ?_))

local macro_rules | `(tactic| walk_at "subscriptTail Name Slice ref ref") => `(tactic| (k_here; (with_reducible show wpAny _ _ (subscriptTail _ _ (Value.ref _) (Value.ref _)) _ _ _); refine stop_at ?_))
local macro_rules | `(tactic| walk_at "pyIter ref") => `(tactic| (k_here; (with_reducible show wpAny _ _ (pyIter (Value.ref _)) _ _ _); refine stop_at ?_))
local macro_rules | `(tactic| k_all) => `(tactic| assumption)
local macro_rules | `(tactic| k_mem) => `(tactic| assumption)

section
variable {prog : Program} {w : World} {A : Around} {E : Value → Shared → Prop} {s : Shared}
theorem sub_at {value slice : Expr} {l : Addr} {items : Array Value} {k : Int} {u : Tok} {v : Value} {Q : Value → Shared → Prop} (hl : s.heap.IsList l items) (h0 : 0 ≤ k) (hk : k < 2 ^ 63) (hx : items[k.toNat]? = some v) (h : Q v s)
    (hs : subscripted slice false (.ref l) (.int k u) = operate [.ref l, .int k u] (getItem (.ref l) (.int k u)) := by with_unfolding_all rfl) :
    wpAny (model prog w) A (subscriptTail value slice (.ref l) (.int k u)) Q E s :=
  item_litK (vs := items.toList) (by rw [Array.toArray_toList]; exact hl) h0 hk (by simpa using hx) h hs
theorem sub_neg {value slice : Expr} {l : Addr} {items : Array Value} {k : Int} {u : Tok} {v : Value} {Q : Value → Shared → Prop} (hl : s.heap.IsList l items) (h0 : k < 0) (h1 : -(items.size : Int) ≤ k) (hfit : -(2 ^ 63) ≤ k) (hx : items[(k + items.size).toNat]? = some v) (h : Q v s)
    (hs : subscripted slice false (.ref l) (.int k u) = operate [.ref l, .int k u] (getItem (.ref l) (.int k u)) := by with_unfolding_all rfl) :
    wpAny (model prog w) A (subscriptTail value slice (.ref l) (.int k u)) Q E s :=
  tail_any hl.typeIs slot_list_getitem.lookup (wpAny_getItem_list_neg hl h0 h1 hfit hx h) hs
theorem div_natv {x d v : Nat} {t u : Tok} {Q : Value → Shared → Prop} (hv : x / d = v) (hd : 0 < d) (hp : Builtin.divisionGoesByPylong (x : Int) (d : Int) = false) (h : Q (.int (v : Int) s.toks) { s with toks := s.toks + 1 }) :
    wpAny (model prog w) A (binaryOp .FloorDiv (.int (x : Int) t) (.int (d : Int) u)) Q E s := div_nat hd hp (hv ▸ h)
end

/-- every fork parts its keys at its place, and above it all are alike -/
inductive WF : Mine.T → Prop
  | leaf {n : Nat} : WF (.leaf n)
  | fork {p c : Nat} {l r : Mine.T} : WF l → WF r → (∀ a ∈ keys l, a / 2 ^ p = 2 * c) → (∀ b ∈ keys r, b / 2 ^ p = 2 * c + 1) → WF (.fork p l r)

theorem keys_pos : ∀ t : Mine.T, 1 ≤ (keys t).length
  | .leaf _ => by simp [keys]
  | .fork _ l r => by
    have := keys_pos l
    simp only [keys, List.length_append]
    omega
theorem place_up {a b p c q : Nat} (ha : a / 2 ^ p = 2 * c) (hb : b / 2 ^ p = 2 * c + 1) (hq : q < p) : a / 2 ^ (q + 1) ≠ b / 2 ^ (q + 1) := fun e => by
  have e1 : 2 ^ p = 2 ^ (q + 1) * 2 ^ (p - (q + 1)) := by rw [← Nat.pow_add]; congr 1; omega
  rw [e1, ← Nat.div_div_eq_div_mul] at ha hb
  rw [e] at ha
  omega
theorem place_at {a b p c : Nat} (ha : a / 2 ^ p = 2 * c) (hb : b / 2 ^ p = 2 * c + 1) : a / 2 ^ (p + 1) = b / 2 ^ (p + 1) := by
  rw [Nat.pow_succ, ← Nat.div_div_eq_div_mul, ← Nat.div_div_eq_div_mul, ha, hb]
  omega

theorem con_due_fork (w : World) (p0 cc : Nat) (tl tr : Mine.T) (l : Addr) (vs : Array Value) (c : Nat) (news : List (Addr × Obj)) (hm : (l, W.listOf vs c) ∈ news) (hi : IntsAre vs.toList ((keys (.fork p0 tl tr)).map Int.ofNat))
    (hL : ∀ a ∈ keys tl, a / 2 ^ p0 = 2 * cc) (hR : ∀ b ∈ keys tr, b / 2 ^ p0 = 2 * cc + 1) (hp60 : p0 < 60) (hsmall : (keys (.fork p0 tl tr)).length ≤ 2 ^ 20)
    (ihl : ∀ (l : Addr) (vs : Array Value) (c : Nat) (news : List (Addr × Obj)), (l, W.listOf vs c) ∈ news → IntsAre vs.toList ((keys tl).map Int.ofNat) → Con w 59 [.ref l] (height tl + 1) news (GrownPost news tl))
    (ihr : ∀ (l : Addr) (vs : Array Value) (c : Nat) (news : List (Addr × Obj)), (l, W.listOf vs c) ∈ news → IntsAre vs.toList ((keys tr).map Int.ofNat) → Con w 59 [.ref l] (height tr + 1) news (GrownPost news tr)) :
    Con w 59 [.ref l] (height (.fork p0 tl tr) + 1) news (GrownPost news (.fork p0 tl tr)) := by
  unfold Con
  k_fill
  intro mean mg mb dp un gd cn cs a ccd cl outer A₀ base h₀ L m s Q E B F X N T hk hd' hu hret
  have hh : height (.fork p0 tl tr) = max (height tl) (height tr) + 1 := rfl
  refine wpAny_call ?_
  k_dflt (refine' code_defC ?k1 ?k2 ?k3 ?k4 ?k5 ?kA ?kF ?kK ?k6 ?k7 ?k8 ?k9 ?kB ?kD ?_ ?c2 ?c3 ?c4; (case kA => exact rfl); (case kF => exact rfl); (case kK => assumption); (case k1 => k_asm); (case k2 => k_asm); (case k3 => k_asm); (case k4 => k_asm); (case k5 => k_asm); (case k6 => k_is); (case k7 => k_is); (case k8 => ktr_room); (case k9 => exact BindsTo.of_eq rfl); (case kB => exact rfl); (case kD => decide +kernel); (case c2 => exact rfl); (case c3 => exact rfl); (case c4 => exact rfl); k_whole; intro g' L' h' tk' cells' FG' F' N' Y' B' X' T' l1; (try k_lt l1); k_cells Y'; (try simp only [List.cons_append, List.nil_append] at N'); (try dsimp only); (try k_fold))
  rename Obj => oc
  rename oc.data = _ => hoc
  replace hoc : oc.data = .cell none := hoc
  obtain ⟨m0, F₂⟩ := fr_open1 (x := Str.ofString "numbers") F' rfl
  clear F'
  have hcell : ∀ p ∈ news, p.1 ≠ L' + 1 := fun p hp => Nat.ne_of_lt (Nat.lt_succ_of_lt (l1 p hp))
  have hvl : vs.size = (keys (.fork p0 tl tr)).length := by have := hi.length; simpa using this
  have hkk : (keys (.fork p0 tl tr)).length = (keys tl).length + (keys tr).length := by simp only [keys, List.length_append]
  have hpl := keys_pos tl
  have hpr := keys_pos tr
  obtain ⟨ka, hka, hka0⟩ : ∃ k ∈ keys tl, (keys (.fork p0 tl tr))[0]? = some k := by
    refine ⟨(keys tl)[0], List.getElem_mem _, ?_⟩
    simp only [keys]
    rw [List.getElem?_append_left (by omega)]
    exact List.getElem?_eq_getElem _
  obtain ⟨kb, hkb, hkb0⟩ : ∃ k ∈ keys tr, (keys (.fork p0 tl tr))[(keys (.fork p0 tl tr)).length - 1]? = some k := by
    refine ⟨(keys tr)[(keys tr).length - 1], List.getElem_mem _, ?_⟩
    rw [hkk]
    simp only [keys]
    rw [List.getElem?_append_right (by omega)]
    have : (keys tl).length + (keys tr).length - 1 - (keys tl).length = (keys tr).length - 1 := by omega
    rw [this]
    exact List.getElem?_eq_getElem _
  obtain ⟨ta, hta⟩ := hi.get 0 (ka : Int) (by rw [List.getElem?_map, hka0]; rfl)
  obtain ⟨tb, htb⟩ := hi.get _ (kb : Int) (by rw [List.getElem?_map, hkb0]; rfl)
  have hca := hL ka hka
  have hcb := hR kb hkb
  k_steps
  refine stop_go ?_
  refine len_list (News.isList N' (.tail _ hm)) (by omega) ?_
  k_steps
  · rename (vs.size : Int) = 1 => h1
    omega
  rename Fr _ _ _ _ => F₃
  rename News _ _ _ _ => N₃
  rename Obj => oc₂
  rename oc₂.data = _ => hoc₂
  refine stop_go ?_
  refine while_inv (fun k s' => ∃ (h : Heap) (tk : Nat) (q : Nat) (tq : Tok) (oc : Obj), s' = { s with heap := h, toks := tk } ∧ k = p0 - q ∧ q ≤ p0 ∧ Fr g' L' h (fun y => if y = Str.ofString "numbers" then some (.ref l) else m0 y) ∧
    News g' L' h ((L' + 1, oc) :: news) ∧ oc.data = .cell (some (.int (q : Int) tq))) ?_ (p0 - 0) ?_
  · rintro k s' ⟨h, tk, q, tq, oc, rfl, rfl, hq, F₄, N₄, hoc₄⟩
    clear F₃ N₃
    obtain ⟨va, hva⟩ : ∃ v, ka / 2 ^ (q + 1) = v := ⟨_, rfl⟩
    obtain ⟨vb, hvb⟩ : ∃ v, kb / 2 ^ (q + 1) = v := ⟨_, rfl⟩
    k_steps
    refine stop_go ?_
    refine sub_at (News.isList N₄ (.tail _ hm)) (by decide) (by decide) (by simpa using hta) ?_
    try dsimp only
    k_steps
    refine stop_go ?_
    refine pow2_int (k := q + 1) (by omega) (by omega) ?_
    try dsimp only
    k_steps
    refine stop_go ?_
    refine div_natv hva (Nat.two_pow_pos _) (noPylong_pow (by omega)) ?_
    try dsimp only
    k_steps
    refine stop_go ?_
    refine sub_neg (News.isList N₄ (.tail _ hm)) (by decide) (by omega) (by decide) (v := .int (kb : Int) tb) (by
      rw [show ((-1 : Int) + (vs.size : Int)).toNat = (keys (.fork p0 tl tr)).length - 1 by omega]
      simpa using htb) ?_
    try dsimp only
    k_steps
    refine stop_go ?_
    refine pow2_int (k := q + 1) (by omega) (by omega) ?_
    try dsimp only
    k_steps
    refine stop_go ?_
    refine div_natv hvb (Nat.two_pow_pos _) (noPylong_pow (by omega)) ?_
    have hid := stop_go (And.intro hva (And.intro hvb (And.intro hca (And.intro hcb (And.intro hta (And.intro htb (And.intro hka0 (And.intro hkb0 (And.intro hvl (And.intro hkk (And.intro hpl (And.intro hpr (And.intro hsmall (And.intro hp60 (And.intro hq (And.intro hL (And.intro hR hh)))))))))))))))))
    clear hva hvb hca hcb hta htb hka0 hkb0 hvl hkk hpl hpr hsmall hp60 hq hL hR hh
    try dsimp only
    k_steps
    · rename (va : Int) ≠ (vb : Int) => hne
      obtain ⟨hva, hvb, hca, hcb, hta, htb, hka0, hkb0, hvl, hkk, hpl, hpr, hsmall, hp60, hq, hL, hR, hh⟩ := stop_at hid
      have hqp : q < p0 := by
        rcases Nat.lt_or_ge q p0 with h9 | h9
        · exact h9
        · have e9 : q = p0 := by omega
          subst e9
          exact absurd (by rw [← hva, ← hvb]; exact congrArg Int.ofNat (place_at hca hcb)) hne
      rename Fr _ _ _ _ => F₅
      rename News _ _ _ _ => N₅
      rename Obj => oc₅
      rename oc₅.data = _ => hoc₅
      rw [show (q : Int) + 1 = ((q + 1 : Nat) : Int) by omega] at hoc₅
      dsimp only
      exact stop_go ⟨p0 - (q + 1), by omega, _, _, q + 1, _, oc₅, rfl, rfl, hqp, F₅, N₅, hoc₅⟩
    · rename (va : Int) = (vb : Int) => heq
      obtain ⟨hva, hvb, hca, hcb, hta, htb, hka0, hkb0, hvl, hkk, hpl, hpr, hsmall, hp60, hq, hL, hR, hh⟩ := stop_at hid
      have hqp : q = p0 := by
        rcases Nat.lt_or_ge q p0 with h9 | h9
        · exact absurd (by rw [hva, hvb]; omega) (place_up hca hcb h9)
        · omega
      subst hqp
      clear hid hva hvb heq hca hcb hta htb hka0 hkb0 hka hkb
      refine stop_go ?_
      refine exec_comp_assign (cl := [(Str.ofString "place", L' + 1)]) rfl rfl rfl (by decide) ?_
      k_steps
      refine stop_go ?_
      have hnd : (l, W.listOf vs c) ∈ (L' + 1, oc) :: news := .tail _ hm
      refine iter_list F₄ N₄ (News.isList N₄ hnd) fun I oI h₅ F₅ N₅ hoI hltI hneI => ?_
      have hfeed := IterO.at hoI (N₅ (I, oI) (.head _)).1
      refine comp_block (Feed.list rfl I l hneI vs (Str.ofString "number") _) [(l, W.listOf vs c)] [(I, oI)] none
        (fun i ys (nw : List (Addr × Obj)) => nw = (L' + 1, oc) :: news ∧ ys.length ≤ i ∧ IntsAre ys ((((keys (.fork q tl tr)).take i).filter fun k => k / 2 ^ q % 2 == 0).map Int.ofNat)) (fun _ e => nomatch e) (fun _ => rfl)
        (fun b hb => ?_) F₅ rfl N₅ (fun p hp hb => ?_) (fun p hp => ?_) ⟨hfeed, News.isList N₅ (.tail _ hnd)⟩ (by rw [sizeLine_eq]; omega) (fun i ys nw (h : _ ∧ _ ∧ _) => h.2.1) (fun C hC => ⟨rfl, Nat.zero_le _, .nil⟩) ?_ ?_
      · rcases List.mem_cons.mp hb with rfl | hb
        · exact .inl (.head _)
        · rcases List.mem_cons.mp hb with rfl | hb
          · exact .inr (.inl ⟨_, .head _⟩)
          · cases hb
      · rcases List.mem_cons.mp hb with e | hb
        · exact absurd (hltI p hp) (by rw [e]; exact Nat.lt_irrefl _)
        · cases hb
      · rcases List.mem_cons.mp hp with rfl | hp
        · exact hnd
        · cases hp
      · rintro C D i v h₆ tk₆ oC mC c₆ ys news₆ itn₆ hin hvi ⟨rfl, hyl, hys⟩ hkp hw₆ F₆ hC N₆ hap₆ hCD hapw
        obtain ⟨k, hki⟩ : ∃ k, (keys (.fork q tl tr))[i]? = some k := ⟨_, List.getElem?_eq_getElem (by omega)⟩
        obtain ⟨tk9, htk9⟩ := hi.get i (k : Int) (by rw [List.getElem?_map, hki]; rfl)
        have hve : v = .int (k : Int) tk9 := by
          have h1 : vs[i]? = some (.int (k : Int) tk9) := by simpa using htk9
          rw [hvi] at h1; exact Option.some.inj h1
        subst hve
        have hCap : ∀ p ∈ (D, W.listOf ys.toArray c₆) :: (itn₆ ++ (L' + 1, oc) :: news), p.1 ≠ C := fun p hp => by
          rcases List.mem_cons.mp hp with rfl | hp
          · exact Ne.symm hCD
          · exact (hap₆ p hp).1
        refine c_store F₆ hC N₆ hCap fun h₇ oC₇ F₇ hC₇ N₇ => ?_
        have hmc : (L' + 1, oc) ∈ (C, oC₇) :: (D, W.listOf ys.toArray c₆) :: (itn₆ ++ (L' + 1, oc) :: news) := .tail _ (.tail _ (List.mem_append.mpr (.inr (.head _))))
        obtain ⟨vk, hvk⟩ : ∃ v, k / 2 ^ q = v := ⟨_, rfl⟩
        refine wpAny_tests_one ?_
        refine wpAny_isTrue_Compare1 (wpAny_BinOp (wpAny_BinOp (c_local hC₇ N₇ rfl (wpAny_BinOp (wpAny_Constant_int (c_cell N₇ hmc hoc₄ (pow2_int (k := q) rfl (by omega) (div_natv hvk (Nat.two_pow_pos _) (noPylong_pow (by omega)) (wpAny_Constant_int (mod_int' (by decide) (wpAny_Constant_int (PyProof.Rows.eq_int (wpAny_truthy_bool ?_)))))))))))))
        rw [show (vk : Int).fmod 2 = ((vk % 2 : Nat) : Int) from fmod_nat vk 2]
        have et : (keys (.fork q tl tr)).take (i + 1) = (keys (.fork q tl tr)).take i ++ [k] := by
          rw [List.take_add_one, hki]; rfl
        have hend : ∀ p ∈ (L' + 1, oc) :: news, p.1 ≠ C ∧ p.1 ≠ D ∧ p.1 ∉ [I] := fun p hp => by
          have := hap₆ p (List.mem_append.mpr (.inr hp))
          exact ⟨this.1, this.2, hapw p hp⟩
        by_cases hbit : vk % 2 = 0
        · have hb9 : (((vk % 2 : Nat) : Int) == 0) = true := by rw [hbit]; rfl
          rw [hb9, if_pos rfl]
          refine c_local hC₇ N₇ rfl (stop_go ⟨h₇, _, oC₇, _, _, rfl, F₇, hC₇, N₇, hend, hkp, rfl, ?_, ?_⟩)
          · rw [List.length_append, List.length_singleton]; omega
          · rw [et, List.filter_append, List.map_append]
            have : [k].filter (fun k => k / 2 ^ q % 2 == 0) = [k] := by simp [hvk, hbit]
            rw [this]
            exact ints_snoc hys
        · have hb9 : (((vk % 2 : Nat) : Int) == 0) = false := by
            have : vk % 2 = 1 := by omega
            rw [this]; rfl
          rw [hb9, if_neg Bool.false_ne_true]
          refine stop_go ⟨h₇, _, oC₇, _, _, rfl, F₇, hC₇, N₇, hend, hkp, rfl, by omega, ?_⟩
          rw [et, List.filter_append, List.map_append]
          have : [k].filter (fun k => k / 2 ^ q % 2 == 0) = [] := by simp [hvk, hbit]
          rw [this, List.map_nil, List.append_nil]
          exact hys
      · rintro C D h₆ tk₆ oC mC c₆ ys news₆ ⟨rfl, hyl, hys⟩ hkp F₆ hC N₆ hap₆ hCD hltD
        have hfil : (keys (.fork q tl tr)).filter (fun k => k / 2 ^ q % 2 == 0) = keys tl := by
          simp only [keys]
          rw [List.filter_append, List.filter_eq_self.mpr (fun a ha => by rw [hL a ha]; simp), List.filter_eq_nil_iff.mpr (fun b hb => by rw [hR b hb]; simp), List.append_nil]
        rw [List.take_of_length_le (by omega), hfil] at hys
        refine compPost_assign F₆ hC N₆ (fun p hp => ?_) (fun h₇ F₇ N₇ => ?_) rfl rfl rfl
        · rcases List.mem_cons.mp hp with rfl | hp
          · exact Ne.symm hCD
          · exact (hap₆ p hp).1
        have hDn : ∀ p ∈ news, p.1 < D := fun p hp => hltD p (.tail _ (.tail _ hp))
        clear F₆ N₆ F₅ N₅ F₄ N₄ hfil
        try dsimp only
        k_steps
        refine stop_go ?_
        with_unfolding_all refine Con.use (ihl D ys.toArray c₆ _ (.head _) (by simpa using hys)) B' F₇ X' N₇ T' rfl (show dp + 1 + (height tl + 1) < recursionLimit by omega) (show un + 3 + 8 * (height tl + 1) < cLine by omega) ?_
        rintro r₁ news' h₈ tk₈ F₈ N₈ ⟨t1, rfl, hT1, hlt1⟩
        try dsimp only
        k_steps
        refine stop_go ?_
        refine len_list (News.isList N₈ (List.mem_append.mpr (.inr (.head _)))) (by rw [List.size_toArray]; omega) ?_
        try dsimp only
        k_steps
        refine stop_go ?_
        k_dflt (refine' kmk_slice (lo := some (ys.toArray.size : Int)) (hi := none) F₈ N₈ (News.isList N₈ (List.mem_append.mpr (.inr (.tail _ (.tail _ hm))))) (.int _ _) .none (fun D₂ h₉ F₉ N₉ hlt₉ => ?_) ?s ?t ?z; (case s => with_unfolding_all rfl); (case t => intro _; rfl); (case z => (rw [sizeLine_eq]; omega)))
        have hi₂ : IntsAre (slicePick vs (some (ys.toArray.size : Int)) none none).toList ((keys tr).map Int.ofNat) := by
          have h9 := kmk_from hi (x := (ys.toArray.size : Int)) (by omega)
          rw [Array.toArray_toList] at h9
          have hyl9 : ys.toArray.size = (keys tl).length := by
            rw [List.size_toArray, hys.length, List.length_map]
          have h8 : (((keys (.fork q tl tr)).map Int.ofNat).drop ((ys.toArray.size : Int)).toNat) = (keys tr).map Int.ofNat := by
            rw [Int.toNat_natCast, hyl9, ← List.map_drop]
            simp only [keys]
            rw [List.drop_left]
          rw [h8] at h9
          exact h9
        clear F₈ N₈
        try dsimp only
        k_steps
        refine stop_go ?_
        with_unfolding_all refine Con.use (ihr D₂ _ 0 _ (.head _) hi₂) B' F₉ X' N₉ T' rfl (show dp + 1 + (height tr + 1) < recursionLimit by omega) (show un + 3 + 8 * (height tr + 1) < cLine by omega) ?_
        rintro r₂ news' h₁₀ tk₁₀ F₁₀ N₁₀ ⟨t2, rfl, hT2, hlt2⟩
        clear F₉ N₉
        try dsimp only
        k_steps
        rename Addr => Dt
        rename ∀ p ∈ t2 ++ _ :: (t1 ++ _ :: _ :: news), p.1 < _ => hlt₁₁
        have sub1 : ∀ (x1 x2 : Addr × Obj), ∀ p ∈ news, p ∈ t1 ++ x1 :: x2 :: news := fun _ _ p hp => List.mem_append.mpr (.inr (.tail _ (.tail _ hp)))
        refine hret _ ((Dt, ({ cls := .type "tuple", data := .seq #[.int (q : Int) tq, r₁, r₂] } : Obj)) :: (t2 ++ (D₂, W.listOf (slicePick vs (some (ys.toArray.size : Int)) none none) 0) :: (t1 ++ (D, W.listOf ys.toArray c₆) :: (L' + 1, oc) :: news))) _ _ (by assumption) (by assumption)
          ⟨(Dt, ({ cls := .type "tuple", data := .seq #[.int (q : Int) tq, r₁, r₂] } : Obj)) :: (t2 ++ (D₂, W.listOf (slicePick vs (some (ys.toArray.size : Int)) none none) 0) :: (t1 ++ [(D, W.listOf ys.toArray c₆), (L' + 1, oc)])), ?_, ?_, ?_⟩
        · simp only [List.cons_append, List.append_assoc, List.nil_append]
        · simp only [List.cons_append, List.append_assoc, List.nil_append]
          exact .fork (.head _) (hT1.mono fun p hp => .tail _ (List.mem_append.mpr (.inr (.tail _ hp)))) (hT2.mono fun p hp => .tail _ hp)
        · intro qq hq p hp
          rcases List.mem_cons.mp hq with rfl | hq
          · exact hlt₁₁ p (List.mem_append.mpr (.inr (.tail _ (sub1 _ _ p hp))))
          · rcases List.mem_append.mp hq with hq | hq
            · exact hlt2 qq hq p (.tail _ (sub1 _ _ p hp))
            · rcases List.mem_cons.mp hq with rfl | hq
              · exact hlt₉ p (sub1 _ _ p hp)
              · rcases List.mem_append.mp hq with hq | hq
                · exact hlt1 qq hq p (.tail _ (.tail _ hp))
                · rcases List.mem_cons.mp hq with rfl | hq
                  · exact hDn p hp
                  · rcases List.mem_cons.mp hq with rfl | hq
                    · exact Nat.lt_succ_of_lt (l1 p hp)
                    · cases hq
  · exact ⟨_, _, 0, _, oc₂, rfl, rfl, Nat.zero_le _, F₃, N₃, hoc₂⟩

theorem con_due_leaf (w : World) (n : Nat) (l : Addr) (vs : Array Value) (c : Nat) (news : List (Addr × Obj)) (hm : (l, W.listOf vs c) ∈ news) (hi : IntsAre vs.toList ((keys (.leaf n)).map Int.ofNat)) :
    Con w 59 [.ref l] (height (.leaf n) + 1) news (GrownPost news (.leaf n)) := by
  unfold Con
  k_fill
  intro mean mg mb dp un gd cn cs a ccd cl outer A₀ base h₀ L m s Q E B F X N T hk hd' hu hret
  refine wpAny_call ?_
  k_dflt (refine' code_defC ?k1 ?k2 ?k3 ?k4 ?k5 ?kA ?kF ?kK ?k6 ?k7 ?k8 ?k9 ?kB ?kD ?_ ?c2 ?c3 ?c4; (case kA => exact rfl); (case kF => exact rfl); (case kK => assumption); (case k1 => k_asm); (case k2 => k_asm); (case k3 => k_asm); (case k4 => k_asm); (case k5 => k_asm); (case k6 => k_is); (case k7 => k_is); (case k8 => ktr_room); (case k9 => exact BindsTo.of_eq rfl); (case kB => exact rfl); (case kD => decide +kernel); (case c2 => exact rfl); (case c3 => exact rfl); (case c4 => exact rfl); k_whole; intro g' L' h' tk' cells' FG' F' N' Y' B' X' T' l1; (try k_lt l1); k_cells Y'; (try simp only [List.cons_append, List.nil_append] at N'); (try dsimp only); (try k_fold))
  rename Obj => oc
  obtain ⟨m0, F₂⟩ := fr_open1 (x := Str.ofString "numbers") F' rfl
  clear F'
  have hvl : vs.size = 1 := by have := hi.length; simpa [keys] using this
  obtain ⟨ta, hta⟩ := hi.get 0 (n : Int) rfl
  k_steps
  refine stop_go ?_
  refine len_list (News.isList N' (.tail _ hm)) (by omega) ?_
  k_steps
  · refine stop_go ?_
    refine sub_at (News.isList N' (.tail _ hm)) (by decide) (by decide) (by simpa using hta) ?_
    k_steps
    rename _ ∧ AllLt _ news => hA
    refine hret _ ([_, (L' + 1, oc)] ++ news) _ _ (by assumption) (by assumption) ⟨[_, (L' + 1, oc)], rfl, .leaf (.head _), ?_⟩
    intro q hq p hp
    rcases List.mem_cons.mp hq with rfl | hq
    · exact tb_ltOf hA.2 p hp
    · rcases List.mem_cons.mp hq with rfl | hq
      · exact Nat.lt_succ_of_lt (l1 p hp)
      · cases hq
  · rename (vs.size : Int) ≠ 1 => h1
    omega

theorem con_due (w : World) (tr : Mine.T) (wf : WF tr) (lo : Low tr) : (keys tr).length ≤ 2 ^ 20 → ∀ (l : Addr) (vs : Array Value) (c : Nat) (news : List (Addr × Obj)), (l, W.listOf vs c) ∈ news → IntsAre vs.toList ((keys tr).map Int.ofNat) →
    Con w 59 [.ref l] (height tr + 1) news (GrownPost news tr) := by
  induction wf with
  | leaf => exact fun _ => con_due_leaf w _
  | fork _ _ hL hR ihl ihr =>
    intro hs l vs c news hm hi
    cases lo with
    | fork hp lol lor =>
    have hkk := hs
    simp only [keys, List.length_append] at hkk
    exact con_due_fork w _ _ _ _ l vs c news hm hi hL hR hp hs (ihl lol (by omega)) (ihr lor (by omega))
end Mine

namespace Mine

theorem xor_div (a b p : Nat) : (a ^^^ b) / 2 ^ p = (a / 2 ^ p) ^^^ (b / 2 ^ p) := by
  rw [← Nat.shiftRight_eq_div_pow, ← Nat.shiftRight_eq_div_pow, ← Nat.shiftRight_eq_div_pow, Nat.shiftRight_xor_distrib]
theorem xor_mod2 (a b : Nat) : (a ^^^ b) % 2 = (a + b) % 2 := by
  have h := Nat.testBit_xor a b 0
  simp only [Nat.testBit_zero] at h
  rcases Nat.mod_two_eq_zero_or_one (a ^^^ b) with hx | hx <;> rcases Nat.mod_two_eq_zero_or_one a with ha | ha <;> rcases Nat.mod_two_eq_zero_or_one b with hb | hb <;> rw [hx, ha, hb] at h <;> revert h <;> (first | (intro h; omega) | (intro h; exact absurd h (by decide)))
theorem xor_zero {a b : Nat} (h : a ^^^ b = 0) : a = b := by
  have e : a ^^^ b ^^^ b = b := by rw [h, Nat.zero_xor]
  rw [Nat.xor_assoc, Nat.xor_self, Nat.xor_zero] at e
  exact e
theorem bit_xor (a b p : Nat) : (a ^^^ b) / 2 ^ p % 2 = (a / 2 ^ p + b / 2 ^ p) % 2 := by rw [xor_div, xor_mod2]
theorem xor_one {a b : Nat} (h : a ^^^ b = 1) : a / 2 = b / 2 ∧ a ≠ b := by
  constructor
  · have := congrArg (· / 2 ^ 1) h
    simp only [xor_div] at this
    exact xor_zero (by simpa using this)
  · rintro rfl
    simp at h
theorem log_div {d : Nat} (h : d ≠ 0) : d / 2 ^ d.log2 = 1 := by
  have h1 := Nat.log2_self_le h
  have h2 := Nat.lt_log2_self (n := d)
  rw [Nat.pow_succ] at h2
  exact Nat.div_eq_of_lt_le (by omega) (by omega)
theorem log_of_div {d p : Nat} (h : d / 2 ^ p = 1) : d.log2 = p := by
  have hp := Nat.two_pow_pos p
  have hm := Nat.div_add_mod d (2 ^ p)
  have hl := Nat.mod_lt d hp
  rw [h] at hm
  refine (Nat.log2_eq_iff (by omega)).mpr ⟨by omega, by rw [Nat.pow_succ]; omega⟩
theorem div_more {a b q r : Nat} (h : a / 2 ^ q = b / 2 ^ q) (hr : q ≤ r) : a / 2 ^ r = b / 2 ^ r := by
  have e1 : 2 ^ r = 2 ^ q * 2 ^ (r - q) := by rw [← Nat.pow_add]; congr 1; omega
  rw [e1, ← Nat.div_div_eq_div_mul, ← Nat.div_div_eq_div_mul, h]
theorem div_succ (a q : Nat) : a / 2 ^ (q + 1) = a / 2 ^ q / 2 := by rw [Nat.pow_succ, Nat.div_div_eq_div_mul]

/-- the place at which two numbers part -/
theorem part {x f : Nat} (h : x ^^^ f ≠ 0) : x / 2 ^ ((x ^^^ f).log2 + 1) = f / 2 ^ ((x ^^^ f).log2 + 1) ∧ x / 2 ^ (x ^^^ f).log2 ≠ f / 2 ^ (x ^^^ f).log2 := by
  have h1 := log_div h
  rw [xor_div] at h1
  have := xor_one h1
  rw [div_succ, div_succ]
  exact this
theorem part_log {a b p c : Nat} (ha : a / 2 ^ p = 2 * c) (hb : b / 2 ^ p = 2 * c + 1) : (a ^^^ b).log2 = p ∧ (b ^^^ a).log2 = p := by
  have : (a ^^^ b).log2 = p := by
    refine log_of_div ?_
    rw [xor_div, ha, hb]
    have h2 : (2 * c) ^^^ (2 * c + 1) = 2 * ((2 * c) ^^^ (2 * c + 1)) / 2 := by omega
    have h3 := Nat.div_add_mod ((2 * c) ^^^ (2 * c + 1)) 2
    have h4 := xor_mod2 (2 * c) (2 * c + 1)
    have h5 : ((2 * c) ^^^ (2 * c + 1)) / 2 = 0 := by
      have := xor_div (2 * c) (2 * c + 1) 1
      rw [show 2 ^ 1 = 2 from rfl] at this
      rw [this, show 2 * c / 2 = c by omega, show (2 * c + 1) / 2 = c by omega, Nat.xor_self]
    omega
  exact ⟨this, by rw [Nat.xor_comm]; exact this⟩

theorem find_mem (x : Nat) : ∀ t, find x t ∈ keys t
  | .leaf n => by simp [find, keys]
  | .fork p l r => by
    simp only [find, keys]
    split
    · exact List.mem_append.mpr (.inr (find_mem x r))
    · exact List.mem_append.mpr (.inl (find_mem x l))

theorem wf_top {p c : Nat} {l r : Mine.T} (hL : ∀ a ∈ keys l, a / 2 ^ p = 2 * c) (hR : ∀ b ∈ keys r, b / 2 ^ p = 2 * c + 1) : ∀ k ∈ keys (.fork p l r), k / 2 ^ (p + 1) = c := fun k hk => by
  rw [div_succ]
  simp only [keys] at hk
  rcases List.mem_append.mp hk with hk | hk
  · rw [hL k hk]; omega
  · rw [hR k hk]; omega

/-- no key is liker than the one come to -/
theorem find_best (x : Nat) {t : Mine.T} (wf : WF t) : ∀ k ∈ keys t, ∀ q, x / 2 ^ q = k / 2 ^ q → x / 2 ^ q = find x t / 2 ^ q := by
  induction wf with
  | leaf => intro k hk q h; simp only [keys, List.mem_singleton] at hk; subst hk; exact h
  | @fork p c l r _ _ hL hR ihl ihr =>
    intro k hk q h
    have htop := wf_top hL hR
    have hf := find_mem x (.fork p l r)
    by_cases hq : p < q
    · rw [h]
      exact div_more (by rw [htop k hk, htop _ hf]) hq
    · have hq : q ≤ p := by omega
      have hxp := div_more h hq
      simp only [keys] at hk
      simp only [find]
      rcases List.mem_append.mp hk with hk | hk
      · have e := hL k hk
        rw [if_neg (by omega)]
        exact ihl k hk q h
      · have e := hR k hk
        rw [if_pos (by omega)]
        exact ihr k hk q h

theorem find_self {x : Nat} {t : Mine.T} (wf : WF t) (h : x ∈ keys t) : find x t = x := by
  have := find_best x wf x h 0 rfl
  simpa using this.symm
theorem find_iff {x : Nat} {t : Mine.T} (wf : WF t) : x ^^^ find x t = 0 ↔ x ∈ keys t := by
  constructor
  · intro h
    have : x = find x t := by
      exact xor_zero h
    rw [this]; exact find_mem _ _
  · intro h
    rw [find_self wf h, Nat.xor_self]
theorem none_like {x : Nat} {t : Mine.T} (wf : WF t) (h : x ^^^ find x t ≠ 0) : ∀ k ∈ keys t, x / 2 ^ (x ^^^ find x t).log2 ≠ k / 2 ^ (x ^^^ find x t).log2 := fun k hk e =>
  (part h).2 (find_best x wf k hk _ e)

theorem new_fork {x q c : Nat} {t : Mine.T} (wf : WF t) (h1 : ∀ k ∈ keys t, k / 2 ^ (q + 1) = x / 2 ^ (q + 1)) (h2 : ∀ k ∈ keys t, x / 2 ^ q ≠ k / 2 ^ q) :
    WF (if x / 2 ^ q % 2 = 1 then .fork q t (.leaf x) else .fork q (.leaf x) t) ∧ (keys (if x / 2 ^ q % 2 = 1 then .fork q t (.leaf x) else .fork q (.leaf x) t)).Perm (x :: keys t) := by
  split
  · refine ⟨.fork (c := x / 2 ^ (q + 1)) wf .leaf (fun a ha => ?_) (fun b hb => ?_), ?_⟩
    · have e1 := h1 a ha
      have e2 := h2 a ha
      rw [div_succ, div_succ] at e1
      rw [div_succ]
      omega
    · simp only [keys, List.mem_singleton] at hb
      subst hb
      rw [div_succ]; omega
    · exact List.perm_append_singleton x (keys t)
  · refine ⟨.fork (c := x / 2 ^ (q + 1)) .leaf wf (fun a ha => ?_) (fun b hb => ?_), .refl _⟩
    · simp only [keys, List.mem_singleton] at ha
      subst ha
      rw [div_succ]; omega
    · have e1 := h1 b hb
      have e2 := h2 b hb
      rw [div_succ, div_succ] at e1
      rw [div_succ]
      omega

theorem grown_wf (x q : Nat) {t : Mine.T} (wf : WF t) (h1 : x / 2 ^ (q + 1) = find x t / 2 ^ (q + 1)) (h2 : ∀ k ∈ keys t, x / 2 ^ q ≠ k / 2 ^ q) :
    WF (grown x q t) ∧ (keys (grown x q t)).Perm (x :: keys t) := by
  induction wf with
  | @leaf n =>
    exact new_fork (c := 0) .leaf (fun k hk => by simp only [keys, List.mem_singleton] at hk; subst hk; exact h1.symm) h2
  | @fork p c l r wl wr hL hR ihl ihr =>
    have htop := wf_top hL hR
    have hf := find_mem x (.fork p l r)
    simp only [grown]
    by_cases hpq : p < q
    · rw [if_pos hpq]
      refine new_fork (c := 0) (.fork wl wr hL hR) (fun k hk => ?_) h2
      rw [h1]
      exact div_more (by rw [htop k hk, htop _ hf]) (by omega)
    · rw [if_neg hpq]
      have hne := h2 _ hf
      have hxp : x / 2 ^ (p + 1) = c := by rw [div_more h1 (by omega), htop _ hf]
      rw [div_succ] at hxp
      simp only [keys] at h2
      have hqp : q < p := by
        rcases Nat.lt_or_ge q p with h9 | h9
        · exact h9
        · have e9 : q = p := by omega
          subst e9
          exfalso
          by_cases hb : x / 2 ^ q % 2 = 1
          · have hr := keys_pos r
            have hm : (keys r)[0] ∈ keys r := List.getElem_mem _
            exact h2 _ (List.mem_append.mpr (.inr hm)) (by rw [hR _ hm]; omega)
          · have hr := keys_pos l
            have hm : (keys l)[0] ∈ keys l := List.getElem_mem _
            exact h2 _ (List.mem_append.mpr (.inl hm)) (by rw [hL _ hm]; omega)
      by_cases hb : x / 2 ^ p % 2 = 1
      · rw [if_pos hb]
        simp only [find, if_pos hb] at h1
        have ⟨w', p'⟩ := ihr h1 fun k hk => h2 k (List.mem_append.mpr (.inr hk))
        refine ⟨.fork (c := c) wl w' hL fun b hb' => ?_, ?_⟩
        · rcases List.mem_cons.mp (p'.mem_iff.mp hb') with rfl | hb'
          · omega
          · exact hR b hb'
        · simp only [keys]
          exact (p'.append_left _).trans List.perm_middle
      · rw [if_neg hb]
        simp only [find, if_neg hb] at h1
        have ⟨w', p'⟩ := ihl h1 fun k hk => h2 k (List.mem_append.mpr (.inl hk))
        refine ⟨.fork (c := c) w' wr (fun a ha => ?_) hR, ?_⟩
        · rcases List.mem_cons.mp (p'.mem_iff.mp ha) with rfl | ha
          · omega
          · exact hL a ha
        · simp only [keys]
          exact p'.append_right _

theorem keys_lt {t : Mine.T} (wf : WF t) : (keys t).Pairwise (· < ·) := by
  induction wf with
  | leaf => simp [keys]
  | @fork p c l r _ _ hL hR ihl ihr =>
    simp only [keys]
    refine List.pairwise_append.mpr ⟨ihl, ihr, fun a ha b hb => ?_⟩
    have h1 := hL a ha
    have h2 := hR b hb
    rcases Nat.lt_or_ge a b with h | h
    · exact h
    · have := Nat.div_le_div_right (c := 2 ^ p) h
      omega

theorem keys_low {t : Mine.T} (wf : WF t) (h : ∀ k ∈ keys t, k < 2 ^ 30) : Low t := by
  induction wf with
  | leaf => exact .leaf
  | @fork p c l r _ _ hL hR ihl ihr =>
    simp only [keys] at h
    refine .fork ?_ (ihl fun k hk => h k (List.mem_append.mpr (.inl hk))) (ihr fun k hk => h k (List.mem_append.mpr (.inr hk)))
    have hr := keys_pos r
    have hm : (keys r)[0] ∈ keys r := List.getElem_mem _
    have e := hR _ hm
    have b := h _ (List.mem_append.mpr (.inr hm))
    rcases Nat.lt_or_ge p 30 with h9 | h9
    · omega
    · have : 2 ^ 30 ≤ 2 ^ p := Nat.pow_le_pow_right (by omega) h9
      rw [Nat.div_eq_of_lt (by omega)] at e
      omega

theorem octsGo_len : ∀ (k n : Nat) (acc : List Nat), n < 64 ^ (k + 1) → (octsGo n acc).length ≤ acc.length + k
  | 0, n, acc, h => by
    rw [octsGo, if_neg (by omega)]; omega
  | k + 1, n, acc, h => by
    rw [octsGo]
    split
    · have := octsGo_len k (n / 64) ((64 + n / 64 % 64) :: acc) (by rw [Nat.pow_succ] at h; omega)
      simp only [List.length_cons] at this
      omega
    · omega
theorem octs_len {k n : Nat} (h : n < 64 ^ (k + 1)) : (octs n).length ≤ k + 1 := by
  have := octsGo_len k n [n % 64] h
  simp only [List.length_singleton] at this
  unfold octs; omega
theorem marked_len (l : List Nat) : (marked l).length = l.length := by simp [marked]

theorem tape_ok {t : Mine.T} (lo : Low t) : (∀ k ∈ keys t, k < 2 ^ 30) → (keys t).length ≤ 1000 → Ok t ∧ (tape t).length + 11 ≤ 22 * (keys t).length := by
  induction lo with
  | @leaf n =>
    intro h _
    have hn := h n (by simp [keys])
    refine ⟨.leaf (Nat.lt_trans hn (by decide)), ?_⟩
    have := octs_len (k := 9) (n := n) (Nat.lt_trans hn (by decide))
    simp only [tape, keys, List.length_cons, List.length_nil, marked_len]
    omega
  | @fork p l r hp _ _ ihl ihr =>
    intro h hl
    simp only [keys] at h hl
    rw [List.length_append] at hl
    have ⟨o1, b1⟩ := ihl (fun k hk => h k (List.mem_append.mpr (.inl hk))) (by omega)
    have ⟨o2, b2⟩ := ihr (fun k hk => h k (List.mem_append.mpr (.inr hk))) (by omega)
    have hc : (tape l).length < 2 ^ 22 := by omega
    refine ⟨.fork hp o1 o2 hc, ?_⟩
    have := octs_len (k := 9) (n := (tape l).length) (Nat.lt_trans hc (by decide))
    simp only [tape, keys, List.length_cons, List.length_append]
    omega
theorem height_le : ∀ t : Mine.T, height t ≤ (keys t).length
  | .leaf _ => by simp [height, keys]
  | .fork _ l r => by
    have h1 := height_le l
    have h2 := height_le r
    have h3 := keys_pos l
    have h4 := keys_pos r
    simp only [height, keys, List.length_append]
    omega

/-- the places at which a key parts from the others -/
def partsOf (ks : List Nat) (k : Nat) : List Nat := (ks.filter (· != k)).map fun o => (k ^^^ o).log2
def fitB (x : Nat) (ks : List Nat) (k : Nat) : Bool := ((partsOf ks k).filter fun p => (x ^^^ k) / 2 ^ p % 2 == 1) == []

theorem fitB_iff (x : Nat) (ks : List Nat) (k : Nat) : fitB x ks k = true ↔ ∀ o ∈ ks, o ≠ k → (x ^^^ k) / 2 ^ (k ^^^ o).log2 % 2 = 0 := by
  simp only [fitB, partsOf, beq_iff_eq, List.filter_eq_nil_iff, List.mem_map, List.mem_filter, bne_iff_ne]
  constructor
  · intro h o ho hk
    have := h _ ⟨o, ⟨ho, hk⟩, rfl⟩
    omega
  · rintro h p ⟨o, ⟨ho, hk⟩, rfl⟩
    have := h o ho hk
    omega

theorem fit_find (x : Nat) {t : Mine.T} (wf : WF t) : ∀ k ∈ keys t, (∀ o ∈ keys t, o ≠ k → (x ^^^ k) / 2 ^ (k ^^^ o).log2 % 2 = 0) ↔ k = find x t := by
  induction wf with
  | leaf =>
    intro k hk
    simp only [keys, List.mem_singleton] at hk
    subst hk
    simp only [keys, List.mem_singleton, find, iff_true]
    intro o ho hne
    exact absurd ho hne
  | @fork p c l r _ _ hL hR ihl ihr =>
    intro k hk
    simp only [keys] at hk ⊢
    have h1 := keys_pos l
    have h2 := keys_pos r
    have hm1 : (keys l)[0] ∈ keys l := List.getElem_mem _
    have hm2 : (keys r)[0] ∈ keys r := List.getElem_mem _
    simp only [find]
    rcases List.mem_append.mp hk with hk | hk
    · have ek := hL k hk
      by_cases hb : x / 2 ^ p % 2 = 1
      · rw [if_pos hb]
        constructor
        · intro h
          have h9 := h _ (List.mem_append.mpr (.inr hm2)) (fun e => by have := hR _ hm2; rw [e] at this; omega)
          rw [(part_log ek (hR _ hm2)).1, bit_xor] at h9
          omega
        · intro e
          have := hR _ (find_mem x r)
          rw [← e] at this; omega
      · rw [if_neg hb, ← ihl k hk]
        constructor
        · exact fun h o ho => h o (List.mem_append.mpr (.inl ho))
        · intro h o ho hne
          rcases List.mem_append.mp ho with ho | ho
          · exact h o ho hne
          · rw [(part_log ek (hR _ ho)).1, bit_xor]
            omega
    · have ek := hR k hk
      by_cases hb : x / 2 ^ p % 2 = 1
      · rw [if_pos hb, ← ihr k hk]
        constructor
        · exact fun h o ho => h o (List.mem_append.mpr (.inr ho))
        · intro h o ho hne
          rcases List.mem_append.mp ho with ho | ho
          · rw [(part_log (hL _ ho) ek).2, bit_xor]
            omega
          · exact h o ho hne
      · rw [if_neg hb]
        constructor
        · intro h
          have h9 := h _ (List.mem_append.mpr (.inl hm1)) (fun e => by have := hL _ hm1; rw [e] at this; omega)
          rw [(part_log (hL _ hm1) ek).2, bit_xor] at h9
          omega
        · intro e
          have := hL _ (find_mem x l)
          rw [← e] at this; omega

theorem filter_one {f : Nat} {P : Nat → Bool} : ∀ (l : List Nat), l.Pairwise (· < ·) → f ∈ l → (∀ k ∈ l, P k = true ↔ k = f) → l.filter P = [f]
  | [], _, h, _ => nomatch h
  | a :: l, hp, hf, hP => by
    have ⟨h1, h2⟩ := List.pairwise_cons.mp hp
    rcases List.mem_cons.mp hf with rfl | hf
    · rw [List.filter_cons_of_pos ((hP f (.head _)).mpr rfl), List.filter_eq_nil_iff.mpr]
      intro k hk hPk
      have := (hP k (.tail _ hk)).mp hPk
      have := h1 k hk
      omega
    · have hne : ¬ P a = true := fun h => by
        have := (hP a (.head _)).mp h
        have := h1 f hf
        omega
      rw [List.filter_cons_of_neg hne]
      exact filter_one l h2 hf fun k hk => hP k (.tail _ hk)

theorem fits_eq (x : Nat) {t : Mine.T} (wf : WF t) : (keys t).filter (fitB x (keys t)) = [find x t] :=
  filter_one _ (keys_lt wf) (find_mem x t) fun k hk => by rw [fitB_iff, fit_find x wf k hk]

theorem sorted_eq {a b : List Nat} (hp : a.Perm b) (ha : a.Pairwise (· ≤ ·)) (hb : b.Pairwise (· < ·)) : a = b :=
  hp.eq_of_pairwise (le := (· ≤ ·)) (fun _ _ _ _ h1 h2 => Nat.le_antisymm h1 h2) ha (hb.imp Nat.le_of_lt)
end Mine

namespace Mine

section
variable {prog : Program} {w : World} {A : Around} {E : Value → Shared → Prop} {s : Shared} {env : Env} {h₀ : Heap} {L : Addr} {m : Str → Option Value} {news : List (Addr × Obj)}

theorem comp_blockC {elt target iter : Expr} {ifs : List Expr} {scope : Scope} {cl : List (Str × Addr)} {pos : Pos} {I : Addr} {fp wr : List Addr} {n : Nat} {P : Nat → Value → Heap → Prop} {St : Nat → Heap → Prop}
    {RR : Value → Addr → Result → Shared → Prop} (W : Feed prog w A target I fp wr n P St) (kp itn : List (Addr × Obj)) (own : Option Obj) (J : Addr → Nat → List Value → List (Addr × Obj) → Prop)
    (hfree : ∀ o, own = some o → o.isFreed = false) (hp : ∀ h, pushCells h scope.names = match own with | none => h | some o => h.push o)
    (hfp : ∀ b ∈ fp, b ∈ wr ∨ (∃ o, (b, o) ∈ kp) ∨ ∃ o, h₀.get? b = some o)
    (F : Fr h₀ L s.heap m) (hw : itn.map (·.1) = wr) (N : News h₀ L s.heap (itn ++ news)) (hap : ∀ p ∈ news, p.1 ∉ wr) (hkp : ∀ p ∈ kp, p ∈ news) (hst : St 0 s.heap) (hn : n ≤ sizeLine)
    (hlen : ∀ C i ys nw, J C i ys nw → ys.length ≤ i)
    (hj : ∀ C, (∀ p ∈ itn ++ news, p.1 < C) → J C 0 [] (ownL own C ++ news))
    (turn : ∀ C D i v h tk oC mC c ys news₁ itn₁, i < n → P i v h → J C i ys news₁ → (∀ p ∈ kp, p ∈ news₁) → itn₁.map (·.1) = wr → Fr h₀ L h m → LCg.NsObj oC mC → News h₀ L h ((C, oC) :: (D, PySem.W.listOf ys.toArray c) :: (itn₁ ++ news₁)) →
      (∀ p ∈ itn₁ ++ news₁, p.1 ≠ C ∧ p.1 ≠ D) → C ≠ D → (∀ p ∈ news₁, p.1 ∉ wr) →
      wpAny (model prog w) A (assign target (compEnvC scope (cellsFrom (C + 1) scope.names cl) C env) v) (fun _ s₂ =>
        wpAny (model prog w) A (forIn ifs true fun c r => if r = true then do let ok ← isTrue c (compEnvC scope (cellsFrom (C + 1) scope.names cl) C env) (eval c (compEnvC scope (cellsFrom (C + 1) scope.names cl) C env)); pure (ForInStep.yield ok) else pure (ForInStep.yield r)) (fun ok s₃ =>
          if ok = true then wpAny (model prog w) A (eval elt (compEnvC scope (cellsFrom (C + 1) scope.names cl) C env)) (fun y s₄ => Stop (CompSt h₀ L m wr kp itn₁ C D (PySem.W.listOf ys.toArray c) (J C (i + 1) (ys ++ [y])) s s₄)) (fun _ _ => False) s₃
          else Stop (CompSt h₀ L m wr kp itn₁ C D (PySem.W.listOf ys.toArray c) (J C (i + 1) ys) s s₃)) (fun _ _ => False) s₂) (fun _ _ => False) { s with heap := h, toks := tk })
    (fin : ∀ C D h tk oC mC c ys news₁, J C n ys news₁ → (∀ p ∈ kp, p ∈ news₁) → Fr h₀ L h m → LCg.NsObj oC mC → News h₀ L h ((C, oC) :: (D, PySem.W.listOf ys.toArray c) :: news₁) → (∀ p ∈ news₁, p.1 ≠ C ∧ p.1 ≠ D) → C ≠ D → (∀ p ∈ itn ++ news, p.1 < D) →
      RR (.ref D) C (.ok .next) { s with heap := h, toks := tk }) :
    wpAny (model prog w) A (newList []) (fun acc s₃ => wpAny (model prog w) A (newFunctionEnv scope env.globals cl [] env.qual none .none (some env)) (fun cenv s₄ =>
      codeAny (model prog w) A (.compStart (.ListComp elt [⟨target, iter, ifs, 0⟩] scope pos) 0 (.ref I) acc { cenv with scope := relabel scope env }) (RR acc cenv.locals) s₄) E s₃) E s := by
  refine newList_K F N (fun D h₁ F₁ N₁ hltD => ?_) (Nat.zero_le _)
  refine newEnv_comp ?_
  dsimp only
  have F₂ : Fr h₀ L (h₁.push { cls := .type "dict", data := .dict #[] }) m := F₁.push _
  have N₂ := News.push F₁ N₁ { cls := .type "dict", data := .dict #[] } rfl
  have hltC : ∀ p ∈ (D, PySem.W.listOf [].toArray 0) :: (itn ++ news), p.1 < h₁.objs.size := fun p hp => Heap.lt_size (N₁ p hp).1
  have hszC : (h₁.push { cls := .type "dict", data := .dict #[] }).objs.size = h₁.objs.size + 1 := Heap.size_push ..
  have hns : LCg.NsObj { cls := .type "dict", data := .dict #[] } (fun _ => none) := ⟨#[], 0, rfl, fun e he => absurd he (by simp), fun _ => rfl⟩
  generalize h₁.objs.size = C at N₂ hltC hszC ⊢
  have hF3 : Fr h₀ L (pushCells (h₁.push { cls := .type "dict", data := .dict #[] }) scope.names) m ∧
      News h₀ L (pushCells (h₁.push { cls := .type "dict", data := .dict #[] }) scope.names) ((C, { cls := .type "dict", data := .dict #[] }) :: (D, PySem.W.listOf [].toArray 0) :: (itn ++ (ownL own C ++ news))) := by
    rw [hp]
    cases own with
    | none => exact ⟨F₂, N₂⟩
    | some o =>
      refine ⟨F₂.push o, fun p hp => ?_⟩
      have N₃ := News.push F₂ N₂ o (hfree o rfl)
      rw [hszC] at N₃
      refine N₃ p ?_
      simp only [ownL, List.mem_cons, List.mem_append, List.not_mem_nil, or_false] at hp ⊢
      rcases hp with h | h | h | h | h
      · exact .inr (.inl h)
      · exact .inr (.inr (.inl h))
      · exact .inr (.inr (.inr (.inl h)))
      · exact .inl h
      · exact .inr (.inr (.inr (.inr h)))
  obtain ⟨F₃, N₃⟩ := hF3
  have hDC : D < C := hltC _ (.head _)
  have hitC : ∀ p ∈ itn ++ news, p.1 < C := fun p hp => hltC p (.tail _ hp)
  have hJ0 := hj C hitC
  have hoap : ∀ p ∈ ownL own C ++ news, p.1 ≠ C ∧ p.1 ≠ D ∧ p.1 ∉ wr := fun p hp => by
    rcases List.mem_append.mp hp with hp | hp
    · have : p.1 = C + 1 := by
        cases own with
        | none => cases hp
        | some o => rcases List.mem_cons.mp hp with rfl | hp; rfl; cases hp
      refine ⟨by rw [this]; exact Nat.succ_ne_self C, by rw [this]; exact Nat.ne_of_gt (Nat.lt_succ_of_lt hDC), fun hb => ?_⟩
      rw [← hw] at hb
      obtain ⟨q, hq, e⟩ := List.mem_map.mp hb
      have h9 := hitC q (List.mem_append.mpr (.inl hq))
      rw [e, this] at h9
      exact absurd (Nat.lt_of_succ_lt h9) (Nat.lt_irrefl C)
    · have h1 := hitC p (List.mem_append.mpr (.inr hp))
      have h2 := hltD p (List.mem_append.mpr (.inr hp))
      exact ⟨Nat.ne_of_lt h1, Nat.ne_of_lt h2, hap p hp⟩
  have hitn0 : ∀ p ∈ itn, p.1 ≠ C ∧ p.1 ≠ D := fun p hp => ⟨Nat.ne_of_lt (hitC p (List.mem_append.mpr (.inl hp))), Nat.ne_of_lt (hltD p (List.mem_append.mpr (.inl hp)))⟩
  have hwrCD : C ∉ wr ∧ D ∉ wr := by
    constructor <;> intro hb <;> rw [← hw] at hb <;> obtain ⟨q, hq, e⟩ := List.mem_map.mp hb
    · exact (hitn0 q hq).1 e
    · exact (hitn0 q hq).2 e
  have st₃ : St 0 (pushCells (h₁.push { cls := .type "dict", data := .dict #[] }) scope.names) :=
    feed_stands W hfp hw F.keep N hkp F₃.keep (fun p hp => N₃ p (.tail _ (.tail _ hp))) (fun p hp => List.mem_append.mpr (.inr (hkp p hp))) hst
  have loop : ∀ s₃ : Shared, s₃.heap = pushCells (h₁.push { cls := .type "dict", data := .dict #[] }) scope.names → (∃ tk, s₃ = { s with heap := pushCells (h₁.push { cls := .type "dict", data := .dict #[] }) scope.names, toks := tk }) →
      codeAny (model prog w) A (.compLoop (.ListComp elt [⟨target, iter, ifs, 0⟩] scope pos) 0 (.ref I) (.ref D) (compEnvC scope (cellsFrom (C + 1) scope.names cl) C env)) (RR (.ref D) C) s₃ := by
    rintro s₃ - ⟨tk₃, rfl⟩
    refine codeAny_loop rfl (fun k s' => ∃ i itn ys c, k = n - i ∧ i ≤ n ∧ itn.map (·.1) = wr ∧ St i s'.heap ∧ CompSt h₀ L m wr kp itn C D (PySem.W.listOf ys.toArray c) (J C i ys) s s') ?_ (n - 0)
      ⟨0, itn, [], 0, rfl, Nat.zero_le _, hw, st₃, _, tk₃, _, _, _, rfl, F₃, hns, N₃, hoap, fun p hp => List.mem_append.mpr (.inr (hkp p hp)), hJ0⟩
    rintro k s' ⟨i, itn, ys, c, rfl, hi, hw, hst, h, tk, oC, mC, news₁, rfl, F₁, hC₁, N₁, hap, hkp, hJ⟩
    show wpAny _ A ((compTurn (.ListComp elt [⟨target, iter, ifs, 0⟩] scope pos) 0 (.ref I) (.ref D) (compEnvC scope (cellsFrom (C + 1) scope.names cl) C env)).onRaise (fun x => do noteFrame x (compEnvC scope (cellsFrom (C + 1) scope.names cl) C env); theTreesLotGoes x)) _ _ _
    refine wpAny_noted ?_
    rw [compTurn_list]
    refine wpAny_bind (wpAny_standAt (wpAny_bind ?_))
    have N₁' : News h₀ L h (itn ++ ((C, oC) :: (D, PySem.W.listOf ys.toArray c) :: news₁)) := fun p hp => N₁ p (by
      simp only [List.mem_cons, List.mem_append] at hp ⊢
      rcases hp with h | h | h | h
      · exact .inr (.inr (.inl h))
      · exact .inl h
      · exact .inr (.inl h)
      · exact .inr (.inr (.inr h)))
    have hap' : ∀ p ∈ (C, oC) :: (D, PySem.W.listOf ys.toArray c) :: news₁, p.1 ∉ wr := fun p hp => by
      rcases List.mem_cons.mp hp with rfl | hp
      · exact hwrCD.1
      · rcases List.mem_cons.mp hp with rfl | hp
        · exact hwrCD.2
        · exact (hap p hp).2.2
    by_cases hlt : i < n
    · have key : ∀ v h' tk', P i v h' → St (i + 1) h' → (∀ b o, b ∉ wr → h.get? b = some o → h'.get? b = some o) →
          wpAny (model prog w) A (assign target (compEnvC scope (cellsFrom (C + 1) scope.names cl) C env) v) (fun _ s₂ =>
            wpAny (model prog w) A (forIn ifs true fun c r => if r = true then do let ok ← isTrue c (compEnvC scope (cellsFrom (C + 1) scope.names cl) C env) (eval c (compEnvC scope (cellsFrom (C + 1) scope.names cl) C env)); pure (ForInStep.yield ok) else pure (ForInStep.yield r)) (fun ok s₃ =>
              if ok = true then wpAny (model prog w) A (eval elt (compEnvC scope (cellsFrom (C + 1) scope.names cl) C env)) (fun y s₄ => wpAny (model prog w) A (call (.builtin "list.append") [.ref D, y]) (fun _ s₅ => ∃ k, k < n - i ∧ ∃ i itn ys c, k = n - i ∧ i ≤ n ∧ itn.map (·.1) = wr ∧ St i s₅.heap ∧ CompSt h₀ L m wr kp itn C D (PySem.W.listOf ys.toArray c) (J C i ys) s s₅) (fun _ _ => False) s₄) (fun _ _ => False) s₃
              else ∃ k, k < n - i ∧ ∃ i itn ys c, k = n - i ∧ i ≤ n ∧ itn.map (·.1) = wr ∧ St i s₃.heap ∧ CompSt h₀ L m wr kp itn C D (PySem.W.listOf ys.toArray c) (J C i ys) s s₃) (fun _ _ => False) s₂) (fun _ _ => False) { s with heap := h', toks := tk' } := by
        intro v h' tk' hP hst' hk
        obtain ⟨F₂, N₂, mk⟩ := feed_ledger F₁ hw N₁' hap' hk
        obtain ⟨itn', e', hi'⟩ := entries_of wr (W.exi _ _ hst')
        have N₃ := mk itn' e' hi'
        have N₄ : News h₀ L h' ((C, oC) :: (D, PySem.W.listOf ys.toArray c) :: (itn' ++ news₁)) := fun p hp => N₃ p (by
          simp only [List.mem_cons, List.mem_append] at hp ⊢
          rcases hp with h | h | h | h
          · exact .inr (.inl h)
          · exact .inr (.inr (.inl h))
          · exact .inl h
          · exact .inr (.inr (.inr h)))
        have hitn' : ∀ p ∈ itn', p.1 ≠ C ∧ p.1 ≠ D := fun p hp => by
          have hb : p.1 ∈ wr := by rw [← e']; exact List.mem_map_of_mem hp
          exact ⟨fun e => hwrCD.1 (e ▸ hb), fun e => hwrCD.2 (e ▸ hb)⟩
        refine wpAny_mono (turn C D i v h' tk' oC mC c ys news₁ itn' hlt hP hJ hkp e' F₂ hC₁ N₄ (fun p hp => ?_) (Nat.ne_of_gt hDC) fun p hp => (hap p hp).2.2) (fun _ s₂ h₂ => ?_) fun _ _ e => e
        · rcases List.mem_append.mp hp with hp | hp
          · exact hitn' p hp
          · exact ⟨(hap p hp).1, (hap p hp).2.1⟩
        refine wpAny_mono h₂ (fun ok s₃ h₃ => ?_) fun _ _ e => e
        cases ok with
        | false =>
          simp only [Bool.false_eq_true, if_false] at h₃ ⊢
          have st := stop_at h₃
          refine ⟨n - (i + 1), by omega, i + 1, itn', ys, c, rfl, hlt, e', ?_, st⟩
          obtain ⟨h₅, tk₅, oC₅, mC₅, news₅, rfl, F₅, hC₅, N₅, hap₅, hkp₅, hJ₅⟩ := st
          exact feed_stands W hfp e' F₂.keep (fun p hp => N₄ p (.tail _ (.tail _ hp))) hkp F₅.keep (fun p hp => N₅ p (.tail _ (.tail _ hp))) hkp₅ hst'
        | true =>
          simp only [if_true] at h₃ ⊢
          refine wpAny_mono h₃ (fun y s₄ h₄ => ?_) fun _ _ e => e
          obtain ⟨h₅, tk₅, oC₅, mC₅, news₅, rfl, F₅, hC₅, N₅, hap₅, hkp₅, hJ₅⟩ := stop_at h₄
          have hst₅ := feed_stands W hfp e' F₂.keep (fun p hp => N₄ p (.tail _ (.tail _ hp))) hkp F₅.keep (fun p hp => N₅ p (.tail _ (.tail _ hp))) hkp₅ hst'
          have hysl : ys.length ≤ i := hlen _ _ _ _ hJ
          refine append_K (x := y) F₅ N₅ (.tail (Nat.ne_of_gt hDC) (.head fun p hp => ?_)) (fun h₆ F₆ N₆ => ?_) (by simpa using (show ys.length ≤ sizeLine by omega))
          · rcases List.mem_append.mp hp with hp | hp
            · exact (hitn' p hp).2
            · exact (hap₅ p hp).2.1
          refine ⟨n - (i + 1), by omega, i + 1, itn', ys ++ [y], c + 1, rfl, hlt, e', ?_, h₆, tk₅, oC₅, mC₅, news₅, rfl, F₆, hC₅, ?_, hap₅, hkp₅, hJ₅⟩
          · exact feed_stands W hfp e' F₅.keep (fun p hp => N₅ p (.tail _ (.tail _ hp))) hkp₅ F₆.keep (fun p hp => N₆ p (.tail _ (.tail _ hp))) hkp₅ hst₅
          · have e9 : ys.toArray.push y = (ys ++ [y]).toArray := by simp
            rw [e9] at N₆
            exact N₆
      refine wpAny_mono (W.item i _ (fun v s₂ => wpAny (model prog w) A (assign target (compEnvC scope (cellsFrom (C + 1) scope.names cl) C env) v) _ (fun _ _ => False) s₂) (fun _ _ => False) hlt hst key) (fun r s₁ hr => ?_) fun _ _ e => e.elim
      cases r with
      | none => exact hr.elim
      | some v =>
        refine wpAny_bind (wpAny_mono hr (fun _ s₂ h₂ => ?_) fun _ _ e => e.elim)
        refine wpAny_bind (wpAny_mono h₂ (fun _ s₂ h₂ => wpAny_bind (wpAny_mono h₂ (fun ok s₃ h₃ => ?_) fun _ _ e => e.elim)) fun _ _ e => e.elim)
        cases ok with
        | false =>
          simp only [Bool.false_eq_true, if_false] at h₃
          exact wpAny_pure ⟨rfl, h₃⟩
        | true =>
          simp only [if_true] at h₃
          exact wpAny_bind (wpAny_bind (wpAny_mono h₃ (fun x s₄ h₄ => wpAny_bind (wpAny_mono h₄ (fun _ s₅ h₅ => wpAny_pure (wpAny_pure ⟨rfl, h₅⟩)) fun _ _ e => e.elim)) fun _ _ e => e.elim))
    · have hin : i = n := by omega
      subst hin
      refine W.done _ _ _ hst fun h' tk' hk => ?_
      obtain ⟨F₂, N₂, _⟩ := feed_ledger F₁ hw N₁' hap' hk
      exact wpAny_pure (fin C D h' tk' oC mC c ys news₁ hJ hkp F₂ hC₁ N₂ (fun p hp => ⟨(hap p hp).1, (hap p hp).2.1⟩) (Nat.ne_of_gt hDC) hltD)
  exact codeAny_compStart_list (loop _ rfl ⟨_, rfl⟩) (W.self 0 _ _ _ st₃ (loop _ rfl ⟨_, rfl⟩))
end
end Mine

namespace Mine
section
variable {prog : Program} {w : World} {A : Around} {E : Value → Shared → Prop} {s : Shared} {env : Env} {h₀ : Heap} {L C : Addr} {m mC : Str → Option Value} {news : List (Addr × Obj)} {oC : Obj} {scope : Scope} {cs : List (Str × Addr)}

/-- into a block's own cell -/
theorem c_storeX {M : Model} {x : Str} {px : Pos} {v : Value} {c : Addr} {o : Obj} {v₀ : Option Value} {g : Obj → List (Addr × Obj)} {Q : Unit → Shared → Prop} (F : Fr h₀ L s.heap m) (N : News h₀ L s.heap news) (U : UpdF c o news g) (hd : o.data = .cell v₀)
    (h : ∀ h' o', Fr h₀ L h' m → News h₀ L h' (g o') → o'.data = .cell (some v) → Q () { s with heap := h' })
    (hc : (compEnvC scope cs C env).cells.lookup x = some c := by rfl)
    (hk : (compEnvC scope cs C env).scope.kind = .function := by rfl) (hl : (compEnvC scope cs C env).kindOf x = some .cell := by rfl) :
    wpAny M A (assign (.Name x px) (compEnvC scope cs C env) v) Q E s := by
  obtain ⟨own, rest, rfl, hg, h1, h2⟩ := U.split
  have hmem := N (c, o) (List.mem_append_right _ (.head _))
  refine wpAny_assign_Name (wpAny_storeName_cell hk hl hc ⟨o, hmem.1, hd⟩ fun h' hv hs => ?_)
  obtain ⟨o', ho', hd'⟩ := hv
  refine h h' o' ⟨F.ns.sameBut hs (Ne.symm hmem.2.1), fun b ob e => (hs.2 b (fun q => ?_)).trans (F.keep b ob e), F.above⟩ (hg o' ▸ N.setAt h1 h2 hs ho') hd'
  rw [q, hmem.2.2] at e; cases e
end
end Mine

namespace Mine
section
variable {prog : Program} {w : World} {A : Around} {E : Value → Shared → Prop} {s : Shared} {env : Env} {h₀ : Heap} {L : Addr} {m : Str → Option Value} {news : List (Addr × Obj)}

/-- zip(list, list) -/
theorem call_zip {l1 l2 : Addr} {xs ys : Array Value} {Q : Value → Shared → Prop} (F : Fr h₀ L s.heap m) (N : News h₀ L s.heap news) (hl1 : s.heap.IsList l1 xs) (hl2 : s.heap.IsList l2 ys)
    (h : ∀ (z TI TO i1 i2 : Addr) (h' : Heap) (itn : List (Addr × Obj)) (oTI : Obj), Fr h₀ L h' m → itn.map (·.1) = [z, TO, i1, i2] → News h₀ L h' (itn ++ (TI, oTI) :: news) → ZipApart z TI TO i1 i2 l1 l2 →
      (IsZip h' z TI TO .none ∧ IsPair h' TI (.ref i1) (.ref i2) ∧ (∃ a b, IsPair h' TO a b) ∧ h'.IsListIter i1 l1 0 ∧ h'.IsListIter i2 l2 0 ∧ h'.IsList l1 xs ∧ h'.IsList l2 ys) →
      (∀ p ∈ news, p.1 < i1) → i1 < i2 → i2 < TI → TI < TO → TO < z → Q (.ref z) { s with heap := h' }) :
    wpAny (model prog w) A (call (.type "zip") [.ref l1, .ref l2]) Q E s := by
  refine call_zip_2 hl1 hl2 fun h' hz hTI hTO hi1 hi2 hsz hk => ?_
  have hlt1 : l1 < s.heap.objs.size := by obtain ⟨o, ho, _⟩ := hl1; exact Heap.lt_size ho
  have hlt2 : l2 < s.heap.objs.size := by obtain ⟨o, ho, _⟩ := hl2; exact Heap.lt_size ho
  have hLlt : L < s.heap.objs.size := F.ns.lt
  have hnone : ∀ b, s.heap.objs.size ≤ b → h₀.get? b = none := fun b hb => by
    cases e : h₀.get? b with
    | none => rfl
    | some o => exact absurd (Nat.lt_of_lt_of_le (Heap.lt_size (F.keep _ _ e)) hb) (Nat.lt_irrefl _)
  have up : ∀ {l : Addr} {vs : Array Value}, s.heap.IsList l vs → h'.IsList l vs := fun hl => by
    obtain ⟨o, ho, r⟩ := hl
    exact ⟨o, hk _ _ ho, r⟩
  obtain ⟨o1, ho1, _⟩ := id hi1
  obtain ⟨o2, ho2, _⟩ := id hi2
  obtain ⟨oz, hoz⟩ : ∃ o, h'.get? (s.heap.objs.size + 4) = some o := ⟨_, hz⟩
  obtain ⟨oTI, hoTI⟩ : ∃ o, h'.get? (s.heap.objs.size + 2) = some o := ⟨_, hTI⟩
  obtain ⟨oTO, hoTO⟩ : ∃ o, h'.get? (s.heap.objs.size + 3) = some o := ⟨_, hTO⟩
  generalize hn : s.heap.objs.size = n at *
  have bigger : ∀ (j : Nat) (o : Obj), h'.get? (n + j) = some o → h'.get? (n + j) = some o ∧ n + j ≠ L ∧ h₀.get? (n + j) = none := fun j o e =>
    ⟨e, Nat.ne_of_gt (Nat.lt_of_lt_of_le hLlt (Nat.le_add_right _ _)), hnone _ (Nat.le_add_right _ _)⟩
  refine h (n + 4) (n + 2) (n + 3) n (n + 1) h' [(n + 4, oz), (n + 3, oTO), (n, o1), (n + 1, o2)] oTI (Fr.keptAll F hk) rfl (fun p (hp : p ∈ _) => ?_) (zipApart_new hlt1 hlt2)
    ⟨hz, hTI, ⟨_, _, hTO⟩, hi1, hi2, up hl1, up hl2⟩ (fun p hp => ?_) (Nat.lt_succ_self _) (Nat.lt_succ_self _) (Nat.lt_succ_self _) (Nat.lt_succ_self _)
  · rcases List.mem_cons.mp hp with rfl | hp
    · exact bigger 4 _ hoz
    rcases List.mem_cons.mp hp with rfl | hp
    · exact bigger 3 _ hoTO
    rcases List.mem_cons.mp hp with rfl | hp
    · exact bigger 0 _ ho1
    rcases List.mem_cons.mp hp with rfl | hp
    · exact bigger 1 _ ho2
    rcases List.mem_cons.mp hp with rfl | hp
    · exact bigger 2 _ hoTI
    · exact News.keepsAll N hk p hp
  · have := Heap.lt_size (N p hp).1
    rw [hn] at this
    exact this

theorem Feed.zip2 {prog : Program} {w : World} {A : Around} (hh : A.handled = none) (z TI TO i1 i2 l1 l2 : Addr) (D : ZipApart z TI TO i1 i2 l1 l2) (xs ys : Array Value) (elts : List Expr) (k : Nat) (pos : Pos) :
    Feed prog w A (.Tuple elts k pos) z [z, TI, TO, i1, i2, l1, l2] [z, TO, i1, i2] (min xs.size ys.size) (fun i v h => ∃ T vals, v = .ref T ∧ h.IsTuple T vals ∧ ∃ x y, xs[i]? = some x ∧ ys[i]? = some y ∧ vals = #[x, y])
      (fun i h => IsZip h z TI TO .none ∧ IsPair h TI (.ref i1) (.ref i2) ∧ (∃ a b, IsPair h TO a b) ∧ h.IsListIter i1 l1 i ∧ h.IsListIter i2 l2 i ∧ h.IsList l1 xs ∧ h.IsList l2 ys) :=
  Feed.ofU (WalksT.zip2 hh z TI TO i1 i2 l1 l2 D xs ys).toU (fun i h st b hb => by
    obtain ⟨hz, _, ⟨_, _, hTO⟩, ⟨o1, ho1, _⟩, ⟨o2, ho2, _⟩, _⟩ := st
    rcases List.mem_cons.mp hb with rfl | hb
    · exact ⟨_, hz⟩
    rcases List.mem_cons.mp hb with rfl | hb
    · exact ⟨_, hTO⟩
    rcases List.mem_cons.mp hb with rfl | hb
    · exact ⟨_, ho1⟩
    rcases List.mem_cons.mp hb with rfl | hb
    · exact ⟨_, ho2⟩
    cases hb) elts k pos
theorem itn_four {itn : List (Addr × Obj)} {a b c d : Addr} (h : itn.map (·.1) = [a, b, c, d]) : ∃ o1 o2 o3 o4, itn = [(a, o1), (b, o2), (c, o3), (d, o4)] := by
  cases itn with
  | nil => cases h
  | cons p r =>
    obtain ⟨h1, h⟩ := List.cons.inj h
    cases r with
    | nil => cases h
    | cons q r =>
      obtain ⟨h2, h⟩ := List.cons.inj h
      cases r with
      | nil => cases h
      | cons u r =>
        obtain ⟨h3, h⟩ := List.cons.inj h
        cases r with
        | nil => cases h
        | cons v r =>
          obtain ⟨h4, h⟩ := List.cons.inj h
          cases r with
          | nil => exact ⟨p.2, q.2, u.2, v.2, by rw [← h1, ← h2, ← h3, ← h4]⟩
          | cons _ _ => cases h

/-- a pair into a cell and a local name -/
theorem assign_pairX {a b : Str} {pa pb tp : Pos} {kk : Nat} {T c : Addr} {o : Obj} {v₀ : Option Value} {g : Obj → List (Addr × Obj)} {x y : Value} {Q : Unit → Shared → Prop} (hh : A.handled = none) (F : Fr h₀ L s.heap m) (N : News h₀ L s.heap news)
    (ht : s.heap.IsTuple T #[x, y]) (U : UpdF c o news g) (hd : o.data = .cell v₀)
    (h : ∀ h' tk o', Fr h₀ L h' (fun z => if z = b then some y else m z) → News h₀ L h' (g o') → o'.data = .cell (some x) → Q () { s with heap := h', toks := tk })
    (hL : env.locals = L) (hc : env.cells.lookup a = some c) (hk : env.scope.kind = .function) (ha : env.kindOf a = some .cell) (hb : env.kindOf b = some .local)
    (hp : (env.scope.kind == .class || (env.scope.kind == .module && env.locals != env.globals)) = false) :
    wpAny (model prog w) A (assign (.Tuple [.Name a pa, .Name b pb] kk tp) env (.ref T)) Q E s := by
  subst hL
  obtain ⟨own, rest, rfl, hg, u1, u2⟩ := U.split
  refine wpAny_assign_Tuple hh ht rfl rfl fun h₁ he₁ => ?_
  have up₁ : ∀ c o, s.heap.get? c = some o → h₁.get? c = some o := fun c o e => he₁ c o (Nat.ne_of_lt (Heap.lt_size e)) e
  have F₁ := Fr.keptAll F up₁
  have N₁ := News.keepsAll N up₁
  have hmem := N₁ (c, o) (List.mem_append_right _ (.head _))
  show wpAny _ _ (assignInOrder [assign (.Name a pa) env, assign (.Name b pb) env] [x, y]) _ _ _
  refine assignInOrder_cons ?_
  refine wpAny_assign_Name (wpAny_storeName_cell hk ha hc ⟨o, hmem.1, hd⟩ fun h₂ hv hs => ?_)
  obtain ⟨o', ho', hd'⟩ := hv
  have F₂ : Fr h₀ env.locals h₂ m := ⟨F₁.ns.sameBut hs (Ne.symm hmem.2.1), fun b ob e => (hs.2 b (fun q => by rw [q, hmem.2.2] at e; cases e)).trans (F₁.keep b ob e), F₁.above⟩
  have N₂ : News h₀ env.locals h₂ (g o') := hg o' ▸ N₁.setAt u1 u2 hs ho'
  refine assignInOrder_cons ?_
  refine wpAny_assign_Name (wpAny_storeName_local hb F₂.ns (fun h₃ hn₃ hs₃ => ?_) hp)
  refine assignInOrder_nil ?_
  exact h h₃ _ o' (F₂.set hn₃ hs₃) (News.set N₂ hs₃) hd'
end
end Mine

namespace Mine

theorem exec_then {M : Model} {A : Around} {st : Stmt} {env : Env} {s : Shared} {Q : Flow → Shared → Prop} {E : Value → Shared → Prop} (P : Shared → Prop)
    (h1 : wpAny M A (exec st env) (fun f s' => Stop (f = .next ∧ P s')) (fun _ _ => False) s) (h2 : ∀ s', P s' → Q .next s') : wpAny M A (exec st env) Q E s :=
  wpAny_mono h1 (fun f s' h => by have ⟨e, hp⟩ := stop_at h; rw [e]; exact h2 s' hp) fun _ _ e => e.elim

/-- the tree and the list of numbers bear the same numbers -/
structure Inv (tr : Mine.T) (ns : List Nat) : Prop where
  wf : WF tr
  small : ∀ k ∈ keys tr, k < 2 ^ 30
  perm : (keys tr).Perm ns

theorem Inv.start : Inv (.leaf 37) [37] := ⟨.leaf, fun k hk => by simp only [keys, List.mem_singleton] at hk; subst hk; decide, .refl _⟩
theorem Inv.mem {tr : Mine.T} {ns : List Nat} (h : Inv tr ns) (x : Nat) : x ^^^ find x tr = 0 ↔ x ∈ ns := (find_iff h.wf).trans h.perm.mem_iff
theorem Inv.grow {tr : Mine.T} {ns : List Nat} (h : Inv tr ns) {x : Nat} (hx : x < 2 ^ 30) (hd : x ^^^ find x tr ≠ 0) : Inv (grown x (x ^^^ find x tr).log2 tr) (ns ++ [x]) := by
  have ⟨w', p'⟩ := grown_wf x (x ^^^ find x tr).log2 h.wf (part hd).1 (none_like h.wf hd)
  refine ⟨w', fun k hk => ?_, ?_⟩
  · rcases List.mem_cons.mp (p'.mem_iff.mp hk) with rfl | hk
    · exact hx
    · exact h.small k hk
  · exact p'.trans ((h.perm.cons x).trans (List.perm_append_singleton x ns).symm)
theorem Inv.log {tr : Mine.T} {ns : List Nat} (h : Inv tr ns) {x : Nat} (hx : x < 2 ^ 30) (hd : x ^^^ find x tr ≠ 0) : (x ^^^ find x tr).log2 < 60 := by
  have := Nat.xor_lt_two_pow hx (h.small _ (find_mem x tr))
  have h2 := (Nat.log2_lt hd).mpr this
  omega
theorem Inv.len {tr : Mine.T} {ns : List Nat} (h : Inv tr ns) : (keys tr).length = ns.length := h.perm.length_eq
theorem Inv.ok {tr : Mine.T} {ns : List Nat} (h : Inv tr ns) (hl : ns.length ≤ 100) : Ok tr ∧ (tape tr).length ≤ 2 ^ 22 ∧ height tr ≤ 100 ∧ Low tr := by
  have lo := keys_low h.wf h.small
  have := tape_ok lo h.small (by rw [h.len]; omega)
  have hh := height_le tr
  have := h.len
  exact ⟨by exact (tape_ok lo h.small (by omega)).1, by omega, by omega, lo⟩

theorem bits_zero {n : Int} (h : n = 0) : (Builtin.Int.intBits n : Int) - 1 = -1 := by subst h; rfl
theorem bits_pos {d : Nat} (h : d ≠ 0) : (Builtin.Int.intBits (d : Int) : Int) - 1 = (d.log2 : Int) := by
  unfold Builtin.Int.intBits
  rw [if_neg (by simpa using h), Int.natAbs_natCast]
  omega

/-- the law's cells and its list of numbers stand ahead -/
abbrev Lg (L lN : Addr) (vs : Array Value) (c : Nat) (oN oX oP oK : Obj) (tl : List (Addr × Obj)) : List (Addr × Obj) :=
  (lN, W.listOf vs c) :: (L + 1 + 1 + 1 + 1, oK) :: (L + 1 + 1 + 1, oP) :: (L + 1 + 1, oX) :: (L + 1, oN) :: tl

abbrev mapTS (v : Value) (lS : Addr) (m0 : Str → Option Value) : Str → Option Value := fun y => if y = Str.ofString "tree" then some v else if y = Str.ofString "script" then some (.ref lS) else m0 y

/-- no entry stands at these addresses -/
structure Apart (L lN : Addr) (tl : List (Addr × Obj)) : Prop where
  n : ∀ p ∈ tl, p.1 ≠ lN
  c4 : ∀ p ∈ tl, p.1 ≠ L + 1 + 1 + 1 + 1
  c3 : ∀ p ∈ tl, p.1 ≠ L + 1 + 1 + 1
  c2 : ∀ p ∈ tl, p.1 ≠ L + 1 + 1
  c1 : ∀ p ∈ tl, p.1 ≠ L + 1
theorem Apart.cons {L lN : Addr} {tl : List (Addr × Obj)} {p : Addr × Obj} (a : Apart L lN tl) (h : lN < p.1) (h4 : L + 1 + 1 + 1 + 1 < p.1) : Apart L lN (p :: tl) := by
  have e4 : p.1 ≠ L + 1 + 1 + 1 + 1 := Nat.ne_of_gt h4
  have e3 : p.1 ≠ L + 1 + 1 + 1 := Nat.ne_of_gt (Nat.lt_of_succ_lt h4)
  have e2 : p.1 ≠ L + 1 + 1 := Nat.ne_of_gt (Nat.lt_of_succ_lt (Nat.lt_of_succ_lt h4))
  have e1 : p.1 ≠ L + 1 := Nat.ne_of_gt (Nat.lt_of_succ_lt (Nat.lt_of_succ_lt (Nat.lt_of_succ_lt h4)))
  constructor <;> intro q hq <;> rcases List.mem_cons.mp hq with rfl | hq
  · exact Nat.ne_of_gt h
  · exact a.n q hq
  · exact e4
  · exact a.c4 q hq
  · exact e3
  · exact a.c3 q hq
  · exact e2
  · exact a.c2 q hq
  · exact e1
  · exact a.c1 q hq
theorem Apart.nil {L lN : Addr} : Apart L lN [] := by constructor <;> intro q hq <;> cases hq
theorem Apart.append {L lN : Addr} {tl tl' : List (Addr × Obj)} (a : Apart L lN tl) (b : Apart L lN tl') : Apart L lN (tl ++ tl') := by
  constructor <;> intro q hq <;> rcases List.mem_append.mp hq with hq | hq
  · exact a.n q hq
  · exact b.n q hq
  · exact a.c4 q hq
  · exact b.c4 q hq
  · exact a.c3 q hq
  · exact b.c3 q hq
  · exact a.c2 q hq
  · exact b.c2 q hq
  · exact a.c1 q hq
  · exact b.c1 q hq

theorem Apart.rest {L lN : Addr} {tl : List (Addr × Obj)} (a : Apart L lN tl) (d4 : L + 1 + 1 + 1 + 1 < lN) (oK oP oX oN : Obj) : ∀ p ∈ (L + 1 + 1 + 1 + 1, oK) :: (L + 1 + 1 + 1, oP) :: (L + 1 + 1, oX) :: (L + 1, oN) :: tl, p.1 ≠ lN := fun p hp => by
  rcases List.mem_cons.mp hp with rfl | hp
  · exact Nat.ne_of_lt d4
  rcases List.mem_cons.mp hp with rfl | hp
  · exact Nat.ne_of_lt (Nat.lt_of_succ_lt d4)
  rcases List.mem_cons.mp hp with rfl | hp
  · exact Nat.ne_of_lt (Nat.lt_of_succ_lt (Nat.lt_of_succ_lt d4))
  rcases List.mem_cons.mp hp with rfl | hp
  · exact Nat.ne_of_lt (Nat.lt_of_succ_lt (Nat.lt_of_succ_lt (Nat.lt_of_succ_lt d4)))
  · exact a.n p hp

/-- the first loop's state -/
def J1 (L lN lS : Addr) (kp : List (Addr × Obj)) (i : Nat) (m : Str → Option Value) (nw : List (Addr × Obj)) : Prop :=
  ∃ (m0 : Str → Option Value) (v : Value) (vs : Array Value) (c : Nat) (oN oX oP oK : Obj) (tl : List (Addr × Obj)) (tr : Mine.T) (ns : List Nat),
    m = mapTS v lS m0 ∧ nw = Lg L lN vs c oN oX oP oK tl ∧ oN.data = .cell (some (.ref lN)) ∧ (∃ x, oX.data = .cell x) ∧ (∃ x, oP.data = .cell x) ∧ (∃ x, oK.data = .cell x) ∧
    TreeIn tl v tr ∧ IntsAre vs.toList (ns.map Int.ofNat) ∧ Inv tr ns ∧ ns.length ≤ 1 + i ∧ Apart L lN tl ∧ (∀ p ∈ kp, p ∈ tl)

theorem J1.drop {L lN lS : Addr} {kp : List (Addr × Obj)} {i : Nat} {m : Str → Option Value} {nw : List (Addr × Obj)} (h : J1 L lN lS kp i m nw) : J1 L lN lS [] i m nw := by
  obtain ⟨m2, vT, vsN, cN, oN, oX, oP, oK, tl, tr, ns, h1, h2, h3, h4, h5, h6, h7, h8, h9, h10, h11, _⟩ := h
  exact ⟨m2, vT, vsN, cN, oN, oX, oP, oK, tl, tr, ns, h1, h2, h3, h4, h5, h6, h7, h8, h9, h10, h11, fun p hp => nomatch hp⟩

def seeds : List Nat := [33554436, 5, 36, 5, 101]
def laid (script : List Int) : List Nat := seeds ++ (script.take 4).map fun x => (x.fmod 1073741824).toNat
theorem laid_lt (script : List Int) : ∀ x ∈ laid script, x < 2 ^ 30 := fun x hx => by
  rcases List.mem_append.mp hx with hx | hx
  · have h0 : ∀ x ∈ seeds, x < 2 ^ 30 := by decide
    exact h0 x hx
  · obtain ⟨y, _, rfl⟩ := List.mem_map.mp hx
    have := Int.fmod_lt_of_pos y (b := 1073741824) (by decide)
    have := Int.fmod_nonneg_of_pos y (b := 1073741824) (by decide)
    omega
theorem laid_map (script : List Int) : [((2 ^ 25 : Nat) : Int) + 4, 5, 36, 5, 101] ++ (script.take 4).map (fun x => x.fmod 1073741824) = (laid script).map Int.ofNat := by
  simp only [laid, List.map_append, List.map_map]
  congr 1
  refine List.map_congr_left fun x _ => ?_
  have := Int.fmod_nonneg_of_pos x (b := 1073741824) (by decide)
  show _ = ((x.fmod 1073741824).toNat : Int)
  omega
theorem laid_len (script : List Int) : (laid script).length ≤ 9 := by
  simp only [laid, seeds, List.length_append, List.length_map, List.length_take, List.length_cons, List.length_nil]
  omega

theorem TreeIn.restrict {big small : List (Addr × Obj)} {v : Value} {t : Mine.T} (h : TreeIn big v t) (hs : ∀ a vs c, (a, tupO vs c) ∈ big → (a, tupO vs c) ∈ small) : TreeIn small v t := by
  induction h with
  | leaf hm => exact .leaf (hs _ _ _ hm)
  | fork hm _ _ ih1 ih2 => exact .fork (hs _ _ _ hm) ih1 ih2
theorem no_cell {o : Obj} {vs : Array Value} {c : Nat} (h : ∃ x, o.data = .cell x) (e : tupO vs c = o) : False := by
  obtain ⟨x, h⟩ := h
  rw [← e] at h
  cases h
theorem no_list {its vs : Array Value} {n c : Nat} (e : tupO vs c = W.listOf its n) : False := by
  have h : (tupO vs c).cls = (W.listOf its n).cls := congrArg Obj.cls e
  exact absurd (show Value.type "tuple" = Value.type "list" from h) (by decide)
theorem tree_back {tg tl : List (Addr × Obj)} {Dt I lN k4 k3 k2 k1 : Addr} {vst vs : Array Value} {ct c : Nat} {oI oK oP oX oN : Obj} {v : Value} {t : Mine.T}
    (h : TreeIn (tg ++ (Dt, W.listOf vst ct) :: (I, oI) :: (lN, W.listOf vs c) :: (k4, oK) :: (k3, oP) :: (k2, oX) :: (k1, oN) :: tl) v t) (hI : oI.cls ≠ .type "tuple")
    (hK : ∃ x, oK.data = .cell x) (hP : ∃ x, oP.data = .cell x) (hX : ∃ x, oX.data = .cell x) (hN : ∃ x, oN.data = .cell x) : TreeIn (tg ++ (Dt, W.listOf vst ct) :: tl) v t :=
  h.restrict fun a vs c hm => by
    rcases List.mem_append.mp hm with hm | hm
    · exact List.mem_append.mpr (.inl hm)
    rcases List.mem_cons.mp hm with e | hm
    · exact (no_list (Prod.ext_iff.mp e).2).elim
    rcases List.mem_cons.mp hm with e | hm
    · exact absurd (congrArg Obj.cls (Prod.ext_iff.mp e).2).symm hI
    rcases List.mem_cons.mp hm with e | hm
    · exact (no_list (Prod.ext_iff.mp e).2).elim
    rcases List.mem_cons.mp hm with e | hm
    · exact (no_cell hK (Prod.ext_iff.mp e).2).elim
    rcases List.mem_cons.mp hm with e | hm
    · exact (no_cell hP (Prod.ext_iff.mp e).2).elim
    rcases List.mem_cons.mp hm with e | hm
    · exact (no_cell hX (Prod.ext_iff.mp e).2).elim
    rcases List.mem_cons.mp hm with e | hm
    · exact (no_cell hN (Prod.ext_iff.mp e).2).elim
    · exact List.mem_append.mpr (.inr (.tail _ hm))
theorem apart_of_lt {L lN : Addr} : ∀ {tg : List (Addr × Obj)}, (∀ q ∈ tg, lN < q.1) → (∀ q ∈ tg, L + 1 + 1 + 1 + 1 < q.1) → Apart L lN tg
  | [], _, _ => .nil
  | _ :: _, h, h4 => (apart_of_lt (fun q hq => h q (.tail _ hq)) fun q hq => h4 q (.tail _ hq)).cons (h _ (.head _)) (h4 _ (.head _))

def pyT : Mine.T → PyData
  | .leaf n => .tuple [.int (n : Int)]
  | .fork p l r => .tuple [.int (p : Int), pyT l, pyT r]
theorem tree_reads {g h : Heap} {L : Addr} {news : List (Addr × Obj)} (N : News g L h news) {v : Value} {t : Mine.T} (ht : TreeIn news v t) : ∃ as, Reads h v (pyT t) as := by
  induction ht with
  | leaf hm => exact ⟨_, .tuple (N _ hm).1 rfl rfl (.cons (.int _ _) .nil)⟩
  | fork hm _ _ ih1 ih2 =>
    obtain ⟨as, r1⟩ := ih1
    obtain ⟨bs, r2⟩ := ih2
    exact ⟨_, .tuple (N _ hm).1 rfl rfl (.cons (.int _ _) (.cons r1 (.cons r2 .nil)))⟩
theorem tree_lay : ∀ t : Mine.T, (pyT t).canLay0 = true ∧ (pyT t).depth ≤ height t
  | .leaf n => ⟨rfl, Nat.le_refl _⟩
  | .fork p l r => by
    have h1 := tree_lay l
    have h2 := tree_lay r
    refine ⟨?_, ?_⟩
    · show (true && ((pyT l).canLay0 && ((pyT r).canLay0 && true))) = true
      rw [h1.1, h2.1]; rfl
    · show max 0 (max (pyT l).depth (max (pyT r).depth 0)) + 1 ≤ max (height l) (height r) + 1
      have := h1.2; have := h2.2
      omega
theorem ne_tree {prog : Program} {w : World} {A : Around} {E : Value → Shared → Prop} {s : Shared} {g : Heap} {L : Addr} {news : List (Addr × Obj)} {a b : Value} {t : Mine.T} {Q : Value → Shared → Prop} (N : News g L s.heap news)
    (ha : TreeIn news a t) (hb : TreeIn news b t) (hh : height t ≤ 60) (hu : A.units + 64 < cLine) (h : Q (.bool false) s) : wpAny (model prog w) A (compareOp .NotEq a b) Q E s := by
  obtain ⟨as, ra⟩ := tree_reads N ha
  obtain ⟨bs, rb⟩ := tree_reads N hb
  have hs : SeqAt.shaped (pyT t) = true := by
    unfold SeqAt.shaped
    rw [(tree_lay t).1, Bool.true_and]
    have := (tree_lay t).2
    exact decide_eq_true (by omega)
  refine ne_dataH ra rb hs hs hu ?_
  rw [SeqAt.eqv_refl _ (tree_lay t).1]
  exact h
theorem Inv.sorted {tr : Mine.T} {ns : List Nat} {ms : List Int} (h : Inv tr ns) (p : ms.Perm (ns.map Int.ofNat)) (o : ms.Pairwise (· ≤ ·)) : ms = (keys tr).map Int.ofNat := by
  have p2 : ms.Perm ((keys tr).map Int.ofNat) := p.trans (h.perm.symm.map _)
  refine p2.eq_of_pairwise (le := (· ≤ ·)) (fun _ _ _ _ h1 h2 => Int.le_antisymm h1 h2) o ?_
  rw [List.pairwise_map]
  exact (keys_lt h.wf).imp fun h => by
    show (_ : Int) ≤ _
    have := Nat.le_of_lt h
    exact Int.ofNat_le.mpr this

theorem Apart.re {L lN D : Addr} {tl : List (Addr × Obj)} {o : Obj} (a : Apart L lN tl) (d4 : L + 1 + 1 + 1 + 1 < lN) (q1 : lN < D) (h : ∀ p ∈ tl, p.1 < D) : Apart L D ((lN, o) :: tl) := by
  have b : Apart L lN ((lN + 1, o) :: tl) := a.cons (Nat.lt_succ_self _) (Nat.lt_succ_of_lt d4)
  constructor <;> intro q hq <;> rcases List.mem_cons.mp hq with rfl | hq
  · exact Nat.ne_of_lt q1
  · exact Nat.ne_of_lt (h q hq)
  · exact Nat.ne_of_gt d4
  · exact a.c4 q hq
  · exact Nat.ne_of_gt (Nat.lt_of_succ_lt d4)
  · exact a.c3 q hq
  · exact Nat.ne_of_gt (Nat.lt_of_succ_lt (Nat.lt_of_succ_lt d4))
  · exact a.c2 q hq
  · exact Nat.ne_of_gt (Nat.lt_of_succ_lt (Nat.lt_of_succ_lt (Nat.lt_of_succ_lt d4)))
  · exact a.c1 q hq
theorem TreeIn.isRef {news : List (Addr × Obj)} {v : Value} {t : Mine.T} (h : TreeIn news v t) : ∃ a, v = .ref a := by
  cases h with
  | leaf _ => exact ⟨_, rfl⟩
  | fork _ _ _ => exact ⟨_, rfl⟩
theorem reorder3 {g h : Heap} {L : Addr} {d b c e f n : Addr × Obj} {tl : List (Addr × Obj)} (N : News g L h (d :: n :: b :: c :: e :: f :: tl)) : News g L h (d :: b :: c :: e :: f :: n :: tl) := fun p hp => N p (by
  simp only [List.mem_cons] at hp ⊢
  rcases hp with h | h | h | h | h | h | h
  · exact .inl h
  · exact .inr (.inr (.inl h))
  · exact .inr (.inr (.inr (.inl h)))
  · exact .inr (.inr (.inr (.inr (.inl h))))
  · exact .inr (.inr (.inr (.inr (.inr (.inl h)))))
  · exact .inr (.inl h)
  · exact .inr (.inr (.inr (.inr (.inr (.inr h))))))
theorem reorder4 {g h : Heap} {L : Addr} {t d b c e f : Addr × Obj} {tg tl : List (Addr × Obj)} (N : News g L h (t :: (tg ++ d :: b :: c :: e :: f :: tl))) : News g L h (d :: b :: c :: e :: f :: (t :: (tg ++ tl))) := fun p hp => N p (by
  simp only [List.mem_cons, List.mem_append] at hp ⊢
  rcases hp with h | h | h | h | h | h | h | h
  · exact .inr (.inr (.inl h))
  · exact .inr (.inr (.inr (.inl h)))
  · exact .inr (.inr (.inr (.inr (.inl h))))
  · exact .inr (.inr (.inr (.inr (.inr (.inl h)))))
  · exact .inr (.inr (.inr (.inr (.inr (.inr (.inl h))))))
  · exact .inl h
  · exact .inr (.inl h)
  · exact .inr (.inr (.inr (.inr (.inr (.inr (.inr h)))))))

/-- the lists of places stand on the ledger -/
def PartsIn (nw : List (Addr × Obj)) (ys : List Value) (all ks : List Nat) : Prop :=
  ys.length = ks.length ∧ ∀ (j k : Nat), ks[j]? = some k → ∃ (a : Addr) (vs : Array Value) (c : Nat), ys[j]? = some (Value.ref a) ∧ (a, W.listOf vs c) ∈ nw ∧ IntsAre vs.toList ((partsOf all k).map Int.ofNat)
theorem PartsIn.nil {nw : List (Addr × Obj)} {all : List Nat} : PartsIn nw [] all [] := ⟨rfl, fun j k h => by simp at h⟩
theorem PartsIn.mono {nw nw' : List (Addr × Obj)} {ys : List Value} {all ks : List Nat} (h : PartsIn nw ys all ks) (hs : ∀ p ∈ nw, p ∈ nw') : PartsIn nw' ys all ks :=
  ⟨h.1, fun j k hk => by
    obtain ⟨a, vs, c, h1, h2, h3⟩ := h.2 j k hk
    exact ⟨a, vs, c, h1, hs _ h2, h3⟩⟩
theorem PartsIn.snoc {nw : List (Addr × Obj)} {ys : List Value} {all ks : List Nat} {k : Nat} {a : Addr} {vs : Array Value} {c : Nat} (h : PartsIn nw ys all ks) (hm : (a, W.listOf vs c) ∈ nw) (hi : IntsAre vs.toList ((partsOf all k).map Int.ofNat)) :
    PartsIn nw (ys ++ [Value.ref a]) all (ks ++ [k]) := by
  refine ⟨by rw [List.length_append, List.length_append, h.1]; rfl, fun j q hq => ?_⟩
  by_cases hj : j < ks.length
  · rw [List.getElem?_append_left hj] at hq
    rw [List.getElem?_append_left (by rw [h.1]; exact hj)]
    exact h.2 j q hq
  · rw [List.getElem?_append_right (by omega)] at hq
    have hj0 : j - ks.length = 0 := by
      rcases Nat.eq_zero_or_pos (j - ks.length) with h0 | h0
      · exact h0
      · rw [List.getElem?_eq_none (by rw [List.length_singleton]; omega)] at hq
        cases hq
    rw [hj0] at hq
    have hq' : k = q := Option.some.inj hq
    subst hq'
    rw [List.getElem?_append_right (by rw [h.1]; omega), h.1, hj0]
    exact ⟨a, vs, c, rfl, hm, hi⟩

theorem reorder5 {g h : Heap} {L : Addr} {d a b i q : Addr × Obj} {rs base : List (Addr × Obj)} (N : News g L h (d :: a :: b :: i :: q :: (rs ++ base))) : News g L h (a :: b :: ([i] ++ (q :: ((d :: rs) ++ base)))) := fun p hp => N p (by
  simp only [List.mem_cons, List.mem_append, List.not_mem_nil, or_false] at hp ⊢
  rcases hp with h | h | h | h | (h | h) | h
  · exact .inr (.inl h)
  · exact .inr (.inr (.inl h))
  · exact .inr (.inr (.inr (.inl h)))
  · exact .inr (.inr (.inr (.inr (.inl h))))
  · exact .inl h
  · exact .inr (.inr (.inr (.inr (.inr (.inl h)))))
  · exact .inr (.inr (.inr (.inr (.inr (.inr h))))))
theorem reorder6 {g h : Heap} {L : Addr} {d q a b c e f : Addr × Obj} {rs tl : List (Addr × Obj)} (N : News g L h (d :: q :: (rs ++ a :: b :: c :: e :: f :: tl))) : News g L h (a :: b :: c :: e :: f :: (d :: (rs ++ tl))) := fun p hp => N p (by
  simp only [List.mem_cons, List.mem_append] at hp ⊢
  rcases hp with h | h | h | h | h | h | h | h
  · exact .inr (.inr (.inr (.inl h)))
  · exact .inr (.inr (.inr (.inr (.inl h))))
  · exact .inr (.inr (.inr (.inr (.inr (.inl h)))))
  · exact .inr (.inr (.inr (.inr (.inr (.inr (.inl h))))))
  · exact .inr (.inr (.inr (.inr (.inr (.inr (.inr (.inl h)))))))
  · exact .inl h
  · exact .inr (.inr (.inl h))
  · exact .inr (.inr (.inr (.inr (.inr (.inr (.inr (.inr h))))))))
theorem partsOf_snoc {ks : List Nat} {k o : Nat} (h : o ≠ k) : partsOf (ks ++ [o]) k = partsOf ks k ++ [(k ^^^ o).log2] := by
  simp [partsOf, h]
theorem xor_ne {k o : Nat} (h : o ≠ k) : k ^^^ o ≠ 0 := fun e => h (xor_zero e).symm

def asked (ks : List Nat) (script : List Int) : List Nat := ks ++ (script.take 3).map Int.natAbs ++ [38, 33554439, 2 ^ 70]
theorem asked_map (ks : List Nat) (script : List Int) : (ks.map Int.ofNat ++ ((script.take 3).map Int.natAbs).map Int.ofNat) ++ [38, ((2 ^ 25 : Nat) : Int) + 7, ((2 ^ 70 : Nat) : Int)] = (asked ks script).map Int.ofNat := by
  simp only [asked, List.map_append]
  congr 1
theorem asked_len (ks : List Nat) (script : List Int) : (asked ks script).length ≤ ks.length + 6 := by
  simp only [asked, List.length_append, List.length_map, List.length_take, List.length_cons, List.length_nil]
  omega
theorem asked_lt {ks : List Nat} {script : List Int} (hk : ∀ k ∈ ks, k < 2 ^ 30) (hl : PyData.layable0 (.list (script.map .int)) = true) : ∃ B, B ≤ 2 ^ 20 ∧ 100 ≤ B ∧ ∀ x ∈ asked ks script, x < 2 ^ B := by
  obtain ⟨B, hB⟩ : ∃ B, B = 1048576 := ⟨_, rfl⟩
  have hB1 : B ≤ 2 ^ 20 := by omega
  have hB2 : 100 ≤ B := by omega
  have up : ∀ x, x < 2 ^ 100 → x < 2 ^ B := fun x hx => Nat.lt_of_lt_of_le hx (Nat.pow_le_pow_right (by omega) hB2)
  refine ⟨B, hB1, hB2, fun x hx => ?_⟩
  rcases List.mem_append.mp hx with hx | hx
  · rcases List.mem_append.mp hx with hx | hx
    · exact up x (Nat.lt_trans (hk x hx) (by decide))
    · obtain ⟨y, hy, rfl⟩ := List.mem_map.mp hx
      have := intBits_le_of_item (List.mem_of_mem_take hy) hl
      rw [← hB] at this
      exact intBits_le_iff.mp this
  · have h0 : ∀ x ∈ [38, 33554439, 2 ^ 70], x < 2 ^ 100 := by decide
    exact up x (h0 x hx)

abbrev map3 (Dc Dt lS : Addr) (m0 : Str → Option Value) : Str → Option Value := fun y => if y = Str.ofString "parting" then some (.ref Dc) else if y = Str.ofString "tape" then some (.ref Dt) else if y = Str.ofString "script" then some (.ref lS) else m0 y

/-- the last loop's state -/
def J2 (L D Dc Dt lS : Addr) (vs : List Value) (c : Nat) (ent kp : List (Addr × Obj)) (ys : List Value) (ks : List Nat) (m : Str → Option Value) (nw : List (Addr × Obj)) : Prop :=
  ∃ (m0 : Str → Option Value) (oN oX oP oK : Obj) (tl : List (Addr × Obj)), m = map3 Dc Dt lS m0 ∧ nw = Lg L D vs.toArray c oN oX oP oK tl ∧ oN.data = .cell (some (.ref D)) ∧ (∃ x, oX.data = .cell x) ∧ (∃ x, oP.data = .cell x) ∧ (∃ x, oK.data = .cell x) ∧
    Apart L D tl ∧ (∀ p ∈ ent, p ∈ tl) ∧ PartsIn tl ys ks ks ∧ (∀ p ∈ kp, p ∈ tl)

theorem sub7 {α : Type} {e a b c d D K P X N : α} {tl : List α} : ∀ p ∈ D :: K :: P :: X :: N :: (e :: tl), p ∈ e :: a :: b :: c :: d :: D :: K :: P :: X :: N :: tl := fun p hp => by
  simp only [List.mem_cons] at hp ⊢
  rcases hp with h | h | h | h | h | h | h
  · exact .inr (.inr (.inr (.inr (.inr (.inl h)))))
  · exact .inr (.inr (.inr (.inr (.inr (.inr (.inl h))))))
  · exact .inr (.inr (.inr (.inr (.inr (.inr (.inr (.inl h)))))))
  · exact .inr (.inr (.inr (.inr (.inr (.inr (.inr (.inr (.inl h))))))))
  · exact .inr (.inr (.inr (.inr (.inr (.inr (.inr (.inr (.inr (.inl h)))))))))
  · exact .inl h
  · exact .inr (.inr (.inr (.inr (.inr (.inr (.inr (.inr (.inr (.inr h)))))))))
theorem off_all {r nw : List (Addr × Obj)} {I : Addr} (hs : ∀ p ∈ r, p ∈ nw) (hlt : ∀ p ∈ nw, p.1 < I) : ∀ p ∈ r, p.1 ∉ [I] := fun p hp hb => by
  have := hlt p (hs p hp)
  rw [List.mem_singleton.mp hb] at this
  exact Nat.lt_irrefl _ this

abbrev mapF (lF Dc Dt lS : Addr) (m0 : Str → Option Value) : Str → Option Value := fun y => if y = Str.ofString "fits" then some (.ref lF) else map3 Dc Dt lS m0 y
theorem mapF_parts {lF Dc Dt lS : Addr} {m0 : Str → Option Value} {v : Value} (y : Str) : (if y = Str.ofString "parts" then some v else mapF lF Dc Dt lS m0 y) = mapF lF Dc Dt lS (fun y => if y = Str.ofString "parts" then some v else m0 y) y := by
  by_cases h : y = Str.ofString "parts"
  · subst h
    rw [if_pos rfl]
    rfl
  · simp only [mapF, map3, if_neg h]
theorem map3_met {Dc Dt lS : Addr} {m0 : Str → Option Value} {x : Str} {v : Option Value} (h1 : x ≠ Str.ofString "parting") (h2 : x ≠ Str.ofString "tape") (h3 : x ≠ Str.ofString "script") (y : Str) : (if y = x then v else map3 Dc Dt lS m0 y) = map3 Dc Dt lS (fun y => if y = x then v else m0 y) y := by
  by_cases h : y = x
  · subst h
    rw [if_pos rfl]
    simp only [map3, if_neg h1, if_neg h2, if_neg h3, if_pos]
  · simp only [map3, if_neg h]
/-- the inner loop's state -/
def J3 (L D Dc Dt lS lF TI I : Addr) (vs : List Value) (c : Nat) (oTI oI oN oX oP : Obj) (tl : List (Addr × Obj)) (x : Nat) (ks : List Nat) (i : Nat) (m : Str → Option Value) (nw : List (Addr × Obj)) : Prop :=
  ∃ (m0 : Str → Option Value) (oK : Obj) (fv : Array Value) (cf : Nat), m = mapF lF Dc Dt lS m0 ∧ nw = (TI, oTI) :: (lF, W.listOf fv cf) :: (I, oI) :: Lg L D vs.toArray c oN oX oP oK tl ∧ (∃ x, oK.data = .cell x) ∧
    IntsAre fv.toList (((ks.take i).filter (fitB x ks)).map Int.ofNat)

theorem Feed.more {prog : Program} {w : World} {A : Around} {target : Expr} {I : Addr} {fp wr : List Addr} {n : Nat} {P : Nat → Value → Heap → Prop} {St : Nat → Heap → Prop} (W : Feed prog w A target I fp wr n P St) :
    Feed prog w A target I fp wr n (fun i v h => P i v h ∧ St (i + 1) h) St where
  sub := W.sub
  frame := W.frame
  exi := W.exi
  item := fun i s Q E hi st hQ => W.item i s Q E hi st fun v h' tk hP hS hk => hQ v h' tk ⟨hP, hS⟩ hS hk
  done := W.done
  self := W.self
theorem iter_cls {h : Heap} {I l : Addr} {i : Nat} {o : Obj} (it : h.IsListIter I l i) (ho : h.get? I = some o) : o.cls ≠ .type "tuple" := by
  obtain ⟨o', ho', hc, _⟩ := it
  rw [ho] at ho'
  cases ho'
  rw [hc]
  decide

section
variable {prog : Program} {w : World} {A : Around} {E : Value → Shared → Prop} {s : Shared} {t u : Tok} {Q : Value → Shared → Prop}
theorem pow_64_5 (h : Q (.int 1073741824 s.toks) { s with toks := s.toks + 1 }) : wpAny (model prog w) A (binaryOp .Pow (.int 64 t) (.int 5 u)) Q E s := by
  refine pow_int (by omega) ?_ ?_
  · decide +kernel
  · have e : (64 : Int) ^ ((5 : Int)).toNat = 1073741824 := by decide +kernel
    rw [e]; exact h
end
end Mine

namespace Mine

theorem noPylong_lt {x k : Nat} (h : x < 2 ^ (k + 1)) : Builtin.divisionGoesByPylong (x : Int) ((2 ^ k : Nat) : Int) = false := by
  have hd : (if ((x : Int) == 0) = true then 0 else (x : Int).natAbs.log2 / 30 + 1) ≤ (if (((2 ^ k : Nat) : Int) == 0) = true then 0 else ((2 ^ k : Nat) : Int).natAbs.log2 / 30 + 1) := by
    by_cases h0 : x = 0
    · rw [if_pos (by simp [h0])]; exact Nat.zero_le _
    · have hy : (2 ^ k : Nat) ≠ 0 := Nat.ne_of_gt (Nat.two_pow_pos k)
      rw [if_neg (by simpa using h0), if_neg (by
        intro e
        have e' : ((2 ^ k : Nat) : Int) = 0 := eq_of_beq e
        exact hy (by exact_mod_cast e')), Int.natAbs_natCast, Int.natAbs_natCast, Nat.log2_two_pow]
      have : x.log2 < k + 1 := (Nat.log2_lt h0).mpr h
      omega
  show (decide ((if (((2 ^ k : Nat) : Int) == 0) = true then 0 else ((2 ^ k : Nat) : Int).natAbs.log2 / 30 + 1) > 300) && decide ((if ((x : Int) == 0) = true then 0 else (x : Int).natAbs.log2 / 30 + 1) > (if (((2 ^ k : Nat) : Int) == 0) = true then 0 else ((2 ^ k : Nat) : Int).natAbs.log2 / 30 + 1) + 150)) = false
  rw [decide_eq_false (p := (if ((x : Int) == 0) = true then 0 else (x : Int).natAbs.log2 / 30 + 1) > _) (by omega), Bool.and_false]

theorem small_le {f k : Nat} (hf : f < 2 ^ 30) (hk : 9000 ≤ k) : f < 2 ^ k := Nat.lt_of_lt_of_le hf (Nat.pow_le_pow_right (by omega) (by omega))
theorem noPylong_small {f k : Nat} (hf : f < 2 ^ 30) : Builtin.divisionGoesByPylong (f : Int) ((2 ^ k : Nat) : Int) = false := by
  rcases Nat.lt_or_ge k 9000 with h | h
  · exact noPylong_pow h
  · exact noPylong_le (Nat.le_of_lt (small_le hf h))
/-- a number that is like a small one above a place -/
theorem noPylong_above {x f k : Nat} (hf : f < 2 ^ 30) (h : x / 2 ^ (k + 1) = f / 2 ^ (k + 1)) : Builtin.divisionGoesByPylong (x : Int) ((2 ^ (k + 1) : Nat) : Int) = false ∧ Builtin.divisionGoesByPylong (x : Int) ((2 ^ k : Nat) : Int) = false := by
  rcases Nat.lt_or_ge (k + 1) 9000 with hk | hk
  · exact ⟨noPylong_pow hk, noPylong_pow (by omega)⟩
  · have h0 : f / 2 ^ (k + 1) = 0 := Nat.div_eq_of_lt (small_le hf hk)
    rw [h0] at h
    have hx : x < 2 ^ (k + 1) := by
      rcases Nat.div_eq_zero_iff.mp h with h9 | h9
      · exact absurd h9 (Nat.ne_of_gt (Nat.two_pow_pos _))
      · exact h9
    exact ⟨noPylong_le (Nat.le_of_lt hx), noPylong_lt hx⟩
theorem parts_lt {ks : List Nat} (hs : ∀ k ∈ ks, k < 2 ^ 30) {k : Nat} (hk : k ∈ ks) : ∀ p ∈ partsOf ks k, p < 30 := fun p hp => by
  obtain ⟨o, ho, rfl⟩ := List.mem_map.mp hp
  have ho := (List.mem_filter.mp ho).1
  have hx := Nat.xor_lt_two_pow (hs k hk) (hs o ho)
  by_cases h0 : k ^^^ o = 0
  · rw [h0]; decide
  · exact (Nat.log2_lt h0).mpr hx

theorem map_end {lF Dc Dt lS : Addr} {m0 : Str → Option Value} {v : Option Value} (y : Str) :
    (if y = Str.ofString "met" then v else mapF lF Dc Dt lS m0 y) = map3 Dc Dt lS (fun y => if y = Str.ofString "met" then v else if y = Str.ofString "fits" then some (.ref lF) else m0 y) y := by
  have e : mapF lF Dc Dt lS m0 y = map3 Dc Dt lS (fun y => if y = Str.ofString "fits" then some (.ref lF) else m0 y) y :=
    map3_met (x := Str.ofString "fits") (v := some (.ref lF)) (by decide) (by decide) (by decide) y
  rw [e]
  exact map3_met (x := Str.ofString "met") (v := v) (by decide) (by decide) (by decide) y

theorem reorder7 {g h : Heap} {L : Addr} {d e i a b c p q : Addr × Obj} {tl : List (Addr × Obj)} (N : News g L h (d :: e :: i :: a :: b :: c :: p :: q :: tl)) : News g L h ([i] ++ (a :: b :: c :: p :: q :: (d :: e :: tl))) := fun x hp => N x (by
  simp only [List.mem_cons, List.mem_append, List.not_mem_nil, or_false] at hp ⊢
  rcases hp with h | h | h | h | h | h | h | h | h
  · exact .inr (.inr (.inl h))
  · exact .inr (.inr (.inr (.inl h)))
  · exact .inr (.inr (.inr (.inr (.inl h))))
  · exact .inr (.inr (.inr (.inr (.inr (.inl h)))))
  · exact .inr (.inr (.inr (.inr (.inr (.inr (.inl h))))))
  · exact .inr (.inr (.inr (.inr (.inr (.inr (.inr (.inl h)))))))
  · exact .inl h
  · exact .inr (.inl h)
  · exact .inr (.inr (.inr (.inr (.inr (.inr (.inr (.inr h))))))))
theorem off_swap {l1 l2 : List (Addr × Obj)} {wr : List Addr} (h : ∀ p ∈ l1, p.1 ∉ wr) (e : l2.map (·.1) = l1.map (·.1)) : ∀ p ∈ l2, p.1 ∉ wr := fun p hp => by
  have hm : p.1 ∈ l1.map (·.1) := by rw [← e]; exact List.mem_map_of_mem hp
  obtain ⟨q, hq, eq⟩ := List.mem_map.mp hm
  rw [← eq]
  exact h q hq
/-- the zip's own addresses lie above all that stood -/
theorem off_zip {nw : List (Addr × Obj)} {z TI TO i1 i2 : Addr} {oTI : Obj} (k1 : ∀ p ∈ nw, p.1 < i1) (k2 : i1 < i2) (k3 : i2 < TI) (k4 : TI < TO) (k5 : TO < z) : ∀ p ∈ (TI, oTI) :: nw, p.1 ∉ [z, TO, i1, i2] := fun p hp hb => by
  have t2 : i2 < TO := Nat.lt_trans k3 k4
  have t1 : i1 < TO := Nat.lt_trans k2 t2
  rcases List.mem_cons.mp hp with rfl | hp
  · rcases List.mem_cons.mp hb with e | hb
    · exact absurd (Nat.lt_trans k4 k5) (by rw [show TI = z from e]; exact Nat.lt_irrefl _)
    rcases List.mem_cons.mp hb with e | hb
    · exact absurd k4 (by rw [show TI = TO from e]; exact Nat.lt_irrefl _)
    rcases List.mem_cons.mp hb with e | hb
    · exact absurd (Nat.lt_trans k2 k3) (by rw [show TI = i1 from e]; exact Nat.lt_irrefl _)
    rcases List.mem_cons.mp hb with e | hb
    · exact absurd k3 (by rw [show TI = i2 from e]; exact Nat.lt_irrefl _)
    cases hb
  · have h1 := k1 p hp
    rcases List.mem_cons.mp hb with e | hb
    · exact absurd (Nat.lt_trans h1 (Nat.lt_trans t1 k5)) (by rw [e]; exact Nat.lt_irrefl _)
    rcases List.mem_cons.mp hb with e | hb
    · exact absurd (Nat.lt_trans h1 t1) (by rw [e]; exact Nat.lt_irrefl _)
    rcases List.mem_cons.mp hb with e | hb
    · exact absurd h1 (by rw [e]; exact Nat.lt_irrefl _)
    rcases List.mem_cons.mp hb with e | hb
    · exact absurd (Nat.lt_trans h1 k2) (by rw [e]; exact Nat.lt_irrefl _)
    cases hb
theorem off_ne {a b : Addr} {o : Obj} {wr : List Addr} {nw : List (Addr × Obj)} (h : ∀ p ∈ nw, p.1 ∉ wr) (hm : (a, o) ∈ nw) (hb : b ∈ wr) : b ≠ a := fun e => h _ hm (by rw [← e]; exact hb)

section
variable {prog : Program} {w : World} {A : Around} {E : Value → Shared → Prop} {s : Shared} {t u : Tok} {Q : Value → Shared → Prop}
theorem xor_nat {a b v : Nat} (hv : a ^^^ b = v) (h : Q (.int (v : Int) s.toks) { s with toks := s.toks + 1 }) : wpAny (model prog w) A (binaryOp .BitXor (.int (a : Int) t) (.int (b : Int) u)) Q E s :=
  xor_int (by rw [bitXor_nat, hv]; exact h)
end
theorem fit_decide (x : Nat) (ks : List Nat) (k : Nat) : decide (((partsOf ks k).filter fun p => (x ^^^ k) / 2 ^ p % 2 == 1).map Int.ofNat = []) = fitB x ks k := by
  unfold fitB
  cases (partsOf ks k).filter fun p => (x ^^^ k) / 2 ^ p % 2 == 1 with
  | nil => rfl
  | cons a r => rfl
theorem fit_in {x j k : Nat} {ks : List Nat} (hj : ks[j]? = some k) (h : fitB x ks k = true) : (ks.take (j + 1)).filter (fitB x ks) = (ks.take j).filter (fitB x ks) ++ [k] := by
  rw [List.take_add_one, hj, List.filter_append]
  congr 1
  exact List.filter_cons_of_pos h
theorem fit_out {x j k : Nat} {ks : List Nat} (hj : ks[j]? = some k) (h : fitB x ks k = false) : (ks.take (j + 1)).filter (fitB x ks) = (ks.take j).filter (fitB x ks) := by
  rw [List.take_add_one, hj, List.filter_append]
  rw [show (some k).toList = [k] from rfl, List.filter_cons_of_neg (by rw [h]; exact Bool.false_ne_true), List.filter_nil, List.append_nil]
theorem parts_len (ks : List Nat) (k : Nat) : (partsOf ks k).length ≤ ks.length := by
  unfold partsOf
  rw [List.length_map]
  exact List.length_filter_le ..
end Mine

namespace Mine

local macro_rules | `(tactic| walk_at "call ref") => `(tactic| (k_here; (with_reducible show wpAny _ _ (call (Value.ref _) _) _ _ _); refine stop_at ?_))
local macro_rules | `(tactic| walk_at "exec For") => `(tactic| (k_here; (with_reducible show wpAny _ _ (exec (PySem.Stmt.For _ _ _ _ _) _) _ _ _); refine stop_at ?_))
local macro_rules | `(tactic| walk_at "exec For Name BinOp cons nil") => `(tactic| (k_here; (with_reducible show wpAny _ _ (exec (PySem.Stmt.For _ _ _ _ _) _) _ _ _); refine stop_at ?_))
local macro_rules | `(tactic| walk_at "eval ListComp") => `(tactic| (k_here; (with_reducible show wpAny _ _ (eval (PySem.Expr.ListComp _ _ _ _) _) _ _ _); refine stop_at ?_))
local macro_rules | `(tactic| walk_at "pyIter ref") => `(tactic| (k_here; (with_reducible show wpAny _ _ (pyIter (Value.ref _)) _ _ _); refine stop_at ?_))
local macro_rules | `(tactic| walk_at "exec Assign cons ListComp") => `(tactic| (k_here; refine stop_at ?_))
local macro_rules | `(tactic| walk_at "binaryOp Pow int int") => `(tactic| (k_here; refine stop_at ?_))
local macro_rules | `(tactic| walk_at "binaryOp FloorDiv int int") => `(tactic| (k_here; refine stop_at ?_))
local macro_rules | `(tactic| k_all) => `(tactic| assumption)
local macro_rules | `(tactic| k_mem) => `(tactic| assumption)
local macro_rules | `(tactic| walk_at "compareOp NotIn int ref") => `(tactic| (k_here; (with_reducible show wpAny _ _ (compareOp _ (Value.int _ _) (Value.ref _)) _ _ _); refine stop_at ?_))
local macro_rules | `(tactic| walk_at "subscriptTail Name Slice ref ref") => `(tactic| (k_here; (with_reducible show wpAny _ _ (subscriptTail _ _ (Value.ref _) (Value.ref _)) _ _ _); refine stop_at ?_))
local macro_rules | `(tactic| walk_at "binaryOp Add ref ref") => `(tactic| (k_here; (with_reducible show wpAny _ _ (binaryOp _ (Value.ref _) (Value.ref _)) _ _ _); refine stop_at ?_))

local macro_rules | `(tactic| walk_at "call builtin:sorted") => `(tactic| (k_here; (with_reducible show wpAny _ _ (call (Value.builtin "sorted") [Value.ref _]) _ _ _); refine stop_at ?_))
local macro_rules | `(tactic| walk_at "compareOp NotEq ref ref") => `(tactic| (k_here; (with_reducible show wpAny _ _ (compareOp _ (Value.ref _) (Value.ref _)) _ _ _); refine stop_at ?_))

local macro_rules | `(tactic| walk_at "exec For Tuple Call cons nil") => `(tactic| (k_here; (with_reducible show wpAny _ _ (exec (PySem.Stmt.For _ _ _ _ _) _) _ _ _); refine stop_at ?_))
local macro_rules | `(tactic| walk_at "call type:zip") => `(tactic| (k_here; (with_reducible show wpAny _ _ (call (Value.type "zip") [Value.ref _, Value.ref _]) _ _ _); refine stop_at ?_))
local macro_rules | `(tactic| walk_at "compareOp In int ref") => `(tactic| (k_here; (with_reducible show wpAny _ _ (compareOp _ (Value.int _ _) (Value.ref _)) _ _ _); refine stop_at ?_))
local macro_rules | `(tactic| walk_at "compareOp Eq ref ref") => `(tactic| (k_here; (with_reducible show wpAny _ _ (compareOp _ (Value.ref _) (Value.ref _)) _ _ _); refine stop_at ?_))

theorem name_list {h : Heap} {a : Addr} {vs : Array Value} (_ : h.IsList a vs) : ∃ b, b = a := ⟨_, rfl⟩
theorem name_two {g h : Heap} {L a b : Addr} {x y : Obj} {r : List (Addr × Obj)} (_ : News g L h ((a, x) :: (b, y) :: r)) : ∃ a' b', a' = a ∧ b' = b := ⟨_, _, rfl, rfl⟩
theorem name_head {g h : Heap} {L a : Addr} {x : Obj} {r : List (Addr × Obj)} (_ : News g L h ((a, x) :: r)) : ∃ b, b = a := ⟨_, rfl⟩
theorem name_news {g h : Heap} {L : Addr} {nw : List (Addr × Obj)} (_ : News g L h nw) : ∃ b, b = nw := ⟨_, rfl⟩
theorem news_pick {g h : Heap} {L : Addr} {nw r : List (Addr × Obj)} {p : Addr × Obj} (N : News g L h nw) (hp : p ∈ nw) (M : News g L h r) : News g L h (p :: r) := fun q hq => by
  rcases List.mem_cons.mp hq with rfl | hq
  · exact N _ hp
  · exact M q hq
theorem news_in {g h : Heap} {L : Addr} {nw r : List (Addr × Obj)} (N : News g L h nw) (hp : ∀ p ∈ r, p ∈ nw) : News g L h r := fun q hq => N q (hp q hq)
theorem itn_one {itn : List (Addr × Obj)} {I : Addr} (h : itn.map (·.1) = [I]) : ∃ o, itn = [(I, o)] := by
  cases itn with
  | nil => cases h
  | cons p r =>
    obtain ⟨h1, h2⟩ := List.cons.inj h
    cases r with
    | nil => exact ⟨p.2, by rw [← h1]⟩
    | cons _ _ => cases h2
theorem mem_second {α : Type} {x y : α} {l r : List α} (h : l = x :: y :: r) : y ∈ l := by rw [h]; exact .tail _ (.head _)
theorem name_last {g h : Heap} {L a b c1 c2 c3 c4 : Addr} {x y o1 o2 o3 o4 : Obj} {r : List (Addr × Obj)} (_ : News g L h ((a, x) :: (b, y) :: (c1, o1) :: (c2, o2) :: (c3, o3) :: (c4, o4) :: r)) : ∃ o, o = o4 := ⟨_, rfl⟩
theorem name_cells {g h : Heap} {L a b c1 c2 c3 : Addr} {x y o1 o2 o3 : Obj} {r : List (Addr × Obj)} (_ : News g L h ((a, x) :: (b, y) :: (c1, o1) :: (c2, o2) :: (c3, o3) :: r)) : ∃ o1' o2' o3', o1' = o1 ∧ o2' = o2 ∧ o3' = o3 := ⟨_, _, _, rfl, rfl, rfl⟩
theorem off_cons {nw r : List (Addr × Obj)} {I : Addr} {p : Addr × Obj} (hlt : ∀ p ∈ nw, p.1 < I) (hp : p ∈ nw) (M : ∀ q ∈ r, q.1 ∉ [I]) : ∀ q ∈ p :: r, q.1 ∉ [I] := fun q hq hb => by
  rcases List.mem_cons.mp hq with rfl | hq
  · have := hlt _ hp
    rw [List.mem_singleton.mp hb] at this
    exact Nat.lt_irrefl _ this
  · exact M q hq hb
theorem off_nil {I : Addr} : ∀ q ∈ ([] : List (Addr × Obj)), q.1 ∉ [I] := fun _ h => nomatch h
theorem name_tok {g h : Heap} {L a : Addr} {t : Tok} {x : Int} {r : List (Addr × Obj)} (_ : News g L h ((a, { cls := .type "tuple", data := .seq #[.int x t] }) :: r)) : ∃ t', t' = t := ⟨_, rfl⟩
theorem reorder1 {g h : Heap} {L : Addr} {d i a b c e f : Addr × Obj} {tl : List (Addr × Obj)} (N : News g L h (d :: i :: a :: b :: c :: e :: f :: tl)) : News g L h (i :: a :: b :: c :: e :: f :: d :: tl) := fun p hp => N p (by
  simp only [List.mem_cons] at hp ⊢
  rcases hp with h | h | h | h | h | h | h | h
  · exact .inr (.inl h)
  · exact .inr (.inr (.inl h))
  · exact .inr (.inr (.inr (.inl h)))
  · exact .inr (.inr (.inr (.inr (.inl h))))
  · exact .inr (.inr (.inr (.inr (.inr (.inl h)))))
  · exact .inr (.inr (.inr (.inr (.inr (.inr (.inl h))))))
  · exact .inl h
  · exact .inr (.inr (.inr (.inr (.inr (.inr (.inr h)))))))
theorem reorder2 {g h : Heap} {L : Addr} {d i a b c e f : Addr × Obj} {tg tl : List (Addr × Obj)} (N : News g L h (tg ++ d :: i :: a :: b :: c :: e :: f :: tl)) : News g L h (i :: a :: b :: c :: e :: f :: (tg ++ d :: tl)) := fun p hp => N p (by
  simp only [List.mem_cons, List.mem_append] at hp ⊢
  rcases hp with h | h | h | h | h | h | h | h | h
  · exact .inr (.inr (.inl h))
  · exact .inr (.inr (.inr (.inl h)))
  · exact .inr (.inr (.inr (.inr (.inl h))))
  · exact .inr (.inr (.inr (.inr (.inr (.inl h)))))
  · exact .inr (.inr (.inr (.inr (.inr (.inr (.inl h))))))
  · exact .inr (.inr (.inr (.inr (.inr (.inr (.inr (.inl h)))))))
  · exact .inl h
  · exact .inr (.inl h)
  · exact .inr (.inr (.inr (.inr (.inr (.inr (.inr (.inr h))))))))
theorem off_pick {r : List (Addr × Obj)} {I a : Addr} {o : Obj} (h : a ≠ I) (M : ∀ q ∈ r, q.1 ∉ [I]) : ∀ q ∈ (a, o) :: r, q.1 ∉ [I] := fun q hq hb => by
  rcases List.mem_cons.mp hq with rfl | hq
  · exact h (List.mem_singleton.mp hb)
  · exact M q hq hb
theorem any_in {x : Nat} {ns : List Nat} (h : x ∈ ns) : ((ns.map Int.ofNat).any (· == (x : Int))) = true :=
  List.any_eq_true.mpr ⟨(x : Int), List.mem_map.mpr ⟨x, h, rfl⟩, by simp⟩
theorem any_out {x : Nat} {ns : List Nat} (h : x ∉ ns) : ((ns.map Int.ofNat).any (· == (x : Int))) = false := by
  rw [List.any_eq_false]
  intro y hy
  obtain ⟨k, hk, rfl⟩ := List.mem_map.mp hy
  intro e
  have e' : (k : Int) = (x : Int) := by simpa using e
  exact h (by have : k = x := by omega
              exact this ▸ hk)
theorem kp_three {a b c f i k4 k3 k2 k1 : Addr × Obj} {tl : List (Addr × Obj)} (h : c ∈ tl) : ∀ p ∈ [a, b, c], p ∈ a :: f :: i :: b :: k4 :: k3 :: k2 :: k1 :: tl := fun p hp => by
  rcases List.mem_cons.mp hp with rfl | hp
  · exact .head _
  rcases List.mem_cons.mp hp with rfl | hp
  · exact .tail _ (.tail _ (.tail _ (.head _)))
  rcases List.mem_cons.mp hp with rfl | hp
  · exact .tail _ (.tail _ (.tail _ (.tail _ (.tail _ (.tail _ (.tail _ (.tail _ h)))))))
  cases hp
theorem mapTS_set {v v' : Value} {lS : Addr} {m0 : Str → Option Value} (y : Str) : (if y = Str.ofString "tree" then some v' else mapTS v lS m0 y) = mapTS v' lS m0 y := by
  by_cases h : y = Str.ofString "tree"
  · simp only [mapTS, if_pos h]
  · simp only [mapTS, if_neg h]

theorem fin0 : PySem.Challenge.rw_sh0008_01.Holds := hd (by
  k_go0
  (all_goals try k_fold)
  k_steps
  rename World => w
  rename Shared => s₁
  rename IntsAre _ _ => hI
  rename Heap.IsList _ _ _ => hsl
  rename List Int => script
  rename ¬ _ < _ => hlen63
  rename Fr _ _ _ _ => F₀
  rename News _ _ _ _ => N₁
  rename Below _ _ _ _ => KB
  rename Top _ _ _ _ _ _ => KT
  rename (hd.heap_39 _).In _ => KX
  replace KB : Below callerA s₁.heap [] s₁.heap := KB
  obtain ⟨lS, rfl⟩ := name_list hsl
  obtain ⟨l37, lN, rfl, rfl⟩ := name_two N₁
  obtain ⟨t37, rfl⟩ := name_tok N₁
  obtain ⟨oK, oP, oX, rfl, rfl, rfl⟩ := name_cells N₁
  have hoK : ∃ x, oK.data = .cell x := ⟨_, by with_reducible assumption⟩
  have hoP : ∃ x, oP.data = .cell x := ⟨_, by with_reducible assumption⟩
  have hoX : ∃ x, oX.data = .cell x := ⟨_, by with_reducible assumption⟩
  obtain ⟨m0, F₁⟩ := fr_open2 (x := Str.ofString "tree") (x' := Str.ofString "script") F₀ rfl rfl
  clear F₀
  rename _ < l37 ∧ _ ∧ _ ∧ _ ∧ _ => h37
  rename _ < lN ∧ _ ∧ _ ∧ _ => hlN
  obtain ⟨oN, rfl⟩ := name_last N₁
  have hoN : oN.data = .cell (some (.ref lN)) := by with_reducible assumption
  refine stop_go ?_
  refine exec_then (fun s' => ∃ h tk m nw, s' = { s₁ with heap := h, toks := tk } ∧ Fr s₁.heap s₁.heap.objs.size h m ∧ News s₁.heap s₁.heap.objs.size h nw ∧ J1 s₁.heap.objs.size lN lS [] (laid script).length m nw) ?_ ?_
  · refine' wpAny_For ?h ?hs
    case hs => intro _; rfl
    k_steps
    refine stop_go ?_
    refine pow2_int (k := 25) rfl (by omega) ?_
    try dsimp only
    k_steps
    refine stop_go ?_
    refine eval_comp (cl := []) rfl rfl (by decide) ?_
    k_steps
    refine stop_go ?_
    rename Fr _ _ _ _ => F₂
    rename News _ _ _ _ => N₂
    rename Addr => lA
    rename _ < lA ∧ _ ∧ _ ∧ _ ∧ _ ∧ _ => hlA
    have hi₃ := kmk_upto (y := 4) hI (by decide)
    k_dflt (refine' kmk_slice (lo := none) (hi := some 4) ?kF ?kN ?kl .none (.int _ _) (fun D₂ h₃ F₃ N₃ hlt₃ => ?_) ?s ?t ?z; (case kF => exact F₂); (case kN => exact N₂); (case kl => exact Fr.lst F₂ hsl); (case s => with_unfolding_all rfl); (case t => intro _; rfl); (case z => (rw [sizeLine_eq, List.size_toArray, hI.length]; omega)))
    generalize hpk : slicePick (List.toArray _) none (some 4) none = pk at hi₃ N₃ ⊢
    obtain ⟨nw₃, hnw₃⟩ := name_news N₃
    rw [← hnw₃] at N₃
    have hm₃ : (D₂, W.listOf pk 0) ∈ nw₃ := by rw [hnw₃]; exact .head _
    have hpl : pk.size = (script.take 4).length := by have := hi₃.length; simpa using this
    have hpl4 : (script.take 4).length ≤ 4 := List.length_take_le ..
    try dsimp only
    k_steps
    refine stop_go ?_
    refine iter_list F₃ N₃ (News.isList N₃ hm₃) fun I oI h₄ F₄ N₄ hoI hltI hneI => ?_
    try dsimp only
    have hfeed := IterO.at hoI (N₄ (I, oI) (.head _)).1
    refine comp_block (Feed.list rfl I D₂ hneI pk (Str.ofString "x") _) [(D₂, W.listOf pk 0)] [(I, oI)] none
      (fun i ys (nw : List (Addr × Obj)) => nw = nw₃ ∧ ys.length ≤ i ∧ IntsAre ys (((script.take 4).take i).map fun x => x.fmod 1073741824)) (fun _ e => nomatch e) (fun _ => rfl)
      (fun b hb => ?_) F₄ rfl N₄ (fun p hp hb => ?_) (fun p hp => ?_) ⟨hfeed, News.isList N₄ (.tail _ hm₃)⟩ (by rw [sizeLine_eq]; omega) (fun i ys nw (h : _ ∧ _ ∧ _) => h.2.1) (fun C hC => ⟨rfl, Nat.zero_le _, .nil⟩) ?_ ?_
    · rcases List.mem_cons.mp hb with rfl | hb
      · exact .inl (.head _)
      · rcases List.mem_cons.mp hb with rfl | hb
        · exact .inr (.inl ⟨_, .head _⟩)
        · cases hb
    · rcases List.mem_cons.mp hb with e | hb
      · exact absurd (hltI p hp) (by rw [e]; exact Nat.lt_irrefl _)
      · cases hb
    · rcases List.mem_cons.mp hp with rfl | hp
      · exact hm₃
      · cases hp
    · rintro C D i v h₆ tk₆ oC mC c₆ ys news₆ itn₆ hin hvi ⟨hnw, hyl, hys⟩ hkp hw₆ F₆ hC N₆ hap₆ hCD hapw
      have hil : i < (script.take 4).length := by omega
      obtain ⟨x, hx⟩ : ∃ x, (script.take 4)[i]? = some x := ⟨_, List.getElem?_eq_getElem hil⟩
      obtain ⟨tk9, htk9⟩ := hi₃.get i x hx
      have hve : v = .int x tk9 := by
        have h1 : pk[i]? = some (.int x tk9) := by simpa using htk9
        rw [hvi] at h1; exact Option.some.inj h1
      subst hve
      have hCap : ∀ p ∈ (D, W.listOf ys.toArray c₆) :: (itn₆ ++ news₆), p.1 ≠ C := fun p hp => by
        rcases List.mem_cons.mp hp with rfl | hp
        · exact Ne.symm hCD
        · exact (hap₆ p hp).1
      refine c_store F₆ hC N₆ hCap fun h₇ oC₇ F₇ hC₇ N₇ => ?_
      refine wpAny_tests_nil ?_
      rw [if_pos rfl]
      refine wpAny_BinOp (c_local hC₇ N₇ rfl (wpAny_BinOp (wpAny_Constant_int (wpAny_Constant_int (pow_64_5 (mod_int' (by decide) (stop_go ⟨h₇, _, oC₇, _, _, rfl, F₇, hC₇, N₇, fun p hp => ?_, hkp, hnw, ?_, ?_⟩)))))))
      · have := hap₆ p (List.mem_append.mpr (.inr hp))
        exact ⟨this.1, this.2, hapw p hp⟩
      · rw [List.length_append, List.length_singleton]; omega
      · rw [List.take_add_one, hx, List.map_append]
        exact ints_snoc hys
    · rintro C D h₆ tk₆ oC mC c₆ ys news₆ ⟨hnw, hyl, hys⟩ hkp F₆ hC N₆ hap₆ hCD hltD
      rw [List.take_of_length_le (by omega)] at hys
      subst hnw
      refine compPost_eval F₆ hC N₆ (fun p hp => ?_) (fun h₇ F₇ N₇ => ?_)
      · rcases List.mem_cons.mp hp with rfl | hp
        · exact Ne.symm hCD
        · exact (hap₆ p hp).1
      clear F₆ N₆ F₄ N₄ F₃ N₃ F₂ N₂
      try dsimp only
      k_steps
      refine stop_go ?_
      have hmA := mem_second hnw₃
      refine kmk_add_ints F₇ N₇ (News.isList N₇ (.tail _ hmA)) (News.isList N₇ (.head _)) (.cons _ _ (.cons _ _ (.cons _ _ (.cons _ _ (.cons _ _ .nil))))) hys (fun D₈ us h₈ F₈ N₈ hlt₈ hI₈ => ?_) (by rw [sizeLine_eq, List.length_map]; simp only [List.length_cons, List.length_nil]; omega)
      rw [laid_map] at hI₈
      try dsimp only
      k_steps
      refine stop_go ?_
      refine iter_list F₈ N₈ (News.isList N₈ (.head _)) fun I' oI' h₉ F₉ N₉ hoI' hltI' hneI' => ?_
      try dsimp only
      have hus : us.length = (laid script).length := by have := hI₈.length; simpa using this
      have h9len := laid_len script
      subst hnw₃
      have hlN8 : lN < D₈ := hlt₈ (lN, _) (.tail _ (.tail _ (.tail _ (.tail _ (.head _)))))
      have hL8 : s₁.heap.objs.size + 1 + 1 + 1 + 1 < D₈ := hlt₈ (_, oK) (.tail _ (.tail _ (.tail _ (.tail _ (.tail _ (.head _))))))
      have N₁₀ := news_pick N₉ (.head _) (news_pick N₉ (.tail _ (.tail _ (.tail _ (.tail _ (.tail _ (.tail _ (.head _))))))) (news_pick N₉ (.tail _ (.tail _ (.tail _ (.tail _ (.tail _ (.tail _ (.tail _ (.head _)))))))) (news_pick N₉ (.tail _ (.tail _ (.tail _ (.tail _ (.tail _ (.tail _ (.tail _ (.tail _ (.head _))))))))) (news_pick N₉ (.tail _ (.tail _ (.tail _ (.tail _ (.tail _ (.tail _ (.tail _ (.tail _ (.tail _ (.head _)))))))))) (news_pick N₉ (.tail _ (.tail _ (.tail _ (.tail _ (.tail _ (.tail _ (.tail _ (.tail _ (.tail _ (.tail _ (.head _))))))))))) (news_pick N₉ (.tail _ (.head _)) (news_pick N₉ (.tail _ (.tail _ (.tail _ (.tail _ (.tail _ (.head _)))))) News.nil)))))))
      have hfeed' := IterO.at hoI' (N₉ (I', oI') (.head _)).1
      have hap₁₀ := off_cons hltI' (.tail _ (.tail _ (.tail _ (.tail _ (.tail _ (.head _)))))) (off_cons hltI' (.tail _ (.tail _ (.tail _ (.tail _ (.tail _ (.tail _ (.head _))))))) (off_cons hltI' (.tail _ (.tail _ (.tail _ (.tail _ (.tail _ (.tail _ (.tail _ (.head _)))))))) (off_cons hltI' (.tail _ (.tail _ (.tail _ (.tail _ (.tail _ (.tail _ (.tail _ (.tail _ (.head _))))))))) (off_cons hltI' (.tail _ (.tail _ (.tail _ (.tail _ (.tail _ (.tail _ (.tail _ (.tail _ (.tail _ (.head _)))))))))) (off_cons hltI' (.head _) (off_cons hltI' (.tail _ (.tail _ (.tail _ (.tail _ (.head _))))) off_nil))))))
      have aprt : Apart s₁.heap.objs.size lN [(D₈, W.listOf us.toArray 0), (l37, ({ cls := .type "tuple", data := .seq #[.int 37 t37] } : Obj))] := (Apart.nil.cons h37.1 h37.2.1).cons hlN8 hL8
      clear F₈ N₈ F₇ N₇ hlt₈ hmA hltD hltI hap₆ hm₃ hkp
      refine for_feed (Feed.more (Feed.list rfl I' D₈ hneI' us.toArray (Str.ofString "number") _)) [(D₈, W.listOf us.toArray 0)] [(I', oI')] (fun i m nw => J1 s₁.heap.objs.size lN lS [(D₈, W.listOf us.toArray 0)] i m nw)
        (fun b hb => ?_) F₉ rfl N₁₀ hap₁₀ (fun p hp => ?_) ⟨hfeed', News.isList N₉ (.tail _ (.head _))⟩
        ⟨m0, .ref l37, _, _, oN, oX, oP, oK, _, .leaf 37, [37], rfl, rfl, hoN, hoX, hoP, hoK, .leaf (c := 0) (.tail _ (.head _)), .cons _ _ .nil, .start, Nat.le_refl _, aprt, fun p hp => ?_⟩ ?_ ?_
      · rcases List.mem_cons.mp hb with rfl | hb
        · exact .inl (.head _)
        · rcases List.mem_cons.mp hb with rfl | hb
          · exact .inr (.inl ⟨_, .head _⟩)
          · cases hb
      · rcases List.mem_cons.mp hp with rfl | hp
        · exact .tail _ (.tail _ (.tail _ (.tail _ (.tail _ (.head _)))))
        · cases hp
      · rcases List.mem_cons.mp hp with rfl | hp
        · exact .head _
        · cases hp
      · clear N₁₀ N₉ F₉ hap₁₀ aprt hfeed' hltI' hoI'
        rintro i v h tk₁₁ m₁ nw₁ itn₁ hin ⟨hvi, hitI, _⟩ ⟨m2, vT, vsN, cN, oN₂, oX₂, oP₂, oK₂, tl, tr, ns, rfl, rfl, hoN₂, ⟨x1, hoX₂⟩, ⟨x2, hoP₂⟩, ⟨x3, hoK₂⟩, hT, hIN, hInv, hnl, hAp, hkpt⟩ hkpn hw F₁₁ N₁₁ hap₁₁
        obtain ⟨oI₂, rfl⟩ := itn_one hw
        have hii : i < (laid script).length := by rw [List.size_toArray, hus] at hin; exact hin
        obtain ⟨x, hx⟩ : ∃ x, (laid script)[i]? = some x := ⟨_, List.getElem?_eq_getElem hii⟩
        obtain ⟨tkx, htkx⟩ := hI₈.get i (x : Int) (by rw [List.getElem?_map, hx]; rfl)
        have hx30 : x < 2 ^ 30 := laid_lt script x (List.mem_of_getElem? hx)
        have hve : v = .int (x : Int) tkx := by
          have h1 : us.toArray[i]? = some (.int (x : Int) tkx) := by simpa using htkx
          rw [hvi] at h1; exact Option.some.inj h1
        subst hve
        have b5 : lN ≠ I' := fun e => hap₁₁ _ (.head _) (by rw [e]; exact .head _)
        have b4 : s₁.heap.objs.size + 1 + 1 + 1 + 1 ≠ I' := fun e => hap₁₁ _ (.tail _ (.head _)) (by rw [e]; exact .head _)
        have b3 : s₁.heap.objs.size + 1 + 1 + 1 ≠ I' := fun e => hap₁₁ _ (.tail _ (.tail _ (.head _))) (by rw [e]; exact .head _)
        have b2 : s₁.heap.objs.size + 1 + 1 ≠ I' := fun e => hap₁₁ _ (.tail _ (.tail _ (.tail _ (.head _)))) (by rw [e]; exact .head _)
        have b1 : s₁.heap.objs.size + 1 ≠ I' := fun e => hap₁₁ _ (.tail _ (.tail _ (.tail _ (.tail _ (.head _))))) (by rw [e]; exact .head _)
        have hIc : oI₂.cls ≠ .type "tuple" := iter_cls hitI (N₁₁ _ (.head _)).1
        clear hitI
        have ⟨a5, a4, a3, a2, a1⟩ := hAp
        have ⟨d4, d3, d2, d1⟩ := hlN
        simp only [List.cons_append, List.nil_append] at N₁₁
        dsimp only
        k_steps
        refine stop_go ?_
        rename Fr _ _ _ _ => F₁₂
        rename News _ _ _ _ => N₁₂
        rename Obj => oX₃
        have hoX₃ : oX₃.data = .cell (some (.int (x : Int) tkx)) := by with_reducible assumption
        have ⟨hok, htl, hht, hlow⟩ := hInv.ok (by omega)
        with_unfolding_all refine Con.use (con_tape w tr vT _ (hT.mono fun p hp => .tail _ (.tail _ (.tail _ (.tail _ (.tail _ (.tail _ hp)))))) hok htl) KB F₁₂ KX N₁₂ KT rfl (show 302 + (height tr + 3) < recursionLimit by show _ < 1000; omega) (show 7 + 8 * (height tr + 3) < cLine by show _ < 9900; omega) ?_
        rintro r₁ news' h₁₃ tk₁₃ F₁₃ N₁₃ ⟨Dt, vst, ct, rfl, rfl, hit, hltt⟩
        clear F₁₂ N₁₂
        have e1 : lN < Dt := hltt (lN, _) (.tail _ (.head _))
        have e2 : s₁.heap.objs.size + 1 + 1 + 1 + 1 < Dt := hltt (_, oK₂) (.tail _ (.tail _ (.head _)))
        have e3 : I' < Dt := hltt (I', _) (.head _)
        try dsimp only
        k_steps
        refine stop_go ?_
        with_unfolding_all refine Con.use (con_met w Dt x tkx vst ct tr _ (.head _) hit hok) KB F₁₃ KX N₁₃ KT rfl (show 302 + 4 < recursionLimit by show _ < 1000; omega) (show 7 + 8 * 4 < cLine by show _ < 9900; omega) ?_
        rintro r₂ news' h₁₄ tk₁₄ F₁₄ N₁₄ ⟨rfl, tkf, rfl⟩
        clear F₁₃ N₁₃
        try dsimp only
        k_steps
        refine stop_go ?_
        with_unfolding_all refine Con.use (con_high w _ _ _) KB F₁₄ KX N₁₄ KT rfl (show 302 + 2 < recursionLimit by show _ < 1000; omega) (show 7 + 8 * 2 < cLine by show _ < 9900; omega) ?_
        rintro r₃ news' h₁₅ tk₁₅ F₁₅ N₁₅ ⟨rfl, tkh, rfl⟩
        clear F₁₄ N₁₄
        rw [bitXor_nat]
        try dsimp only
        by_cases hdz : x ^^^ find x tr = 0
        · rw [bits_zero (by rw [hdz]; rfl)]
          k_steps
          refine stop_go ?_
          rename Fr _ _ _ _ => F₁₆
          rename News _ _ _ _ => N₁₆
          rename Obj => oP₃
          have hoP₃ : oP₃.data = .cell (some (.int (-1) tkh)) := by with_reducible assumption
          have hin : x ∈ ns := (hInv.mem x).mp hdz
          refine notin_list_ints (vs := vsN.toList) (by rw [Array.toArray_toList]; exact News.isList N₁₆ (.tail _ (.tail _ (.head _)))) hIN ?_
          rw [any_in hin]
          try dsimp only
          k_steps
          exact stop_go ⟨_, _, _, _, rfl, F₁₆, reorder1 N₁₆, off_pick b5 (off_pick b4 (off_pick b3 (off_pick b2 (off_pick b1 (off_pick (Nat.ne_of_gt e3) fun p hp => hap₁₁ p (.tail _ (.tail _ (.tail _ (.tail _ (.tail _ hp)))))))))), fun p hp => .tail _ (.tail _ (.tail _ (.tail _ (.tail _ (.tail _ (hkpt p hp)))))),
            m2, vT, vsN, cN, oN₂, oX₃, oP₃, oK₂, _, tr, ns, rfl, rfl, hoN₂, ⟨_, hoX₃⟩, ⟨_, hoP₃⟩, ⟨x3, hoK₂⟩, hT.mono fun p hp => .tail _ hp, hIN, hInv, by omega, hAp.cons e1 e2, fun p hp => .tail _ (hkpt p hp)⟩
        · rw [bits_pos hdz]
          have hlog := hInv.log hx30 hdz
          k_steps
          refine stop_go ?_
          rename Fr _ _ _ _ => F₁₆
          rename News _ _ _ _ => N₁₆
          rename Obj => oP₃
          have hoP₃ : oP₃.data = .cell (some (.int ((x ^^^ find x tr).log2 : Int) tkh)) := by with_reducible assumption
          with_unfolding_all refine Con.use (con_grown w tr x (x ^^^ find x tr).log2 hlog hlow tkx tkh vT _ (hT.mono fun p hp => .tail _ (.tail _ (.tail _ (.tail _ (.tail _ (.tail _ (.tail _ hp)))))))) KB F₁₆ KX N₁₆ KT rfl (show 302 + (height tr + 1) < recursionLimit by show _ < 1000; omega) (show 7 + 8 * (height tr + 1) < cLine by show _ < 9900; omega) ?_
          rintro r₄ news' h₁₇ tk₁₇ F₁₇ N₁₇ ⟨tg, rfl, hTg, hltg⟩
          have N₁₈ := reorder2 N₁₇
          clear N₁₇ F₁₆ N₁₆
          try dsimp only
          k_steps
          refine stop_go ?_
          rename Fr _ _ _ _ => F₁₉
          rename News _ _ _ _ => N₁₉
          have hout : x ∉ ns := fun h => hdz ((hInv.mem x).mpr h)
          have hTn := tree_back hTg hIc ⟨_, hoK₂⟩ ⟨_, hoP₃⟩ ⟨_, hoX₃⟩ ⟨_, hoN₂⟩
          have hA2 : Apart s₁.heap.objs.size lN (tg ++ (Dt, W.listOf vst ct) :: tl) := (apart_of_lt (fun q hq => hltg q hq (lN, _) (.tail _ (.tail _ (.head _)))) (fun q hq => hltg q hq (_, oK₂) (.tail _ (.tail _ (.tail _ (.head _)))))).append (hAp.cons (p := (Dt, W.listOf vst ct)) e1 e2)
          have hoff : ∀ q ∈ tg ++ (Dt, W.listOf vst ct) :: tl, q.1 ∉ [I'] := fun q hq hb => by
            rcases List.mem_append.mp hq with hq | hq
            · exact Nat.ne_of_gt (hltg q hq (I', _) (.tail _ (.head _))) (List.mem_singleton.mp hb)
            · exact off_pick (Nat.ne_of_gt e3) (fun p hp => hap₁₁ p (.tail _ (.tail _ (.tail _ (.tail _ (.tail _ hp)))))) q hq hb
          have hkp2 : ∀ p ∈ [(D₈, W.listOf us.toArray 0)], p ∈ tg ++ (Dt, W.listOf vst ct) :: tl := fun p hp => List.mem_append.mpr (.inr (.tail _ (hkpt p hp)))
          clear hTg hltg a1 a2 a3 a4 a5
          generalize tg ++ (Dt, W.listOf vst ct) :: tl = tl2 at N₁₉ hTn hA2 hoff hkp2
          have ⟨a5, a4, a3, a2, a1⟩ := hA2
          refine notin_list_ints (vs := vsN.toList) (by rw [Array.toArray_toList]; exact News.isList N₁₉ (.tail _ (.head _))) hIN ?_
          rw [any_out hout]
          try dsimp only
          k_steps
          have hvn : vsN.size = ns.length := by have := hIN.length; simpa using this
          refine' append_K F₁₉ N₁₉ ?k3 (fun h₂₀ F₂₀ N₂₀ => ?_) ?z
          case k3 => exact .tail (Ne.symm b5) (.head (hA2.rest d4 oK₂ oP₃ oX₃ oN₂))
          case z => exact Nat.le_trans (Nat.le_of_eq hvn) (by rw [sizeLine_eq]; omega)
          try dsimp only
          k_steps
          exact stop_go ⟨_, _, _, _, rfl, fr_eqv F₂₀ (fun y => mapTS_set y), N₂₀, off_pick b5 (off_pick b4 (off_pick b3 (off_pick b2 (off_pick b1 hoff)))), fun p hp => .tail _ (.tail _ (.tail _ (.tail _ (.tail _ (hkp2 p hp))))),
            m2, r₄, _, _, oN₂, oX₃, oP₃, oK₂, _, _, ns ++ [x], rfl, rfl, hoN₂, ⟨_, hoX₃⟩, ⟨_, hoP₃⟩, ⟨x3, hoK₂⟩, hTn, by rw [Array.toList_push, List.map_append]; exact ints_snoc hIN, hInv.grow hx30 hdz, by rw [List.length_append, List.length_singleton]; omega, hA2, hkp2⟩
      · intro h tk₂₁ m₁ nw₁ hJ F₂₁ N₂₁ _
        rw [show us.toArray.size = (laid script).length from hus] at hJ
        exact stop_go ⟨rfl, h, tk₂₁, m₁, nw₁, rfl, F₂₁, N₂₁, hJ.drop⟩
  · rintro s' ⟨h₁, tk₁, m₁, nw₁, rfl, F₂, N₂, m2, vT, vsN, cN, oN₂, oX₂, oP₂, oK₂, tl, tr, ns, rfl, rfl, hoN₂, ⟨x1, hoX₂⟩, ⟨x2, hoP₂⟩, ⟨x3, hoK₂⟩, hT, hIN, hInv, hnl, hAp, _⟩
    clear F₁ N₁ hoN hoX hoP hoK h37
    have h9len := laid_len script
    have ⟨a5, a4, a3, a2, a1⟩ := hAp
    have ⟨d4, d3, d2, d1⟩ := hlN
    dsimp only
    k_steps
    refine stop_go ?_
    refine kso_sorted F₂ N₂ (by rw [Array.toArray_toList]; exact News.isList N₂ (.head _)) hIN (by rw [List.length_map]; omega) fun D vs' ns' c h₃ F₃ N₃ hltD hI' _ hperm hord _ => ?_
    have hns := hInv.sorted hperm hord
    subst hns
    clear hperm hord
    have q1 : lN < D := hltD _ (.head _)
    have q2 : s₁.heap.objs.size + 1 + 1 + 1 + 1 < D := hltD _ (.tail _ (.head _))
    try dsimp only
    k_steps
    refine stop_go ?_
    rename Fr _ _ _ _ => F₄
    rename News _ _ _ _ => N₄
    rename Obj => oN₃
    have hoN₃ : oN₃.data = .cell (some (.ref D)) := by with_reducible assumption
    obtain ⟨aT, rfl⟩ := hT.isRef
    have ⟨hok, htl, _, hlow⟩ := hInv.ok (by omega)
    have hkl : (keys tr).length = ns.length := hInv.len
    have hht : height tr ≤ 10 := by have := height_le tr; omega
    have hAp2 : Apart s₁.heap.objs.size D ((lN, W.listOf vsN cN) :: tl) := hAp.re d4 q1 fun p hp => hltD p (.tail _ (.tail _ (.tail _ (.tail _ (.tail _ hp)))))
    have hT2 : TreeIn ((lN, W.listOf vsN cN) :: tl) (.ref aT) tr := hT.mono fun p hp => .tail _ hp
    have N₅ := reorder3 N₄
    clear N₄ hltD hT hAp a1 a2 a3 a4 a5 hIN
    generalize (lN, W.listOf vsN cN) :: tl = tl2 at N₅ hAp2 hT2
    with_unfolding_all refine Con.use (con_due w tr hInv.wf hlow (by omega) D vs'.toArray c _ (.head _) (by simpa using hI')) KB F₄ KX N₅ KT rfl (show 302 + (height tr + 1) < recursionLimit by show _ < 1000; omega) (show 7 + 8 * (height tr + 1) < cLine by show _ < 9900; omega) ?_
    rintro r₁ news' h₆ tk₆ F₆ N₆ ⟨tg, rfl, hTg, hltg⟩
    clear F₄ N₅
    obtain ⟨aD, rfl⟩ := hTg.isRef
    try dsimp only
    k_steps
    refine stop_go ?_
    refine ne_tree N₆ (hT2.mono fun p hp => List.mem_append.mpr (.inr (.tail _ (.tail _ (.tail _ (.tail _ (.tail _ hp))))))) hTg (by omega) (by show 7 + 64 < 9900; omega) ?_
    try dsimp only
    k_steps
    refine stop_go ?_
    with_unfolding_all refine Con.use (con_tape w tr (.ref aT) _ (hT2.mono fun p hp => List.mem_append.mpr (.inr (.tail _ (.tail _ (.tail _ (.tail _ (.tail _ hp))))))) hok htl) KB F₆ KX N₆ KT rfl (show 302 + (height tr + 3) < recursionLimit by show _ < 1000; omega) (show 7 + 8 * (height tr + 3) < cLine by show _ < 9900; omega) ?_
    rintro r₂ news' h₇ tk₇ F₇ N₇ ⟨Dt, vst, ct, rfl, rfl, hit, hltt⟩
    clear F₆ N₆
    have e1 : D < Dt := hltt (D, _) (List.mem_append.mpr (.inr (.head _)))
    have e2 : s₁.heap.objs.size + 1 + 1 + 1 + 1 < Dt := hltt (_, oK₂) (List.mem_append.mpr (.inr (.tail _ (.head _))))
    have hAp3 : Apart s₁.heap.objs.size D ((Dt, W.listOf vst ct) :: (tg ++ tl2)) := ((apart_of_lt (fun q hq => hltg q hq (D, _) (.head _)) (fun q hq => hltg q hq (_, oK₂) (.tail _ (.head _)))).append hAp2).cons e1 e2
    have hmt : (Dt, W.listOf vst ct) ∈ (Dt, W.listOf vst ct) :: (tg ++ tl2) := .head _
    have N₈ := reorder4 N₇
    clear N₇ hltt hltg hTg hT2 hAp2
    generalize (Dt, W.listOf vst ct) :: (tg ++ tl2) = tl3 at N₈ hAp3 hmt
    have ⟨a5, a4, a3, a2, a1⟩ := hAp3
    try dsimp only
    k_steps
    refine stop_go ?_
    rename Fr _ _ _ _ => F₉
    rename News _ _ _ _ => N₉
    refine exec_comp_assign (cl := [(Str.ofString "numbers", s₁.heap.objs.size + 1)]) rfl rfl rfl (by decide) ?_
    k_steps
    refine stop_go ?_
    have hvl : vs'.length = (keys tr).length := by have := hI'.length; simpa using this
    obtain ⟨base, hbase⟩ := name_news N₉
    have hbD : (D, W.listOf vs'.toArray c) ∈ base := by rw [hbase]; exact .head _
    have hbN : (s₁.heap.objs.size + 1, oN₃) ∈ base := by rw [hbase]; exact .tail _ (.tail _ (.tail _ (.tail _ (.head _))))
    rw [← hbase] at N₉
    refine iter_list F₉ N₉ (News.isList N₉ hbD) fun I oI h₁₀ F₁₀ N₁₀ hoI hltI hneI => ?_
    try dsimp only
    have hfeed := IterO.at hoI (N₁₀ (I, oI) (.head _)).1
    refine comp_blockC (Feed.list rfl I D hneI vs'.toArray (Str.ofString "key") _) [(D, W.listOf vs'.toArray c)] [(I, oI)] (some { cls := .type "cell", data := .cell none })
      (fun C i ys (nw : List (Addr × Obj)) => ∃ (oQ : Obj) (rs : List (Addr × Obj)), nw = (C + 1, oQ) :: (rs ++ base) ∧ (∃ x, oQ.data = .cell x) ∧ PartsIn rs ys (keys tr) ((keys tr).take i) ∧ i ≤ (keys tr).length ∧ (∀ p ∈ rs ++ base, p.1 ≠ C + 1) ∧ Apart s₁.heap.objs.size D rs)
      (fun _ e => by cases e; rfl) (fun _ => rfl)
      (fun b hb => ?_) F₁₀ rfl N₁₀ (fun p hp hb => ?_) (fun p hp => ?_) ⟨hfeed, News.isList N₁₀ (.tail _ hbD)⟩ (by rw [sizeLine_eq, List.size_toArray]; omega) (fun C i ys nw hJ => ?_) (fun C hC => ⟨_, [], rfl, ⟨_, rfl⟩, .nil, Nat.zero_le _, fun p hp => Nat.ne_of_lt (Nat.lt_succ_of_lt (hC p (.tail _ hp))), .nil⟩) ?_ ?_
    · rcases List.mem_cons.mp hb with rfl | hb
      · exact .inl (.head _)
      · rcases List.mem_cons.mp hb with rfl | hb
        · exact .inr (.inl ⟨_, .head _⟩)
        · cases hb
    · rcases List.mem_cons.mp hb with e | hb
      · exact absurd (hltI p hp) (by rw [e]; exact Nat.lt_irrefl _)
      · cases hb
    · rcases List.mem_cons.mp hp with rfl | hp
      · exact hbD
      · cases hp
    · obtain ⟨_, _, _, _, ⟨h1, _⟩, _, _⟩ := hJ
      rw [h1, List.length_take]; omega
    · rintro C Dc i v h₁₁ tk₁₁ oC mC c₁₁ ys nw₁₁ itn₁₁ hin hvi ⟨oQ, rs, rfl, ⟨xq, hoQ⟩, hP, hik, hq1, hApr⟩ hkp hw₁₁ F₁₁ hC N₁₁ hap₁₁ hCD hapw
      obtain ⟨oI₂, rfl⟩ := itn_one hw₁₁
      have hil : i < (keys tr).length := by rw [List.size_toArray, hvl] at hin; exact hin
      obtain ⟨k, hki⟩ : ∃ k, (keys tr)[i]? = some k := ⟨_, List.getElem?_eq_getElem hil⟩
      obtain ⟨tkk, htkk⟩ := hI'.get i (k : Int) (by rw [List.getElem?_map, hki]; rfl)
      have hve : v = .int (k : Int) tkk := by
        have h1 : vs'.toArray[i]? = some (.int (k : Int) tkk) := by simpa using htkk
        rw [hvi] at h1; exact Option.some.inj h1
      subst hve
      have n1 : C ≠ C + 1 := Nat.ne_of_lt (Nat.lt_succ_self _)
      have n2 : Dc ≠ C + 1 := Ne.symm (hap₁₁ (C + 1, oQ) (List.mem_append.mpr (.inr (.head _)))).2
      have n3 : I ≠ C + 1 := fun e => hapw (C + 1, oQ) (.head _) (by rw [e]; exact .head _)
      refine c_storeX F₁₁ N₁₁ (.tail n1 (.tail n2 (.tail n3 (.head hq1)))) hoQ fun h₁₂ oQ₂ F₁₂ N₁₂ hoQ₂ => ?_
      refine wpAny_tests_nil ?_
      rw [if_pos rfl]
      refine eval_comp (cl := [(Str.ofString "key", C + 1)]) rfl rfl (by decide) ?_
      refine c_cell N₁₂ (List.mem_cons_of_mem _ (List.mem_cons_of_mem _ (List.mem_cons_of_mem _ (List.mem_cons_of_mem _ (List.mem_append.mpr (.inr hbN)))))) hoN₃ ?_
      obtain ⟨bg, hbg⟩ := name_news N₁₂
      have hgD : (D, W.listOf vs'.toArray c) ∈ bg := by rw [hbg]; exact .tail _ (.tail _ (.tail _ (.tail _ (List.mem_append.mpr (.inr hbD)))))
      have hgQ : (C + 1, oQ₂) ∈ bg := by rw [hbg]; exact .tail _ (.tail _ (.tail _ (.head _)))
      rw [← hbg] at N₁₂
      refine iter_list F₁₂ N₁₂ (News.isList N₁₂ hgD) fun I₂ oJ h₁₃ F₁₃ N₁₃ hoJ hltJ hneJ => ?_
      try dsimp only
      have hfeedJ := IterO.at hoJ (N₁₃ (I₂, oJ) (.head _)).1
      refine comp_block (Feed.list rfl I₂ D hneJ vs'.toArray (Str.ofString "other") _) [(D, W.listOf vs'.toArray c)] [(I₂, oJ)] none
        (fun i ys (nw : List (Addr × Obj)) => nw = bg ∧ ys.length ≤ i ∧ IntsAre ys ((partsOf ((keys tr).take i) k).map Int.ofNat)) (fun _ e => nomatch e) (fun _ => rfl)
        (fun b hb => ?_) F₁₃ rfl N₁₃ (fun p hp hb => ?_) (fun p hp => ?_) ⟨hfeedJ, News.isList N₁₃ (.tail _ hgD)⟩ (by rw [sizeLine_eq, List.size_toArray]; omega) (fun i ys nw (h : _ ∧ _ ∧ _) => h.2.1) (fun C hC => ⟨rfl, Nat.zero_le _, .nil⟩) ?_ ?_
      · rcases List.mem_cons.mp hb with rfl | hb
        · exact .inl (.head _)
        · rcases List.mem_cons.mp hb with rfl | hb
          · exact .inr (.inl ⟨_, .head _⟩)
          · cases hb
      · rcases List.mem_cons.mp hb with e | hb
        · exact absurd (hltJ p hp) (by rw [e]; exact Nat.lt_irrefl _)
        · cases hb
      · rcases List.mem_cons.mp hp with rfl | hp
        · exact hgD
        · cases hp
      · rintro C₂ D₂ i₂ v₂ h₁₄ tk₁₄ oC₂ mC₂ c₂ ys₂ nw₂ itn₂ hin₂ hvi₂ ⟨hnw₂, hyl₂, hys₂⟩ hkp₂ hw₂ F₁₄ hC₂ N₁₄ hap₂ hCD₂ hapw₂
        have hil₂ : i₂ < (keys tr).length := by rw [List.size_toArray, hvl] at hin₂; exact hin₂
        obtain ⟨o, hoi⟩ : ∃ o, (keys tr)[i₂]? = some o := ⟨_, List.getElem?_eq_getElem hil₂⟩
        obtain ⟨tko, htko⟩ := hI'.get i₂ (o : Int) (by rw [List.getElem?_map, hoi]; rfl)
        have hve₂ : v₂ = .int (o : Int) tko := by
          have h1 : vs'.toArray[i₂]? = some (.int (o : Int) tko) := by simpa using htko
          rw [hvi₂] at h1; exact Option.some.inj h1
        subst hve₂
        have hCap₂ : ∀ p ∈ (D₂, W.listOf ys₂.toArray c₂) :: (itn₂ ++ nw₂), p.1 ≠ C₂ := fun p hp => by
          rcases List.mem_cons.mp hp with rfl | hp
          · exact Ne.symm hCD₂
          · exact (hap₂ p hp).1
        refine c_store F₁₄ hC₂ N₁₄ hCap₂ fun h₁₅ oC₃ F₁₅ hC₃ N₁₅ => ?_
        have hmQ : (C + 1, oQ₂) ∈ (C₂, oC₃) :: (D₂, W.listOf ys₂.toArray c₂) :: (itn₂ ++ nw₂) := .tail _ (.tail _ (List.mem_append.mpr (.inr (by rw [hnw₂]; exact hgQ))))
        have hend : ∀ p ∈ nw₂, p.1 ≠ C₂ ∧ p.1 ≠ D₂ ∧ p.1 ∉ [I₂] := fun p hp => by
          have := hap₂ p (List.mem_append.mpr (.inr hp))
          exact ⟨this.1, this.2, hapw₂ p hp⟩
        have et : (keys tr).take (i₂ + 1) = (keys tr).take i₂ ++ [o] := by rw [List.take_add_one, hoi]; rfl
        refine wpAny_tests_one ?_
        refine wpAny_isTrue_Compare1 (c_local hC₃ N₁₅ rfl (c_cell N₁₅ hmQ hoQ₂ (ne_int (wpAny_truthy_bool ?_))))
        by_cases hko : o = k
        · rw [show ((o : Int) != (k : Int)) = false by rw [hko]; exact bne_self_eq_false _, if_neg Bool.false_ne_true]
          refine stop_go ⟨h₁₅, _, oC₃, _, _, rfl, F₁₅, hC₃, N₁₅, hend, hkp₂, hnw₂, by omega, ?_⟩
          rw [et]
          have : partsOf ((keys tr).take i₂ ++ [o]) k = partsOf ((keys tr).take i₂) k := by simp [partsOf, hko]
          rw [this]
          exact hys₂
        · rw [show ((o : Int) != (k : Int)) = true by simp only [bne_iff_ne]; omega, if_pos rfl]
          refine Call_ ?_
          k_steps
          refine c_local hC₃ N₁₅ rfl ?_
          try dsimp only
          k_steps
          refine stop_go ?_
          with_unfolding_all refine Con.use (con_high w _ _ _) KB F₁₅ KX N₁₅ KT rfl (show 302 + 2 < recursionLimit by show _ < 1000; omega) (show 7 + 8 * 2 < cLine by show _ < 9900; omega) ?_
          rintro r news' h₁₆ tk₁₆ F₁₆ N₁₆ ⟨rfl, tkr, rfl⟩
          rw [bitXor_nat, bits_pos (xor_ne hko)]
          refine stop_go ⟨h₁₆, _, oC₃, _, _, rfl, F₁₆, hC₃, N₁₆, hend, hkp₂, hnw₂, by rw [List.length_append, List.length_singleton]; omega, ?_⟩
          rw [et, partsOf_snoc hko, List.map_append]
          exact ints_snoc hys₂
      · rintro C₂ D₂ h₁₄ tk₁₄ oC₂ mC₂ c₂ ys₂ nw₂ ⟨hnw₂, hyl₂, hys₂⟩ hkp₂ F₁₄ hC₂ N₁₄ hap₂ hCD₂ hltD₂
        refine compPost_eval F₁₄ hC₂ N₁₄ (fun p hp => ?_) (fun h₁₅ F₁₅ N₁₅ => ?_)
        · rcases List.mem_cons.mp hp with rfl | hp
          · exact Ne.symm hCD₂
          · exact (hap₂ p hp).1
        rw [List.take_of_length_le (by rw [List.size_toArray]; omega)] at hys₂
        rw [hnw₂, hbg] at N₁₅
        rw [hbg] at hltD₂
        have r1 : C < D₂ := hltD₂ (C, oC) (.tail _ (.head _))
        have r2 : Dc < D₂ := hltD₂ (Dc, _) (.tail _ (.tail _ (.head _)))
        have r3 : I < D₂ := hltD₂ (I, _) (.tail _ (.tail _ (.tail _ (.head _))))
        have r4 : C + 1 < D₂ := hltD₂ (C + 1, _) (.tail _ (.tail _ (.tail _ (.tail _ (.head _)))))
        have r5 : D < D₂ := hltD₂ (D, _) (.tail _ (.tail _ (.tail _ (.tail _ (.tail _ (List.mem_append.mpr (.inr hbD)))))))
        have r6 : s₁.heap.objs.size + 1 + 1 + 1 + 1 < D₂ := hltD₂ (_, oK₂) (.tail _ (.tail _ (.tail _ (.tail _ (.tail _ (List.mem_append.mpr (.inr (by rw [hbase]; exact .tail _ (.head _)))))))))
        refine stop_go ⟨h₁₅, _, oC, mC, _, rfl, F₁₅, hC, reorder5 N₁₅, fun p hp => ?_, fun p hp => ?_, oQ₂, _, rfl, ⟨_, hoQ₂⟩, ?_, hil, fun p hp => ?_, hApr.cons r5 r6⟩
        · rcases List.mem_cons.mp hp with rfl | hp
          · exact ⟨Ne.symm n1, Ne.symm n2, hapw (C + 1, oQ) (.head _)⟩
          · rcases List.mem_cons.mp hp with rfl | hp
            · exact ⟨Nat.ne_of_gt r1, Nat.ne_of_gt r2, fun hb => Nat.ne_of_gt r3 (List.mem_singleton.mp hb)⟩
            · have := hap₁₁ p (List.mem_append.mpr (.inr (.tail _ hp)))
              exact ⟨this.1, this.2, hapw p (.tail _ hp)⟩
        · rcases List.mem_cons.mp hp with rfl | hp
          · exact .tail _ (.tail _ (List.mem_append.mpr (.inr hbD)))
          · cases hp
        · rw [List.take_add_one, hki]
          exact (hP.mono fun p hp => .tail _ hp).snoc (.head _) (by simpa using hys₂)
        · rcases List.mem_cons.mp hp with rfl | hp
          · exact Nat.ne_of_gt r4
          · exact hq1 p hp
    · rintro C Dc h₁₁ tk₁₁ oC mC c₁₁ ys nw₁₁ ⟨oQ, rs, rfl, ⟨xq, hoQ⟩, hP, hik, hq1, hApr⟩ hkp F₁₁ hC N₁₁ hap₁₁ hCD hltDc
      rw [List.take_of_length_le (by rw [List.size_toArray]; omega)] at hP
      refine compPost_assign F₁₁ hC N₁₁ (fun p hp => ?_) (fun h₁₂ F₁₂ N₁₂ => ?_) rfl rfl rfl
      · rcases List.mem_cons.mp hp with rfl | hp
        · exact Ne.symm hCD
        · exact (hap₁₁ p hp).1
      have r5 : D < Dc := hltDc (D, _) (.tail _ hbD)
      have r6 : s₁.heap.objs.size + 1 + 1 + 1 + 1 < Dc := hltDc (_, oK₂) (.tail _ (by rw [hbase]; exact .tail _ (.head _)))
      rw [hbase] at N₁₂
      have N₁₃ := reorder6 N₁₂
      have hAp4 : Apart s₁.heap.objs.size D ((Dc, W.listOf ys.toArray c₁₁) :: (rs ++ tl3)) := (hApr.append hAp3).cons r5 r6
      have hmt2 : (Dt, W.listOf vst ct) ∈ (Dc, W.listOf ys.toArray c₁₁) :: (rs ++ tl3) := .tail _ (List.mem_append.mpr (.inr hmt))
      have hmP : (Dc, W.listOf ys.toArray c₁₁) ∈ (Dc, W.listOf ys.toArray c₁₁) :: (rs ++ tl3) := .head _
      have hP2 : PartsIn ((Dc, W.listOf ys.toArray c₁₁) :: (rs ++ tl3)) ys (keys tr) (keys tr) := hP.mono fun p hp => .tail _ (List.mem_append.mpr (.inl hp))
      clear N₁₂ N₁₁ F₁₁ hltDc hap₁₁ hq1 hApr hP hkp hltI hfeed hbD hbN hmt hAp3 a1 a2 a3 a4 a5
      generalize (Dc, W.listOf ys.toArray c₁₁) :: (rs ++ tl3) = tl4 at N₁₃ hAp4 hmt2 hmP hP2
      have ⟨a5, a4, a3, a2, a1⟩ := hAp4
      try dsimp only
      k_steps
      refine stop_go ?_
      obtain ⟨m3, F₁₄⟩ := fr_open3 (x := Str.ofString "parting") (x' := Str.ofString "tape") (x'' := Str.ofString "script") F₁₂ rfl rfl rfl
      clear F₁₂
      have hlS3 := kmk_upto (y := 3) hI (by decide)
      refine exec_then (fun s' => ∃ h tk m nw, s' = { s₁ with heap := h, toks := tk } ∧ Fr s₁.heap s₁.heap.objs.size h m ∧ News s₁.heap s₁.heap.objs.size h nw) ?_ ?_
      · refine' wpAny_For ?h ?hs
        case hs => intro _; rfl
        k_steps
        refine stop_go ?_
        refine eval_comp (cl := []) rfl rfl (by decide) ?_
        k_steps
        refine stop_go ?_
        k_dflt (refine' kmk_slice (lo := none) (hi := some 3) ?kF ?kN ?kl .none (.int _ _) (fun E₂ h₁₅ F₁₅ N₁₅ hlt₁₅ => ?_) ?s ?t ?z; (case kF => exact F₁₄); (case kN => exact N₁₃); (case kl => exact Fr.lst F₁₄ hsl); (case s => with_unfolding_all rfl); (case t => intro _; rfl); (case z => (rw [sizeLine_eq, List.size_toArray, hI.length]; omega)))
        generalize hpk : slicePick (List.toArray _) none (some 3) none = pk at hlS3 N₁₅ ⊢
        obtain ⟨nwA, hnwA⟩ := name_news N₁₅
        rw [← hnwA] at N₁₅
        have hmA : (E₂, W.listOf pk 0) ∈ nwA := by rw [hnwA]; exact .head _
        have hpl : pk.size = (script.take 3).length := by have := hlS3.length; simpa using this
        have hpl3 : (script.take 3).length ≤ 3 := List.length_take_le ..
        try dsimp only
        k_steps
        refine stop_go ?_
        refine iter_list F₁₅ N₁₅ (News.isList N₁₅ hmA) fun I₃ oI₃ h₁₆ F₁₆ N₁₆ hoI₃ hltI₃ hneI₃ => ?_
        try dsimp only
        have hfeed₃ := IterO.at hoI₃ (N₁₆ (I₃, oI₃) (.head _)).1
        refine comp_block (Feed.list rfl I₃ E₂ hneI₃ pk (Str.ofString "x") _) [(E₂, W.listOf pk 0)] [(I₃, oI₃)] none
          (fun i ys (nw : List (Addr × Obj)) => nw = nwA ∧ ys.length ≤ i ∧ IntsAre ys ((((script.take 3).take i).map Int.natAbs).map Int.ofNat)) (fun _ e => nomatch e) (fun _ => rfl)
          (fun b hb => ?_) F₁₆ rfl N₁₆ (fun p hp hb => ?_) (fun p hp => ?_) ⟨hfeed₃, News.isList N₁₆ (.tail _ hmA)⟩ (by rw [sizeLine_eq]; omega) (fun i ys nw (h : _ ∧ _ ∧ _) => h.2.1) (fun C hC => ⟨rfl, Nat.zero_le _, .nil⟩) ?_ ?_
        · rcases List.mem_cons.mp hb with rfl | hb
          · exact .inl (.head _)
          · rcases List.mem_cons.mp hb with rfl | hb
            · exact .inr (.inl ⟨_, .head _⟩)
            · cases hb
        · rcases List.mem_cons.mp hb with e | hb
          · exact absurd (hltI₃ p hp) (by rw [e]; exact Nat.lt_irrefl _)
          · cases hb
        · rcases List.mem_cons.mp hp with rfl | hp
          · exact hmA
          · cases hp
        · rintro C₃ E₃ i v h₁₇ tk₁₇ oC₃ mC₃ c₁₇ zs nw₁₇ itn₁₇ hin hvi ⟨hnw, hzl, hzs⟩ hkp₃ hw₁₇ F₁₇ hC₃ N₁₇ hap₁₇ hCD₃ hapw₃
          have hil : i < (script.take 3).length := by omega
          obtain ⟨x, hx⟩ : ∃ x, (script.take 3)[i]? = some x := ⟨_, List.getElem?_eq_getElem hil⟩
          obtain ⟨tk9, htk9⟩ := hlS3.get i x hx
          have hve : v = .int x tk9 := by
            have h1 : pk[i]? = some (.int x tk9) := by simpa using htk9
            rw [hvi] at h1; exact Option.some.inj h1
          subst hve
          have hCap : ∀ p ∈ (E₃, W.listOf zs.toArray c₁₇) :: (itn₁₇ ++ nw₁₇), p.1 ≠ C₃ := fun p hp => by
            rcases List.mem_cons.mp hp with rfl | hp
            · exact Ne.symm hCD₃
            · exact (hap₁₇ p hp).1
          refine c_store F₁₇ hC₃ N₁₇ hCap fun h₁₈ oC₄ F₁₈ hC₄ N₁₈ => ?_
          refine wpAny_tests_nil ?_
          rw [if_pos rfl]
          refine Call_ ?_
          k_steps
          refine c_local hC₄ N₁₈ rfl ?_
          try dsimp only
          k_steps
          have hend : ∀ p ∈ nw₁₇, p.1 ≠ C₃ ∧ p.1 ≠ E₃ ∧ p.1 ∉ [I₃] := fun p hp => by
            have := hap₁₇ p (List.mem_append.mpr (.inr hp))
            exact ⟨this.1, this.2, hapw₃ p hp⟩
          refine stop_go ⟨h₁₈, _, oC₄, _, _, rfl, F₁₈, hC₄, N₁₈, hend, hkp₃, hnw, by rw [List.length_append, List.length_singleton]; omega, ?_⟩
          rw [List.take_add_one, hx, List.map_append, List.map_append]
          have hxe : ∀ y : Int, y = (x.natAbs : Int) → ∀ t, IntsAre (zs ++ [Value.int y t]) ((((script.take 3).take i).map Int.natAbs).map Int.ofNat ++ [(x.natAbs : Int)]) := fun y hy t => by rw [hy]; exact ints_snoc hzs
          exact hxe _ (by split <;> omega) _
        · rintro C₃ E₃ h₁₇ tk₁₇ oC₃ mC₃ c₁₇ zs nw₁₇ ⟨hnw, hzl, hzs⟩ hkp₃ F₁₇ hC₃ N₁₇ hap₁₇ hCD₃ hltE₃
          rw [List.take_of_length_le (by omega)] at hzs
          refine compPost_eval F₁₇ hC₃ N₁₇ (fun p hp => ?_) (fun h₁₈ F₁₈ N₁₈ => ?_)
          · rcases List.mem_cons.mp hp with rfl | hp
            · exact Ne.symm hCD₃
            · exact (hap₁₇ p hp).1
          rw [hnw] at N₁₈
          have hbD : (D, W.listOf vs'.toArray c) ∈ nwA := by rw [hnwA]; exact .tail _ (.head _)
          try dsimp only
          k_steps
          refine stop_go ?_
          refine kmk_add_ints F₁₈ N₁₈ (News.isList N₁₈ (.tail _ hbD)) (News.isList N₁₈ (.head _)) hI' hzs (fun E₄ us h₁₉ F₁₉ N₁₉ hlt₁₉ hI₁₉ => ?_) (by rw [sizeLine_eq, List.length_map, List.length_map, List.length_map]; omega)
          try dsimp only
          k_steps
          refine stop_go ?_
          refine pow2_int (k := 25) rfl (by omega) ?_
          try dsimp only
          k_steps
          refine stop_go ?_
          refine pow2_int (k := 70) rfl (by omega) ?_
          try dsimp only
          k_steps
          refine stop_go ?_
          rename Fr _ _ _ _ => F₂₀
          rename News _ _ _ _ => N₂₀
          refine kmk_add_ints F₂₀ N₂₀ (News.isList N₂₀ (.tail _ (.head _))) (News.isList N₂₀ (.head _)) hI₁₉ (.cons _ _ (.cons _ _ (.cons _ _ .nil))) (fun E₆ us₂ h₂₁ F₂₁ N₂₁ hlt₂₁ hI₂₁ => ?_) (by rw [sizeLine_eq, List.length_append, List.length_map, List.length_map, List.length_map]; simp only [List.length_cons, List.length_nil]; omega)
          rw [asked_map] at hI₂₁
          try dsimp only
          k_steps
          refine stop_go ?_
          refine iter_list F₂₁ N₂₁ (News.isList N₂₁ (.head _)) fun I₄ oI₄ h₂₂ F₂₂ N₂₂ hoI₄ hltI₄ hneI₄ => ?_
          try dsimp only
          have hus₂ : us₂.length = (asked (keys tr) script).length := by have := hI₂₁.length; simpa using this
          have hal := asked_len (keys tr) script
          obtain ⟨B, hB1, hB2, hBx⟩ := asked_lt (script := script) hInv.small (by assumption)
          have hfeed₄ := IterO.at hoI₄ (N₂₂ (I₄, oI₄) (.head _)).1
          rw [hnwA] at N₂₂ hltI₄ hlt₂₁
          have w1 : D < E₆ := hlt₂₁ (D, _) (.tail _ (.tail _ (.tail _ (.tail _ (.head _)))))
          have w2 : s₁.heap.objs.size + 1 + 1 + 1 + 1 < E₆ := hlt₂₁ (_, oK₂) (.tail _ (.tail _ (.tail _ (.tail _ (.tail _ (.head _))))))
          have hAp5 : Apart s₁.heap.objs.size D ((E₆, W.listOf us₂.toArray 0) :: tl4) := hAp4.cons w1 w2
          have N₂₃ := news_pick N₂₂ (.head _) (news_in N₂₂ fun p hp => .tail _ (sub7 p hp))
          have hap₂₃ := off_all sub7 hltI₄
          refine for_feed (Feed.more (Feed.list rfl I₄ E₆ hneI₄ us₂.toArray (Str.ofString "number") _)) [(E₆, W.listOf us₂.toArray 0)] [(I₄, oI₄)] (fun _ m nw => J2 s₁.heap.objs.size D Dc Dt lS vs' c [(Dt, W.listOf vst ct), (Dc, W.listOf ys.toArray c₁₁)] [(E₆, W.listOf us₂.toArray 0)] ys (keys tr) m nw)
            (fun b hb => ?_) F₂₂ rfl N₂₃ hap₂₃ (fun p hp => ?_) ⟨hfeed₄, News.isList N₂₂ (.tail _ (.head _))⟩
            ⟨m3, oN₃, oX₂, oP₂, oK₂, _, rfl, rfl, hoN₃, ⟨_, hoX₂⟩, ⟨_, hoP₂⟩, ⟨_, hoK₂⟩, hAp5, fun p hp => ?_, hP2.mono fun p hp => .tail _ hp, fun p hp => ?_⟩ ?_ ?_
          · rcases List.mem_cons.mp hb with rfl | hb
            · exact .inl (.head _)
            · rcases List.mem_cons.mp hb with rfl | hb
              · exact .inr (.inl ⟨_, .head _⟩)
              · cases hb
          · rcases List.mem_cons.mp hp with rfl | hp
            · exact .tail _ (.tail _ (.tail _ (.tail _ (.tail _ (.head _)))))
            · cases hp
          · rcases List.mem_cons.mp hp with rfl | hp
            · exact .tail _ hmt2
            · rcases List.mem_cons.mp hp with rfl | hp
              · exact .tail _ hmP
              · cases hp
          · rcases List.mem_cons.mp hp with rfl | hp
            · exact .head _
            · cases hp
          · clear N₂₃ N₂₂ F₂₂ hap₂₃ hfeed₄ hltI₄ hoI₄
            rintro i v h₂₄ tk₂₄ m₁ nw₁ itn₁ hin ⟨hvi, hitI, _⟩ ⟨m4, oN₄, oX₄, oP₄, oK₄, tl5, rfl, rfl, hoN₄, ⟨y1, hoX₄⟩, ⟨y2, hoP₄⟩, ⟨y3, hoK₄⟩, hAp6, hent, hP3, hkpt⟩ hkpn hw F₂₄ N₂₄ hap₂₄
            obtain ⟨oI₅, rfl⟩ := itn_one hw
            have hii : i < (asked (keys tr) script).length := by rw [List.size_toArray, hus₂] at hin; exact hin
            obtain ⟨x, hx⟩ : ∃ x, (asked (keys tr) script)[i]? = some x := ⟨_, List.getElem?_eq_getElem hii⟩
            obtain ⟨tkx, htkx⟩ := hI₂₁.get i (x : Int) (by rw [List.getElem?_map, hx]; rfl)
            have hxB : x < 2 ^ B := hBx x (List.mem_of_getElem? hx)
            have hve : v = .int (x : Int) tkx := by
              have h1 : us₂.toArray[i]? = some (.int (x : Int) tkx) := by simpa using htkx
              rw [hvi] at h1; exact Option.some.inj h1
            subst hve
            have b5 : D ≠ I₄ := fun e => hap₂₄ _ (.head _) (by rw [e]; exact .head _)
            have b4 : s₁.heap.objs.size + 1 + 1 + 1 + 1 ≠ I₄ := fun e => hap₂₄ _ (.tail _ (.head _)) (by rw [e]; exact .head _)
            have b3 : s₁.heap.objs.size + 1 + 1 + 1 ≠ I₄ := fun e => hap₂₄ _ (.tail _ (.tail _ (.head _))) (by rw [e]; exact .head _)
            have b2 : s₁.heap.objs.size + 1 + 1 ≠ I₄ := fun e => hap₂₄ _ (.tail _ (.tail _ (.tail _ (.head _)))) (by rw [e]; exact .head _)
            have b1 : s₁.heap.objs.size + 1 ≠ I₄ := fun e => hap₂₄ _ (.tail _ (.tail _ (.tail _ (.tail _ (.head _))))) (by rw [e]; exact .head _)
            have b0 : ∀ p ∈ tl5, p.1 ∉ [I₄] := fun p hp => hap₂₄ p (.tail _ (.tail _ (.tail _ (.tail _ (.tail _ hp)))))
            have ⟨a5, a4, a3, a2, a1⟩ := hAp6
            have d4 : s₁.heap.objs.size + 1 + 1 + 1 + 1 < D := q2
            have d3 : s₁.heap.objs.size + 1 + 1 + 1 < D := Nat.lt_of_succ_lt d4
            have d2 : s₁.heap.objs.size + 1 + 1 < D := Nat.lt_of_succ_lt d3
            have d1 : s₁.heap.objs.size + 1 < D := Nat.lt_of_succ_lt d2
            have c5 : I₄ ≠ D := Ne.symm b5
            simp only [List.cons_append, List.nil_append] at N₂₄
            dsimp only
            k_steps
            refine stop_go ?_
            rename Fr _ _ _ _ => F₂₅
            rename News _ _ _ _ => N₂₅
            obtain ⟨lF, hlFe⟩ := name_head N₂₅
            subst hlFe
            rename _ < lF ∧ _ ∧ _ ∧ _ ∧ _ ∧ _ ∧ _ => hlF
            rename Obj => oX₅
            have hoX₅ : oX₅.data = .cell (some (.int (x : Int) tkx)) := by with_reducible assumption
            refine exec_then (fun s' => ∃ (h : Heap) (tk : Nat) (m0 : Str → Option Value) (oK : Obj) (fv : Array Value) (cf : Nat), s' = { s₁ with heap := h, toks := tk } ∧ Fr s₁.heap s₁.heap.objs.size h (mapF lF Dc Dt lS m0) ∧
              News s₁.heap s₁.heap.objs.size h ((lF, W.listOf fv cf) :: (I₄, oI₅) :: Lg s₁.heap.objs.size D vs'.toArray c oN₄ oX₅ oP₄ oK tl5) ∧ (∃ x, oK.data = .cell x) ∧ IntsAre fv.toList (((keys tr).filter (fitB x (keys tr))).map Int.ofNat)) ?_ ?_
            · refine' wpAny_For ?h ?hs
              case hs => intro _; rfl
              k_steps
              refine stop_go ?_
              have hmD : (D, W.listOf vs'.toArray c) ∈ (lF, W.listOf #[] 0) :: (I₄, oI₅) :: Lg s₁.heap.objs.size D vs'.toArray c oN₄ oX₅ oP₄ oK₄ tl5 := .tail _ (.tail _ (.head _))
              have hmDc : (Dc, W.listOf ys.toArray c₁₁) ∈ (lF, W.listOf #[] 0) :: (I₄, oI₅) :: Lg s₁.heap.objs.size D vs'.toArray c oN₄ oX₅ oP₄ oK₄ tl5 := .tail _ (.tail _ (.tail _ (.tail _ (.tail _ (.tail _ (.tail _ (hent _ (.tail _ (.head _)))))))))
              refine call_zip F₂₅ N₂₅ (News.isList N₂₅ hmD) (News.isList N₂₅ hmDc) fun z TI TO i1 i2 h₂₆ itn oTI F₂₆ hw₂₆ N₂₆ hZ hSt k1 k2 k3 k4 k5 => ?_
              try dsimp only
              refine (Feed.zip2 rfl z TI TO i1 i2 D Dc hZ vs'.toArray ys.toArray [] 0 default).self 0 _ _ _ hSt ?_
              have hysl : ys.length = (keys tr).length := hP3.1
              refine for_feed (Feed.zip2 rfl z TI TO i1 i2 D Dc hZ vs'.toArray ys.toArray _ _ _) [(TI, oTI), (D, W.listOf vs'.toArray c), (Dc, W.listOf ys.toArray c₁₁)] itn
                (fun j m nw => J3 s₁.heap.objs.size D Dc Dt lS lF TI I₄ vs' c oTI oI₅ oN₄ oX₅ oP₄ tl5 x (keys tr) j m nw)
                (fun b hb => ?_) F₂₆ hw₂₆ N₂₆ (off_zip k1 k2 k3 k4 k5) (fun p hp => ?_) hSt ⟨m4, oK₄, _, 0, rfl, rfl, ⟨_, hoK₄⟩, .nil⟩ ?_ ?_
              · rcases List.mem_cons.mp hb with rfl | hb
                · exact .inl (.head _)
                rcases List.mem_cons.mp hb with rfl | hb
                · exact .inr (.inl ⟨_, .head _⟩)
                rcases List.mem_cons.mp hb with rfl | hb
                · exact .inl (.tail _ (.head _))
                rcases List.mem_cons.mp hb with rfl | hb
                · exact .inl (.tail _ (.tail _ (.head _)))
                rcases List.mem_cons.mp hb with rfl | hb
                · exact .inl (.tail _ (.tail _ (.tail _ (.head _))))
                rcases List.mem_cons.mp hb with rfl | hb
                · exact .inr (.inl ⟨_, .tail _ (.head _)⟩)
                rcases List.mem_cons.mp hb with rfl | hb
                · exact .inr (.inl ⟨_, .tail _ (.tail _ (.head _))⟩)
                cases hb
              · rcases List.mem_cons.mp hp with rfl | hp
                · exact .head _
                rcases List.mem_cons.mp hp with rfl | hp
                · exact .tail _ hmD
                rcases List.mem_cons.mp hp with rfl | hp
                · exact .tail _ hmDc
                cases hp
              · clear hmD hmDc F₂₆ N₂₆ F₂₅ N₂₅ hSt hw₂₆
                rintro j v h₂₇ tk₂₇ m₁ nw₁ itn₁ hjn ⟨T, vals, rfl, hT₂₇, x', y', hx', hy', rfl⟩ ⟨m6, oK₆, fv, cf, rfl, rfl, ⟨y5, hoK₆⟩, hfv⟩ hkpz hwz F₂₇ N₂₇ hapz
                obtain ⟨u1, u2, u3, u4, rfl⟩ := itn_four hwz
                have hjl : j < (keys tr).length := by rw [List.size_toArray, List.size_toArray] at hjn; omega
                obtain ⟨k, hkj⟩ : ∃ k, (keys tr)[j]? = some k := ⟨_, List.getElem?_eq_getElem hjl⟩
                obtain ⟨tkk, htkk⟩ := hI'.get j (k : Int) (by rw [List.getElem?_map, hkj]; rfl)
                obtain ⟨la, ws, cw, hya, hla, hws⟩ := hP3.2 j k hkj
                have hxe : x' = .int (k : Int) tkk := by
                  have h1 : vs'.toArray[j]? = some (.int (k : Int) tkk) := by simpa using htkk
                  rw [hx'] at h1; exact Option.some.inj h1
                have hye : y' = .ref la := by
                  have h1 : ys.toArray[j]? = some (.ref la) := by simpa using hya
                  rw [hy'] at h1; exact Option.some.inj h1
                subst hxe
                subst hye
                clear hx' hy'
                have g1 : z ≠ s₁.heap.objs.size + 1 + 1 + 1 + 1 := off_ne hapz (.tail _ (.tail _ (.tail _ (.tail _ (.head _))))) (.head _)
                have g2 : TO ≠ s₁.heap.objs.size + 1 + 1 + 1 + 1 := off_ne hapz (.tail _ (.tail _ (.tail _ (.tail _ (.head _))))) (.tail _ (.head _))
                have g3 : i1 ≠ s₁.heap.objs.size + 1 + 1 + 1 + 1 := off_ne hapz (.tail _ (.tail _ (.tail _ (.tail _ (.head _))))) (.tail _ (.tail _ (.head _)))
                have g4 : i2 ≠ s₁.heap.objs.size + 1 + 1 + 1 + 1 := off_ne hapz (.tail _ (.tail _ (.tail _ (.tail _ (.head _))))) (.tail _ (.tail _ (.tail _ (.head _))))
                have f1 : z ≠ lF := off_ne hapz (.tail _ (.head _)) (.head _)
                have f2 : TO ≠ lF := off_ne hapz (.tail _ (.head _)) (.tail _ (.head _))
                have f3 : i1 ≠ lF := off_ne hapz (.tail _ (.head _)) (.tail _ (.tail _ (.head _)))
                have f4 : i2 ≠ lF := off_ne hapz (.tail _ (.head _)) (.tail _ (.tail _ (.tail _ (.head _))))
                have kF : lF < TI := Nat.lt_trans (k1 (lF, _) (.head _)) (Nat.lt_trans k2 k3)
                have g5 : TI ≠ s₁.heap.objs.size + 1 + 1 + 1 + 1 := Nat.ne_of_gt (Nat.lt_trans hlF.2.2.1 kF)
                have f5 : TI ≠ lF := Nat.ne_of_gt kF
                have grest : ∀ p ∈ (s₁.heap.objs.size + 1 + 1 + 1, oP₄) :: (s₁.heap.objs.size + 1 + 1, oX₅) :: (s₁.heap.objs.size + 1, oN₄) :: tl5, p.1 ≠ s₁.heap.objs.size + 1 + 1 + 1 + 1 := fun p hp => by
                  rcases List.mem_cons.mp hp with rfl | hp
                  · exact Nat.ne_of_lt (Nat.lt_succ_self _)
                  rcases List.mem_cons.mp hp with rfl | hp
                  · exact Nat.ne_of_lt (Nat.lt_succ_of_lt (Nat.lt_succ_self _))
                  rcases List.mem_cons.mp hp with rfl | hp
                  · exact Nat.ne_of_lt (Nat.lt_succ_of_lt (Nat.lt_succ_of_lt (Nat.lt_succ_self _)))
                  · exact a4 p hp
                simp only [List.cons_append, List.nil_append] at N₂₇
                refine assign_pairX rfl F₂₇ N₂₇ hT₂₇ (.tail g1 (.tail g2 (.tail g3 (.tail g4 (.tail g5 (.tail (Nat.ne_of_gt hlF.2.2.1) (.tail (Ne.symm b4) (.tail (Nat.ne_of_gt d4) (.head grest))))))))) hoK₆ (fun h₂₈ tk₂₈ oK₇ F₂₈ N₂₈ hoK₇ => ?_) rfl rfl rfl rfl rfl rfl
                clear F₂₇ N₂₇ hT₂₇
                try dsimp only
                k_steps
                refine stop_go ?_
                refine eval_comp (cl := [(Str.ofString "number", s₁.heap.objs.size + 1 + 1), (Str.ofString "key", s₁.heap.objs.size + 1 + 1 + 1 + 1)]) rfl rfl (by decide) ?_
                k_steps
                refine stop_go ?_
                have hk30 := hInv.small
                have hkm : k ∈ keys tr := List.mem_of_getElem? hkj
                have hpn := parts_lt hk30 hkm
                have hpl2 := parts_len (keys tr) k
                have hwl : ws.size = (partsOf (keys tr) k).length := by have := hws.length; simpa using this
                obtain ⟨bg, hbg⟩ := name_news N₂₈
                have hgW : (la, W.listOf ws cw) ∈ bg := by rw [hbg]; exact .tail _ (.tail _ (.tail _ (.tail _ (.tail _ (.tail _ (.tail _ (.tail _ (.tail _ (.tail _ (.tail _ (.tail _ hla)))))))))))
                have hgK : (s₁.heap.objs.size + 1 + 1 + 1 + 1, oK₇) ∈ bg := by rw [hbg]; exact .tail _ (.tail _ (.tail _ (.tail _ (.tail _ (.tail _ (.tail _ (.tail _ (.head _))))))))
                have hgX : (s₁.heap.objs.size + 1 + 1, oX₅) ∈ bg := by rw [hbg]; exact .tail _ (.tail _ (.tail _ (.tail _ (.tail _ (.tail _ (.tail _ (.tail _ (.tail _ (.tail _ (.head _))))))))))
                rw [← hbg] at N₂₈
                refine iter_list F₂₈ N₂₈ (News.isList N₂₈ hgW) fun J₂ oJ h₂₉ F₂₉ N₂₉ hoJ hltJ hneJ => ?_
                try dsimp only
                have hfeedJ := IterO.at hoJ (N₂₉ (J₂, oJ) (.head _)).1
                refine comp_block (Feed.list rfl J₂ la hneJ ws (Str.ofString "part") _) [(la, W.listOf ws cw)] [(J₂, oJ)] none
                  (fun i zs (nw : List (Addr × Obj)) => nw = bg ∧ zs.length ≤ i ∧ IntsAre zs ((((partsOf (keys tr) k).take i).filter fun p => (x ^^^ k) / 2 ^ p % 2 == 1).map Int.ofNat)) (fun _ e => nomatch e) (fun _ => rfl)
                  (fun b hb => ?_) F₂₉ rfl N₂₉ (fun p hp hb => ?_) (fun p hp => ?_) ⟨hfeedJ, News.isList N₂₉ (.tail _ hgW)⟩ (by rw [sizeLine_eq, hwl]; omega) (fun i ys nw (h : _ ∧ _ ∧ _) => h.2.1) (fun C hC => ⟨rfl, Nat.zero_le _, .nil⟩) ?_ ?_
                · rcases List.mem_cons.mp hb with rfl | hb
                  · exact .inl (.head _)
                  · rcases List.mem_cons.mp hb with rfl | hb
                    · exact .inr (.inl ⟨_, .head _⟩)
                    · cases hb
                · rcases List.mem_cons.mp hb with e | hb
                  · exact absurd (hltJ p hp) (by rw [e]; exact Nat.lt_irrefl _)
                  · cases hb
                · rcases List.mem_cons.mp hp with rfl | hp
                  · exact hgW
                  · cases hp
                · rintro C₂ E₅ i₂ v₂ h₃₀ tk₃₀ oC₂ mC₂ c₂ zs₂ nw₂ itn₂ hin₂ hvi₂ ⟨hnw₂, hzl₂, hzs₂⟩ hkp₂ hw₂ F₃₀ hC₂ N₃₀ hap₂ hCD₂ hapw₂
                  have hil₂ : i₂ < (partsOf (keys tr) k).length := by rw [hwl] at hin₂; exact hin₂
                  obtain ⟨o, hoi⟩ : ∃ o, (partsOf (keys tr) k)[i₂]? = some o := ⟨_, List.getElem?_eq_getElem hil₂⟩
                  obtain ⟨tko, htko⟩ := hws.get i₂ (o : Int) (by rw [List.getElem?_map, hoi]; rfl)
                  have hve₂ : v₂ = .int (o : Int) tko := by
                    have h1 : ws[i₂]? = some (.int (o : Int) tko) := by simpa using htko
                    rw [hvi₂] at h1; exact Option.some.inj h1
                  subst hve₂
                  have hCap₂ : ∀ p ∈ (E₅, W.listOf zs₂.toArray c₂) :: (itn₂ ++ nw₂), p.1 ≠ C₂ := fun p hp => by
                    rcases List.mem_cons.mp hp with rfl | hp
                    · exact Ne.symm hCD₂
                    · exact (hap₂ p hp).1
                  refine c_store F₃₀ hC₂ N₃₀ hCap₂ fun h₃₁ oC₄ F₃₁ hC₄ N₃₁ => ?_
                  have hmK' : (s₁.heap.objs.size + 1 + 1 + 1 + 1, oK₇) ∈ (C₂, oC₄) :: (E₅, W.listOf zs₂.toArray c₂) :: (itn₂ ++ nw₂) := .tail _ (.tail _ (List.mem_append.mpr (.inr (by rw [hnw₂]; exact hgK))))
                  have hmX' : (s₁.heap.objs.size + 1 + 1, oX₅) ∈ (C₂, oC₄) :: (E₅, W.listOf zs₂.toArray c₂) :: (itn₂ ++ nw₂) := .tail _ (.tail _ (List.mem_append.mpr (.inr (by rw [hnw₂]; exact hgX))))
                  have hend : ∀ p ∈ nw₂, p.1 ≠ C₂ ∧ p.1 ≠ E₅ ∧ p.1 ∉ [J₂] := fun p hp => by
                    have := hap₂ p (List.mem_append.mpr (.inr hp))
                    exact ⟨this.1, this.2, hapw₂ p hp⟩
                  have ho30 : o < 30 := hpn o (List.mem_of_getElem? hoi)
                  have et : (partsOf (keys tr) k).take (i₂ + 1) = (partsOf (keys tr) k).take i₂ ++ [o] := by rw [List.take_add_one, hoi]; rfl
                  obtain ⟨d, hd⟩ : ∃ d, x ^^^ k = d := ⟨_, rfl⟩
                  obtain ⟨vd, hvd⟩ : ∃ v, d / 2 ^ o = v := ⟨_, rfl⟩
                  refine wpAny_tests_one ?_
                  refine wpAny_isTrue_Compare1 (wpAny_BinOp (wpAny_BinOp (wpAny_BinOp (c_cell N₃₁ hmX' hoX₅ (c_cell N₃₁ hmK' hoK₇ (xor_nat hd (wpAny_BinOp (wpAny_Constant_int (c_local hC₄ N₃₁ rfl (pow2_int (k := o) rfl (by omega) (div_natv hvd (Nat.two_pow_pos _) (noPylong_pow (by omega)) (wpAny_Constant_int (mod_int' (by decide) (wpAny_Constant_int (PyProof.Rows.eq_int (wpAny_truthy_bool ?_))))))))))))))))
                  rw [show (vd : Int).fmod 2 = ((vd % 2 : Nat) : Int) from fmod_nat vd 2]
                  by_cases hbit : vd % 2 = 1
                  · have hb9 : (((vd % 2 : Nat) : Int) == 1) = true := by rw [hbit]; rfl
                    rw [hb9, if_pos rfl]
                    refine c_local hC₄ N₃₁ rfl (stop_go ⟨h₃₁, _, oC₄, _, _, rfl, F₃₁, hC₄, N₃₁, hend, hkp₂, hnw₂, ?_, ?_⟩)
                    · rw [List.length_append, List.length_singleton]; omega
                    · rw [et, List.filter_append, List.map_append]
                      have : [o].filter (fun p => (x ^^^ k) / 2 ^ p % 2 == 1) = [o] := by simp [hd, hvd, hbit]
                      rw [this]
                      exact ints_snoc hzs₂
                  · have hb9 : (((vd % 2 : Nat) : Int) == 1) = false := by
                      have : vd % 2 = 0 := by omega
                      rw [this]; rfl
                    rw [hb9, if_neg Bool.false_ne_true]
                    refine stop_go ⟨h₃₁, _, oC₄, _, _, rfl, F₃₁, hC₄, N₃₁, hend, hkp₂, hnw₂, by omega, ?_⟩
                    rw [et, List.filter_append, List.map_append]
                    have : [o].filter (fun p => (x ^^^ k) / 2 ^ p % 2 == 1) = [] := by simp [hd, hvd, hbit]
                    rw [this, List.map_nil, List.append_nil]
                    exact hzs₂
                · rintro C₂ E₅ h₃₀ tk₃₀ oC₂ mC₂ c₂ zs₂ nw₂ ⟨hnw₂, hzl₂, hzs₂⟩ hkp₂ F₃₀ hC₂ N₃₀ hap₂ hCD₂ hltE₅
                  rw [List.take_of_length_le (by omega)] at hzs₂
                  refine compPost_eval F₃₀ hC₂ N₃₀ (fun p hp => ?_) (fun h₃₁ F₃₁ N₃₁ => ?_)
                  · rcases List.mem_cons.mp hp with rfl | hp
                    · exact Ne.symm hCD₂
                    · exact (hap₂ p hp).1
                  rw [hnw₂, hbg] at N₃₁
                  have fE : E₅ ≠ lF := Nat.ne_of_gt (hltE₅ (lF, W.listOf fv cf) (.tail _ (by rw [hbg]; exact .tail _ (.tail _ (.tail _ (.tail _ (.tail _ (.head _))))))))
                  clear F₃₀ N₃₀ F₂₉ N₂₉ F₂₈ N₂₈ hltE₅ hap₂ hltJ hkp₂
                  have hvf : fv.size ≤ 20 := by
                    have h9 := hfv.length
                    rw [List.length_map] at h9
                    have h8 : (List.filter (fitB x (keys tr)) (List.take j (keys tr))).length ≤ (keys tr).length := Nat.le_trans (List.length_filter_le ..) (List.length_take_le' ..)
                    have h7 : fv.toList.length = fv.size := Array.length_toList
                    omega
                  try dsimp only
                  k_steps
                  refine stop_go ?_
                  rename Fr _ _ _ _ => F₃₂
                  rename News _ _ _ _ => N₃₂
                  obtain ⟨lZ, hlZe⟩ := name_head N₃₂
                  subst hlZe
                  rename E₅ < lZ ∧ _ => hlZ
                  refine eq_intsK (vs := zs₂) (us := []) (News.isList N₃₂ (.tail _ (.head _))) hzs₂ (News.isList N₃₂ (.head _)) .nil (by show 7 + 64 < 9900; omega) ?_
                  rw [fit_decide]
                  by_cases hfit : fitB x (keys tr) k = true
                  · rw [hfit]
                    try dsimp only
                    k_steps
                    rename Fr _ _ _ _ => F₃₃
                    rename News _ _ _ _ => N₃₃
                    try dsimp only
                    exact stop_go ⟨_, _, _, _, rfl, fr_eqv F₃₃ (fun y => mapF_parts y), news_in N₃₃ fun p hp => .tail _ (.tail _ hp), off_swap hapz rfl, kp_three (hent _ (.tail _ (.head _))),
                      _, oK₇, _, _, rfl, rfl, ⟨_, hoK₇⟩, by rw [Array.toList_push, fit_in hkj hfit, List.map_append]; exact ints_snoc hfv⟩
                  · rw [Bool.not_eq_true] at hfit
                    rw [hfit]
                    try dsimp only
                    k_steps
                    try dsimp only
                    exact stop_go ⟨_, _, _, _, rfl, fr_eqv F₃₂ (fun y => mapF_parts y), news_in N₃₂ fun p hp => .tail _ (.tail _ hp), off_swap hapz rfl, kp_three (hent _ (.tail _ (.head _))),
                      _, oK₇, _, _, rfl, rfl, ⟨_, hoK₇⟩, by rw [fit_out hkj hfit]; exact hfv⟩
              · intro h₂₇ tk₂₇ m₁ nw₁ hJ F₂₇ N₂₇ _
                obtain ⟨m6, oK₆, fv, cf, rfl, rfl, hoK₆, hfv⟩ := hJ
                rw [List.take_of_length_le (by rw [List.size_toArray, List.size_toArray]; omega)] at hfv
                exact stop_go ⟨rfl, h₂₇, tk₂₇, m6, oK₆, fv, cf, rfl, F₂₇, news_in N₂₇ fun p hp => .tail _ hp, hoK₆, hfv⟩
            · rintro s' ⟨h₄₀, tk₄₀, m5, oK₅, fv, cf, rfl, F₄₀, N₄₀, ⟨y4, hoK₅⟩, hfv⟩
              rw [fits_eq x hInv.wf] at hfv
              try dsimp only
              k_steps
              refine stop_go ?_
              have hmt3 : (Dt, W.listOf vst ct) ∈ (lF, W.listOf fv cf) :: (I₄, oI₅) :: Lg s₁.heap.objs.size D vs'.toArray c oN₄ oX₅ oP₄ oK₅ tl5 := .tail _ (.tail _ (.tail _ (.tail _ (.tail _ (.tail _ (.tail _ (hent _ (.head _))))))))
              with_unfolding_all refine Con.use (con_met w Dt x tkx vst ct tr _ hmt3 hit hok) KB F₄₀ KX N₄₀ KT rfl (show 302 + 4 < recursionLimit by show _ < 1000; omega) (show 7 + 8 * 4 < cLine by show _ < 9900; omega) ?_
              rintro r₂ news' h₄₁ tk₄₁ F₄₁ N₄₁ ⟨rfl, tkf, rfl⟩
              clear F₄₀ N₄₀ F₂₅ N₂₅
              try dsimp only
              k_steps
              refine stop_go ?_
              rename Fr _ _ _ _ => F₄₂
              rename News _ _ _ _ => N₄₂
              with_unfolding_all refine Con.use (con_high w _ _ _) KB F₄₂ KX N₄₂ KT rfl (show 302 + 2 < recursionLimit by show _ < 1000; omega) (show 7 + 8 * 2 < cLine by show _ < 9900; omega) ?_
              rintro r₃ news' h₄₃ tk₄₃ F₄₃ N₄₃ ⟨rfl, tkh, rfl⟩
              clear F₄₂ N₄₂
              rw [bitXor_nat]
              try dsimp only
              by_cases hdz : x ^^^ find x tr = 0
              · rw [bits_zero (by rw [hdz]; rfl)]
                k_steps
                refine stop_go ?_
                rename Fr _ _ _ _ => F₄₄
                rename News _ _ _ _ => N₄₄
                obtain ⟨lM, hlMe⟩ := name_head N₄₄
                subst hlMe
                rename Obj => oP₅
                have hoP₅ : oP₅.data = .cell (some (.int (-1) tkh)) := by with_reducible assumption
                refine ne_intsK (vs := fv.toList) (by rw [Array.toArray_toList]; exact News.isList N₄₄ (.tail _ (.head _))) hfv (News.isList N₄₄ (.head _)) (.cons _ _ .nil) (by show 7 + 64 < 9900; omega) ?_
                rw [show (!decide (List.map Int.ofNat [find x tr] = [(find x tr : Int)])) = false by simp]
                try dsimp only
                k_steps
                refine stop_go ?_
                refine in_list_ints (News.isList N₄₄ (.tail _ (.tail _ (.tail _ (.head _))))) hI' ?_
                rw [any_in ((find_iff hInv.wf).mp hdz)]
                try dsimp only
                k_steps
                have hxf : find x tr = x := find_self hInv.wf ((find_iff hInv.wf).mp hdz)
                obtain ⟨q, hq⟩ : ∃ q, x / 2 ^ 0 = q := ⟨_, rfl⟩
                have hq2 : find x tr / 2 ^ 0 = q := by rw [hxf]; exact hq
                refine stop_go ?_
                refine pow2_int (k := 0) rfl (by omega) ?_
                try dsimp only
                k_steps
                refine stop_go ?_
                refine div_natv hq (Nat.two_pow_pos _) (noPylong_pow (by omega)) ?_
                try dsimp only
                k_steps
                refine stop_go ?_
                refine pow2_int (k := 0) rfl (by omega) ?_
                try dsimp only
                k_steps
                refine stop_go ?_
                refine div_natv hq2 (Nat.two_pow_pos _) (noPylong_pow (by omega)) ?_
                clear hq hq2
                try dsimp only
                k_steps
                · rename (q : Int) ≠ (q : Int) => hne
                  exact absurd rfl hne
                · rename lF < lM ∧ _ => hlM
                  have hAp7 : Apart s₁.heap.objs.size D ((lM, W.listOf #[Value.int (find x tr) tkf] 0) :: (lF, W.listOf fv cf) :: tl5) := (hAp6.cons hlF.2.1 hlF.2.2.1).cons hlM.2.2.1 hlM.2.2.2.1
                  dsimp only
                  exact stop_go ⟨_, _, _, _, rfl, fr_eqv F₄₄ (fun y => map_end y), reorder7 N₄₄, off_pick b5 (off_pick b4 (off_pick b3 (off_pick b2 (off_pick b1 (off_pick (Nat.ne_of_gt hlM.2.1) (off_pick (Nat.ne_of_gt hlF.1) b0)))))), fun p hp => .tail _ (.tail _ (.tail _ (.tail _ (.tail _ (.tail _ (.tail _ (hkpt p hp))))))),
                    _, oN₄, oX₅, oP₅, oK₅, _, rfl, rfl, hoN₄, ⟨_, hoX₅⟩, ⟨_, hoP₅⟩, ⟨_, hoK₅⟩, hAp7, fun p hp => .tail _ (.tail _ (hent p hp)), hP3.mono fun p hp => .tail _ (.tail _ hp), fun p hp => .tail _ (.tail _ (hkpt p hp))⟩
              · rw [bits_pos hdz]
                k_steps
                refine stop_go ?_
                rename Fr _ _ _ _ => F₄₄
                rename News _ _ _ _ => N₄₄
                obtain ⟨lM, hlMe⟩ := name_head N₄₄
                subst hlMe
                rename Obj => oP₅
                have hoP₅ : oP₅.data = .cell (some (.int ((x ^^^ find x tr).log2 : Int) tkh)) := by with_reducible assumption
                refine ne_intsK (vs := fv.toList) (by rw [Array.toArray_toList]; exact News.isList N₄₄ (.tail _ (.head _))) hfv (News.isList N₄₄ (.head _)) (.cons _ _ .nil) (by show 7 + 64 < 9900; omega) ?_
                rw [show (!decide (List.map Int.ofNat [find x tr] = [(find x tr : Int)])) = false by simp]
                try dsimp only
                k_steps
                refine stop_go ?_
                refine in_list_ints (News.isList N₄₄ (.tail _ (.tail _ (.tail _ (.head _))))) hI' ?_
                rw [any_out (fun h => hdz ((find_iff hInv.wf).mpr h))]
                try dsimp only
                k_steps
                · exfalso
                  rename (_ != false) = true => hbad
                  have hno : (((x ^^^ find x tr).log2 : Int) == -1) = false := by
                    rw [beq_eq_false_iff_ne]
                    omega
                  rw [hno] at hbad
                  cases hbad
                · have hpt := part hdz
                  have hln : (x ^^^ find x tr).log2 < B := by
                    have h30 : find x tr < 2 ^ B := Nat.lt_of_lt_of_le (hInv.small _ (find_mem x tr)) (Nat.pow_le_pow_right (by omega) (by omega))
                    exact (Nat.log2_lt hdz).mpr (Nat.xor_lt_two_pow hxB h30)
                  have hnl := none_like hInv.wf hdz
                  obtain ⟨hnp1, hnp2⟩ := noPylong_above (hInv.small _ (find_mem x tr)) hpt.1
                  obtain ⟨q, hq⟩ : ∃ q, x / 2 ^ ((x ^^^ find x tr).log2 + 1) = q := ⟨_, rfl⟩
                  have hq2 : find x tr / 2 ^ ((x ^^^ find x tr).log2 + 1) = q := by rw [← hpt.1]; exact hq
                  clear hpt
                  generalize hPe : (x ^^^ find x tr).log2 = P at *
                  refine stop_go ?_
                  refine pow2_int (k := P + 1) (by omega) (by omega) ?_
                  try dsimp only
                  k_steps
                  refine stop_go ?_
                  refine div_natv hq (Nat.two_pow_pos _) hnp1 ?_
                  try dsimp only
                  k_steps
                  refine stop_go ?_
                  refine pow2_int (k := P + 1) (by omega) (by omega) ?_
                  try dsimp only
                  k_steps
                  refine stop_go ?_
                  refine div_natv hq2 (Nat.two_pow_pos _) (noPylong_small (hInv.small _ (find_mem x tr))) ?_
                  clear hq hq2
                  try dsimp only
                  k_steps
                  · rename (q : Int) ≠ (q : Int) => hne
                    exact absurd rfl hne
                  · rename lF < lM ∧ _ => hlM
                    refine stop_go ?_
                    refine eval_comp (cl := [(Str.ofString "place", s₁.heap.objs.size + 1 + 1 + 1), (Str.ofString "number", s₁.heap.objs.size + 1 + 1)]) rfl rfl (by decide) ?_
                    k_steps
                    refine stop_go ?_
                    obtain ⟨bg, hbg⟩ := name_news N₄₄
                    have hgD : (D, W.listOf vs'.toArray c) ∈ bg := by rw [hbg]; exact .tail _ (.tail _ (.tail _ (.head _)))
                    have hgP : (s₁.heap.objs.size + 1 + 1 + 1, oP₅) ∈ bg := by rw [hbg]; exact .tail _ (.tail _ (.tail _ (.tail _ (.tail _ (.head _)))))
                    have hgX : (s₁.heap.objs.size + 1 + 1, oX₅) ∈ bg := by rw [hbg]; exact .tail _ (.tail _ (.tail _ (.tail _ (.tail _ (.tail _ (.head _))))))
                    rw [← hbg] at N₄₄
                    refine iter_list F₄₄ N₄₄ (News.isList N₄₄ hgD) fun J₂ oJ h₄₅ F₄₅ N₄₅ hoJ hltJ hneJ => ?_
                    try dsimp only
                    have hfeedJ := IterO.at hoJ (N₄₅ (J₂, oJ) (.head _)).1
                    refine comp_block (Feed.list rfl J₂ D hneJ vs'.toArray (Str.ofString "one") _) [(D, W.listOf vs'.toArray c)] [(J₂, oJ)] none
                      (fun _ zs (nw : List (Addr × Obj)) => nw = bg ∧ zs = []) (fun _ e => nomatch e) (fun _ => rfl)
                      (fun b hb => ?_) F₄₅ rfl N₄₅ (fun p hp hb => ?_) (fun p hp => ?_) ⟨hfeedJ, News.isList N₄₅ (.tail _ hgD)⟩ (by rw [sizeLine_eq, List.size_toArray]; omega) (fun i ys nw (h : _ ∧ _) => by rw [h.2]; exact Nat.zero_le _) (fun C hC => ⟨rfl, rfl⟩) ?_ ?_
                    · rcases List.mem_cons.mp hb with rfl | hb
                      · exact .inl (.head _)
                      · rcases List.mem_cons.mp hb with rfl | hb
                        · exact .inr (.inl ⟨_, .head _⟩)
                        · cases hb
                    · rcases List.mem_cons.mp hb with e | hb
                      · exact absurd (hltJ p hp) (by rw [e]; exact Nat.lt_irrefl _)
                      · cases hb
                    · rcases List.mem_cons.mp hp with rfl | hp
                      · exact hgD
                      · cases hp
                    · rintro C₂ E₅ i₂ v₂ h₄₆ tk₄₆ oC₂ mC₂ c₂ zs₂ nw₂ itn₂ hin₂ hvi₂ ⟨hnw₂, hzs₂⟩ hkp₂ hw₂ F₄₆ hC₂ N₄₆ hap₂ hCD₂ hapw₂
                      have hil₂ : i₂ < (keys tr).length := by rw [List.size_toArray, hvl] at hin₂; exact hin₂
                      obtain ⟨o, hoi⟩ : ∃ o, (keys tr)[i₂]? = some o := ⟨_, List.getElem?_eq_getElem hil₂⟩
                      obtain ⟨tko, htko⟩ := hI'.get i₂ (o : Int) (by rw [List.getElem?_map, hoi]; rfl)
                      have hve₂ : v₂ = .int (o : Int) tko := by
                        have h1 : vs'.toArray[i₂]? = some (.int (o : Int) tko) := by simpa using htko
                        rw [hvi₂] at h1; exact Option.some.inj h1
                      subst hve₂
                      have hCap₂ : ∀ p ∈ (E₅, W.listOf zs₂.toArray c₂) :: (itn₂ ++ nw₂), p.1 ≠ C₂ := fun p hp => by
                        rcases List.mem_cons.mp hp with rfl | hp
                        · exact Ne.symm hCD₂
                        · exact (hap₂ p hp).1
                      refine c_store F₄₆ hC₂ N₄₆ hCap₂ fun h₄₇ oC₄ F₄₇ hC₄ N₄₇ => ?_
                      have hmP' : (s₁.heap.objs.size + 1 + 1 + 1, oP₅) ∈ (C₂, oC₄) :: (E₅, W.listOf zs₂.toArray c₂) :: (itn₂ ++ nw₂) := .tail _ (.tail _ (List.mem_append.mpr (.inr (by rw [hnw₂]; exact hgP))))
                      have hmX' : (s₁.heap.objs.size + 1 + 1, oX₅) ∈ (C₂, oC₄) :: (E₅, W.listOf zs₂.toArray c₂) :: (itn₂ ++ nw₂) := .tail _ (.tail _ (List.mem_append.mpr (.inr (by rw [hnw₂]; exact hgX))))
                      have hend : ∀ p ∈ nw₂, p.1 ≠ C₂ ∧ p.1 ≠ E₅ ∧ p.1 ∉ [J₂] := fun p hp => by
                        have := hap₂ p (List.mem_append.mpr (.inr hp))
                        exact ⟨this.1, this.2, hapw₂ p hp⟩
                      have hom : o ∈ keys tr := List.mem_of_getElem? hoi
                      have hno : x / 2 ^ P ≠ o / 2 ^ P := hnl o hom
                      have ho30 := hInv.small o hom
                      obtain ⟨qx, hqx⟩ : ∃ v, x / 2 ^ P = v := ⟨_, rfl⟩
                      obtain ⟨qo, hqo⟩ : ∃ v, o / 2 ^ P = v := ⟨_, rfl⟩
                      rw [hqx, hqo] at hno
                      refine wpAny_tests_one ?_
                      refine wpAny_isTrue_Compare1 (wpAny_BinOp (c_cell N₄₇ hmX' hoX₅ (wpAny_BinOp (wpAny_Constant_int (c_cell N₄₇ hmP' hoP₅ (pow2_int (k := P) rfl (by omega) (div_natv hqx (Nat.two_pow_pos _) hnp2 (wpAny_BinOp (c_local hC₄ N₄₇ rfl (wpAny_BinOp (wpAny_Constant_int (c_cell N₄₇ hmP' hoP₅ (pow2_int (k := P) rfl (by omega) (div_natv hqo (Nat.two_pow_pos _) (noPylong_small ho30) (PyProof.Rows.eq_int (wpAny_truthy_bool ?_))))))))))))))))
                      rw [show ((qx : Int) == (qo : Int)) = false by rw [beq_eq_false_iff_ne]; omega, if_neg Bool.false_ne_true]
                      exact stop_go ⟨h₄₇, _, oC₄, _, _, rfl, F₄₇, hC₄, N₄₇, hend, hkp₂, hnw₂, hzs₂⟩
                    · rintro C₂ E₅ h₄₆ tk₄₆ oC₂ mC₂ c₂ zs₂ nw₂ ⟨hnw₂, hzs₂⟩ hkp₂ F₄₆ hC₂ N₄₆ hap₂ hCD₂ hltE₅
                      refine compPost_eval F₄₆ hC₂ N₄₆ (fun p hp => ?_) (fun h₄₇ F₄₇ N₄₇ => ?_)
                      · rcases List.mem_cons.mp hp with rfl | hp
                        · exact Ne.symm hCD₂
                        · exact (hap₂ p hp).1
                      rw [hnw₂, hbg] at N₄₇
                      subst hzs₂
                      clear F₄₆ N₄₆ F₄₅ N₄₅ F₄₄ N₄₄ hltE₅ hap₂ hnl
                      try dsimp only
                      k_steps
                      refine stop_go ?_
                      rename Fr _ _ _ _ => F₄₈
                      rename News _ _ _ _ => N₄₈
                      refine ne_intsK (vs := []) (us := []) (News.isList N₄₈ (.tail _ (.head _))) .nil (News.isList N₄₈ (.head _)) .nil (by show 7 + 64 < 9900; omega) ?_
                      rw [show (!decide (([] : List Int) = [])) = false by simp]
                      try dsimp only
                      k_steps
                      have hAp7 : Apart s₁.heap.objs.size D ((lM, W.listOf #[Value.int (find x tr) tkf] 0) :: (lF, W.listOf fv cf) :: tl5) := (hAp6.cons hlF.2.1 hlF.2.2.1).cons hlM.2.2.1 hlM.2.2.2.1
                      try dsimp only
                      exact stop_go ⟨_, _, _, _, rfl, fr_eqv F₄₈ (fun y => map_end y), reorder7 (news_in N₄₈ fun p hp => .tail _ (.tail _ hp)), off_pick b5 (off_pick b4 (off_pick b3 (off_pick b2 (off_pick b1 (off_pick (Nat.ne_of_gt hlM.2.1) (off_pick (Nat.ne_of_gt hlF.1) b0)))))), fun p hp => .tail _ (.tail _ (.tail _ (.tail _ (.tail _ (.tail _ (.tail _ (hkpt p hp))))))),
                        _, oN₄, oX₅, oP₅, oK₅, _, rfl, rfl, hoN₄, ⟨_, hoX₅⟩, ⟨_, hoP₅⟩, ⟨_, hoK₅⟩, hAp7, fun p hp => .tail _ (.tail _ (hent p hp)), hP3.mono fun p hp => .tail _ (.tail _ hp), fun p hp => .tail _ (.tail _ (hkpt p hp))⟩
          · intro h tk₂₅ m₁ nw₁ hJ F₂₅ N₂₅ _
            exact stop_go ⟨rfl, h, tk₂₅, m₁, nw₁, rfl, F₂₅, N₂₅⟩
      · rintro s' ⟨h, tk₂₆, m₁, nw₁, rfl, F₂₆, N₂₆⟩
        dsimp only
        k_steps)
end Mine

theorem PySem.Challenge.cw_sh0008_01_holds : PySem.Challenge.rw_sh0008_01.Holds :=
  Mine.fin0
