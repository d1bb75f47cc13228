import PyProof.Rows.All
import Wide.All
import OpenK.AllK
import Wide.FinOn
import PySem.Challenge.RW_ph0029_01
open PySem PySem.W PyProof.Rows
set_option Elab.async false
set_option maxRecDepth 100000
set_option rowWalk.seconds 0
-- Hd
namespace Mine
set_option maxHeartbeats 8000000
open_top hd for PySem.Challenge.rw_ph0029_01
theorem top_off : True := by
  w_top off
  trivial
end Mine
-- Base
set_option maxHeartbeats 1000000
namespace Mine
abbrev TheProg : Program := Challenge.rw_ph0029_01.row.toRowW.prog
abbrev Led := List (Addr × Obj)
/-- what a call of the def at f with vs does, the ledger left as it is but for what Ret says -/
abbrev Ctr (w : World) (p : Program) (loose : List Str) (mean : ExcName → Option Value) (mg mb : Str → Option Value) (f : Addr) (vs : List Value) (d u : Nat)
    (news : Led) (Ret : Heap → Addr → (Str → Option Value) → Shared → (Value → Shared → Prop) → Prop) : Prop :=
  ∀ (dp un : Nat) (gd : Option (List Code)) (cn : Str) (cs : Scope) (a : Addr) (ccd : Value) (cl : List (Str × Addr)) (outer : List Env) (A₀ : Around) (base h₀ : Heap) (L : Addr) (m : Str → Option Value) (s : Shared) (Q E : Value → Shared → Prop),
    Below A₀ base outer h₀ → Fr h₀ L s.heap m → (hd.heap_39 w.params).In h₀ → News h₀ L s.heap news → Top p loose mean mg mb h₀ → cs.kind = .function →
    dp + d < recursionLimit → un + u < cLine → Ret h₀ L m s Q →
      wpAny (model TheProg w) (ktrTop dp un gd cn cs L a ccd cl outer) (call (.ref f) vs) Q E s
/-- a value that is not of the heap comes back -/
abbrev RetV (news : Led) (R : Tok → Value) (h₀ : Heap) (L : Addr) (m : Str → Option Value) (s : Shared) (Q : Value → Shared → Prop) : Prop :=
  ∀ (t : Tok) (h' : Heap) (tk' : Nat), Fr h₀ L h' m → News h₀ L h' news → Q (R t) { s with heap := h', toks := tk' }
end Mine
-- Loop
set_option maxHeartbeats 1000000
namespace Mine
/-- how a turn of a loop may end: it goes on (J of the new names and ledger), or it leaves -/
def TurnPost (h₀ : Heap) (L : Addr) (s : Shared) (fp : List Addr) (own : Led) (J : (Str → Option Value) → Led → Prop) (Q : Flow → Shared → Prop) (f : Flow) (s₂ : Shared) : Prop :=
  match f with
  | .ret v => Q (.ret v) s₂
  | .brk => Q .next s₂
  | _ => ∃ h' tk m' news', s₂ = { s with heap := h', toks := tk } ∧ Fr h₀ L h' m' ∧ News h₀ L h' (news' ++ own) ∧ (∀ p ∈ news', p.1 ∉ fp) ∧ J m' news'
/-- what the heap holds at the places of fp -/
def holdsAt (h : Heap) (fp : List Addr) : Led := fp.filterMap fun b => (h.get? b).map fun o => (b, o)
theorem mem_holdsAt {h : Heap} {fp : List Addr} {b : Addr} {o : Obj} (hb : b ∈ fp) (ho : h.get? b = some o) : (b, o) ∈ holdsAt h fp :=
  List.mem_filterMap.mpr ⟨b, hb, by rw [ho]; rfl⟩
theorem of_mem_holdsAt {h : Heap} {fp : List Addr} {p : Addr × Obj} (hp : p ∈ holdsAt h fp) : p.1 ∈ fp ∧ h.get? p.1 = some p.2 := by
  obtain ⟨b, hb, e⟩ := List.mem_filterMap.mp hp
  cases q : h.get? b with
  | none => rw [q] at e; cases e
  | some o => rw [q] at e; cases e; exact ⟨hb, q⟩
section
variable {prog : Program} {w : World} {A : Around} {E : Value → Shared → Prop} {s : Shared} {env : Env} {h₀ : Heap} {x : Str} {px : Pos} {body orelse : List Stmt} {Q : Flow → Shared → Prop}
/-- a for over anything that Walks knows, with an else, its iterator kept in the ledger -/
theorem for_own {I : Addr} {fp wr : List Addr} {n : Nat} {P : Nat → Value → Prop} {St : Nat → Heap → Prop} {m : Str → Option Value} {news : Led}
    (W : Walks prog w A I fp wr n P St) (hx : env.kindOf x = some .local)
    (hp : (env.scope.kind == .class || (env.scope.kind == .module && env.locals != env.globals)) = false)
    (hfp : ∀ b ∈ fp, b ≠ env.locals ∧ h₀.get? b = none) (hnw : ∀ p ∈ news, p.1 ∉ wr)
    (hst : St 0 s.heap) (F : Fr h₀ env.locals s.heap m) (N : News h₀ env.locals s.heap news)
    (J : Nat → (Str → Option Value) → Led → Prop) (h0 : J 0 m news) (hE : PassesOwn (model prog w) A env E)
    (turn : ∀ i v m₁ news₁ h tk own, i < n → P i v → J i m₁ news₁ → (∀ p ∈ news₁, p.1 ∉ wr) → (∀ p ∈ own, p.1 ∈ fp ∧ h.get? p.1 = some p.2) →
      Fr h₀ env.locals h (fun y => if y = x then some v else m₁ y) → News h₀ env.locals h (news₁ ++ own) →
      wpAny (model prog w) A (execs body env) (TurnPost h₀ env.locals s wr own (J (i + 1)) Q) E { s with heap := h, toks := tk })
    (done : ∀ m₁ news₁ h tk, J n m₁ news₁ → Fr h₀ env.locals h m₁ → News h₀ env.locals h news₁ → wpAny (model prog w) A (execs orelse env) Q E { s with heap := h, toks := tk }) :
    codeAny (model prog w) A (.forLoop (.Name x px) (.ref I) body orelse env) (fun r s' => match r with | .ok f => Q f s' | .error e => cameBackBy (model prog w) A env E e s') s := by
  have hL : ∀ b ∈ wr, b ≠ env.locals ∧ h₀.get? b = none := fun b hb => hfp b (W.sub b hb)
  refine codeAny_forLoop
    (fun k s' => ∃ h' tk m' news' i, s' = { s with heap := h', toks := tk } ∧ St i h' ∧ Fr h₀ env.locals h' m' ∧ News h₀ env.locals h' news' ∧ (∀ p ∈ news', p.1 ∉ wr) ∧ J i m' news' ∧ i ≤ n ∧ k = n + 1 - i)
    ?_ (n + 1) ⟨s.heap, s.toks, m, news, 0, rfl, hst, F, N, hnw, h0, Nat.zero_le _, rfl⟩
  rintro k s' ⟨h', tk, m', news', i, rfl, hst', F', N', hoff, hJ, hi, rfl⟩
  have keep : ∀ h₁ : Heap, (∀ b o, b ∉ wr → h'.get? b = some o → h₁.get? b = some o) → Fr h₀ env.locals h₁ m' ∧ News h₀ env.locals h₁ news' := by
    intro h₁ hk
    refine ⟨⟨F'.ns.at' fun o e => hk _ o (fun hb => (hL _ hb).1 rfl) e, fun b o e => hk b o (fun hb => ?_) (F'.keep b o e), F'.above⟩, fun p q => ⟨hk _ _ (hoff p q) (N' p q).1, (N' p q).2⟩⟩
    rw [(hL b hb).2] at e; cases e
  rcases Nat.lt_or_ge i n with hlt | hge
  · refine W.item i _ _ _ hlt hst' fun v h₁ tk₁ hP hst₁ hk₁ => ?_
    obtain ⟨F₁, N₁⟩ := keep h₁ hk₁
    refine wpAny_assign_Name (wpAny_storeName_local hx F₁.ns (fun h₂ hn₂ hs₂ => ?_) hp)
    have same : ∀ b ∈ fp, h₂.get? b = h₁.get? b := fun b hb => hs₂.2 b (hfp b hb).1
    have hst₂ : St (i + 1) h₂ := W.frame _ _ _ hst₁ fun b hb o e => (same b hb).trans e
    have N₂ : News h₀ env.locals h₂ (news' ++ holdsAt h₂ fp) := by
      intro p q
      rcases List.mem_append.mp q with q | q
      · exact N₁.set hs₂ p q
      · have z := of_mem_holdsAt q
        exact ⟨z.2, hfp _ z.1⟩
    refine wpAny_passesOwn hE (wpAny_mono (turn i v m' news' h₂ _ (holdsAt h₂ fp) hlt hP hJ hoff (fun p q => of_mem_holdsAt q) (F₁.set hn₂ hs₂) N₂) (fun f s₃ h₃ => ?_) fun _ _ e => e)
    cases f with
    | ret v => exact h₃
    | brk => exact h₃
    | cont =>
      obtain ⟨h₃', tk₃, m₂, news₂, rfl, F₃, N₃, hoff₃, hJ₃⟩ := h₃
      exact ⟨n + 1 - (i + 1), by omega, h₃', tk₃, m₂, news₂, i + 1, rfl, W.frame _ _ _ hst₂ fun b hb o e => (N₃ _ (List.mem_append_right _ (mem_holdsAt hb e))).1, F₃, fun p q => N₃ p (List.mem_append_left _ q), hoff₃, hJ₃, hlt, rfl⟩
    | next =>
      obtain ⟨h₃', tk₃, m₂, news₂, rfl, F₃, N₃, hoff₃, hJ₃⟩ := h₃
      exact ⟨n + 1 - (i + 1), by omega, h₃', tk₃, m₂, news₂, i + 1, rfl, W.frame _ _ _ hst₂ fun b hb o e => (N₃ _ (List.mem_append_right _ (mem_holdsAt hb e))).1, F₃, fun p q => N₃ p (List.mem_append_left _ q), hoff₃, hJ₃, hlt, rfl⟩
  · have hin : i = n := Nat.le_antisymm hi hge
    subst hin
    refine W.done _ _ _ hst' fun h₁ tk₁ hk₁ => ?_
    obtain ⟨F₁, N₁⟩ := keep h₁ hk₁
    exact wpAny_passesOwn hE (done m' news' h₁ tk₁ hJ F₁ N₁)
/-- over a range by ones -/
theorem for_range {r : Addr} {a₀ b₀ : Int} {t₀ u₀ v₀ : Tok} {n : Nat} {m₀ : Str → Option Value} {news : Led} (J : Nat → (Str → Option Value) → Led → Prop)
    (hh : A.handled = none) (hr : IsRange s.heap r a₀ b₀ 1 t₀ u₀ v₀) (hsmall : Builtin.Range.small a₀ b₀ 1 = true) (hn : Builtin.Range.rangeSize a₀ b₀ 1 = (n : Int))
    (F : Fr h₀ env.locals s.heap m₀) (N : News h₀ env.locals s.heap news) (hx : env.kindOf x = some .local)
    (hp : (env.scope.kind == .class || (env.scope.kind == .module && env.locals != env.globals)) = false) (hj : J 0 m₀ news) (hE : PassesOwn (model prog w) A env E)
    (turn : ∀ I, ∀ i t m₁ news₁ h tk own, i < n → J i m₁ news₁ → (∀ p ∈ news₁, p.1 ∉ [I]) → (∀ p ∈ own, p.1 ∈ [I] ∧ h.get? p.1 = some p.2) →
      Fr h₀ env.locals h (fun y => if y = x then some (.int (a₀ + (i : Int)) t) else m₁ y) → News h₀ env.locals h (news₁ ++ own) → (∀ p ∈ news, p.1 < I) →
      wpAny (model prog w) A (execs body env) (TurnPost h₀ env.locals s [I] own (J (i + 1)) Q) E { s with heap := h, toks := tk })
    (done : ∀ m₁ news₁ h tk, J n m₁ news₁ → Fr h₀ env.locals h m₁ → News h₀ env.locals h news₁ → wpAny (model prog w) A (execs orelse env) Q E { s with heap := h, toks := tk }) :
    wpAny (model prog w) A (pyIter (.ref r)) (fun it s₂ => codeAny (model prog w) A (.forLoop (.Name x px) it body orelse env) (fun r s' => match r with | .ok f => Q f s' | .error e => cameBackBy (model prog w) A env E e s') s₂) E s := by
  refine wpAny_pyIter_range hr hsmall ?_
  have hlt : ∀ p ∈ news, p.1 < s.heap.objs.size := fun p hp => Heap.lt_size (N p hp).1
  refine for_own (I := s.heap.objs.size) (fp := [s.heap.objs.size]) (wr := [s.heap.objs.size]) (n := n) (P := fun i v => ∃ t, v = .int (a₀ + i * 1) t)
    (St := fun i h => IsRangeIter h s.heap.objs.size (a₀ + (i : Nat) * 1) ((n : Int) - (i : Nat)) 1) (Walks.range hh _ a₀ 1 n) hx hp ?_ ?_ ?_ (F.push _) (fun p hp => ⟨Heap.get?_push_of_some _ (N p hp).1, (N p hp).2⟩) J hj hE ?_ done
  · intro b hb
    rw [List.mem_singleton.mp hb]
    exact ⟨fun e => absurd F.ns.lt (e ▸ Nat.lt_irrefl _), next_is_new F⟩
  · intro p hp hI
    exact absurd (hlt p hp) ((List.mem_singleton.mp hI) ▸ Nat.lt_irrefl _)
  · show IsRangeIter _ _ _ _ _
    rw [hn]; simpa using Heap.get?_push_size _ rfl
  · rintro i v m₁ news₁ h tk own hin ⟨t, rfl⟩ hJ hoff hown F₁ N₁
    rw [Int.mul_one] at F₁
    exact turn _ i t m₁ news₁ h tk own hin hJ hoff hown F₁ N₁ hlt
/-- over a list of the ledger -/
theorem for_list {D : Addr} {vs : List Value} {ep : Nat} {m₀ : Str → Option Value} {news : Led} (J : Nat → (Str → Option Value) → Led → Prop)
    (hh : A.handled = none) (F : Fr h₀ env.locals s.heap m₀) (N : News h₀ env.locals s.heap news) (hD : (D, listOf vs.toArray ep) ∈ news) (hx : env.kindOf x = some .local)
    (hp : (env.scope.kind == .class || (env.scope.kind == .module && env.locals != env.globals)) = false) (hj : J 0 m₀ news) (hE : PassesOwn (model prog w) A env E)
    (turn : ∀ I, ∀ i v m₁ news₁ h tk own, vs[i]? = some v → J i m₁ news₁ → (∀ p ∈ news₁, p.1 ∉ [I]) → (∀ p ∈ own, p.1 ∈ [I, D] ∧ h.get? p.1 = some p.2) →
      Fr h₀ env.locals h (fun y => if y = x then some v else m₁ y) → News h₀ env.locals h (news₁ ++ own) → (∀ p ∈ news, p.1 < I) →
      wpAny (model prog w) A (execs body env) (TurnPost h₀ env.locals s [I] own (J (i + 1)) Q) E { s with heap := h, toks := tk })
    (done : ∀ m₁ news₁ h tk, J vs.length m₁ news₁ → Fr h₀ env.locals h m₁ → News h₀ env.locals h news₁ → wpAny (model prog w) A (execs orelse env) Q E { s with heap := h, toks := tk }) :
    wpAny (model prog w) A (pyIter (.ref D)) (fun it s₂ => codeAny (model prog w) A (.forLoop (.Name x px) it body orelse env) (fun r s' => match r with | .ok f => Q f s' | .error e => cameBackBy (model prog w) A env E e s') s₂) E s := by
  have hDo := N _ hD
  have hls : s.heap.IsList D vs.toArray := ⟨_, hDo.1, rfl, _, rfl⟩
  refine wpAny_pyIter_list hls ?_
  have hlt : ∀ p ∈ news, p.1 < s.heap.objs.size := fun p hp => Heap.lt_size (N p hp).1
  have hDI : D ≠ s.heap.objs.size := Nat.ne_of_lt (Heap.lt_size hDo.1)
  refine for_own (I := s.heap.objs.size) (Walks.list hh s.heap.objs.size D hDI vs.toArray) hx hp ?_ ?_ ⟨⟨_, Heap.get?_push_size _ rfl, rfl, rfl⟩, hls.at fun o e => Heap.get?_push_of_some _ e⟩ (F.push _)
    (fun p hp => ⟨Heap.get?_push_of_some _ (N p hp).1, (N p hp).2⟩) J hj hE ?_ (fun m₁ news₁ h tk hJ => done m₁ news₁ h tk (by simpa using hJ))
  · intro b hb
    rcases List.mem_cons.mp hb with rfl | hb
    · exact ⟨fun e => absurd F.ns.lt (e ▸ Nat.lt_irrefl _), next_is_new F⟩
    · rw [List.mem_singleton.mp hb]; exact hDo.2
  · intro p hp hI
    exact absurd (hlt p hp) ((List.mem_singleton.mp hI) ▸ Nat.lt_irrefl _)
  · intro i v m₁ news₁ h tk own hin hP hJ hoff hown F₁ N₁
    exact turn _ i v m₁ news₁ h tk own (by simpa using hP) hJ hoff hown F₁ N₁ hlt
end
end Mine
namespace Mine
/-- how a turn of a while may end -/
def WhilePost (h₀ : Heap) (L : Addr) (s : Shared) (J : Nat → (Str → Option Value) → Led → Prop) (n : Nat) (Q : Flow → Shared → Prop) (f : Flow) (s₂ : Shared) : Prop :=
  match f with
  | .ret v => Q (.ret v) s₂
  | .brk => Q .next s₂
  | _ => ∃ k h' tk m' news', k < n ∧ s₂ = { s with heap := h', toks := tk } ∧ Fr h₀ L h' m' ∧ News h₀ L h' news' ∧ J k m' news'
section
variable {prog : Program} {w : World} {A : Around} {E : Value → Shared → Prop} {s : Shared} {env : Env} {h₀ : Heap} {test : Expr} {body orelse : List Stmt} {Q : Flow → Shared → Prop}
/-- a while by an invariant and a measure -/
theorem while_own {n : Nat} {m : Str → Option Value} {news : Led} (J : Nat → (Str → Option Value) → Led → Prop)
    (F : Fr h₀ env.locals s.heap m) (N : News h₀ env.locals s.heap news) (h0 : J n m news) (hE : PassesOwn (model prog w) A env E)
    (turn : ∀ n m₁ news₁ h tk, J n m₁ news₁ → Fr h₀ env.locals h m₁ → News h₀ env.locals h news₁ →
      wpAny (model prog w) A (isTrue test env (eval test env)) (fun b s₂ => if b then wpAny (model prog w) A (execs body env) (WhilePost h₀ env.locals s J n Q) E s₂ else wpAny (model prog w) A (execs orelse env) Q E s₂) E { s with heap := h, toks := tk }) :
    codeAny (model prog w) A (.whileLoop test body orelse env) (fun r s' => match r with | .ok f => Q f s' | .error e => cameBackBy (model prog w) A env E e s') s := by
  refine codeAny_whileLoop (fun k s' => ∃ h' tk m' news', s' = { s with heap := h', toks := tk } ∧ Fr h₀ env.locals h' m' ∧ News h₀ env.locals h' news' ∧ J k m' news') ?_ n ⟨s.heap, s.toks, m, news, rfl, F, N, h0⟩
  rintro k s' ⟨h', tk, m', news', rfl, F', N', hJ⟩
  refine wpAny_passesOwn hE (wpAny_mono (turn k m' news' h' tk hJ F' N') (fun b s₂ h₂ => ?_) fun _ _ e => e)
  cases b with
  | false =>
    simp only [Bool.false_eq_true, if_false] at h₂ ⊢
    exact wpAny_passesOwn hE h₂
  | true =>
    simp only [if_true] at h₂ ⊢
    refine wpAny_passesOwn hE (wpAny_mono h₂ (fun f s₃ h₃ => ?_) fun _ _ e => e)
    cases f with
    | ret v => exact h₃
    | brk => exact h₃
    | cont =>
      obtain ⟨j, h₃', tk₃, m₂, news₂, hj, rfl, F₃, N₃, hJ₃⟩ := h₃
      exact ⟨j, hj, h₃', tk₃, m₂, news₂, rfl, F₃, N₃, hJ₃⟩
    | next =>
      obtain ⟨j, h₃', tk₃, m₂, news₂, hj, rfl, F₃, N₃, hJ₃⟩ := h₃
      exact ⟨j, hj, h₃', tk₃, m₂, news₂, rfl, F₃, N₃, hJ₃⟩
end
end Mine
-- Pure
set_option maxHeartbeats 1000000
namespace Mine
open Builtin.Int (intBits)
def nameL : List Str := [Str.ofString "OPTIMIZED", Str.ofString "NEWLOCALS", Str.ofString "VARARGS", Str.ofString "VARKEYWORDS", Str.ofString "NESTED", Str.ofString "GENERATOR", Str.ofString "NOFREE", Str.ofString "COROUTINE", Str.ofString "ITERABLE_COROUTINE", Str.ofString "ASYNC_GENERATOR"]
/-- hex of an int -/
abbrev hexT (x : Int) : Str := baseText "0x" 16 x
/-- the word of a place -/
def wordN (i : Nat) : Str := nameL.getD i (hexT ((2 : Int) ^ i))
/-- is the place i of x filled? -/
def bit (x : Int) (i : Nat) : Bool := x / 2 ^ i % 2 == 1
/-- the words of the filled places below n -/
def lowW (x : Int) (n : Nat) : List Str := ((List.range n).filter (bit x)).map wordN
theorem lowW_succ (x : Int) (n : Nat) : lowW x (n + 1) = lowW x n ++ (if bit x n then [wordN n] else []) := by
  unfold lowW
  rw [List.range_succ, List.filter_append, List.map_append]
  congr 1
  by_cases h : bit x n = true <;> simp [h]
/-- x without its places below n -/
def topAt (x : Int) (n : Nat) : Int := x - x % 2 ^ n
theorem topAt_zero (x : Int) : topAt x 0 = x := by unfold topAt; simp
theorem two_pos (i : Nat) : (0 : Int) < 2 ^ i := kbt_pos i
theorem topAt_eq (x : Int) (n : Nat) : topAt x n = 2 ^ n * (x / 2 ^ n) := by
  have h := Int.mul_ediv_add_emod x (2 ^ n)
  unfold topAt; omega
theorem topAt_div (x : Int) (n : Nat) : topAt x n / 2 ^ n = x / 2 ^ n := by
  rw [topAt_eq, Int.mul_ediv_cancel_left _ (Int.ne_of_gt (two_pos n))]
theorem div_succ (x : Int) (n : Nat) : x / 2 ^ (n + 1) = x / 2 ^ n / 2 := by
  rw [Int.pow_succ, Int.ediv_ediv_of_nonneg (Int.le_of_lt (two_pos n))]
theorem topAt_succ (x : Int) (n : Nat) : topAt x (n + 1) = topAt x n - (if bit x n then 2 ^ n else 0) := by
  have e := div_succ x n
  rw [topAt_eq, topAt_eq, e, Int.pow_succ]
  unfold bit
  generalize x / 2 ^ n = q
  generalize hP : (2 : Int) ^ n = P
  have h2 : q / 2 * 2 + q % 2 = q := Int.ediv_mul_add_emod q 2
  rcases Int.emod_two_eq q with h | h
  · rw [h]; simp only [show ((0 : Int) == 1) = false from rfl, Bool.false_eq_true, if_false, Int.sub_zero]
    rw [Int.mul_assoc]; congr 1; omega
  · rw [h]; simp only [show ((1 : Int) == 1) = true from rfl, if_true]
    have : q = 2 * (q / 2) + 1 := by omega
    conv => rhs; rw [this]
    rw [Int.mul_add, Int.mul_one, ← Int.mul_assoc]; omega
theorem and_top (x : Int) (n : Nat) : Builtin.bitAnd (topAt x n) (2 ^ n) = if bit x n then 2 ^ n else 0 := by
  rw [kbt_bit, topAt_div]
  unfold bit
  rcases Int.emod_two_eq (x / 2 ^ n) with h | h
  · rw [h]; simp
  · rw [h]; simp
theorem xor_top (x : Int) (n : Nat) (h : bit x n = true) : Builtin.bitXor (topAt x n) (2 ^ n) = topAt x (n + 1) := by
  rw [bitXor_and, and_top, topAt_succ, h]
  simp only [if_true]; omega
/-- nothing above n: no words above n -/
theorem bit_above {x : Int} {n j : Nat} (h : topAt x n = 0) (hj : n ≤ j) : bit x j = false := by
  have h1 : x = x % 2 ^ n := by unfold topAt at h; omega
  have h0 : 0 ≤ x := by rw [h1]; exact Int.emod_nonneg _ (Int.ne_of_gt (two_pos n))
  have hlt : x < 2 ^ n := by rw [h1]; exact Int.emod_lt_of_pos _ (two_pos n)
  have hle : (2 : Int) ^ n ≤ 2 ^ j := by
    have : 2 ^ n ≤ 2 ^ j := Nat.pow_le_pow_right (by decide) hj
    have e1 : ((2 ^ n : Nat) : Int) = 2 ^ n := by push_cast; rfl
    have e2 : ((2 ^ j : Nat) : Int) = 2 ^ j := by push_cast; rfl
    omega
  unfold bit
  rw [Int.ediv_eq_zero_of_lt h0 (by omega)]; rfl
theorem topAt_above {x : Int} {n : Nat} (h : topAt x n = 0) : ∀ k, topAt x (n + k) = 0
  | 0 => h
  | k + 1 => by rw [← Nat.add_assoc, topAt_succ, topAt_above h k, bit_above h (Nat.le_add_right _ _)]; rfl
theorem lowW_above {x : Int} {n : Nat} (h : topAt x n = 0) : ∀ k, lowW x (n + k) = lowW x n
  | 0 => rfl
  | k + 1 => by rw [← Nat.add_assoc, lowW_succ, lowW_above h k, bit_above h (Nat.le_add_right _ _)]; simp
/-- the words of a number, as pretty_flags tells them -/
def wordsOf (x : Int) : List Str := lowW x 32 ++ (if topAt x 32 = 0 ∧ x ≠ 0 then [] else [hexT (topAt x 32)])
theorem wordsOf_break {x : Int} {i : Nat} (hi : i < 32) (hb : bit x i = true) (h : topAt x (i + 1) = 0) : wordsOf x = lowW x (i + 1) := by
  have e : 32 = (i + 1) + (31 - i) := by omega
  have h1 := lowW_above h (31 - i)
  have h2 := topAt_above h (31 - i)
  rw [← e] at h1 h2
  have hx : x ≠ 0 := by rintro rfl; unfold bit at hb; simp at hb
  unfold wordsOf
  rw [h1, if_pos ⟨h2, hx⟩, List.append_nil]
theorem wordsOf_end {x : Int} (h : topAt x 32 = 0 → x = 0) : wordsOf x = lowW x 32 ++ [hexT (topAt x 32)] := by
  unfold wordsOf
  rw [if_neg (fun q => q.2 (h q.1))]
-- sizes
theorem hexT_length (x : Int) {m : Nat} (h : intBits x ≤ m) : (hexT x).length ≤ m + 4 := by
  have hx : x.natAbs < 2 ^ m := intBits_le_iff.mp h
  have h16 : x.natAbs < 16 ^ (m + 1) := by
    refine Nat.lt_of_lt_of_le hx (Nat.le_trans (Nat.pow_le_pow_left (by decide : 2 ≤ 16) m) (Nat.pow_le_pow_right (by decide) (Nat.le_succ _)))
  have hd := toDigits_len_pow (b := 16) (k := m + 1) (by decide) (by omega) h16
  unfold hexT baseText
  rw [Str.length_append, Str.length_append]
  have e1 : (if x < 0 then "-" else "").length ≤ 1 := by split <;> decide
  have e2 : (Str.ofString "0x").length = 2 := by decide +kernel
  have e3 : (Str.ofString (String.ofList (Nat.toDigits 16 x.natAbs))).length = (Nat.toDigits 16 x.natAbs).length := by rw [PySem.ofString_length, String.length_ofList]
  have e4 : (Str.ofString (if x < 0 then "-" else "")).length ≤ 1 := by rw [PySem.ofString_length]; exact e1
  omega
theorem topAt_bits {x : Int} {m : Nat} (h : intBits x ≤ m) (hm : 33 ≤ m) {n : Nat} (hn : n ≤ 32) : intBits (topAt x n) ≤ m + 1 := by
  have hx := intBits_le_iff.mp h
  have h1 : 0 ≤ x % 2 ^ n := Int.emod_nonneg _ (Int.ne_of_gt (two_pos n))
  have h2 : x % 2 ^ n < 2 ^ n := Int.emod_lt_of_pos _ (two_pos n)
  have e1 : ((2 ^ n : Nat) : Int) = 2 ^ n := by push_cast; rfl
  have h3 : 2 ^ n ≤ 2 ^ m := Nat.pow_le_pow_right (by decide) (by omega)
  refine intBits_le_iff.mpr ?_
  rw [Nat.pow_succ]
  unfold topAt
  omega
theorem wordN_length : ∀ i, i < 32 → (wordN i).length ≤ 18 := by decide +kernel
theorem lowW_size (x : Int) : ∀ n, n ≤ 32 → ((lowW x n).map (·.length)).sum ≤ 18 * n ∧ (lowW x n).length ≤ n
  | 0, _ => ⟨Nat.le_refl _, Nat.le_refl _⟩
  | n + 1, h => by
    obtain ⟨h1, h2⟩ := lowW_size x n (by omega)
    have h3 := wordN_length n (by omega)
    rw [lowW_succ]
    split <;> simp only [List.map_append, List.sum_append, List.length_append, List.map_cons, List.map_nil, List.sum_cons, List.sum_nil, List.length_cons, List.length_nil] <;> omega
theorem wordsOf_size {x : Int} {m : Nat} (h : intBits x ≤ m) (hm : 33 ≤ m) : ((wordsOf x).map (·.length)).sum ≤ m + 600 ∧ (wordsOf x).length ≤ 33 := by
  obtain ⟨h1, h2⟩ := lowW_size x 32 (by omega)
  have h3 := hexT_length (topAt x 32) (topAt_bits h hm (Nat.le_refl 32))
  unfold wordsOf
  split <;> simp only [List.map_append, List.sum_append, List.length_append, List.map_cons, List.map_nil, List.sum_cons, List.sum_nil, List.length_cons, List.length_nil] <;> omega
theorem join_len (sep : Str) (ys : List Str) : (Txt.join sep ys).length ≤ (ys.map (·.length)).sum + ys.length * sep.length := by
  show (Builtin.Str.glued sep ys).length ≤ _
  rw [StrLaws.glued_eq_join]
  exact StrLaws.join_length_le sep ys
end Mine
-- Base2
set_option maxHeartbeats 1000000
namespace Mine
open Builtin.Int (intBits)
-- small rules of our own
theorem map1 {m : Str → Option Value} {a : Str} {va : Value} (ha : m a = some va) : m = fun z => if z = a then some va else m z := by
  funext z
  by_cases h1 : z = a
  · rw [if_pos h1, h1, ha]
  · rw [if_neg h1]
theorem map2 {m : Str → Option Value} {a b : Str} {va vb : Value} (ha : m a = some va) (hb : m b = some vb) : m = fun z => if z = a then some va else if z = b then some vb else m z := by
  exact (map1 ha).trans (congrArg (fun (f : Str → Option Value) z => if z = a then some va else f z) (map1 hb))
theorem map3 {m : Str → Option Value} {a b c : Str} {va vb vc : Value} (ha : m a = some va) (hb : m b = some vb) (hc : m c = some vc) : m = fun z => if z = a then some va else if z = b then some vb else if z = c then some vc else m z := by
  exact (map1 ha).trans (congrArg (fun (f : Str → Option Value) z => if z = a then some va else f z) (map2 hb hc))
theorem map4 {m : Str → Option Value} {a b c d : Str} {va vb vc vd : Value} (ha : m a = some va) (hb : m b = some vb) (hc : m c = some vc) (hd : m d = some vd) : m = fun z => if z = a then some va else if z = b then some vb else if z = c then some vc else if z = d then some vd else m z := by
  exact (map1 ha).trans (congrArg (fun (f : Str → Option Value) z => if z = a then some va else f z) (map3 hb hc hd))
theorem sub_news {h₀ h : Heap} {L : Addr} {news news' : Led} (N : News h₀ L h news') (hs : ∀ p ∈ news, p ∈ news') : News h₀ L h news := fun p hp => N p (hs p hp)
theorem append_str {prog : Program} {w : World} {A : Around} {E : Value → Shared → Prop} {s : Shared} {h₀ : Heap} {L D : Addr} {m : Str → Option Value} {l : List (Str × Tok)} {ep : Nat} {rest : Led} {x : Str} {t : Tok} {Q : Value → Shared → Prop}
    (F : Fr h₀ L s.heap m) (N : News h₀ L s.heap ((D, listOf (strValues l).toArray ep) :: rest)) (hne : ∀ p ∈ rest, p.1 ≠ D) (hsz : l.length ≤ 1000000)
    (h : ∀ h', Fr h₀ L h' m → News h₀ L h' ((D, listOf (strValues (l ++ [(x, t)])).toArray (ep + 1)) :: rest) → Q .none { s with heap := h' }) :
    wpAny (model prog w) A (call (.builtin "list.append") [.ref D, .str x t]) Q E s :=
  append_K F N (Upd.head hne) (fun h' F' N' => h h' F' (by
    have e : (strValues l).toArray.push (Value.str x t) = (strValues (l ++ [(x, t)])).toArray := by simp [strValues]
    rw [← e]; exact N')) (by simp only [strValues, List.size_toArray, List.length_map, sizeLine_eq]; omega)
end Mine
-- C1
set_option maxHeartbeats 8000000
namespace Mine
open Builtin.Int (intBits)
theorem nth10 {t0 t1 t2 t3 t4 t5 t6 t7 t8 t9 : Tok} (place : Int) (h0 : 0 ≤ place) (h1 : place < 10) :
    ∃ tk, [Value.str (Str.ofString "OPTIMIZED") t0, .str (Str.ofString "NEWLOCALS") t1, .str (Str.ofString "VARARGS") t2, .str (Str.ofString "VARKEYWORDS") t3, .str (Str.ofString "NESTED") t4, .str (Str.ofString "GENERATOR") t5, .str (Str.ofString "NOFREE") t6, .str (Str.ofString "COROUTINE") t7, .str (Str.ofString "ITERABLE_COROUTINE") t8, .str (Str.ofString "ASYNC_GENERATOR") t9][place.toNat]? = some (.str (wordN place.toNat) tk) := by
  have h : place = 0 ∨ place = 1 ∨ place = 2 ∨ place = 3 ∨ place = 4 ∨ place = 5 ∨ place = 6 ∨ place = 7 ∨ place = 8 ∨ place = 9 := by omega
  rcases h with rfl | rfl | rfl | rfl | rfl | rfl | rfl | rfl | rfl | rfl <;> exact ⟨_, rfl⟩
theorem seq10 (place : Int) (h0 : 0 ≤ place) (h1 : place < 10) : seqIndex? place 10 = some place.toNat := by
  unfold seqIndex?
  have h2 : ¬ place < 0 := by omega
  simp [h2, h0]; omega
theorem word_hex : ∀ i : Nat, i < 32 → 10 ≤ i → Str.ofString "0x" ++ Txt.item (Str.ofString "1248") ((i : Int).fmod 4) ++ Txt.mul (Str.ofString "0") ((i : Int).fdiv 4) = wordN i := by decide +kernel
theorem c_word {w p loose mean mg mb} (place : Int) (t : Tok) (h0 : 0 ≤ place) (h1 : place < 32) (news : Led) :
    Ctr w p loose mean mg mb 50 [.int place t] 1 8 news (RetV news (fun t => .str (wordN place.toNat) t)) := by
  have hq : 0 ≤ place.fdiv 4 ∧ place.fdiv 4 ≤ 7 := by
    rw [Int.fdiv_eq_ediv_of_nonneg _ (by decide)]; omega
  obtain ⟨hq1, hq2⟩ := hq
  dsimp only [Ctr, RetV, TheProg]
  k_fill
  intro dp un gd cn cs a ccd cl outer A₀ base h₀ L m s Q E B F X N T hk hd hu hret
  refine wpAny_call ?_
  k_dflt ktr_enter
  k_steps
  · rename (place < 10) => h10
    rename News _ _ _ _ => N4
    obtain ⟨tk, e⟩ := nth10 place h0 h10
    refine item_tupleT (News.isTup N4 (List.Mem.head _)) (by omega) (by omega) (seq10 place h0 h10) e ?_
    k_steps
    rename Fr _ _ _ _ => F4
    rename News _ _ _ _ => N4
    exact hret _ _ _ F4 (sub_news N4 fun p hp => List.mem_cons_of_mem _ hp)
  · trace_state
    rename (¬ place < 10) => h10
    rename Fr _ _ _ _ => F4
    rename News _ _ _ _ => N4
    have e := word_hex place.toNat (by omega) (by omega)
    rw [Int.toNat_of_nonneg h0] at e
    rw [e]
    exact hret _ _ _ F4 (sub_news N4 fun p hp => List.mem_cons_of_mem _ hp)
end Mine
-- C2
set_option maxHeartbeats 8000000
namespace Mine
open Builtin.Int (intBits)
/-- a new list of texts comes back -/
abbrev RetL (news : Led) (ys : List Str) (h₀ : Heap) (L : Addr) (m : Str → Option Value) (s : Shared) (Q : Value → Shared → Prop) : Prop :=
  ∀ (D : Addr) (l : List (Str × Tok)) (ep : Nat) (h' : Heap) (tk' : Nat), l.map (·.1) = ys → (∀ p ∈ news, p.1 < D) → Fr h₀ L h' m → News h₀ L h' ((D, listOf (strValues l).toArray ep) :: news) → Q (.ref D) { s with heap := h', toks := tk' }
def sixteens (top : Int) : List Str := if top = 0 then [] else [hexT top]
theorem c_sixteens {w p loose mean mg mb} (top : Int) (t : Tok) (hx : intBits top ≤ 4000000) (news : Led) :
    Ctr w p loose mean mg mb 57 [.int top t] 1 8 news (RetL news (sixteens top)) := by
  dsimp only [Ctr, RetL, TheProg]
  k_fill
  intro dp un gd cn cs a ccd cl outer A₀ base h₀ L m s Q E B F X N T hk hd hu hret
  refine wpAny_call ?_
  k_dflt ktr_enter
  k_steps
  · refine P.hex_of_int ?_ (hsz := by
      exact Nat.le_trans (hexT_length _ hx) (by rw [sizeLine_eq]; omega))
    k_steps
    rename (top ≠ 0) => ht
    rename Fr _ _ _ _ => F4
    rename News _ _ _ _ => N4
    exact hret _ [(hexT top, _)] 0 _ _ (by unfold sixteens; rw [if_neg ht]; rfl) (by assumption) F4 N4
  · rename (top = 0) => ht
    rename Fr _ _ _ _ => F4
    rename News _ _ _ _ => N4
    exact hret _ [] 0 _ _ (by unfold sixteens; rw [if_pos ht]; rfl) (by assumption) F4 N4
end Mine
-- C3
set_option maxHeartbeats 8000000
namespace Mine
open Builtin.Int (intBits)
theorem hex_small : ∀ i, i < 32 → (hexT ((2 : Int) ^ i)).length ≤ sizeLine := by decide +kernel
def isText (y : Str) : PyData → Bool
  | .str x => x == y
  | _ => false
theorem isText_eq {y : Str} {d : PyData} (h : isText y d = true) : d = .str y := by
  cases d <;> simp [isText] at h
  rw [h]
theorem get_word {prog : Program} {w : World} {A : Around} {E : Value → Shared → Prop} {s : Shared} {h₀ : Heap} {a : Addr} {D : List (Int × PyData)} {t u : Tok} {i : Nat} {Q : Value → Shared → Prop}
    (K : KTD.Keyed h₀ a D) (hk : ∀ b o, h₀.get? b = some o → s.heap.get? b = some o) (hi : i < 32)
    (hD : ∀ i, i < 32 → isText (wordN i) ((Spec.lookup (.int ((2 : Int) ^ i)) (D.map fun p => (PyData.int p.1, p.2))).getD (.str (hexT ((2 : Int) ^ i)))) = true)
    (h : ∀ t, Q (.str (wordN i) t) { s with toks := s.toks + 1 }) :
    wpAny (model prog w) A (call (.builtin "dict.get") [.ref a, .int ((2 : Int) ^ i) t, .str (hexT ((2 : Int) ^ i)) u]) Q E s :=
  call_get2_intTab ((K.keep hk) prog w) (.str _ _) (fun v hv => by rw [isText_eq (hD i hi)] at hv; cases hv s.heap; exact h _)
section
local macro_rules | `(tactic| walk_at "call builtin:list.append") => `(tactic| (k_dflt (refine append_str (by assumption) (by assumption) (by assumption) (by omega) ?_); intro h' F' N'; (try k_sweep)))
local macro_rules | `(tactic| walk_at "call builtin:str.join") => `(tactic| (k_dflt (refine SC.join (News.isList (by assumption) (List.Mem.head _)) (by first | assumption | (rename (∀ _, List.map _ _ = wordsOf _) => q; exact q _)) (by assumption) ?_); intro _ _))
local macro_rules | `(tactic| walk_at "exec For Name Call cons cons") => `(tactic| (refine wpAny_For ?_))
local macro_rules | `(tactic| walk_at "call builtin:dict.get") => `(tactic| (k_dflt (refine get_word (by assumption) (Fr.keep (by assumption)) (by assumption) (by decide +kernel) ?_); intro _))
def prettyJ (x : Int) (D : Addr) (news : Led) (i : Nat) (m₁ : Str → Option Value) (news₁ : Led) : Prop :=
  (∃ tf : Tok, m₁ (Str.ofString "flags") = some (.int (topAt x i) tf)) ∧ m₁ (Str.ofString "names") = some (.ref D) ∧
    ∃ (l : List (Str × Tok)) (ep : Nat), news₁ = (D, listOf (strValues l).toArray ep) :: news ∧ l.map (·.1) = lowW x i ∧ (topAt x i = 0 → x = 0)
theorem c_pretty {w p loose mean mg mb} (x : Int) (t : Tok) (hx : intBits x ≤ 4000000) (news : Led) :
    Ctr w p loose mean mg mb 43 [.int x t] 1 8 news (RetV news (fun t => .str (Txt.join (Str.ofString ", ") (wordsOf x)) t)) := by
  have hx' : intBits x ≤ 4000000 := hx
  have hwz := wordsOf_size hx (by omega)
  have hok : JoinOk (Str.ofString ", ") (wordsOf x) = true := joinOk_of (by
    have e : (Str.ofString ", ").length = 2 := by decide +kernel
    rw [e]; omega)
  have hok' := hok
  dsimp only [Ctr, RetV, TheProg]
  k_fill
  intro dp un gd cn cs a ccd cl outer A₀ base h₀ L m s Q E B F X N T hk hd hu hret
  refine wpAny_call ?_
  k_dflt ktr_enter
  k_steps
  rename_i D _ hD _ F1 N1 _ _ _ _ _ hR F2 N2 _
  clear F1 N1
  refine for_range (n := 32) (prettyJ x D news) rfl hR (by decide) rfl F2 N2 rfl rfl ?hj ?hE ?turn ?done
  case hE => passes_own
  case hj =>
    exact ⟨⟨_, by rw [topAt_zero]; rfl⟩, rfl, [], 0, rfl, rfl, fun h => by rw [← topAt_zero x]; exact h⟩
  case turn =>
    rintro I i t1 m₁ news₁ h tk own (hi : i < 32) ⟨⟨tf, hm1⟩, hm2, l, ep, rfl, hl, hz⟩ hoff hown F3 N3 hI
    rw [map2 hm1 hm2] at F3
    dsimp only [List.cons_append] at N3
    clear F2 N2
    have hne : ∀ p ∈ news ++ own, p.1 ≠ D := by
      intro p hp
      rcases List.mem_append.mp hp with hp | hp
      · exact Nat.ne_of_lt (hD p hp)
      · have h1 := (hown p hp).1
        have h2 := hoff (D, _) (List.mem_cons_self ..)
        intro e
        exact h2 (by rw [← e]; exact h1)
    have hoff' : ∀ o, ∀ p ∈ (D, o) :: news, p.1 ∉ [I] := by
      intro o p hp
      rcases List.mem_cons.mp hp with e | hp
      · have e' : p.1 = D := by rw [e]
        rw [e']
        exact hoff (D, _) (List.mem_cons_self ..)
      · exact hoff p (List.mem_cons_of_mem _ hp)
    have hlen : l.length ≤ 32 := by
      have h1 := (lowW_size x i (by omega)).2
      rw [← hl, List.length_map] at h1; omega
    have e2 : (1 : Int) * 2 ^ ((0 + (i:Int)).toNat) = 2 ^ i := by simp
    k_steps
    · rename (Builtin.bitAnd _ _ ≠ 0) => hb
      rw [e2] at hb
      have hb' : bit x i = true := by
        rw [and_top] at hb
        revert hb
        cases bit x i <;> simp
      have hl' : ∀ t : Tok, (l ++ [(wordN i, t)]).map (·.1) = lowW x (i + 1) := fun t => by rw [List.map_append, hl, lowW_succ, hb']; rfl
      have hxor := xor_top x i hb'
      simp only [e2] at *
      refine P.hex_of_int ?_ (hsz := hex_small i hi)
      k_steps
      · rename (Builtin.bitXor _ _ ≠ 0) => hq
        rename Fr _ _ _ _ => F4
        rename News _ _ _ _ => N4
        rw [hxor] at hq
        exact ⟨_, _, _, (D, _) :: news, rfl, F4, N4, hoff' _, ⟨_, by rw [← hxor]; rfl⟩, rfl, _, _, rfl, hl' _, fun h => absurd h hq⟩
      · rename (Builtin.bitXor _ _ = 0) => hq
        rw [hxor] at hq
        have ht : ∀ tw : Tok, (l ++ [(wordN i, tw)]).map (·.1) = wordsOf x := fun tw => by rw [wordsOf_break hi hb' hq]; exact hl' tw
        dsimp only [TurnPost]
        k_steps
        rename Fr _ _ _ _ => F4
        rename News _ _ _ _ => N4
        exact hret _ _ _ F4 (sub_news N4 fun p hp => List.mem_cons_of_mem _ (List.mem_append_left _ hp))
    · rename (Builtin.bitAnd _ _ = 0) => hb
      rename Fr _ _ _ _ => F4
      rename News _ _ _ _ => N4
      rw [e2, and_top] at hb
      have hb' : bit x i = false := by
        revert hb
        cases bit x i
        · simp
        · intro h; exact absurd h (Int.ne_of_gt (two_pos i))
      refine ⟨_, _, _, (D, _) :: news, rfl, F4, N4, hoff' _, ⟨tf, ?_⟩, rfl, l, ep, rfl, ?_, ?_⟩
      · rw [topAt_succ, hb', if_neg Bool.false_ne_true, Int.sub_zero]; rfl
      · rw [lowW_succ, hb', hl]; simp
      · rw [topAt_succ, hb']; simpa using hz
  case done =>
    rintro m₁ news₁ h tk ⟨⟨tf, hm1⟩, hm2, l, ep, rfl, hl, hz⟩ F3 N3
    rw [map2 hm1 hm2] at F3
    clear F2 N2
    have hne : ∀ p ∈ news, p.1 ≠ D := fun p hp => Nat.ne_of_lt (hD p hp)
    have hlen : l.length ≤ 32 := by
      have h1 := (lowW_size x 32 (by omega)).2
      rw [← hl, List.length_map] at h1; omega
    have ht : ∀ tw : Tok, (l ++ [(hexT (topAt x 32), tw)]).map (·.1) = wordsOf x := fun tw => by rw [wordsOf_end hz, List.map_append, hl]; rfl
    k_steps
    refine P.hex_of_int ?_ (hsz := by
      exact Nat.le_trans (hexT_length _ (topAt_bits hx (by omega) (Nat.le_refl 32))) (by rw [sizeLine_eq]; omega))
    k_steps
    rename Fr _ _ _ _ => F4
    rename News _ _ _ _ => N4
    exact hret _ _ _ F4 (sub_news N4 fun p hp => List.mem_cons_of_mem _ hp)
end
end Mine
-- C4
set_option maxHeartbeats 8000000
namespace Mine
open Builtin.Int (intBits)
section
local macro_rules | `(tactic| walk_at "exec While Name cons nil") => `(tactic| (refine wpAny_While ?_))
local macro_rules | `(tactic| walk_at "call builtin:str.join") => `(tactic| (k_dflt (refine SC.join (News.isList (by assumption) (List.Mem.head _)) (by assumption) (by assumption) ?_); intro _ _))
abbrev tupOf (vs : List Value) : Obj := { cls := .type "tuple", data := .seq vs.toArray }
def replJ (x y z : Str) (t t1 t2 : Tok) (D : Addr) (news : Led) (n : Nat) (m₁ : Str → Option Value) (news₁ : Led) : Prop :=
  (n = 1 ∧ m₁ (Str.ofString "text") = some (.str x t) ∧ m₁ (Str.ofString "pairs") = some (.ref D) ∧ news₁ = (D, tupOf [.str y t1, .str z t2]) :: news) ∨
  (n = 0 ∧ ∃ tt D', m₁ (Str.ofString "text") = some (.str (Txt.join z (Txt.split x y)) tt) ∧ m₁ (Str.ofString "pairs") = some (.ref D') ∧ news₁ = (D', tupOf []) :: news)
theorem c_replace {w p loose mean mg mb} (x y z : Str) (t t1 t2 : Tok) (hx : x.length ≤ 4100000) (hy : (y.length == 0) = false) (hz : z.length ≤ 4) (news : Led) :
    Ctr w p loose mean mg mb 28 [.str x t, .str y t1, .str z t2] 1 8 news (RetV news (fun t => .str (Txt.join z (Txt.split x y)) t)) := by
  have hy1 : 1 ≤ y.length := by
    cases h : y.length with
    | zero => rw [h] at hy; cases hy
    | succ n => omega
  have hok : JoinOk z (Txt.split x y) = true := joinOk_of (by
    have h1 := split_weight x y hy1
    have h2 : (Txt.split x y).length * z.length ≤ (Txt.split x y).length * 4 := Nat.mul_le_mul_left _ hz
    omega)
  have hs : x.length + 2 ≤ sizeLine := by rw [sizeLine_eq]; omega
  dsimp only [Ctr, RetV, TheProg]
  k_fill
  intro dp un gd cn cs a ccd cl outer A₀ base h₀ L m s Q E B F X N T hk hd hu hret
  refine wpAny_call ?_
  k_dflt (refine' kp_rest ?k1 ?k2 ?k3 ?k4 ?k5 ?kA ?kF ?kK ?k6 ?k7 ?k8 ?kV ?kP ?kG ?kB ?_ ?c2 ?c3 ?c4 ?c5; (case kA => exact rfl); (case kF => exact rfl); (case kK => assumption); (case k1 => k_asm); (case k2 => k_asm); (case k3 => k_asm); (case k4 => k_asm); (case k5 => k_asm); (case k6 => k_is); (case k7 => k_is); (case k8 => ktr_room); (case kV => kl_lit); (case kP => exact rfl); (case kG => exact fun _ => rfl); (case kB => exact fun _ => locs rfl); (case c5 => decide); (case c2 => exact rfl); (case c3 => exact rfl); (case c4 => exact rfl); k_whole; intro D' g' L' h' l1 FG' F' N' B' X' T'; (try dsimp only); (try k_fold))
  k_steps
  rename Fr _ _ _ _ => F2
  rename News _ _ _ _ => N2
  refine while_own (n := 1) (replJ x y z t t1 t2 D' news) F2 N2 ?hj ?hE ?turn
  case hE => passes_own
  case hj => exact .inl ⟨rfl, rfl, rfl, rfl⟩
  case turn =>
    rintro n m₁ news₁ h tk (⟨rfl, hm1, hm2, rfl⟩ | ⟨rfl, tt, D2, hm1, hm2, rfl⟩) F3 N3
    · rw [map2 hm1 hm2] at F3
      clear F2 N2
      k_steps
      rename Fr _ _ _ _ => F4
      rename News _ _ _ _ => N4
      with_unfolding_all refine slice_tuple_from (a := 2) F4 N4 (News.isTup N4 (.tail _ (.head _))) (by decide) (Nat.le_refl 2) ?_
      intro h5 F5 N5
      k_steps
      rename Fr _ _ _ _ => F6
      rename News _ _ _ _ => N6
      refine ⟨0, _, _, _, (_, tupOf []) :: news, Nat.zero_lt_one, rfl, F6, sub_news N6 ?_, .inr ⟨rfl, _, _, rfl, rfl, rfl⟩⟩
      intro p hp
      rcases List.mem_cons.mp hp with rfl | hp
      · exact List.Mem.head _
      · exact .tail _ (.tail _ (.tail _ hp))
    · rw [map2 hm1 hm2] at F3
      clear F2 N2
      k_steps
      rename Fr _ _ _ _ => F4
      rename News _ _ _ _ => N4
      exact hret _ _ _ F4 (sub_news N4 fun p hp => List.mem_cons_of_mem _ hp)
end
end Mine
-- C6
set_option maxHeartbeats 8000000
namespace Mine
open Builtin.Int (intBits)
/-- the lowest filled place -/
def lowP (x : Int) : Nat := ((List.range 32).find? (bit x)).getD 0
theorem mod_zero_of_bits {x : Int} : ∀ n, (∀ j, j < n → bit x j = false) → x % 2 ^ n = 0
  | 0, _ => by simp [Int.emod_one]
  | n + 1, h => by
    have ih := mod_zero_of_bits n fun j hj => h j (by omega)
    have h1 := topAt_succ x n
    rw [h n (Nat.lt_succ_self n)] at h1
    unfold topAt at h1
    simp at h1
    omega
theorem lowP_spec {x : Int} (hx : x % 2 ^ 32 ≠ 0) : lowP x < 32 ∧ bit x (lowP x) = true ∧ ∀ j, j < lowP x → bit x j = false := by
  unfold lowP
  cases h : (List.range 32).find? (bit x) with
  | none =>
    exfalso
    refine hx (mod_zero_of_bits 32 fun j hj => ?_)
    have := List.find?_eq_none.mp h j (List.mem_range.mpr hj)
    simpa using this
  | some i =>
    obtain ⟨hb, hm⟩ := List.find?_eq_some_iff_append.mp h
    obtain ⟨as, bs, e, ha⟩ := hm
    show i < 32 ∧ bit x i = true ∧ ∀ j, j < i → bit x j = false
    have hi : i < 32 := by
      have : i ∈ List.range 32 := by rw [e]; simp
      exact List.mem_range.mp this
    refine ⟨hi, hb, fun j hj => ?_⟩
    have hlen : as.length = i := by
      have h1 : (List.range 32)[as.length]? = some i := by rw [e]; simp
      rw [List.getElem?_range] at h1
      · exact Option.some.inj h1
      · have : as.length < (List.range 32).length := by rw [e]; simp
        simpa using this
    have h2 : as[j]? = some j := by
      have h3 : (List.range 32)[j]? = some j := List.getElem?_range (by omega)
      rw [e, List.getElem?_append_left (by omega)] at h3
      exact h3
    have := ha j (List.mem_of_getElem? h2)
    simpa using this
theorem lowP_is {x : Int} {i : Nat} (hi : i < 32) (hb : bit x i = true) (ha : ∀ j, j < i → bit x j = false) : lowP x = i := by
  have hx : x % 2 ^ 32 ≠ 0 := by
    intro h
    have h1 : topAt x 32 = x := by unfold topAt; omega
    have h2 : x / 2 ^ i % 2 = 1 := by unfold bit at hb; simpa using hb
    have h3 : (2 : Int) ^ 32 = 2 ^ i * (2 * 2 ^ (31 - i)) := by
      rw [← Int.pow_succ', ← Int.pow_add]; congr 1; omega
    have h4 : x = 2 ^ i * (2 * 2 ^ (31 - i) * (x / 2 ^ 32)) := by
      rw [← Int.mul_assoc, ← h3, ← topAt_eq, h1]
    rw [h4, Int.mul_ediv_cancel_left _ (Int.ne_of_gt (two_pos i)), Int.mul_assoc, Int.mul_emod_right] at h2
    cases h2
  obtain ⟨h1, h2, h3⟩ := lowP_spec hx
  rcases Nat.lt_trichotomy (lowP x) i with h | h | h
  · rw [ha _ h] at h2; cases h2
  · exact h
  · rw [h3 _ h] at hb; cases hb
section
local macro_rules | `(tactic| walk_at "exec While Compare cons nil") => `(tactic| (refine wpAny_While ?_))
def lowJ (x : Int) (t : Tok) (news : Led) (n : Nat) (m₁ : Str → Option Value) (news₁ : Led) : Prop :=
  ∃ i tt, i + n = 32 ∧ m₁ (Str.ofString "x") = some (.int x t) ∧ m₁ (Str.ofString "place") = some (.int ((i : Nat) : Int) tt) ∧ news₁ = news ∧ ∀ j, j < i → bit x j = false
theorem c_lowest {w p loose mean mg mb} (x : Int) (t : Tok) (hx : x % 2 ^ 32 ≠ 0) (news : Led) :
    Ctr w p loose mean mg mb 71 [.int x t] 1 8 news (RetV news (fun t => .int (lowP x) t)) := by
  have hls := lowP_spec hx
  dsimp only [Ctr, RetV, TheProg]
  k_fill
  intro dp un gd cn cs a ccd cl outer A₀ base h₀ L m s Q E B F X N T hk hd hu hret
  refine wpAny_call ?_
  k_dflt ktr_enter
  k_steps
  rename Fr _ _ _ _ => F2
  rename News _ _ _ _ => N2
  refine while_own (n := 32) (lowJ x t news) F2 N2 ?hj ?hE ?turn
  case hE => passes_own
  case hj => exact ⟨0, _, rfl, rfl, rfl, rfl, fun _ h => absurd h (Nat.not_lt_zero _)⟩
  case turn =>
    rintro n m₁ news₁ h tk ⟨i, tt, hin, hm1, hm2, rfl, hlow⟩ F3 N3
    rw [map2 hm1 hm2] at F3
    clear F2 N2
    have hi : i < 32 := by
      rcases Nat.lt_or_ge i 32 with h | h
      · exact h
      · have := hlow (lowP x) (by omega)
        rw [hls.2.1] at this; cases this
    have hi0 : (0 : Int) ≤ (i : Int) := Int.natCast_nonneg i
    have hi1 : (i : Int) < 32 := by omega
    k_steps
    · rename (Int.fmod _ _ = 0) => hb
      rename Fr _ _ _ _ => F4
      rename News _ _ _ _ => N4
      have hb' : bit x i = false := by
        rw [Int.toNat_natCast, Int.fmod_eq_emod_of_nonneg _ (by decide), Int.fdiv_eq_ediv_of_nonneg _ (Int.le_of_lt (two_pos i))] at hb
        unfold bit
        rw [hb]; rfl
      refine ⟨n - 1, _, _, _, news₁, by omega, rfl, F4, N4, i + 1, _, by omega, rfl, by rw [show (((i + 1 : Nat)) : Int) = (i : Int) + 1 from by push_cast; rfl]; rfl, rfl, fun j hj => ?_⟩
      rcases Nat.lt_or_ge j i with h | h
      · exact hlow j h
      · rw [show j = i from by omega]; exact hb'
    · rename (Int.fmod _ _ ≠ 0) => hb
      rename Fr _ _ _ _ => F4
      rename News _ _ _ _ => N4
      have hb' : bit x i = true := by
        rw [Int.toNat_natCast, Int.fmod_eq_emod_of_nonneg _ (by decide), Int.fdiv_eq_ediv_of_nonneg _ (Int.le_of_lt (two_pos i))] at hb
        unfold bit
        rcases Int.emod_two_eq (x / 2 ^ i) with h | h
        · exact absurd h hb
        · rw [h]; rfl
      rw [← lowP_is hi hb' hlow]
      exact hret _ _ _ F4 N4
end
end Mine
-- C8
set_option maxHeartbeats 8000000
namespace Mine
open Builtin.Int (intBits)
abbrev NL : Str := Str.ofString "\n"
/-- what splitdoc makes of the lines -/
def splOf (ls : List Str) : Str × Str :=
  match ls with
  | [] => (Str.empty, Str.empty)
  | [a] => (a, Str.ofString "")
  | a :: b :: r => if Txt.rstrip b = Str.empty then (a, Txt.join NL r) else (Str.ofString "", Txt.join NL (a :: b :: r))
def spl (doc : Str) : Str × Str := splOf (Txt.split (Txt.strip doc) NL)
theorem split_pos (x y : Str) : 1 ≤ (Txt.split x y).length := by
  unfold Txt.split
  split
  · exact Nat.le_refl 1
  · split
    · exact Nat.le_refl 1
    · rw [len_partsBetween]; exact Nat.le_add_left _ _
theorem allLt_mem {d : Addr} {l : Led} : AllLt d l → ∀ p ∈ l, p.1 < d := by
  induction l with
  | nil => intro _ p hp; cases hp
  | cons q r ih =>
    intro h p hp
    rcases List.mem_cons.mp hp with e | hp
    · rw [e]; exact h.1
    · exact ih h.2 p hp
/-- a new pair of texts comes back -/
abbrev RetP (news : Led) (r : Str × Str) (h₀ : Heap) (L : Addr) (m : Str → Option Value) (s : Shared) (Q : Value → Shared → Prop) : Prop :=
  ∀ (D : Addr) (t u : Tok) (h' : Heap) (tk' : Nat), (∀ p ∈ news, p.1 < D) → Fr h₀ L h' m → News h₀ L h' ((D, { cls := .type "tuple", data := .seq [Value.str r.1 t, .str r.2 u].toArray }) :: news) → Q (.ref D) { s with heap := h', toks := tk' }
theorem spl_one {l : List (Str × Tok)} {doc y : Str} (hlook : l.map (·.1) = Txt.split (Txt.strip doc) (Str.ofString "\n")) (h1 : (l.length : Int) = 1) (hy : (l.map (·.1))[Int.toNat 0]? = some y) : spl doc = (y, Str.ofString "") := by
  unfold spl
  rw [show NL = Str.ofString "\n" from rfl, ← hlook]
  match l with
  | [] => cases hy
  | [(z, _)] =>
    have : z = y := by simpa using hy
    subst this; rfl
  | _ :: _ :: _ => simp at h1; omega
theorem spl_two {l : List (Str × Tok)} {doc y z : Str} (hlook : l.map (·.1) = Txt.split (Txt.strip doc) (Str.ofString "\n")) (hz : (l.map (·.1))[Int.toNat 1]? = some z) (hr : (((Txt.rstrip z).length : Nat) : Int) = 0)
    (hy : (l.map (·.1))[Int.toNat 0]? = some y) : spl doc = (y, Txt.join NL ((l.drop 2).map (·.1))) := by
  have hr' : Txt.rstrip z = Str.empty := by
    have h0 : (Txt.rstrip z).length = 0 := by omega
    exact Str.ext' (Array.eq_empty_of_size_eq_zero h0)
  unfold spl
  rw [show NL = Str.ofString "\n" from rfl, ← hlook]
  match l with
  | [] => cases hy
  | [_] => cases hz
  | (a, _) :: (b, _) :: r =>
    have e1 : a = y := by simpa using hy
    have e2 : b = z := by simpa using hz
    subst e1; subst e2
    show (if Txt.rstrip b = Str.empty then _ else _) = _
    rw [if_pos hr']; rfl
theorem spl_three {l : List (Str × Tok)} {doc z : Str} (hlook : l.map (·.1) = Txt.split (Txt.strip doc) (Str.ofString "\n")) (hz : (l.map (·.1))[Int.toNat 1]? = some z) (hr : (((Txt.rstrip z).length : Nat) : Int) ≠ 0) :
    spl doc = (Str.ofString "", Txt.join NL (l.map (·.1))) := by
  have hr' : Txt.rstrip z ≠ Str.empty := by
    intro h; rw [h] at hr; exact hr rfl
  unfold spl
  rw [show NL = Str.ofString "\n" from rfl, ← hlook]
  match l with
  | [] => cases hz
  | [_] => cases hz
  | (a, _) :: (b, _) :: r =>
    have e2 : b = z := by simpa using hz
    subst e2
    show (if Txt.rstrip b = Str.empty then _ else _) = _
    rw [if_neg hr']; rfl
theorem pick_two (l : List (Str × Tok)) (h : 2 ≤ l.length) : slicePick (strValues l).toArray (some 2) none none = (strValues (l.drop 2)).toArray := by
  rw [kms_pick_eq]
  congr 1
  unfold kms_pick kms_lo kms_hi strValues
  simp
  rw [Nat.min_eq_left h, List.take_of_length_le (by rw [List.length_drop, List.length_map]; exact Nat.le_refl _)]
theorem nl_len : NL.length = 1 := by decide +kernel
theorem join_ok_split {x : Str} {ys : List Str} (hx : x.length ≤ 5000000) (h : (ys.map (·.length)).sum + ys.length ≤ x.length + 1) : JoinOk NL ys = true := joinOk_of (by rw [nl_len]; omega)
theorem drop_weight : ∀ (n : Nat) (ys : List Str), ((ys.drop n).map (·.length)).sum + (ys.drop n).length ≤ (ys.map (·.length)).sum + ys.length
  | 0, _ => Nat.le_refl _
  | _ + 1, [] => Nat.le_refl _
  | n + 1, y :: r => by
    have := drop_weight n r
    simp only [List.drop_succ_cons, List.map_cons, List.sum_cons, List.length_cons]
    omega
section
local macro_rules | `(tactic| walk_at "pad 3") => `(tactic| fail "pad")
local macro_rules | `(tactic| walk_at "pad 2") => `(tactic| fail "pad")
local macro_rules | `(tactic| walk_at "call builtin:str.join") => `(tactic| (k_dflt (refine SC.join (News.isList (by with_reducible assumption) (List.Mem.head _)) (by with_reducible assumption) (by with_reducible assumption) ?_); intro _ _))
theorem c_splitdoc {w p loose mean mg mb} (doc : Str) (t : Tok) (hx : doc.length ≤ 5000000) (news : Led) :
    Ctr w p loose mean mg mb 21 [.str doc t] 1 8 news (RetP news (spl doc)) := by
  have hs : doc.length ≤ sizeLine := by rw [sizeLine_eq]; omega
  dsimp only [Ctr, RetP, TheProg]
  k_fill
  intro dp un gd cn cs a ccd cl outer A₀ base h₀ L m s Q E B F X N T hk hd hu hret
  refine wpAny_call ?_
  k_dflt ktr_enter
  k_steps
  · rename (List.map _ _ = Txt.split _ _) => hlook
    rename Fr _ _ _ _ => F4
    rename News _ _ _ _ => N4
    rename (_ ∧ AllLt _ _) => hlt
    rename (((List.length _ : Nat) : Int) = 1) => h1
    rename ((List.map _ _)[Int.toNat 0]? = some _) => hy
    have hspl := spl_one hlook h1 hy
    rw [hspl] at hret
    exact hret _ _ _ _ _ (allLt_mem hlt.2) F4 (sub_news N4 fun p hp => by
      rcases List.mem_cons.mp hp with rfl | hp
      · exact .head _
      · exact .tail _ (.tail _ hp))
  · rename (List.map _ _ = Txt.split _ _) => hlook
    rename ((Txt.strip doc).length ≤ _) => hsl
    rename (∀ a ∈ _, Str.length a ≤ _) => hall
    rename ((List.map _ _)[Int.toNat 1]? = some _) => hy
    have hyl := Nat.le_trans (hall _ (List.mem_of_getElem? hy)) hsl
    refine SC.rstrip ?_ (hsz := Nat.le_trans hyl hs)
    intro t5 k5
    k_steps
    · rename (((Str.length _ : Nat) : Int) ≠ 0) => hr
      have hspl := spl_three hlook hy hr
      have hw := split_weight (Txt.strip doc) NL (by rw [nl_len]; exact Nat.le_refl 1)
      rw [show NL = Str.ofString "\n" from rfl, ← hlook] at hw
      rename News _ _ _ _ => N4
      refine SC.join (News.isList N4 (List.Mem.head _)) rfl (join_ok_split (Nat.le_trans hsl hx) hw) ?_
      intro t6 k6
      k_steps
      rename Fr _ _ _ _ => F5
      rename News _ _ _ _ => N5
      rename (_ ∧ AllLt _ _) => hlt
      rw [hspl] at hret
      exact hret _ _ _ _ _ (allLt_mem hlt.2) F5 (sub_news N5 fun p hp => by
        rcases List.mem_cons.mp hp with rfl | hp
        · exact .head _
        · exact .tail _ (.tail _ hp))
    · rename (List.map _ _ = Txt.split _ _) => hlook2
      rename (((Str.length _ : Nat) : Int) = 0) => hr
      rename ((List.map _ _)[Int.toNat 0]? = some _) => hy0
      have hspl := spl_two hlook2 hy hr hy0
      have hw := split_weight (Txt.strip doc) NL (by rw [nl_len]; exact Nat.le_refl 1)
      rw [show NL = Str.ofString "\n" from rfl, ← hlook2] at hw
      rename (2 ≤ ((List.length _ : Nat) : Int)) => h2
      rename News _ _ _ _ => N4
      rw [pick_two _ (by omega)] at N4
      have hw2 := drop_weight 2 (List.map (fun x => x.1) ‹List (Str × Tok)›)
      rw [← List.map_drop] at hw2
      refine SC.join (News.isList N4 (List.Mem.head _)) rfl (join_ok_split (Nat.le_trans hsl hx) (Nat.le_trans hw2 hw)) ?_
      intro t6 k6
      k_steps
      rename Fr _ _ _ _ => F5
      rename News _ _ _ _ => N5
      rename (_ ∧ _ ∧ AllLt _ _) => hlt
      rw [hspl] at hret
      exact hret _ _ _ _ _ (allLt_mem hlt.2.2) F5 (sub_news N5 fun p hp => by
        rcases List.mem_cons.mp hp with rfl | hp
        · exact .head _
        · exact .tail _ (.tail _ (.tail _ hp)))
  · exfalso
    rename (List.map _ _ = Txt.split _ _) => hlook
    have := congrArg List.length hlook
    have hpos := split_pos (Txt.strip doc) NL
    rw [List.length_map] at this
    rw [show NL = Str.ofString "\n" from rfl] at hpos
    omega
end
end Mine
-- Text
set_option maxHeartbeats 1000000
namespace Mine
open PySem.Builtin.Str (strSub subAt occurrences)
theorem str_ext {a b : Str} (h : a.cps.toList = b.cps.toList) : a = b := Str.ext' (Array.toList_inj.mp h)
theorem tl_append (a b : Str) : (a ++ b).cps.toList = a.cps.toList ++ b.cps.toList := by rw [Str.cps_append, Array.toList_append]
theorem join_eq (sep : Str) (ws : List Str) : Txt.join sep ws = Str.join sep ws := StrLaws.glued_eq_join sep ws
theorem join_two (sep a b : Str) (r : List Str) : Str.join sep (a :: b :: r) = a ++ sep ++ Str.join sep (b :: r) := rfl
theorem tl_len (a : Str) : a.cps.toList.length = a.length := by simp [Str.length]
/-- the separator stands at i -/
theorem at_iff (x y : Str) (i : Nat) : StrLaws.At x y x.length i ↔ i + y.length ≤ x.length ∧ (x.cps.toList.drop i).take y.length = y.cps.toList := by
  unfold StrLaws.At
  rw [StrLaws.subAt_eq, beq_iff_eq]
theorem at_head {x y : Str} {c : Nat} {ys : List Nat} (hy : y.cps.toList = c :: ys) {i : Nat} (h : StrLaws.At x y x.length i) : x.cps.toList[i]? = some c := by
  have h2 := ((at_iff x y i).mp h).2
  rw [hy] at h2
  have hl : y.length = ys.length + 1 := by rw [← tl_len, hy]; rfl
  have h3 : ((x.cps.toList.drop i).take y.length)[0]? = some c := by rw [h2]; rfl
  rw [List.getElem?_take_of_lt (by omega), List.getElem?_drop] at h3
  simpa using h3
theorem sub_drop (x : Str) (a b : Nat) {l r : List Nat} (h : x.cps.toList.drop a = l ++ r) (hb : b = a + l.length) : (strSub x a b).cps.toList = l := by
  rw [StrLaws.strSub_toList, h, hb, Nat.add_sub_cancel_left, List.take_left']
  rfl
/-- the greedy cuts of a joined text part it into its pieces -/
theorem parts_join {x y : Str} {c : Nat} {ys : List Nat} (hy : y.cps.toList = c :: ys) : ∀ (ws : List Str) (a : Nat) (cuts : List Nat) (f : Nat), ws ≠ [] → (∀ w ∈ ws, c ∉ w.cps.toList) → a ≤ x.length →
    x.cps.toList.drop a = (Str.join y ws).cps.toList → StrLaws.ChainG x y x.length a cuts f → (∀ k, f ≤ k → ¬ StrLaws.At x y x.length k) → StrLaws.partsFrom x y.length a cuts = ws
  | [], _, _, _, h, _, _, _, _, _ => absurd rfl h
  | [w], a, cuts, f, _, hw, ha, hd, hc, hf => by
    have hd' : x.cps.toList.drop a = w.cps.toList := hd
    have hlen : x.length - a = w.cps.toList.length := by rw [← hd', List.length_drop, tl_len]
    cases cuts with
    | nil =>
      show [strSub x a x.length] = [w]
      congr 1
      refine str_ext (sub_drop x a _ (l := w.cps.toList) (r := []) (by rw [List.append_nil]; exact hd') ?_)
      omega
    | cons i r =>
      exfalso
      have hi := at_head hy hc.2.1
      have h1 : a ≤ i := hc.1
      refine hw w (List.mem_singleton.mpr rfl) ?_
      rw [← hd']
      refine List.mem_of_getElem? (i := i - a) ?_
      rw [List.getElem?_drop, Nat.add_sub_cancel' h1]; exact hi
  | w :: w2 :: r, a, cuts, f, _, hw, ha, hd, hc, hf => by
    rw [join_two, tl_append, tl_append, List.append_assoc] at hd
    have hlen : x.length - a = w.length + (y.length + (Str.join y (w2 :: r)).length) := by
      have := congrArg List.length hd
      rw [List.length_drop, List.length_append, List.length_append, tl_len, tl_len, tl_len, tl_len] at this
      exact this
    have hA : StrLaws.At x y x.length (a + w.length) := by
      refine (at_iff _ _ _).mpr ⟨by omega, ?_⟩
      rw [← List.drop_drop, hd, List.drop_left' (tl_len w), List.take_left' (tl_len y)]
    cases cuts with
    | nil =>
      exfalso
      have e : f = a := hc
      exact hf (a + w.length) (by omega) hA
    | cons i cs =>
      obtain ⟨h1, h2, h3, h4⟩ := hc
      have hi := at_head hy h2
      have hle : i ≤ a + w.length := by
        rcases Nat.lt_or_ge (a + w.length) i with h | h
        · exact absurd hA (h3 _ (by omega) h)
        · exact h
      have hge : a + w.length ≤ i := by
        rcases Nat.lt_or_ge i (a + w.length) with h | h
        · exfalso
          refine hw w (List.mem_cons_self ..) (List.mem_of_getElem? (i := i - a) ?_)
          have h5 : (x.cps.toList.drop a)[i - a]? = some c := by rw [List.getElem?_drop, Nat.add_sub_cancel' h1]; exact hi
          rw [hd, List.getElem?_append_left (by rw [tl_len]; omega)] at h5
          exact h5
        · exact h
      have ei : i = a + w.length := by omega
      subst ei
      show strSub x a (a + w.length) :: StrLaws.partsFrom x y.length (a + w.length + y.length) cs = w :: w2 :: r
      congr 1
      · exact str_ext (sub_drop x a _ hd (by rw [tl_len]))
      · refine parts_join hy (w2 :: r) _ cs f (by simp) (fun v hv => hw v (List.mem_cons_of_mem _ hv)) (by omega) ?_ h4 hf
        rw [Nat.add_assoc, ← List.drop_drop, ← List.drop_drop, hd, List.drop_left' (tl_len w), List.drop_left' (tl_len y)]
theorem kind_pos (x : Str) : 1 ≤ Builtin.Str.strKind x := by
  unfold Builtin.Str.strKind
  split
  · exact Nat.le_refl 1
  · split <;> decide
/-- a joined text splits into its pieces -/
theorem split_join {y : Str} {c : Nat} {ys : List Nat} (hy : y.cps.toList = c :: ys) (hk : Builtin.Str.strKind y = 1) {ws : List Str} (hne : ws ≠ []) (hw : ∀ w ∈ ws, c ∉ w.cps.toList) : Txt.split (Str.join y ws) y = ws := by
  have hyl : y.length = ys.length + 1 := by rw [← tl_len, hy]; rfl
  obtain ⟨f, h1, h2⟩ := StrLaws.occ_tight (Str.join y ws) y (by omega)
  have key := parts_join hy ws 0 _ f hne hw (Nat.zero_le _) (by rw [List.drop_zero]) h1 h2
  unfold Txt.split
  split
  · rename_i h
    have hk2 := kind_pos (Str.join y ws)
    have hlt : (Str.join y ws).length < y.length := by
      rw [Bool.or_eq_true, decide_eq_true_eq, decide_eq_true_eq] at h
      rcases h with h | h
      · exact h
      · omega
    match ws, hne with
    | [w], _ => rfl
    | w :: w2 :: r, _ =>
      exfalso
      rw [join_two, Str.length_append, Str.length_append] at hlt
      omega
  · split
    · rename_i h
      rw [List.isEmpty_iff.mp h] at key
      have e : StrLaws.partsFrom (Str.join y ws) y.length 0 [] = [strSub (Str.join y ws) 0 (Str.join y ws).length] := rfl
      rw [e, StrLaws.sub_whole] at key
      exact key
    · rw [StrLaws.partsBetween_eq]; exact key
/-- white signs ahead and behind are struck -/
theorem takeWhile_stop_at {p : Nat → Bool} : ∀ {a : List Nat} {c : Nat} {r : List Nat}, (∀ k ∈ a, p k = true) → p c = false → (a ++ c :: r).takeWhile p = a
  | [], c, r, _, hc => by simp [hc]
  | b :: a, c, r, ha, hc => by
    rw [List.cons_append, List.takeWhile_cons, if_pos (ha b (List.mem_cons_self ..)), takeWhile_stop_at (fun k hk => ha k (List.mem_cons_of_mem _ hk)) hc]
theorem strip_core {x : Str} {a core b : List Nat} (hx : x.cps.toList = a ++ core ++ b) (ha : ∀ k ∈ a, Unicode.isSpace k = true) (hb : ∀ k ∈ b, Unicode.isSpace k = true)
    {c d : Nat} {core1 core2 : List Nat} (h1 : core = c :: core1) (hc : Unicode.isSpace c = false) (h2 : core = core2 ++ [d]) (hd : Unicode.isSpace d = false) : (Txt.strip x).cps.toList = core := by
  unfold Txt.strip
  rw [PyProof.Rows.stripBy_eq]
  have hlo : stripLo Unicode.isSpace true x = a.length := by
    unfold stripLo
    rw [if_pos rfl, hx, h1, List.append_assoc, List.cons_append, takeWhile_stop_at ha hc]
  have hdrop : x.cps.toList.drop a.length = core ++ b := by rw [hx, List.append_assoc, List.drop_left' rfl]
  have hhi : stripHi Unicode.isSpace true x a.length = a.length + core.length := by
    unfold stripHi
    have hl : x.length = a.length + core.length + b.length := by rw [← tl_len, hx, List.length_append, List.length_append]
    rw [if_pos rfl, hdrop, List.reverse_append, h2, List.reverse_append]
    have e : (b.reverse ++ ([d].reverse ++ core2.reverse)).takeWhile Unicode.isSpace = b.reverse := takeWhile_stop_at (fun k hk => hb k (List.mem_reverse.mp hk)) hd
    rw [e, List.length_reverse, ← h2, hl]
    omega
  rw [hlo, hhi]
  exact sub_drop x _ _ hdrop rfl
theorem rstrip_ne {x : Str} {core2 : List Nat} {d : Nat} (h2 : x.cps.toList = core2 ++ [d]) (hd : Unicode.isSpace d = false) : Txt.rstrip x ≠ Str.empty := by
  unfold Txt.rstrip
  rw [PyProof.Rows.stripBy_eq]
  have hlo : stripLo Unicode.isSpace false x = 0 := rfl
  have hhi : stripHi Unicode.isSpace true x 0 = x.length := by
    unfold stripHi
    rw [if_pos rfl, List.drop_zero, h2, List.reverse_append]
    have e : (([d].reverse ++ core2.reverse)).takeWhile Unicode.isSpace = [] := by
      show (d :: core2.reverse).takeWhile Unicode.isSpace = []
      rw [List.takeWhile_cons, if_neg (by rw [hd]; exact Bool.false_ne_true)]
    rw [e]; rfl
  rw [hlo, hhi, StrLaws.sub_whole]
  intro h
  rw [h] at h2
  have : ([] : List Nat) = core2 ++ [d] := h2
  simp at this
end Mine
-- Text2
set_option maxHeartbeats 1000000
namespace Mine
abbrev SEP : Str := Str.ofString "\n \n\n"
abbrev COMMA : Str := Str.ofString ", "
abbrev BL : Str := Str.ofString " "
abbrev EM : Str := Str.ofString ""
theorem sep_tl : SEP.cps.toList = [10, 32, 10, 10] := by decide +kernel
theorem comma_tl : COMMA.cps.toList = [44, 32] := by decide +kernel
theorem nl_tl : NL.cps.toList = [10] := by decide +kernel
theorem bl_tl : BL.cps.toList = [32] := by decide +kernel
theorem em_tl : EM.cps.toList = [] := by decide +kernel
theorem em_eq : EM = Str.empty := str_ext (by rw [em_tl]; rfl)
/-- a word: some signs, none of them white or a comma -/
def Good (w : Str) : Prop := w.cps.toList ≠ [] ∧ ∀ c ∈ w.cps.toList, 33 ≤ c ∧ c < 127 ∧ c ≠ 44
theorem space_no : ∀ c, c < 127 → 33 ≤ c → Unicode.isSpace c = false := by decide +kernel
theorem Good.head {w : Str} (h : Good w) : ∃ c r, w.cps.toList = c :: r ∧ Unicode.isSpace c = false := by
  cases hw : w.cps.toList with
  | nil => exact absurd hw h.1
  | cons c r =>
    have hc := h.2 c (by rw [hw]; exact List.mem_cons_self ..)
    exact ⟨c, r, rfl, space_no c hc.2.1 hc.1⟩
theorem Good.last {w : Str} (h : Good w) : ∃ r d, w.cps.toList = r ++ [d] ∧ Unicode.isSpace d = false := by
  have e := List.dropLast_concat_getLast h.1
  have hd := h.2 _ (List.getLast_mem h.1)
  exact ⟨_, _, e.symm, space_no _ hd.2.1 hd.1⟩
theorem Good.no {w : Str} (h : Good w) {c : Nat} (hc : c = 10 ∨ c = 32 ∨ c = 44) : c ∉ w.cps.toList := by
  intro hm
  have := h.2 c hm
  omega
theorem split_comma {ws : List Str} (hne : ws ≠ []) (hg : ∀ w ∈ ws, Good w) : Txt.split (Txt.join COMMA ws) COMMA = ws := by
  rw [join_eq]
  exact split_join comma_tl (by decide +kernel) hne fun w hw => (hg w hw).no (by omega)
theorem split_sep {ws : List Str} (hne : ws ≠ []) (hg : ∀ w ∈ ws, Good w) : Txt.split (Txt.join SEP ws) SEP = ws := by
  rw [join_eq]
  exact split_join sep_tl (by decide +kernel) hne fun w hw => (hg w hw).no (by omega)
theorem split_nl {ws : List Str} (hne : ws ≠ []) (hg : ∀ w ∈ ws, 10 ∉ w.cps.toList) : Txt.split (Txt.join NL ws) NL = ws := by
  rw [join_eq]
  exact split_join nl_tl (by decide +kernel) hne hg
/-- the lines of a page -/
noncomputable def linesOf : List Str → List Str
  | [] => []
  | [w] => [w]
  | w :: v :: r => w :: BL :: EM :: linesOf (v :: r)
theorem linesOf_ne : ∀ {ws : List Str}, ws ≠ [] → linesOf ws ≠ []
  | [], h => absurd rfl h
  | [_], _ => by simp [linesOf]
  | _ :: _ :: _, _ => by simp [linesOf]
theorem linesOf_no : ∀ {ws : List Str}, (∀ w ∈ ws, Good w) → ∀ w ∈ linesOf ws, 10 ∉ w.cps.toList
  | [], _, _, h => nomatch h
  | [w], hg, v, hv => by rw [List.mem_singleton.mp hv]; exact (hg w (List.mem_singleton.mpr rfl)).no (by omega)
  | w :: v :: r, hg, u, hu => by
    rcases List.mem_cons.mp hu with rfl | hu
    · exact (hg _ (List.mem_cons_self ..)).no (by omega)
    · rcases List.mem_cons.mp hu with rfl | hu
      · rw [bl_tl]; decide
      · rcases List.mem_cons.mp hu with rfl | hu
        · rw [em_tl]; decide
        · exact linesOf_no (ws := v :: r) (fun x hx => hg x (List.mem_cons_of_mem _ hx)) u hu
theorem join_cons {sep w : Str} {r : List Str} (h : r ≠ []) : Str.join sep (w :: r) = w ++ sep ++ Str.join sep r := by
  cases r with
  | nil => exact absurd rfl h
  | cons a b => rfl
theorem join_lines : ∀ {ws : List Str}, ws ≠ [] → Str.join NL (linesOf ws) = Str.join SEP ws
  | [], h => absurd rfl h
  | [_], _ => rfl
  | w :: v :: r, _ => by
    have ih := join_lines (ws := v :: r) (by simp)
    show Str.join NL (w :: BL :: EM :: linesOf (v :: r)) = _
    rw [join_two, join_two, join_cons (linesOf_ne (by simp)), ih, join_two]
    refine str_ext ?_
    simp only [tl_append, nl_tl, sep_tl, bl_tl, em_tl]
    simp
/-- a page -/
abbrev pageOf (ws : List Str) : Str := Txt.join SEP ws
theorem page_head {sep : Str} : ∀ {ws : List Str}, ws ≠ [] → (∀ w ∈ ws, Good w) → ∃ c r, (Str.join sep ws).cps.toList = c :: r ∧ Unicode.isSpace c = false
  | [], h, _ => absurd rfl h
  | [w], _, hg => (hg w (List.mem_singleton.mpr rfl)).head
  | w :: v :: r, _, hg => by
    obtain ⟨c, t, e, hc⟩ := (hg w (List.mem_cons_self ..)).head
    rw [join_two, tl_append, tl_append, e]
    exact ⟨c, _, rfl, hc⟩
theorem page_last {sep : Str} : ∀ {ws : List Str}, ws ≠ [] → (∀ w ∈ ws, Good w) → ∃ r d, (Str.join sep ws).cps.toList = r ++ [d] ∧ Unicode.isSpace d = false
  | [], h, _ => absurd rfl h
  | [w], _, hg => (hg w (List.mem_singleton.mpr rfl)).last
  | w :: v :: r, _, hg => by
    obtain ⟨t, d, e, hd⟩ := page_last (sep := sep) (ws := v :: r) (by simp) fun x hx => hg x (List.mem_cons_of_mem _ hx)
    rw [join_two, tl_append, e, ← List.append_assoc]
    exact ⟨_, d, rfl, hd⟩
theorem strip_page {sep x : Str} {ws : List Str} (hne : ws ≠ []) (hg : ∀ w ∈ ws, Good w) {a b : List Nat} (hx : x.cps.toList = a ++ (Txt.join sep ws).cps.toList ++ b) (ha : ∀ k ∈ a, Unicode.isSpace k = true) (hb : ∀ k ∈ b, Unicode.isSpace k = true) :
    Txt.strip x = Txt.join sep ws := by
  rw [join_eq] at hx ⊢
  obtain ⟨c, r, e1, h1⟩ := page_head (sep := sep) hne hg
  obtain ⟨t, d, e2, h2⟩ := page_last (sep := sep) hne hg
  exact str_ext (strip_core hx ha hb e1 h1 e2 h2)
/-- what splitdoc gives of a page, white signs around it or not -/
def nextOf (r : List Str) : Str := if r = [] then EM else NL ++ pageOf r
theorem rstrip_bl : Txt.rstrip BL = Str.empty := by decide +kernel
theorem spl_page {x w : Str} {r : List Str} (hg : ∀ v ∈ w :: r, Good v) {a b : List Nat} (hx : x.cps.toList = a ++ (pageOf (w :: r)).cps.toList ++ b) (ha : ∀ k ∈ a, Unicode.isSpace k = true) (hb : ∀ k ∈ b, Unicode.isSpace k = true) :
    spl x = (w, nextOf r) := by
  unfold spl
  rw [strip_page (by simp) hg hx ha hb, join_eq, ← join_lines (by simp), ← join_eq, split_nl (linesOf_ne (by simp)) (linesOf_no hg)]
  cases r with
  | nil => rfl
  | cons v r =>
    show (if Txt.rstrip BL = Str.empty then (w, Txt.join NL (EM :: linesOf (v :: r))) else (Str.ofString "", Txt.join NL (w :: BL :: EM :: linesOf (v :: r)))) = _
    rw [if_pos rstrip_bl]
    have e : nextOf (v :: r) = NL ++ pageOf (v :: r) := rfl
    rw [e]
    congr 1
    rw [join_eq, join_cons (linesOf_ne (by simp)), join_lines (by simp)]
    show EM ++ NL ++ Str.join SEP (v :: r) = NL ++ Txt.join SEP (v :: r)
    rw [join_eq]
    refine str_ext ?_
    simp only [tl_append, nl_tl, em_tl]
    simp
theorem spl_rows {ws : List Str} (hne : ws ≠ []) (hg : ∀ v ∈ ws, Good v) : spl (Txt.join NL ws) = if ws.length = 1 then (Txt.join NL ws, EM) else (EM, Txt.join NL ws) := by
  unfold spl
  rw [strip_page (sep := NL) (x := Txt.join NL ws) (a := []) (b := []) hne hg (by simp) (fun _ h => nomatch h) (fun _ h => nomatch h), split_nl hne fun w hw => (hg w hw).no (by omega)]
  match ws, hne with
  | [w], _ => rfl
  | w :: v :: r, _ =>
    obtain ⟨t, d, e, hd⟩ := (hg v (List.mem_cons_of_mem _ (List.mem_cons_self ..))).last
    show (if Txt.rstrip v = Str.empty then (w, Txt.join NL r) else (Str.ofString "", Txt.join NL (w :: v :: r))) = _
    rw [if_neg (rstrip_ne e hd), if_neg (by simp)]
/-- a line end stands in the rows if there are two of them -/
theorem nl_in_rows {ws : List Str} (hne : ws ≠ []) (hg : ∀ v ∈ ws, Good v) : (10 ∈ (Txt.join NL ws).cps.toList) ↔ ws.length ≠ 1 := by
  rw [join_eq]
  match ws, hne with
  | [w], _ =>
    refine ⟨fun h => absurd h ((hg w (List.mem_singleton.mpr rfl)).no (by omega)), fun h => absurd rfl h⟩
  | w :: v :: r, _ =>
    rw [join_two, tl_append, tl_append, nl_tl]
    simp
end Mine
-- Words
set_option maxHeartbeats 1000000
namespace Mine
def goodB (w : Str) : Bool := !w.cps.toList.isEmpty && w.cps.toList.all fun c => decide (33 ≤ c) && decide (c < 127) && decide (c ≠ 44)
theorem good_of {w : Str} (h : goodB w = true) : Good w := by
  unfold goodB at h
  rw [Bool.and_eq_true] at h
  refine ⟨by intro e; rw [e] at h; exact absurd h.1 (by decide), fun c hc => ?_⟩
  have := List.all_eq_true.mp h.2 c hc
  simp only [Bool.and_eq_true, decide_eq_true_eq] at this
  exact ⟨this.1.1, this.1.2, this.2⟩
theorem good_word (i : Nat) (hi : i < 32) : Good (wordN i) := good_of ((by decide +kernel : ∀ i, i < 32 → goodB (wordN i) = true) i hi)
theorem digit_ok : ∀ d, d < 16 → 33 ≤ (Nat.digitChar d).toNat ∧ (Nat.digitChar d).toNat < 127 ∧ (Nat.digitChar d).toNat ≠ 44 := by decide +kernel
theorem digits_ok (n : Nat) : ∀ c ∈ Nat.toDigits 16 n, 33 ≤ c.toNat ∧ c.toNat < 127 ∧ c.toNat ≠ 44 := by
  induction n using Nat.strongRecOn with
  | ind n ih =>
    intro c hc
    rw [Nat.toDigits_eq_if (by decide)] at hc
    split at hc
    · rename_i h
      rw [List.mem_singleton.mp hc]; exact digit_ok n h
    · rename_i h
      rcases List.mem_append.mp hc with hc | hc
      · exact ih (n / 16) (Nat.div_lt_self (by omega) (by decide)) c hc
      · rw [List.mem_singleton.mp hc]; exact digit_ok _ (Nat.mod_lt _ (by decide))
theorem hexT_tl (x : Int) : (hexT x).cps.toList = (if x < 0 then [45] else []) ++ [48, 120] ++ (Nat.toDigits 16 x.natAbs).map Char.toNat := by
  unfold hexT baseText
  rw [tl_append, tl_append]
  congr 1
  · congr 1
    split <;> decide +kernel
  · rw [Str.ofString_eq_toList]
    simp
theorem good_hex (x : Int) : Good (hexT x) := by
  constructor
  · rw [hexT_tl]; simp
  · intro c hc
    rw [hexT_tl] at hc
    rcases List.mem_append.mp hc with hc | hc
    · rcases List.mem_append.mp hc with hc | hc
      · split at hc
        · rw [List.mem_singleton.mp hc]; decide
        · cases hc
      · simp at hc; omega
    · obtain ⟨d, hd, rfl⟩ := List.mem_map.mp hc
      exact digits_ok _ d hd
theorem lowW_good (x : Int) : ∀ w ∈ lowW x 32, Good w := by
  intro w hw
  obtain ⟨i, hi, rfl⟩ := List.mem_map.mp hw
  exact good_word i (List.mem_range.mp (List.mem_filter.mp hi).1)
theorem wordsOf_good (x : Int) : ∀ w ∈ wordsOf x, Good w := by
  intro w hw
  unfold wordsOf at hw
  rcases List.mem_append.mp hw with hw | hw
  · exact lowW_good x w hw
  · split at hw
    · cases hw
    · rw [List.mem_singleton.mp hw]; exact good_hex _
-- the places
theorem bit_shift (x : Int) (a k : Nat) : bit x (a + k) = bit (x / 2 ^ a) k := by
  unfold bit
  rw [Int.pow_add, Int.ediv_ediv_of_nonneg (Int.le_of_lt (two_pos a))]
theorem bit_not (q : Int) (k : Nat) : bit (-q - 1) k = !bit q k := by
  unfold bit
  have h := (kbt_below q (two_pos k)).1
  have e : (-q - 1) / 2 ^ k = -(q / 2 ^ k) - 1 := by omega
  rw [e]
  generalize q / 2 ^ k = r
  rcases Int.emod_two_eq r with h | h
  · have : (-r - 1) % 2 = 1 := by omega
    rw [h, this]; rfl
  · have : (-r - 1) % 2 = 0 := by omega
    rw [h, this]; rfl
/-- a number by its lowest filled place -/
theorem by_lowest {x : Int} (hx : x % 2 ^ 32 ≠ 0) : ∃ q, x = 2 ^ lowP x * (2 * q + 1) ∧ x / 2 ^ (lowP x + 1) = q := by
  obtain ⟨h1, h2, h3⟩ := lowP_spec hx
  have hm := mod_zero_of_bits (lowP x) h3
  have e := Int.mul_ediv_add_emod x (2 ^ lowP x)
  rw [hm, Int.add_zero] at e
  have hb : x / 2 ^ lowP x % 2 = 1 := by unfold bit at h2; simpa using h2
  refine ⟨x / 2 ^ lowP x / 2, ?_, div_succ x (lowP x)⟩
  have : 2 * (x / 2 ^ lowP x / 2) + 1 = x / 2 ^ lowP x := by omega
  rw [this]; exact e.symm
/-- the places above p, up to the 32nd -/
abbrev aboveL (p : Nat) : List Nat := List.range' (p + 1) (31 - p)
theorem range_at {p : Nat} (hp : p < 32) : List.range 32 = List.range p ++ p :: aboveL p := by
  have e : 32 = p + (1 + (31 - p)) := by omega
  conv => lhs; rw [e]
  rw [List.range_eq_range', ← List.range'_append (s := 0) (m := p) (n := 1 + (31 - p)) (step := 1), List.range_eq_range']
  congr 1
  rw [Nat.add_comm 1, List.range'_succ]
  simp
theorem lowW_at {x : Int} {p : Nat} (hp : p < 32) (h : ∀ j, j < p → bit x j = false) : lowW x 32 = (if bit x p then [wordN p] else []) ++ ((aboveL p).filter (bit x)).map wordN := by
  unfold lowW
  rw [range_at hp, List.filter_append, List.map_append, List.filter_cons]
  have e : (List.range p).filter (bit x) = [] := List.filter_eq_nil_iff.mpr fun j hj => by rw [h j (List.mem_range.mp hj)]; decide
  rw [e]
  by_cases hb : bit x p = true <;> simp [hb]
theorem filter_above {x y : Int} {p : Nat} (h : ∀ j, p < j → j < 32 → bit x j = bit y j) (hp : p < 32) : (aboveL p).filter (bit x) = (aboveL p).filter (bit y) := by
  refine List.filter_congr fun j hj => ?_
  have := List.mem_range'.mp hj
  obtain ⟨i, hi, e⟩ := this
  exact h j (by omega) (by omega)
theorem wordsOf_zero {x : Int} (hx : x % 2 ^ 32 = 0) : wordsOf x = [hexT x] := by
  have ht : topAt x 32 = x := by unfold topAt; omega
  have hl : lowW x 32 = [] := by
    unfold lowW
    have e : (List.range 32).filter (bit x) = [] := List.filter_eq_nil_iff.mpr fun j hj => by
      have hj' := List.mem_range.mp hj
      intro hb
      by_cases h0 : ∃ i, i < 32 ∧ bit x i = true
      · -- the least such place gives a rest
        have hne : x % 2 ^ 32 ≠ 0 := by
          have hf : (List.range 32).find? (bit x) ≠ none := by
            intro hn
            have := List.find?_eq_none.mp hn j hj
            exact this hb
          intro hz
          cases hq : (List.range 32).find? (bit x) with
          | none => exact hf hq
          | some i =>
            have hlow : lowP x = i := by unfold lowP; rw [hq]; rfl
            obtain ⟨hbi, as, bs, e, ha⟩ := List.find?_eq_some_iff_append.mp hq
            have hi : i < 32 := List.mem_range.mp (by rw [e]; simp)
            have h1 : x / 2 ^ i % 2 = 1 := by unfold bit at hbi; simpa using hbi
            have h3 : (2 : Int) ^ 32 = 2 ^ i * (2 * 2 ^ (31 - i)) := by
              rw [← Int.pow_succ', ← Int.pow_add]; congr 1; omega
            have h4 : x = 2 ^ i * (2 * 2 ^ (31 - i) * (x / 2 ^ 32)) := by
              rw [← Int.mul_assoc, ← h3, ← topAt_eq, ht]
            rw [h4, Int.mul_ediv_cancel_left _ (Int.ne_of_gt (two_pos i)), Int.mul_assoc, Int.mul_emod_right] at h1
            cases h1
        exact hne hx
      · exact h0 ⟨j, hj', hb⟩
    rw [e]; rfl
  unfold wordsOf
  rw [hl, ht, if_neg (fun h => h.2 h.1)]; rfl
end Mine
-- Words2
set_option maxHeartbeats 1000000
namespace Mine
theorem two32 : (2 : Int) ^ 32 = 4294967296 := by decide
theorem ne_zero_of {x : Int} (hx : x % 2 ^ 32 ≠ 0) : x ≠ 0 := by rintro rfl; exact hx (by decide)
theorem words_mine {x : Int} (hx : x % 2 ^ 32 ≠ 0) : wordsOf x = wordN (lowP x) :: (((aboveL (lowP x)).filter (bit x)).map wordN ++ sixteens (topAt x 32)) := by
  obtain ⟨h1, h2, h3⟩ := lowP_spec hx
  unfold wordsOf sixteens
  rw [lowW_at h1 h3, if_pos h2]
  have e : (if topAt x 32 = 0 ∧ x ≠ 0 then ([] : List Str) else [hexT (topAt x 32)]) = if topAt x 32 = 0 then [] else [hexT (topAt x 32)] := by
    by_cases h : topAt x 32 = 0
    · rw [if_pos ⟨h, ne_zero_of hx⟩, if_pos h]
    · rw [if_neg (fun q => h q.1), if_neg h]
  rw [e]; simp
theorem low_neg {x : Int} (hx : x % 2 ^ 32 ≠ 0) : lowP (-x) = lowP x ∧ (-x) % 2 ^ 32 ≠ 0 ∧ ∀ j, lowP x < j → bit (-x) j = !bit x j := by
  obtain ⟨h1, h2, h3⟩ := lowP_spec hx
  obtain ⟨q, e1, e2⟩ := by_lowest hx
  generalize hp : lowP x = p at *
  have en : -x = 2 ^ p * (2 * (-q - 1) + 1) := by
    rw [e1, ← Int.mul_neg]; congr 1; omega
  have hd : -x / 2 ^ p = 2 * (-q - 1) + 1 := by rw [en, Int.mul_ediv_cancel_left _ (Int.ne_of_gt (two_pos p))]
  have hm : -x % 2 ^ p = 0 := by rw [en, Int.mul_emod_right]
  have hb : bit (-x) p = true := by unfold bit; rw [hd]; have : (2 * (-q - 1) + 1) % 2 = 1 := by omega
                                    rw [this]; rfl
  have hl : ∀ j, j < p → bit (-x) j = false := by
    intro j hj
    have hpj : (2 : Int) ^ p = 2 ^ j * (2 * 2 ^ (p - j - 1)) := by rw [← Int.pow_succ', ← Int.pow_add]; congr 1; omega
    have e3 : -x = 2 ^ j * (2 * (2 ^ (p - j - 1) * (2 * (-q - 1) + 1))) := by rw [en, hpj, Int.mul_assoc, Int.mul_assoc]
    unfold bit
    rw [e3, Int.mul_ediv_cancel_left _ (Int.ne_of_gt (two_pos j)), Int.mul_emod_right]; rfl
  have hlow := lowP_is h1 hb hl
  refine ⟨hlow, by rw [two32] at hx ⊢; omega, fun j hj => ?_⟩
  have ed : -x / 2 ^ (p + 1) = -q - 1 := by rw [div_succ, hd]; omega
  have ej : j = (p + 1) + (j - (p + 1)) := by omega
  rw [ej, bit_shift, bit_shift, e2, ed, bit_not]
theorem top_neg {x : Int} (hx : x % 2 ^ 32 ≠ 0) : topAt (-x) 32 = -2 ^ 32 - topAt x 32 := by
  unfold topAt
  rw [two32] at hx ⊢
  omega
theorem words_neg {x : Int} (hx : x % 2 ^ 32 ≠ 0) : wordsOf (-x) = wordN (lowP x) :: (((aboveL (lowP x)).filter (fun j => !bit x j)).map wordN ++ sixteens (-2 ^ 32 - topAt x 32)) := by
  obtain ⟨h1, h2, h3⟩ := low_neg hx
  rw [words_mine h2, h1, top_neg hx]
  congr 3
  refine List.filter_congr fun j hj => ?_
  obtain ⟨i, hi, e⟩ := List.mem_range'.mp hj
  exact h3 j (by omega)
/-- the first word, and the number without its place -/
theorem words_first {x : Int} (hx : x % 2 ^ 32 ≠ 0) : wordsOf x = wordN (lowP x) :: (if x - 2 ^ lowP x = 0 then [] else wordsOf (x - 2 ^ lowP x)) := by
  rw [words_mine hx]
  congr 1
  obtain ⟨h1, h2, h3⟩ := lowP_spec hx
  obtain ⟨q, e1, e2⟩ := by_lowest hx
  have e2' := e2
  generalize hp : lowP x = p at *
  generalize hy : x - 2 ^ p = y
  have ey : y = 2 ^ p * (2 * q) := by rw [← hy, e1, Int.mul_add, Int.mul_one, Int.add_sub_cancel]
  have hyd : y / 2 ^ p = 2 * q := by rw [ey, Int.mul_ediv_cancel_left _ (Int.ne_of_gt (two_pos p))]
  have hyq : y / 2 ^ (p + 1) = q := by rw [div_succ, hyd]; omega
  have hbits : ∀ j, p < j → j < 32 → bit x j = bit y j := by
    intro j hj _
    have ej : j = (p + 1) + (j - (p + 1)) := by omega
    rw [ej, bit_shift, bit_shift, e2, hyq]
  have htop : topAt y 32 = topAt x 32 := by
    have e32 : 32 = (p + 1) + (31 - p) := by omega
    rw [topAt_eq, topAt_eq]
    congr 1
    rw [e32, Int.pow_add, ← Int.ediv_ediv_of_nonneg (Int.le_of_lt (two_pos _)), ← Int.ediv_ediv_of_nonneg (Int.le_of_lt (two_pos _)), hyq, e2]
  have hlow : ∀ j, j < p → bit y j = false := by
    intro j hj
    have hpj : (2 : Int) ^ p = 2 ^ j * (2 * 2 ^ (p - j - 1)) := by rw [← Int.pow_succ', ← Int.pow_add]; congr 1; omega
    have e3 : y = 2 ^ j * (2 * (2 ^ (p - j - 1) * (2 * q))) := by rw [ey, hpj, Int.mul_assoc, Int.mul_assoc]
    unfold bit
    rw [e3, Int.mul_ediv_cancel_left _ (Int.ne_of_gt (two_pos j)), Int.mul_emod_right]; rfl
  have hbp : bit y p = false := by
    unfold bit; rw [hyd, Int.mul_emod_right]; rfl
  have hlw : lowW y 32 = ((aboveL p).filter (bit x)).map wordN := by
    rw [lowW_at h1 hlow, hbp, filter_above hbits h1]; simp
  by_cases h0 : y = 0
  · rw [if_pos h0]
    have hl0 : lowW y 32 = [] := by rw [h0]; decide +kernel
    have ht0 : topAt y 32 = 0 := by rw [h0]; decide
    rw [← hlw, hl0, ← htop, ht0]; rfl
  · rw [if_neg h0]
    unfold wordsOf sixteens
    rw [hlw, htop]
    congr 1
    by_cases h : topAt x 32 = 0
    · rw [if_pos h, if_pos ⟨h, h0⟩]
    · rw [if_neg h, if_neg (fun q => h q.1)]
-- which words stand in a page
theorem word_inj : ∀ i, i < 32 → ∀ j, j < 32 → wordN i = wordN j → i = j := by decide +kernel
theorem word_shape : ∀ i, i < 32 → wordN i ≠ hexT 0 ∧ (wordN i).cps.toList.headD 0 ≠ 45 ∧ ((wordN i).cps.toList.headD 0 = 48 → (wordN i).cps.toList.length ≤ 10) := by decide +kernel
theorem word_ne_hex {x : Int} {i : Nat} (hi : i < 32) : wordN i ≠ hexT (topAt x 32) := by
  obtain ⟨h0, h1, h2⟩ := word_shape i hi
  intro e
  have ht : topAt x 32 = 0 ∨ 4294967296 ≤ (topAt x 32).natAbs := by
    unfold topAt; rw [two32]; omega
  rcases ht with ht | ht
  · rw [ht] at e; exact h0 e
  · rw [e, hexT_tl] at h1 h2
    by_cases hn : topAt x 32 < 0
    · rw [if_pos hn] at h1; exact h1 rfl
    · rw [if_neg hn] at h2
      have h3 := h2 rfl
      have h4 : 9 ≤ (Nat.toDigits 16 (topAt x 32).natAbs).length := by
        rcases Nat.lt_or_ge (Nat.toDigits 16 (topAt x 32).natAbs).length 9 with h | h
        · have := (Nat.length_toDigits_le_iff (b := 16) (k := 8) (n := (topAt x 32).natAbs) (by decide) (by decide)).mp (by omega)
          have e8 : 16 ^ 8 = 4294967296 := by decide
          omega
        · exact h
      simp at h3
      omega
theorem word_in {x : Int} {j : Nat} (hj : j < 32) : wordN j ∈ wordsOf x ↔ bit x j = true := by
  unfold wordsOf lowW
  rw [List.mem_append]
  constructor
  · rintro (h | h)
    · obtain ⟨i, hi, e⟩ := List.mem_map.mp h
      have hi' := List.mem_filter.mp hi
      rw [← word_inj i (List.mem_range.mp hi'.1) j hj e]; exact hi'.2
    · split at h
      · cases h
      · exact absurd (List.mem_singleton.mp h) (word_ne_hex hj)
  · intro h
    exact .inl (List.mem_map.mpr ⟨j, List.mem_filter.mpr ⟨List.mem_range.mpr hj, h⟩, rfl⟩)
/-- the words of the places above p -/
abbrev aboveW (p : Nat) : List Str := (aboveL p).map wordN
theorem own_words {x : Int} (hx : x % 2 ^ 32 ≠ 0) : wordsOf x = [wordN (lowP x)] ++ (aboveW (lowP x)).filter (fun w => (wordsOf x).contains w) ++ sixteens (topAt x 32) ∧
    wordsOf (-x) = [wordN (lowP x)] ++ (aboveW (lowP x)).filter (fun w => !(wordsOf x).contains w) ++ sixteens (-2 ^ 32 - topAt x 32) := by
  have hp := (lowP_spec hx).1
  have key : ∀ j ∈ aboveL (lowP x), (wordsOf x).contains (wordN j) = bit x j := by
    intro j hj
    obtain ⟨i, hi, e⟩ := List.mem_range'.mp hj
    have h := word_in (x := x) (j := j) (by omega)
    cases hb : bit x j with
    | true => exact List.contains_iff_mem.mpr (h.mpr hb)
    | false =>
      cases hc : (wordsOf x).contains (wordN j) with
      | false => rfl
      | true => rw [h.mp (List.contains_iff_mem.mp hc)] at hb; cases hb
  have f1 : (aboveW (lowP x)).filter (fun w => (wordsOf x).contains w) = ((aboveL (lowP x)).filter (bit x)).map wordN := by
    rw [List.filter_map]; congr 1; exact List.filter_congr fun j hj => key j hj
  have f2 : (aboveW (lowP x)).filter (fun w => !(wordsOf x).contains w) = ((aboveL (lowP x)).filter (fun j => !bit x j)).map wordN := by
    rw [List.filter_map]; congr 1; exact List.filter_congr fun j hj => by show (!(wordsOf x).contains (wordN j)) = _; rw [key j hj]
  rw [f1, f2]
  exact ⟨by simpa using words_mine hx, by simpa using words_neg hx⟩
end Mine
-- C5
set_option maxHeartbeats 8000000
namespace Mine
open Builtin.Int (intBits)
section
local macro_rules | `(tactic| walk_at "pad 5") => `(tactic| fail "pad")
local macro_rules | `(tactic| walk_at "pad 4") => `(tactic| fail "pad")
local macro_rules | `(tactic| walk_at "pad 3") => `(tactic| fail "pad")
local macro_rules | `(tactic| walk_at "pad 2") => `(tactic| fail "pad")
local macro_rules | `(tactic| walk_at "call ref cons nil") => `(tactic| (k_dflt (first | (refine' c_pretty _ _ ?hx _ _ _ _ _ _ _ _ _ _ _ _ _ _ _ _ _ _ ?k1 ?k2 ?k3 ?k4 ?k5 ?kK ?kd ?ku ?_; (case k1 => k_asm); (case k2 => k_asm); (case k3 => k_asm); (case k4 => k_asm); (case k5 => k_asm); (case kK => first | exact rfl | assumption); (case hx => assumption); (case kd => ktr_room); (case ku => ktr_units); intro t9 h9 tk9 F9 N9; (try dsimp only); (try k_sweep)) | (refine' c_replace _ _ _ _ _ _ ?hx ?hy ?hz _ _ _ _ _ _ _ _ _ _ _ _ _ _ _ _ _ _ ?k1 ?k2 ?k3 ?k4 ?k5 ?kK ?kd ?ku ?_; (case k1 => k_asm); (case k2 => k_asm); (case k3 => k_asm); (case k4 => k_asm); (case k5 => k_asm); (case kK => first | exact rfl | assumption); (case hx => assumption); (case hy => decide +kernel); (case hz => decide +kernel); (case kd => ktr_room); (case ku => ktr_units); intro t9 h9 tk9 F9 N9; (try dsimp only); (try k_sweep)))))
theorem wordsOf_ne (x : Int) : wordsOf x ≠ [] := by
  by_cases hx : x % 2 ^ 32 = 0
  · rw [wordsOf_zero hx]; simp
  · rw [words_mine hx]; simp
theorem c_page {w p loose mean mg mb} (x : Int) (t : Tok) (hx : intBits x ≤ 4000000) (news : Led) :
    Ctr w p loose mean mg mb 64 [.int x t] 2 16 news (RetV news (fun t => .str (pageOf (wordsOf x)) t)) := by
  have hw := wordsOf_size hx (by omega)
  have hl : (Txt.join COMMA (wordsOf x)).length ≤ 4100000 := by
    have h1 := join_len COMMA (wordsOf x)
    have e : COMMA.length = 2 := by decide +kernel
    rw [e] at h1; omega
  dsimp only [Ctr, RetV, TheProg]
  k_fill
  intro dp un gd cn cs a ccd cl outer A₀ base h₀ L m s Q E B F X N T hk hd hu hret
  refine wpAny_call ?_
  k_dflt ktr_enter
  k_steps
  rename Fr _ _ _ _ => F4
  rename News _ _ _ _ => N4
  have e : Txt.join SEP (Txt.split (Txt.join COMMA (wordsOf x)) COMMA) = pageOf (wordsOf x) := by rw [split_comma (wordsOf_ne x) (wordsOf_good x)]
  rw [← e] at hret
  exact hret _ _ _ F4 N4
end
end Mine
-- C7
set_option maxHeartbeats 8000000
namespace Mine
open Builtin.Int (intBits)
/-- what _law_first gives -/
def firstOf (x : Int) : Str × Str := ((wordsOf x).headD EM, nextOf (wordsOf x).tail)
theorem first_zero {x : Int} (h : x % 2 ^ 32 = 0) : firstOf x = (hexT x, EM) := by unfold firstOf; rw [wordsOf_zero h]; rfl
theorem first_one {x : Int} (h : x % 2 ^ 32 ≠ 0) (h0 : x - 2 ^ ((lowP x : Nat) : Int).toNat = 0) : firstOf x = (wordN ((lowP x : Nat) : Int).toNat, EM) := by
  rw [Int.toNat_natCast] at h0 ⊢
  unfold firstOf
  rw [words_first h, if_pos h0]; rfl
theorem first_more {x : Int} (h : x % 2 ^ 32 ≠ 0) (h0 : x - 2 ^ ((lowP x : Nat) : Int).toNat ≠ 0) : firstOf x = (wordN ((lowP x : Nat) : Int).toNat, NL ++ pageOf (wordsOf (x - 2 ^ ((lowP x : Nat) : Int).toNat))) := by
  rw [Int.toNat_natCast] at h0 ⊢
  unfold firstOf
  rw [words_first h, if_neg h0]
  show (_, nextOf (wordsOf _)) = _
  unfold nextOf
  rw [if_neg (wordsOf_ne _)]; rfl
theorem fmod32 (x : Int) : x.fmod (2 ^ Int.toNat 32) = x % 2 ^ 32 := Int.fmod_eq_emod_of_nonneg _ (by decide)
theorem page_len {x : Int} (hx : intBits x ≤ 4000000) : (pageOf (wordsOf x)).length ≤ 4001000 := by
  have hw := wordsOf_size hx (by omega)
  have h1 := join_len SEP (wordsOf x)
  have e : SEP.length = 4 := by decide +kernel
  rw [e] at h1
  show (Txt.join SEP (wordsOf x)).length ≤ _
  omega
section
local macro_rules | `(tactic| walk_at "pad 6") => `(tactic| fail "pad")
local macro_rules | `(tactic| walk_at "pad 5") => `(tactic| fail "pad")
local macro_rules | `(tactic| walk_at "pad 4") => `(tactic| fail "pad")
local macro_rules | `(tactic| walk_at "pad 3") => `(tactic| fail "pad")
local macro_rules | `(tactic| walk_at "pad 2") => `(tactic| fail "pad")
local macro_rules | `(tactic| walk_at "call ref cons nil") => `(tactic| (k_dflt (first | (refine' c_word _ _ ?h0 ?h1 _ _ _ _ _ _ _ _ _ _ _ _ _ _ _ _ _ _ ?k1 ?k2 ?k3 ?k4 ?k5 ?kK ?kd ?ku ?_; (case k1 => k_asm); (case k2 => k_asm); (case k3 => k_asm); (case k4 => k_asm); (case k5 => k_asm); (case kK => first | exact rfl | assumption); (case h0 => first | assumption | omega); (case h1 => first | assumption | omega); (case kd => ktr_room); (case ku => ktr_units); intro t9 h9 tk9 F9 N9; (try dsimp only); (try k_sweep)) | (refine' c_lowest _ _ ?hx _ _ _ _ _ _ _ _ _ _ _ _ _ _ _ _ _ _ ?k1 ?k2 ?k3 ?k4 ?k5 ?kK ?kd ?ku ?_; (case k1 => k_asm); (case k2 => k_asm); (case k3 => k_asm); (case k4 => k_asm); (case k5 => k_asm); (case kK => first | exact rfl | assumption); (case hx => assumption); (case kd => ktr_room); (case ku => ktr_units); intro t9 h9 tk9 F9 N9; (try dsimp only); (try k_sweep)) | (refine' c_page _ _ ?hx _ _ _ _ _ _ _ _ _ _ _ _ _ _ _ _ _ _ ?k1 ?k2 ?k3 ?k4 ?k5 ?kK ?kd ?ku ?_; (case k1 => k_asm); (case k2 => k_asm); (case k3 => k_asm); (case k4 => k_asm); (case k5 => k_asm); (case kK => first | exact rfl | assumption); (case hx => assumption); (case kd => ktr_room); (case ku => ktr_units); intro t9 h9 tk9 F9 N9; (try dsimp only); (try k_sweep)))))
theorem c_first {w p loose mean mg mb} (x : Int) (t : Tok) (hx : intBits x ≤ 3000000) (news : Led) :
    Ctr w p loose mean mg mb 78 [.int x t] 3 24 news (RetP news (firstOf x)) := by
  have hx4 : intBits x ≤ 4000000 := by omega
  have hrest : ∀ k : Nat, k < 32 → intBits (x - 2 ^ ((k : Nat) : Int).toNat) ≤ 4000000 := by
    intro k hk
    have h1 : intBits ((2 : Int) ^ ((k : Nat) : Int).toNat) ≤ 64 := by
      rw [Int.toNat_natCast]
      exact (by decide +kernel : ∀ k, k < 32 → intBits ((2 : Int) ^ k) ≤ 64) k hk
    have h2 := intBits_sub_le hx h1
    omega
  dsimp only [Ctr, RetP, TheProg]
  k_fill
  intro dp un gd cn cs a ccd cl outer A₀ base h₀ L m s Q E B F X N T hk hd hu hret
  refine wpAny_call ?_
  k_dflt ktr_enter
  by_cases h32 : x % 2 ^ 32 = 0
  · k_steps
    · refine P.hex_of_int ?_ (hsz := by
        exact Nat.le_trans (hexT_length _ hx) (by rw [sizeLine_eq]; omega))
      k_steps
      rename Fr _ _ _ _ => F4
      rename News _ _ _ _ => N4
      rw [first_zero h32] at hret
      exact hret _ _ _ _ _ (by assumption) F4 N4
    · exfalso
      rename (Int.fmod _ _ ≠ 0) => hb
      rw [fmod32] at hb
      exact hb h32
  · have hne : x % 2 ^ 32 ≠ 0 := h32
    have hlow := (lowP_spec hne).1
    have hr := hrest _ hlow
    k_steps
    · exfalso
      rename (Int.fmod _ _ = 0) => hb
      rw [fmod32] at hb
      exact h32 hb
    · rename (_ - _ ≠ (0 : Int)) => h0
      refine KOpn.add (by
        have h1 := page_len hr
        have h2 : (Str.ofString "\n").length = 1 := nl_len
        show (Str.ofString "\n").length + (pageOf (wordsOf _)).length ≤ _
        omega) ?_
      intro t7 k7 _
      k_steps
      rename Fr _ _ _ _ => F4
      rename News _ _ _ _ => N4
      rw [first_more hne h0] at hret
      exact hret _ _ _ _ _ (by assumption) F4 N4
    · rename (_ - _ = (0 : Int)) => h0
      rename Fr _ _ _ _ => F4
      rename News _ _ _ _ => N4
      rw [first_one hne h0] at hret
      exact hret _ _ _ _ _ (by assumption) F4 N4
end
end Mine
-- C9
set_option maxHeartbeats 8000000
namespace Mine
open Builtin.Int (intBits)
/-- the page that is left holds the words of rest -/
def Left (pg : Str) (rest : List Str) : Prop := (rest = [] ∧ pg = EM) ∨ (rest ≠ [] ∧ ∃ a : List Nat, (∀ k ∈ a, Unicode.isSpace k = true) ∧ pg.cps.toList = a ++ (pageOf rest).cps.toList ∧ a.length ≤ 1)
theorem left_next (r : List Str) : Left (nextOf r) r := by
  unfold nextOf
  by_cases h : r = []
  · rw [if_pos h]; exact .inl ⟨h, rfl⟩
  · rw [if_neg h]
    refine .inr ⟨h, [10], fun k hk => ?_, by rw [tl_append, nl_tl], Nat.le_refl 1⟩
    rw [List.mem_singleton.mp hk]; decide +kernel
theorem left_page {ws : List Str} (h : ws ≠ []) : Left (pageOf ws) ws := .inr ⟨h, [], fun _ h => (nomatch h), rfl, Nat.zero_le _⟩
theorem left_empty {pg : Str} {rest : List Str} (h : Left pg rest) (hg : ∀ w ∈ rest, Good w) (he : pg = EM) : rest = [] := by
  rcases h with h | ⟨h, a, _, e, _⟩
  · exact h.1
  · exfalso
    obtain ⟨c, t, e2, _⟩ := page_head (sep := SEP) h hg
    have e3 : EM.cps.toList = a ++ (Txt.join SEP rest).cps.toList := by rw [← he]; exact e
    rw [em_tl, join_eq, e2] at e3
    simp at e3
theorem left_spl {pg w : Str} {r : List Str} (h : Left pg (w :: r)) (hg : ∀ v ∈ w :: r, Good v) : spl pg = (w, nextOf r) := by
  rcases h with h | ⟨_, a, ha, e, _⟩
  · cases h.1
  · exact spl_page hg (b := []) (by rw [List.append_nil]; exact e) ha (fun _ h => nomatch h)
theorem left_len {pg : Str} {rest : List Str} (h : Left pg rest) : pg.length ≤ (rest.map (·.length)).sum + rest.length * 4 + 1 := by
  rcases h with ⟨rfl, rfl⟩ | ⟨_, a, _, e, ha⟩
  · exact Nat.zero_le _
  · have h1 := join_len SEP rest
    have e4 : SEP.length = 4 := by decide +kernel
    rw [e4] at h1
    rw [← tl_len, e, List.length_append, tl_len]
    show a.length + (Txt.join SEP rest).length ≤ _
    omega
def peelJ (ws : List Str) (D : Addr) (news : Led) (i : Nat) (m₁ : Str → Option Value) (news₁ : Led) : Prop :=
  ∃ (l : List (Str × Tok)) (ep : Nat) (rest : List Str) (pg : Str) (t : Tok), l.map (·.1) ++ rest = ws ∧ l.length = i ∧ Left pg rest ∧ m₁ (Str.ofString "page") = some (.str pg t) ∧ m₁ (Str.ofString "titles") = some (.ref D) ∧
    news₁ = (D, listOf (strValues l).toArray ep) :: news
section
local macro_rules | `(tactic| walk_at "pad 7") => `(tactic| fail "pad")
local macro_rules | `(tactic| walk_at "pad 6") => `(tactic| fail "pad")
local macro_rules | `(tactic| walk_at "pad 5") => `(tactic| fail "pad")
local macro_rules | `(tactic| walk_at "pad 4") => `(tactic| fail "pad")
local macro_rules | `(tactic| walk_at "pad 3") => `(tactic| fail "pad")
local macro_rules | `(tactic| walk_at "exec For Name Call cons nil") => `(tactic| (k_dflt (refine wpAny_For ?_)))
local macro_rules | `(tactic| walk_at "call ref cons nil") => `(tactic| (k_dflt (refine' c_splitdoc _ _ ?hx _ _ _ _ _ _ _ _ _ _ _ _ _ _ _ _ _ _ ?k1 ?k2 ?k3 ?k4 ?k5 ?kK ?kd ?ku ?_; (case k1 => k_asm); (case k2 => k_asm); (case k3 => k_asm); (case k4 => k_asm); (case k5 => k_asm); (case kK => first | exact rfl | assumption); (case hx => assumption); (case kd => ktr_room); (case ku => ktr_units); intro D9 t9 u9 h9 tk9 lt9 F9 N9; (try dsimp only); (try k_sweep))))
theorem c_peeled {w p loose mean mg mb} (ws : List Str) (t : Tok) (hw : ws ≠ []) (hg : ∀ w ∈ ws, Good w) (hn : ws.length ≤ 33) (hl : (ws.map (·.length)).sum ≤ 4500000) (news : Led) :
    Ctr w p loose mean mg mb 85 [.str (pageOf ws) t] 2 16 news (RetL news ws) := by
  dsimp only [Ctr, RetL, TheProg]
  k_fill
  intro dp un gd cn cs a ccd cl outer A₀ base h₀ L m s Q E B F X N T hk hd hu hret
  refine wpAny_call ?_
  k_dflt ktr_enter
  k_steps
  rename_i D _ hD _ F1 N1 _ _ _ _ _ hR F2 N2 _
  clear F1 N1
  refine for_range (n := 40) (peelJ ws D news) rfl hR (by decide) rfl F2 N2 rfl rfl ?hj ?hE ?turn ?done
  case hE => passes_own
  case hj => exact ⟨[], 0, ws, _, _, rfl, rfl, left_page hw, rfl, rfl, rfl⟩
  case done =>
    rintro m₁ news₁ h tk ⟨l, ep, rest, pg, tp, e, hi, _⟩
    have := congrArg List.length e
    rw [List.length_append, List.length_map] at this
    omega
  case turn =>
    rintro I i t1 m₁ news₁ h tk own (hi : i < 40) ⟨l, ep, rest, pg, tp, e, hil, hleft, hm1, hm2, rfl⟩ hoff hown F3 N3 hI
    rw [map2 hm1 hm2] at F3
    dsimp only [List.cons_append] at N3
    clear F2 N2
    have hsub : ∀ w ∈ rest, Good w := fun w hw => hg w (by rw [← e]; exact List.mem_append_right _ hw)
    have hpl : pg.length ≤ 5000000 := by
      have h1 := left_len hleft
      have h2 : (rest.map (·.length)).sum ≤ (ws.map (·.length)).sum := by rw [← e, List.map_append, List.sum_append]; omega
      have h3 : rest.length ≤ ws.length := by rw [← e, List.length_append]; omega
      omega
    have hne : ∀ p ∈ news ++ own, p.1 ≠ D := by
      intro p hp
      rcases List.mem_append.mp hp with hp | hp
      · exact Nat.ne_of_lt (hD p hp)
      · have h1 := (hown p hp).1
        have h2 := hoff (D, _) (List.mem_cons_self ..)
        intro e
        exact h2 (by rw [← e]; exact h1)
    have hoff' : ∀ o, ∀ p ∈ (D, o) :: news, p.1 ∉ [I] := by
      intro o p hp
      rcases List.mem_cons.mp hp with e | hp
      · have e' : p.1 = D := by rw [e]
        rw [e']
        exact hoff (D, _) (List.mem_cons_self ..)
      · exact hoff p (List.mem_cons_of_mem _ hp)
    k_steps
    · rename ((pg == _) = true) => he
      have he' := left_empty hleft hsub (beq_iff_eq.mp he)
      rw [he', List.append_nil] at e
      dsimp only [TurnPost]
      k_steps
      rename Fr _ _ _ _ => F4
      rename News _ _ _ _ => N4
      refine hret _ l ep _ _ e hD F4 (sub_news N4 fun p hp => ?_)
      rcases List.mem_cons.mp hp with rfl | hp
      · exact .head _
      · exact .tail _ (List.mem_append_left _ hp)
    · rename ((pg == _) = false) => he
      rename Fr _ _ _ _ => F4
      rename News _ _ _ _ => N4
      match rest, hleft, hsub, e with
      | [], hleft, _, _ =>
        exfalso
        rcases hleft with h | h
        · rw [h.2] at he; revert he; decide +kernel
        · exact h.1 rfl
      | w1 :: r, hleft, hsub, e =>
        have hspl := left_spl hleft hsub
        have hlen : l.length ≤ 1000000 := by omega
        refine append_str F4 (sub_news N4 fun p hp => List.mem_cons_of_mem _ hp) hne hlen ?_
        intro h5 F5 N5
        k_steps
        rw [hspl] at F5 N5
        refine ⟨_, _, _, (D, _) :: news, rfl, F5, N5, hoff' _, _, _, r, nextOf r, _, ?_, ?_, left_next r, rfl, rfl, rfl⟩
        · rw [List.map_append, List.append_assoc]; exact e
        · rw [List.length_append, hil]; rfl
end
end Mine
-- C10
set_option maxHeartbeats 8000000
namespace Mine
abbrev lamParams : Arguments := { posonlyargs := [], args := [{ arg := Str.ofString "word", annotation := none, pos := { line := 81, col := 52, endLine := 81, endCol := 56 } }], vararg := none, kwonlyargs := [], kw_defaults := [], kwarg := none, defaults := [] }
abbrev lamBody : Expr := (Expr.Name (Str.ofString "word") { line := 81, col := 58, endLine := 81, endCol := 62 }).Compare [CmpOp.In] [Expr.Name (Str.ofString "mine") { line := 81, col := 66, endLine := 81, endCol := 70 }] { line := 81, col := 58, endLine := 81, endCol := 70 }
abbrev lamScope : Scope := { kind := ScopeKind.function, names := [(Str.ofString "word", NameKind.local), (Str.ofString "mine", NameKind.free)], isGenerator := false, isCoroutine := false }
abbrev lamQual : Str := Str.ofString "law.<locals>.<lambda>"
abbrev lamObj (c : Addr) (pm : Value) (c' : Addr) (ctv : Value) : Obj := kla_obj (Str.ofString "<lambda>") lamQual lamParams lamBody lamScope [(Str.ofString "mine", c)] pm c' ctv
/-- the lambda, its code, its cell and the list in the cell stand in the ledger -/
structure Pred (news : Led) (f : Addr) (ys : List Str) : Prop where
  ex : ∃ (c c' Dm : Addr) (pm ctv : Value) (oc co : Obj) (vs : Array Value) (t : Tok) (l : List (Str × Tok)) (ep : Nat),
    (f, lamObj c pm c' ctv) ∈ news ∧ (c', oc) ∈ news ∧ oc.data = .fields vs ∧ vs[1]? = some (.str lamQual t) ∧ (c, co) ∈ news ∧ co.data = .cell (some (.ref Dm)) ∧ (Dm, listOf (strValues l).toArray ep) ∈ news ∧ l.map (·.1) = ys
theorem Pred.mono {news news' : Led} {f : Addr} {ys : List Str} (h : Pred news f ys) (hs : ∀ p ∈ news, p ∈ news') : Pred news' f ys := by
  obtain ⟨c, c', Dm, pm, ctv, oc, co, vs, t, l, ep, h1, h2, h3, h4, h5, h6, h7, h8⟩ := h.ex
  exact ⟨c, c', Dm, pm, ctv, oc, co, vs, t, l, ep, hs _ h1, hs _ h2, h3, h4, hs _ h5, h6, hs _ h7, h8⟩
theorem c_pred {w p loose mean mg mb} (f : Addr) (x : Str) (t : Tok) (ys : List Str) (news : Led) (hP : Pred news f ys) :
    Ctr w p loose mean mg mb f [.str x t] 1 8 news (RetV news (fun _ => .bool (ys.contains x))) := by
  obtain ⟨c, c', Dm, pm, ctv, oc, co, vs, tq, l, ep, h1, h2, h3, h4, h5, h6, h7, h8⟩ := hP.ex
  dsimp only [Ctr, RetV, TheProg]
  k_fill
  intro dp un gd cn cs a ccd cl outer A₀ base h₀ L m s Q E B F X N T hk hd hu hret
  refine wpAny_call ?_
  refine kla_code B F X N T rfl rfl hk h1 (codeRec_news N h2 h3 h4) (by ktr_room) rfl (locs rfl) ?_ rfl rfl rfl (by decide)
  intro g' L' h' FG' F' N' B' X' T'
  k_fold
  walk1
  walk1
  refine nameX_F N' rfl h5 h6 ?_ rfl rfl
  have hl : (Shared.heap { s with heap := h' }).IsList Dm (strValues l).toArray := News.isList N' h7
  refine in_list_strs hl (strsAre_of_values l) ?_
  rw [h8]
  have e : ys.any (· == x) = ys.contains x := by rw [List.contains_eq_any_beq]; exact congrArg (fun q => ys.any q) (funext fun y => by rw [Bool.eq_iff_iff, beq_iff_eq, beq_iff_eq]; exact eq_comm)
  rw [e]
  refine leaveK_ F' N' fun F2 N2 => ?_
  exact hret 0 _ _ F2 N2
end Mine
-- C11
set_option maxHeartbeats 8000000
namespace Mine
/-- a new pair of two new lists of texts comes back -/
abbrev RetS (news : Led) (y n : List Str) (h₀ : Heap) (L : Addr) (m : Str → Option Value) (s : Shared) (Q : Value → Shared → Prop) : Prop :=
  ∀ (Dt Dy Dn : Addr) (ly ln : List (Str × Tok)) (ey en : Nat) (h' : Heap) (tk' : Nat), ly.map (·.1) = y → ln.map (·.1) = n → (∀ p ∈ news, p.1 < Dy) → Dy < Dn → Dn < Dt → Fr h₀ L h' m →
    News h₀ L h' ((Dt, { cls := .type "tuple", data := .seq [Value.ref Dy, .ref Dn].toArray }) :: (Dy, listOf (strValues ly).toArray ey) :: (Dn, listOf (strValues ln).toArray en) :: news) → Q (.ref Dt) { s with heap := h', toks := tk' }
def splitJ (l : List (Str × Tok)) (f Ds Dy Dn : Addr) (ys : List Str) (news : Led) (i : Nat) (m₁ : Str → Option Value) (news₁ : Led) : Prop :=
  m₁ (Str.ofString "predicate") = some (.ref f) ∧ m₁ (Str.ofString "yes") = some (.ref Dy) ∧ m₁ (Str.ofString "no") = some (.ref Dn) ∧
  ∃ (ly ln : List (Str × Tok)) (ey en : Nat), news₁ = (Dy, listOf (strValues ly).toArray ey) :: (Dn, listOf (strValues ln).toArray en) :: news ∧
    ly.map (·.1) = ((l.take i).map (·.1)).filter (fun w => ys.contains w) ∧ ln.map (·.1) = ((l.take i).map (·.1)).filter (fun w => !ys.contains w)
theorem f_pos {p : Str → Bool} {x : Str} (h : p x = true) : [x].filter p = [x] := by rw [List.filter_cons, if_pos h, List.filter_nil]
theorem f_neg {p : Str → Bool} {x : Str} (h : p x = false) : [x].filter p = [] := by rw [List.filter_cons, if_neg (by rw [h]; exact Bool.false_ne_true), List.filter_nil]
section
local macro_rules | `(tactic| walk_at "pad 8") => `(tactic| fail "pad")
local macro_rules | `(tactic| walk_at "pad 7") => `(tactic| fail "pad")
local macro_rules | `(tactic| walk_at "pad 6") => `(tactic| fail "pad")
local macro_rules | `(tactic| walk_at "pad 5") => `(tactic| fail "pad")
local macro_rules | `(tactic| walk_at "pad 4") => `(tactic| fail "pad")
local macro_rules | `(tactic| walk_at "pad 3") => `(tactic| fail "pad")
local macro_rules | `(tactic| walk_at "exec For Name Name cons nil") => `(tactic| (k_dflt (refine wpAny_For ?_)))
local macro_rules | `(tactic| walk_at "call ref cons nil") => `(tactic| (k_dflt (refine' c_pred _ _ _ _ _ ?hP _ _ _ _ _ _ _ _ _ _ _ _ _ _ _ _ _ ?k1 ?k2 ?k3 ?k4 ?k5 ?kK ?kd ?ku ?_; (case k1 => k_asm); (case k2 => k_asm); (case k3 => k_asm); (case k4 => k_asm); (case k5 => k_asm); (case kK => first | exact rfl | assumption); (case hP => assumption); (case kd => ktr_room); (case ku => ktr_units); intro t9 h9 tk9 F9 N9; (try dsimp only); (try k_sweep))))
theorem c_split {w p loose mean mg mb} (Ds f : Addr) (l : List (Str × Tok)) (ep : Nat) (ys : List Str) (hlen : l.length ≤ 100) (news : Led) (hs : (Ds, listOf (strValues l).toArray ep) ∈ news) (hP : Pred news f ys) :
    Ctr w p loose mean mg mb 35 [.ref Ds, .ref f] 2 16 news (RetS news ((l.map (·.1)).filter (fun w => ys.contains w)) ((l.map (·.1)).filter (fun w => !ys.contains w))) := by
  dsimp only [Ctr, RetS, TheProg]
  k_fill
  intro dp un gd cn cs a ccd cl outer A₀ base h₀ L m s Q E B F X N T hk hd hu hret
  refine wpAny_call ?_
  k_dflt ktr_enter
  k_steps
  rename_i Dy _ hy _ Dn _ hyn _ F2 N2
  have N2' := sub_news (news := (Dy, listOf (strValues []).toArray 0) :: (Dn, listOf (strValues []).toArray 0) :: news) N2 (fun p hp => by
    rcases List.mem_cons.mp hp with rfl | hp
    · exact .tail _ (.head _)
    · rcases List.mem_cons.mp hp with rfl | hp
      · exact .head _
      · exact .tail _ (.tail _ hp))
  clear N2
  have hlt : @LT.lt Nat _ Dy Dn := hyn.1
  refine for_list (splitJ l f Ds Dy Dn ys news) rfl F2 N2' (.tail _ (.tail _ hs)) rfl rfl ?hj ?hE ?turn ?done
  case hE => passes_own
  case hj => exact ⟨rfl, rfl, rfl, [], [], 0, 0, rfl, rfl, rfl⟩
  case turn =>
    rintro I i v m₁ news₁ h tk own hv ⟨hm1, hm2, hm3, ly, ln, ey, en, rfl, hly, hln⟩ hoff hown F3 N3 hI
    obtain ⟨x, t, hi, rfl⟩ : ∃ x t, l[i]? = some (x, t) ∧ v = .str x t := by
      unfold strValues at hv
      rw [List.getElem?_map] at hv
      cases hq : l[i]? with
      | none => rw [hq] at hv; cases hv
      | some q => rw [hq] at hv; exact ⟨q.1, q.2, rfl, (Option.some.inj hv).symm⟩
    have htake : (l.take (i + 1)).map (·.1) = (l.take i).map (·.1) ++ [x] := by
      rw [List.take_add_one, hi, List.map_append]; rfl
    rw [map3 hm1 hm2 hm3] at F3
    clear F2 N2' N F hyn
    have hP2 : Pred ((Dy, listOf (strValues ly).toArray ey) :: (Dn, listOf (strValues ln).toArray en) :: news ++ own) f ys := hP.mono fun p hp => List.mem_append_left _ (.tail _ (.tail _ hp))
    have hlx : ly.length ≤ 100 ∧ ln.length ≤ 100 := by
      have h1 := List.length_filter_le (fun w => ys.contains w) ((l.take i).map (·.1))
      have h2 := List.length_filter_le (fun w => !ys.contains w) ((l.take i).map (·.1))
      rw [← hly, List.length_map, List.length_map, List.length_take] at h1
      rw [← hln, List.length_map, List.length_map, List.length_take] at h2
      omega
    obtain ⟨hl1, hl2⟩ := hlx
    have hoff' : ∀ o o', ∀ p ∈ (Dy, o) :: (Dn, o') :: news, p.1 ∉ [I] := by
      intro o o' p hp
      rcases List.mem_cons.mp hp with e | hp
      · have e' : p.1 = Dy := by rw [e]
        rw [e']; exact hoff (Dy, _) (.head _)
      · rcases List.mem_cons.mp hp with e | hp
        · have e' : p.1 = Dn := by rw [e]
          rw [e']; exact hoff (Dn, _) (.tail _ (.head _))
        · exact hoff p (.tail _ (.tail _ hp))
    have hown' : ∀ p ∈ own, p.1 ≠ Dy ∧ p.1 ≠ Dn := by
      intro p hp
      have hI1 : I ≠ Dy := fun e => hoff (Dy, _) (.head _) (by rw [e]; exact List.mem_singleton.mpr rfl)
      have hI2 : I ≠ Dn := fun e => hoff (Dn, _) (.tail _ (.head _)) (by rw [e]; exact List.mem_singleton.mpr rfl)
      have hs1 : @LT.lt Nat _ Ds Dy := hy _ hs
      have hs2 : @LT.lt Nat _ Ds Dn := Nat.lt_trans hs1 hlt
      rcases List.mem_cons.mp (hown p hp).1 with e | e
      · rw [e]; exact ⟨hI1, hI2⟩
      · rw [List.mem_singleton.mp e]; exact ⟨Nat.ne_of_lt hs1, Nat.ne_of_lt hs2⟩
    have hn1 : ∀ o, ∀ p ∈ (Dn, o) :: (news ++ own), p.1 ≠ Dy := by
      intro o p hp
      rcases List.mem_cons.mp hp with e | hp
      · have e' : p.1 = Dn := by rw [e]
        rw [e']; exact Nat.ne_of_gt hlt
      · rcases List.mem_append.mp hp with hp | hp
        · exact Nat.ne_of_lt (hy p hp)
        · exact (hown' p hp).1
    have hn2 : ∀ o, ∀ p ∈ (Dy, o) :: (news ++ own), p.1 ≠ Dn := by
      intro o p hp
      rcases List.mem_cons.mp hp with e | hp
      · have e' : p.1 = Dy := by rw [e]
        rw [e']; exact Nat.ne_of_lt hlt
      · rcases List.mem_append.mp hp with hp | hp
        · exact Nat.ne_of_lt (Nat.lt_trans (hy p hp) hlt)
        · exact (hown' p hp).2
    have hfn : FnAt f h := by
      obtain ⟨c, c', Dm, pm, ctv, oc, co, vs, t, l, ep, h1, _⟩ := hP2.ex
      exact FnAt.of N3 h1
    k_steps
    refine callWith_F hfn ?_
    k_steps
    · exact hfn
    · rename (ys.contains x = true) => hb
      rename Fr _ _ _ _ => F4
      rename News _ _ _ _ => N4
      refine append_str F4 N4 (hn1 _) (by omega) ?_
      intro h5 F5 N5
      iterate 3 walk1
      refine ⟨_, _, _, (Dy, _) :: (Dn, _) :: news, rfl, F5, N5, hoff' _ _, rfl, rfl, rfl, _, _, _, _, rfl, ?_, ?_⟩
      · rw [htake, List.filter_append, List.map_append, hly, f_pos hb]; rfl
      · rw [htake, List.filter_append, hln, f_neg (by rw [hb]; rfl), List.append_nil]
    · rename (ys.contains x = false) => hb
      rename Fr _ _ _ _ => F4
      rename News _ _ _ _ => N4
      have N4' := sub_news (news := (Dn, listOf (strValues ln).toArray en) :: (Dy, listOf (strValues ly).toArray ey) :: (news ++ own)) N4 (fun p hp => by
        rcases List.mem_cons.mp hp with rfl | hp
        · exact .tail _ (.head _)
        · rcases List.mem_cons.mp hp with rfl | hp
          · exact .head _
          · exact .tail _ (.tail _ hp))
      refine append_str F4 N4' (hn2 _) (by omega) ?_
      intro h5 F5 N5
      iterate 3 walk1
      refine ⟨_, _, _, (Dy, listOf (strValues ly).toArray ey) :: (Dn, listOf (strValues (ln ++ [(x, t)])).toArray (en + 1)) :: news, rfl, F5, sub_news N5 ?_, hoff' _ _, rfl, rfl, rfl, _, _, _, _, rfl, ?_, ?_⟩
      · intro p hp
        rcases List.mem_cons.mp hp with rfl | hp
        · exact .tail _ (.head _)
        · rcases List.mem_cons.mp hp with rfl | hp
          · exact .head _
          · exact .tail _ (.tail _ hp)
      · rw [htake, List.filter_append, hly, f_neg hb, List.append_nil]
      · rw [htake, List.filter_append, List.map_append, hln, f_pos (by rw [hb]; rfl)]; rfl
  case done =>
    rintro m₁ news₁ h tk ⟨hm1, hm2, hm3, ly, ln, ey, en, rfl, hly, hln⟩ F3 N3
    rw [map3 hm1 hm2 hm3] at F3
    clear F2 N2' N F hyn
    have hll : l.take (strValues l).length = l := by unfold strValues; rw [List.length_map]; exact List.take_length
    rw [hll] at hly hln
    k_steps
    rename (Dy < _ ∧ Dn < _ ∧ AllLt _ _) => h3
    rename Fr _ _ _ _ => F4
    rename News _ _ _ _ => N4
    exact hret _ Dy Dn ly ln ey en _ _ hly hln hy hlt h3.2.1 F4 N4
end
end Mine
-- EnumT
set_option maxHeartbeats 1000000
namespace Mine
open PySem.AutoSeq1 (wpAny_loadPart')
abbrev itT (t : Addr) (i : Nat) : Obj := { cls := .type "tuple_iterator", data := .fields #[.ref t, .int i 0] }
/-- enumerate of a tuple: the two objects that it makes -/
theorem meets_enumT (t : Addr) (items : Array Value) :
    Meets (Builtin.«enumerate.__new__» ⟨[.type "enumerate", .ref t], []⟩) (fun _ R s => s.heap.get? t = some { cls := .type "tuple", data := .seq items } ∧
      R (.ok (.ret (.ref (s.heap.push (itT t 0)).objs.size)))
        { s with heap := (s.heap.push (itT t 0)).push { cls := .type "enumerate", data := .fields #[.none, .bool false, .ref s.heap.objs.size, rawInt 0, .none, .none] } }) :=
  .of_wp fun prog w A R s h => by
    obtain ⟨hp, g, d, tk, os⟩ := s
    obtain ⟨hl, h⟩ := h
    have hsub := sub_enumerate
    have hT : Heap.IsTuple (Shared.heap ⟨hp, g, d, tk, os⟩) t items := ⟨_, hl, rfl, 0, rfl⟩
    wp_walk using wpAny_loadPart' hl
    refine wpAny_stack_any fun st => wpAny_pure ?_
    split
    · rename_i c _ _ _ _ _
      cases (c == Value.type "enumerate") <;>
      · wp_walk using wpAny_loadPart' hl, wpAny_pyIter_tuple hT
        exact ⟨_, rfl, h⟩
    · wp_walk using wpAny_loadPart' hl, wpAny_pyIter_tuple hT
      exact ⟨_, rfl, h⟩
section
variable {prog : Program} {w : World} {A : Around} {E : Value → Shared → Prop} {s : Shared}
theorem call_enumT {t : Addr} {items : Array Value} {Q : Value → Shared → Prop} (ht : s.heap.get? t = some { cls := .type "tuple", data := .seq items })
    (h : ∀ h', IsEnum h' (s.heap.objs.size + 1) s.heap.objs.size 0 .none → h'.IsTupleIter s.heap.objs.size t 0 → (∀ b o, s.heap.get? b = some o → h'.get? b = some o) → Q (.ref (s.heap.objs.size + 1)) { s with heap := h' }) :
    wpAny (model prog w) A (call (.type "enumerate") [.ref t]) Q E s := by
  refine callType_new F.called_enumerate (by decide) (F.typeCall_enumerate_1 _) (F.newCall_enumerate_1 _) (fun obj => F.args_object_init_2 obj _) F.entry_enumerate_new (meets_enumT t items) ⟨ht, ?_⟩
  have hz : (s.heap.push (itT t 0)).objs.size = s.heap.objs.size + 1 := Heap.size_push ..
  show _ ∧ _
  have he := Heap.get?_push_size (s.heap.push (itT t 0)) (o := { cls := .type "enumerate", data := .fields #[.none, .bool false, .ref s.heap.objs.size, rawInt 0, .none, .none] }) rfl
  rw [hz] at he ⊢
  exact ⟨⟨_, he, rfl⟩, h _ he ⟨_, Heap.get?_push_of_some _ (Heap.get?_push_size _ rfl), rfl, rfl⟩ fun b o x => Heap.get?_push_of_some _ (Heap.get?_push_of_some _ x)⟩
/-- the next item of a tuple's iterator, as enumerate asks for it -/
theorem nextT_item {it t : Addr} {i : Nat} {items : Array Value} {x : Value} {Q : Value → Shared → Prop} (hit : s.heap.IsTupleIter it t i) (ht : s.heap.IsTuple t items) (hx : items[i]? = some x)
    (hQ : ∀ h', h'.IsTupleIter it t (i + 1) → Heap.SameBut it s.heap h' → Q x { s with heap := h' }) : wpAny (model prog w) A (Builtin.SmallTypes.nextOf (.ref it)) Q E s := by
  obtain ⟨o, ho, hc, hd⟩ := id hit
  obtain ⟨ol, hol, _, nl, hdl⟩ := ht
  unfold Builtin.SmallTypes.nextOf
  refine wpAny_bind (wpAny_callSpecial?_slot (name := Str.ofString "__next__") hit.typeIs F.slot_tuple_iterator_next
    (wpAny_call_entry F.slot_tuple_iterator_next hit.typeIs F.entry_tuple_iterator_next ?_ (F.args_tuple_iterator_next_1 _)))
  show wpAny _ _ (field (.ref it) 0 >>= _) _ _ s
  refine wpAny_bind (wpAny_field ho hd (x := .ref t) rfl ?_)
  show wpAny _ _ (if (Value.ref t == Value.none) = true then _ else _) _ _ s
  rw [if_neg (show ¬ ((Value.ref t == Value.none) = true) from Bool.false_ne_true)]
  show wpAny _ _ (field (.ref it) 1 >>= _) _ _ s
  refine wpAny_bind (wpAny_field ho hd (x := .int i 0) rfl ?_)
  show wpAny _ _ (seqItems? (.ref t) >>= _) _ _ s
  refine wpAny_bind (wpAny_seqItems hol hdl ?_)
  simp only [Int.toNat_natCast, hx]
  refine wpAny_bind (wpAny_setField ho hd (by simp) (wpAny_pure ⟨x, rfl, wpAny_pure (hQ _ ?_ (Heap.SameBut.update ..))⟩))
  exact ⟨_, Heap.get?_update_self _ ho (Obj.isFreed_of_fields (Obj.data_mapFields hd _)), (Obj.cls_mapFields ..).trans hc, by
    rw [Obj.data_mapFields hd]; simp [rawInt]⟩
theorem nextT_end {it t : Addr} {i : Nat} {items : Array Value} {Q : Value → Shared → Prop} (hh : A.handled = none) (hit : s.heap.IsTupleIter it t i) (ht : s.heap.IsTuple t items) (hx : items[i]? = none)
    (hE : ∀ h' e, Heap.ExtBut it s.heap h' → (∃ o, h'.get? e = some o ∧ o.cls = .type "StopIteration") → E (.ref e) { s with heap := h' }) : wpAny (model prog w) A (Builtin.SmallTypes.nextOf (.ref it)) Q E s := by
  obtain ⟨o, ho, hc, hd⟩ := id hit
  obtain ⟨ol, hol, _, nl, hdl⟩ := ht
  unfold Builtin.SmallTypes.nextOf
  refine wpAny_bind (wpAny_callSpecial?_slot (name := Str.ofString "__next__") hit.typeIs F.slot_tuple_iterator_next
    (wpAny_call_entry F.slot_tuple_iterator_next hit.typeIs F.entry_tuple_iterator_next ?_ (F.args_tuple_iterator_next_1 _)))
  show wpAny _ _ (field (.ref it) 0 >>= _) _ _ s
  refine wpAny_bind (wpAny_field ho hd (x := .ref t) rfl ?_)
  show wpAny _ _ (if (Value.ref t == Value.none) = true then _ else _) _ _ s
  rw [if_neg (show ¬ ((Value.ref t == Value.none) = true) from Bool.false_ne_true)]
  show wpAny _ _ (field (.ref it) 1 >>= _) _ _ s
  refine wpAny_bind (wpAny_field ho hd (x := .int i 0) rfl ?_)
  show wpAny _ _ (seqItems? (.ref t) >>= _) _ _ s
  refine wpAny_bind (wpAny_seqItems hol hdl ?_)
  simp only [Int.toNat_natCast, hx]
  refine wpAny_bind (wpAny_rule (wpAny_bind (wpAny_setField ho hd (by simp) ?_)))
  show wpAny _ _ (newExc (.type "StopIteration") [] >>= _) _ _ _
  refine wpAny_bind ?_
  simp only [newExc, newTuple]
  refine wpAny_bind (wpAny_newObj_type ?_ (by size_fits))
  refine wpAny_bind (m := firstArgMember _ _) (wpAny_of_eq (a := Value.none) (by first | rfl | (simp only [firstArgMember]; rfl)) ?_)
  refine wpAny_newObj_type ?_ (by size_fits)
  simp only [raiseNew]
  refine wpAny_bind (wpAny_handled ?_)
  first | rw [show A.in1.handled = none from hh] | rw [hh]
  refine wpAny_bind (wpAny_pure (wpAny_throw ?_))
  exact hE _ _ (((Heap.SameBut.update ..).extBut.push _).push _) ⟨_, Heap.get?_push_size _ rfl, rfl⟩
/-- what enumerate's own next does, whatever the iterator below it is: a new pair, handed out -/
theorem enum_next {e it : Addr} {i : Nat} {x old : Value} {Nx : Heap → Prop} {Q : Value → Shared → Prop} (he : IsEnum s.heap e it i old) (hne : e ≠ it)
    (hnx : ∀ (Q' : Value → Shared → Prop), (∀ h₁, Nx h₁ → Heap.SameBut it s.heap h₁ → Q' x { s with heap := h₁ }) → wpAny (model prog w) A (Builtin.SmallTypes.nextOf (.ref it)) Q' E s)
    (hQ : ∀ h₁ h', Nx h₁ → (∀ b o, b ≠ e → h₁.get? b = some o → h'.get? b = some o) → IsEnumOut h' e it ((i : Int) + 1) x s.heap.objs.size →
      h'.get? s.heap.objs.size = some { cls := .type "tuple", data := .seq #[.int i s.toks, x] } →
      (∀ b o, b ≠ e → b ≠ it → s.heap.get? b = some o → h'.get? b = some o) → Q (.ref s.heap.objs.size) { s with heap := h', toks := s.toks + 1 }) :
    wpAny (model prog w) A (Builtin.«enumerate.__next__» ⟨[.ref e], []⟩) (fun fin s' => ∃ v, fin = .done (.ret v) ∧ Q v s') E s := by
  obtain ⟨hp, g, d, tk, os⟩ := s
  show wpAny _ _ (field (.ref e) 2 >>= _) _ _ _
  refine wpAny_bind (wpAny_field he rfl (x := .ref it) rfl (wpAny_bind (hnx _ fun h₁ hN hs₁ => ?_)))
  replace hs₁ : Heap.SameBut it hp h₁ := hs₁
  have hel : e < hp.objs.size := Heap.lt_size he
  have he₁ : IsEnum h₁ e it i old := (hs₁.2 e hne).trans he
  show wpAny _ _ (field (.ref e) 3 >>= _) _ _ ⟨h₁, g, d, tk, os⟩
  refine wpAny_bind (wpAny_field he₁ rfl (x := rawInt i) rfl ?_)
  show wpAny _ _ (field (.ref e) 4 >>= _) _ _ ⟨h₁, g, d, tk, os⟩
  refine wpAny_bind (wpAny_field he₁ rfl (x := .none) rfl ?_)
  show wpAny _ _ (mkInt i >>= _) _ _ ⟨h₁, g, d, tk, os⟩
  refine wpAny_bind (wpAny_mkInt ?_)
  show wpAny _ _ (setField (.ref e) 3 (rawInt ((i : Int) + 1)) >>= _) _ _ ⟨h₁, g, d, tk + 1, os⟩
  refine wpAny_bind (wpAny_setField_rec he₁ (by simp) fun h₂ he₂ hs₂ => ?_)
  replace hs₂ : Heap.SameBut e h₁ h₂ := hs₂
  replace he₂ : IsEnum h₂ e it ((i : Int) + 1) old := he₂
  show wpAny _ _ (setField (.ref e) 4 .none >>= _) _ _ ⟨h₂, g, d, tk + 1, os⟩
  refine wpAny_bind (wpAny_setField_rec he₂ (by simp) fun h₃ he₃ hs₃ => ?_)
  replace hs₃ : Heap.SameBut e h₂ h₃ := hs₃
  replace he₃ : IsEnum h₃ e it ((i : Int) + 1) old := he₃
  show wpAny _ _ (newTuple [.int i tk, x] >>= _) _ _ ⟨h₃, g, d, tk + 1, os⟩
  refine wpAny_bind (wpAny_newTuple ?_)
  have hsz : h₃.objs.size = hp.objs.size := by rw [hs₃.1, hs₂.1, hs₁.1]
  have k13 : ∀ b o, b ≠ e → h₁.get? b = some o → h₃.get? b = some o := fun b o hb y => hs₃.extBut b o hb (hs₂.extBut b o hb y)
  have he₄ : IsEnum (h₃.push { cls := .type "tuple", data := .seq #[.int i tk, x] }) e it ((i : Int) + 1) old := Heap.get?_push_of_some _ he₃
  have ht₄ : (h₃.push { cls := .type "tuple", data := .seq #[.int i tk, x] }).get? hp.objs.size = some { cls := .type "tuple", data := .seq #[.int i tk, x] } := by rw [← hsz]; exact Heap.get?_push_size _ rfl
  have k14 : ∀ b o, b ≠ e → h₁.get? b = some o → (h₃.push { cls := .type "tuple", data := .seq #[.int i tk, x] }).get? b = some o := fun b o hb y => Heap.get?_push_of_some _ (k13 b o hb y)
  generalize h₃.push { cls := .type "tuple", data := .seq #[.int i tk, x] } = h₄ at he₄ ht₄ k14
  show wpAny _ _ (Builtin.SmallTypes.ownedTupleIsFree (.ref e) >>= _) _ _ ⟨h₄, g, d, tk + 1, os⟩
  rw [hsz]
  refine wpAny_bind ?_
  unfold Builtin.SmallTypes.ownedTupleIsFree
  refine wpAny_bind (wpAny_field he₄ rfl (x := .none) rfl (wpAny_pure ?_))
  simp only [if_true]
  refine wpAny_bind (wpAny_rule (wpAny_bind (wpAny_field he₄ rfl (x := old) rfl (wpAny_bind (wpAny_setField_rec he₄ (by simp) fun h₅ he₅ hs₅ => ?_)))))
  replace hs₅ : Heap.SameBut e h₄ h₅ := hs₅
  replace he₅ : IsEnum h₅ e it ((i : Int) + 1) x := he₅
  show wpAny _ _ (Builtin.SmallTypes.ownedTupleHandOut (.ref e) (.ref hp.objs.size) >>= _) _ _ ⟨h₅, g, d, tk + 1, os⟩
  refine wpAny_bind ?_
  unfold Builtin.SmallTypes.ownedTupleHandOut
  refine wpAny_bind (wpAny_setField_rec he₅ (by simp) fun h₆ he₆ hs₆ => ?_)
  replace hs₆ : Heap.SameBut e h₅ h₆ := hs₆
  replace he₆ : IsEnumOut h₆ e it ((i : Int) + 1) x hp.objs.size := he₆
  refine wpAny_setField_rec he₆ (by simp) fun h₇ he₇ hs₇ => ?_
  replace hs₇ : Heap.SameBut e h₆ h₇ := hs₇
  replace he₇ : IsEnumOut h₇ e it ((i : Int) + 1) x hp.objs.size := he₇
  have k47 : ∀ b o, b ≠ e → h₄.get? b = some o → h₇.get? b = some o := fun b o hb y => hs₇.extBut b o hb (hs₆.extBut b o hb (hs₅.extBut b o hb y))
  exact wpAny_bind (wpAny_letGo (wpAny_pure ⟨_, rfl, hQ h₁ h₇ hN (fun b o hb y => k47 b o hb (k14 b o hb y)) he₇ (k47 _ _ (Nat.ne_of_gt hel) ht₄) fun b o hb hbi y => k47 b o hb (k14 b o hb (hs₁.extBut b o hbi y))⟩))
theorem enumT_item {e it t : Addr} {i : Nat} {items : Array Value} {x old : Value} {Q : Option Value → Shared → Prop} (he : IsEnum s.heap e it i old) (hit : s.heap.IsTupleIter it t i) (ht : s.heap.IsTuple t items) (hx : items[i]? = some x) (hne : e ≠ it) (hte : t ≠ e) (hti : t ≠ it)
    (hQ : ∀ h', IsEnumOut h' e it ((i : Int) + 1) x s.heap.objs.size → h'.IsTupleIter it t (i + 1) → h'.IsTuple t items → h'.get? s.heap.objs.size = some { cls := .type "tuple", data := .seq #[.int i s.toks, x] } →
      (∀ b o, b ≠ e → b ≠ it → s.heap.get? b = some o → h'.get? b = some o) → Q (some (.ref s.heap.objs.size)) { s with heap := h', toks := s.toks + 1 }) :
    wpAny (model prog w) A (pyNext (.ref e)) Q E s := by
  have hT : s.TypeIs (.ref e) "enumerate" := ⟨_, he, rfl⟩
  unfold pyNext
  refine wpAny_bind (wpAny_attempt (wpAny_callSpecial?_slot (name := Str.ofString "__next__") hT F.slot_enumerate_next
    (wpAny_call_entry F.slot_enumerate_next hT F.entry_enumerate_next (enum_next (Nx := fun h => h.IsTupleIter it t (i + 1)) he hne (fun Q' hk => nextT_item hit ht hx hk) fun h₁ h' hN k1 ho hT' k => wpAny_pure ?_) (F.args_enumerate_next_1 _))))
  exact hQ h' ho (hN.at fun o y => k1 it o (Ne.symm hne) y) (ht.at fun o y => k t o hte hti y) hT' k
theorem enumT_end {e it t : Addr} {i : Nat} {items : Array Value} {old : Value} {Q : Option Value → Shared → Prop} (hh : A.handled = none) (he : IsEnum s.heap e it i old) (hit : s.heap.IsTupleIter it t i) (ht : s.heap.IsTuple t items) (hx : items[i]? = none)
    (hQ : ∀ h', Heap.ExtBut it s.heap h' → Q none { s with heap := h' }) : wpAny (model prog w) A (pyNext (.ref e)) Q E s := by
  have hT : s.TypeIs (.ref e) "enumerate" := ⟨_, he, rfl⟩
  unfold pyNext
  refine wpAny_bind (wpAny_attempt (wpAny_callSpecial?_slot (name := Str.ofString "__next__") hT F.slot_enumerate_next
    (wpAny_call_entry F.slot_enumerate_next hT F.entry_enumerate_next ?_ (F.args_enumerate_next_1 _))))
  show wpAny _ _ (field (.ref e) 2 >>= _) _ _ _
  refine wpAny_bind (wpAny_field he rfl (x := .ref it) rfl (wpAny_bind (nextT_end hh hit ht hx fun h' x he' hx' => ?_)))
  obtain ⟨o, ho, hc⟩ := hx'
  exact wpAny_bind (wpAny_isInstance (T := "StopIteration") (b := true) ⟨o, ho, hc⟩ isSubtype_stop (wpAny_pure (hQ _ he')))
/-- enumerate over a tuple, as the loops' rules ask for it -/
theorem turns_enumT {elts : List Expr} {k : Nat} {pos : Pos} (hh : A.handled = none) (e it t : Addr) (hei : e ≠ it) (hte : t ≠ e) (hti : t ≠ it) (items : Array Value) :
    KTurns prog w A (.Tuple elts k pos) e [e, it, t] [e, it] items.size
      (fun i v h => ∃ T tk x, v = .ref T ∧ items[i]? = some x ∧ h.get? T = some { cls := .type "tuple", data := .seq #[.int i tk, x] } ∧ e < T ∧ it < T)
      (fun i v h => ∃ T tk x, v = .ref T ∧ items[i]? = some x ∧ h.get? T = some { cls := .type "tuple", data := .seq #[.int i tk, x] } ∧ e < T ∧ it < T ∧ (∃ x, IsEnumOut h e it ((i : Int) + 1) x T) ∧ h.IsTupleIter it t (i + 1) ∧ h.IsTuple t items)
      (fun i h => (∃ old, IsEnum h e it i old) ∧ h.IsTupleIter it t i ∧ h.IsTuple t items) where
  sub := fun b hb => by
    simp only [List.mem_cons, List.not_mem_nil, or_false] at hb ⊢
    exact hb.elim .inl fun q => .inr (.inl q)
  frame := fun i h h' hst hk => by
    obtain ⟨⟨old, he⟩, hit, hl⟩ := hst
    exact ⟨⟨old, hk e (by simp) _ he⟩, hit.at fun o x => hk it (by simp) o x, hl.at fun o x => hk t (by simp) o x⟩
  item := fun i s Q E hi hst hQ => by
    obtain ⟨⟨old, he⟩, hit, hl⟩ := hst
    have hx : items[i]? = some items[i] := Array.getElem?_eq_getElem hi
    have helt : e < s.heap.objs.size := Heap.lt_size he
    have hilt : it < s.heap.objs.size := by obtain ⟨_, x, _⟩ := hit; exact Heap.lt_size x
    refine enumT_item he hit hl hx hei hte hti fun h' ho hit' hl' hT hk => ?_
    exact hQ _ h' _ ⟨_, _, _, rfl, hx, hT, helt, hilt, ⟨_, ho⟩, hit', hl'⟩ fun b o hb x => hk b o (fun q => hb (by simp [q])) (fun q => hb (by simp [q])) x
  go := fun i v s Q E hm hQ => by
    obtain ⟨T, tk, x, rfl, hx, hT, h1, h2, ⟨y, ho⟩, hit, hl⟩ := hm
    refine wpAny_letOwnedTupleGo_enum ho fun h' he' hs' => ?_
    exact hQ h' ⟨T, tk, x, rfl, hx, (hs'.2 T (Nat.ne_of_gt h1)).trans hT, h1, h2⟩ ⟨⟨y, by simpa using he'⟩, hit.at fun o z => (hs'.2 it hei.symm).trans z, hl.at fun o z => (hs'.2 t hte).trans z⟩ fun b o hb z => (hs'.2 b fun q => hb (by simp [q])).trans z
  done := fun s Q E hst hQ => by
    obtain ⟨⟨old, he⟩, hit, hl⟩ := hst
    exact enumT_end hh he hit hl (Array.getElem?_eq_none (Nat.le_refl _)) fun h' hx => hQ h' s.toks fun b o hb y => hx b o (fun q => hb (by simp [q])) y
end
section
variable {prog : Program} {w : World} {A : Around} {E : Value → Shared → Prop} {s : Shared} {env : Env} {h₀ : Heap} {body : List Stmt} {Q : Flow → Shared → Prop} {elts : List Expr} {k : Nat} {pos : Pos}
/-- for .. in enumerate(t), t a tuple of the ledger -/
theorem for_enumT {t : Addr} {items : Array Value} {m₀ : Str → Option Value} {news : Led} (J : Nat → (Str → Option Value) → Led → Prop)
    (hh : A.handled = none) (F : Fr h₀ env.locals s.heap m₀) (N : News h₀ env.locals s.heap news) (ht : (t, { cls := .type "tuple", data := .seq items }) ∈ news) (hj : J 0 m₀ news) (hE : PassesOwn (model prog w) A env E)
    (turn : ∀ (I T : Addr) i tk x m₁ news₁ h tk' own, items[i]? = some x → J i m₁ news₁ → (∀ p ∈ news₁, p.1 ∉ [I + 1, I]) → (∀ p ∈ own, p.1 ∈ [I + 1, I, t]) → Fr h₀ env.locals h m₁ →
      News h₀ env.locals h ((T, { cls := .type "tuple", data := .seq #[.int (i : Nat) tk, x] }) :: (news₁ ++ own)) → I + 1 < T → (∀ p ∈ news, p.1 < I) →
      wpAny (model prog w) A (assign (.Tuple elts k pos) env (.ref T)) (fun _ s₂ => wpAny (model prog w) A (execs body env) (TurnPost h₀ env.locals s [I + 1, I] own (J (i + 1)) Q) E s₂) E { s with heap := h, toks := tk' })
    (done : ∀ m₁ news₁ h tk, J items.size m₁ news₁ → Fr h₀ env.locals h m₁ → News h₀ env.locals h news₁ → Q .next { s with heap := h, toks := tk }) :
    wpAny (model prog w) A (call (.type "enumerate") [.ref t]) (fun xv s₁ => wpAny (model prog w) A (pyIter xv) (fun it s₂ => codeAny (model prog w) A (.forLoop (.Tuple elts k pos) it body [] env)
      (fun r s' => match r with | .ok f => Q f s' | .error e => cameBackBy (model prog w) A env E e s') s₂) E s₁) E s := by
  have hto := N _ ht
  have htl : t < s.heap.objs.size := Heap.lt_size hto.1
  refine call_enumT hto.1 fun h' he hit hk => wpAny_pyIter_enum he ?_
  have hlt : ∀ p ∈ news, p.1 < s.heap.objs.size := fun p hp => Heap.lt_size (N p hp).1
  have hL : env.locals < s.heap.objs.size := F.ns.lt
  have new : ∀ b, s.heap.objs.size ≤ b → h₀.get? b = none := fun b hb => Heap.get?_none_of_le (Nat.le_trans (Nat.le_trans F.above (Nat.le_of_lt hL)) hb)
  have W := turns_enumT (prog := prog) (w := w) (A := A) (elts := elts) (k := k) (pos := pos) hh (s.heap.objs.size + 1) s.heap.objs.size t (Nat.succ_ne_self _) (Nat.ne_of_lt (Nat.lt_succ_of_lt htl)) (Nat.ne_of_lt htl) items
  refine ktu_loop (s := { s with heap := h' }) (R := fun r s' => match r with | .ok f => Q f s' | .error e => cameBackBy (model prog w) A env E e s') W ?_ ?_ ?_ ⟨⟨_, he⟩, hit, ⟨_, hk _ _ hto.1, rfl, 0, rfl⟩⟩ (F.keeps hk) (N.grown hk) J hj ?_ ?_
  · simp only [List.mem_cons, List.not_mem_nil, or_false]
    rintro (q | q | q)
    · exact absurd hL (by rw [q]; exact Nat.not_lt.mpr (Nat.le_succ _))
    · exact absurd hL (by rw [q]; exact Nat.lt_irrefl _)
    · exact hto.2.1 q.symm
  · intro b hb
    simp only [List.mem_cons, List.not_mem_nil, or_false] at hb
    rcases hb with q | q <;> rw [q]
    · exact new _ (Nat.le_succ _)
    · exact new _ (Nat.le_refl _)
  · intro p hp hb
    have := hlt p hp
    simp only [List.mem_cons, List.not_mem_nil, or_false] at hb
    rcases hb with q | q <;> rw [q] at this
    · exact absurd this (Nat.not_lt.mpr (Nat.le_succ _))
    · exact absurd this (Nat.lt_irrefl _)
  · rintro i v m₁ news₁ h₁ tk₁ own hi ⟨T, tk, x, rfl, hx, hT, h1, h2⟩ hJ hoff hown hget hall hst F₁ N₁
    have N₂ : News h₀ env.locals h₁ ((T, { cls := .type "tuple", data := .seq #[.int (i : Nat) tk, x] }) :: (news₁ ++ own)) := by
      intro p hp
      rcases List.mem_cons.mp hp with rfl | hp
      · exact ⟨hT, Nat.ne_of_gt (Nat.lt_trans hL h2), new _ (Nat.le_of_lt h2)⟩
      · exact N₁ p ((List.mem_append.mp hp).elim (fun q => List.mem_append_right _ q) fun q => List.mem_append_left _ q)
    refine wpAny_mono (turn _ T i tk x m₁ news₁ h₁ tk₁ own hx hJ hoff hown F₁ N₂ h1 hlt) (fun _ s₂ h₂ => wpAny_passesOwn hE (wpAny_mono h₂ (fun f s₃ h₃ => ?_) fun _ _ q => q)) hE
    cases f with
    | ret v => exact h₃
    | brk => exact h₃
    | cont =>
      obtain ⟨h₃', tk₃, m₂, news₂, rfl, F₃, N₃, hoff₃, hJ₃⟩ := h₃
      exact ⟨rfl, h₃', tk₃, m₂, news₂, rfl, F₃, fun p hp => N₃ p ((List.mem_append.mp hp).elim (fun q => List.mem_append_right _ q) fun q => List.mem_append_left _ q), hoff₃, hJ₃⟩
    | next =>
      obtain ⟨h₃', tk₃, m₂, news₂, rfl, F₃, N₃, hoff₃, hJ₃⟩ := h₃
      exact ⟨rfl, h₃', tk₃, m₂, news₂, rfl, F₃, fun p hp => N₃ p ((List.mem_append.mp hp).elim (fun q => List.mem_append_right _ q) fun q => List.mem_append_left _ q), hoff₃, hJ₃⟩
  · intro h' tk m' news' F' N' _ hJ
    exact done m' news' h' tk hJ F' N'
end
end Mine
-- Cmp
set_option maxHeartbeats 1000000
namespace Mine
/-- all signs below 128 -/
def Asc (x : Str) : Prop := ∀ c ∈ x.cps.toList, c < 128
theorem strOk_asc {x : Str} (h : Asc x) : PyData.strOk x = true := by
  unfold PyData.strOk
  rw [← Array.all_toList]
  exact List.all_eq_true.mpr fun c hc => by have := h c hc; simp; omega
theorem Good.asc {w : Str} (h : Good w) : Asc w := fun c hc => by have := h.2 c hc; omega
theorem asc_append {a b : Str} (ha : Asc a) (hb : Asc b) : Asc (a ++ b) := by
  intro c hc
  rw [tl_append] at hc
  exact (List.mem_append.mp hc).elim (ha c) (hb c)
theorem asc_join {sep : Str} (hs : Asc sep) : ∀ {ws : List Str}, (∀ w ∈ ws, Asc w) → Asc (Str.join sep ws)
  | [], _ => fun _ h => nomatch h
  | [w], h => h w (List.mem_singleton.mpr rfl)
  | w :: v :: r, h => by
    rw [join_two]
    exact asc_append (asc_append (h w (List.mem_cons_self ..)) hs) (asc_join hs fun x hx => h x (List.mem_cons_of_mem _ hx))
theorem asc_em : Asc EM := by unfold Asc; rw [em_tl]; intro c h; cases h
theorem asc_nl : Asc NL := by unfold Asc; rw [nl_tl]; decide
theorem asc_sep : Asc SEP := by unfold Asc; rw [sep_tl]; decide
theorem asc_page {ws : List Str} (h : ∀ w ∈ ws, Good w) : Asc (pageOf ws) := by
  show Asc (Txt.join SEP ws)
  rw [join_eq]; exact asc_join asc_sep fun w hw => (h w hw).asc
theorem asc_rows {ws : List Str} (h : ∀ w ∈ ws, Good w) : Asc (Txt.join NL ws) := by
  rw [join_eq]; exact asc_join asc_nl fun w hw => (h w hw).asc
theorem asc_next {ws : List Str} (h : ∀ w ∈ ws, Good w) : Asc (nextOf ws) := by
  unfold nextOf
  split
  · exact asc_em
  · exact asc_append asc_nl (asc_page h)
theorem can_strs : ∀ {ss : List Str}, (∀ x ∈ ss, Asc x) → PyData.canLayAll0 (ss.map PyData.str) = true
  | [], _ => rfl
  | x :: r, h => by
    simp [PyData.canLayAll0, PyData.canLay0, strOk_asc (h x (List.mem_cons_self ..)), can_strs fun y hy => h y (List.mem_cons_of_mem _ hy)]
theorem depth_strs : ∀ ss : List Str, PyData.depthAll (ss.map PyData.str) = 0
  | [] => rfl
  | _ :: r => by simp [PyData.depthAll, PyData.depth, depth_strs r]
theorem same_strs : ∀ ss ts : List Str, Spec.sameAll (ss.map PyData.str) (ts.map PyData.str) = decide (ss = ts)
  | [], [] => by simp [Spec.sameAll]
  | [], _ :: _ => by simp [Spec.sameAll]
  | _ :: _, [] => by simp [Spec.sameAll]
  | a :: r, b :: t => by
    simp only [List.map_cons, Spec.sameAll, Spec.same, same_strs r t]
    by_cases h : a = b <;> by_cases h' : r = t <;> simp [h, h']
theorem shaped_strs {ss : List Str} (h : ∀ x ∈ ss, Asc x) : SeqAt.shaped (.list (ss.map PyData.str)) = true := by
  simp [SeqAt.shaped, PyData.canLay0, PyData.depth, can_strs h, depth_strs]
theorem carried_strs : ∀ l : List (Str × Tok), CarriedAll (strValues l) ((l.map (·.1)).map PyData.str)
  | [] => .nil
  | (x, t) :: r => .cons (.str x t) (carried_strs r)
section
variable {prog : Program} {w : World} {A : Around} {E : Value → Shared → Prop} {s : Shared} {a b : Addr} {Q : Value → Shared → Prop}
theorem ne_strs {la lb : List (Str × Tok)} (ha : s.heap.IsList a (strValues la).toArray) (hb : s.heap.IsList b (strValues lb).toArray) (h1 : ∀ x ∈ la.map (·.1), Asc x) (h2 : ∀ x ∈ lb.map (·.1), Asc x) (hu : A.units + 64 < cLine)
    (h : Q (.bool (!decide (la.map (·.1) = lb.map (·.1)))) s) : wpAny (model prog w) A (compareOp .NotEq (.ref a) (.ref b)) Q E s :=
  ne_dataH_same (reads_newData ha (carried_strs la)) (reads_newData hb (carried_strs lb)) (shaped_strs h1) (shaped_strs h2) hu
    (SeqAt.noMix_of_shape (.list .str) rfl _ _ (list_map_has fun _ => rfl) (list_map_has fun _ => rfl)) (by
      have e : Spec.same (.list ((la.map (·.1)).map PyData.str)) (.list ((lb.map (·.1)).map PyData.str)) = decide (la.map (·.1) = lb.map (·.1)) := by simp only [Spec.same]; exact same_strs _ _
      rw [e]; exact h)
theorem ne_pair {x1 x2 y1 y2 : Str} {t1 t2 u1 u2 : Tok} {n1 n2 : Nat} (ha : s.heap.get? a = some { cls := .type "tuple", data := .seq [Value.str x1 t1, .str x2 t2].toArray n1 }) (hb : s.heap.get? b = some { cls := .type "tuple", data := .seq [Value.str y1 u1, .str y2 u2].toArray n2 })
    (h1 : Asc x1) (h2 : Asc x2) (h3 : Asc y1) (h4 : Asc y2) (hu : A.units + 64 < cLine)
    (h : Q (.bool (!decide ((x1, x2) = (y1, y2)))) s) : wpAny (model prog w) A (compareOp .NotEq (.ref a) (.ref b)) Q E s := by
  have sh : ∀ {x y : Str}, Asc x → Asc y → SeqAt.shaped (.tuple [.str x, .str y]) = true := fun hx hy => by
    simp [SeqAt.shaped, PyData.canLay0, PyData.canLayAll0, PyData.depth, PyData.depthAll, strOk_asc hx, strOk_asc hy]
  refine ne_dataH (reads_tuple_at ha rfl rfl (.cons (.str _ _) (.cons (.str _ _) .nil))) (reads_tuple_at hb rfl rfl (.cons (.str _ _) (.cons (.str _ _) .nil))) (sh h1 h2) (sh h3 h4) hu ?_
  have e : PyData.eqv (.tuple [.str x1, .str x2]) (.tuple [.str y1, .str y2]) = decide ((x1, x2) = (y1, y2)) := by
    simp only [PyData.eqv, PyData.eqvAll]
    by_cases e1 : x1 = y1 <;> by_cases e2 : x2 = y2 <;> simp [e1, e2]
  rw [e]; exact h
end
end Mine
-- Bits
set_option maxHeartbeats 1000000
namespace Mine
open Builtin.Int (intBits)
theorem sum_abs {B : Nat} : ∀ (l : List Int), (∀ n ∈ l, n.natAbs ≤ B) → l.sum.natAbs ≤ l.length * B
  | [], _ => Nat.zero_le _
  | n :: r, h => by
    have h1 := sum_abs r fun k hk => h k (List.mem_cons_of_mem _ hk)
    have h2 := h n (List.mem_cons_self ..)
    rw [List.sum_cons, List.length_cons, Nat.succ_mul]
    omega
theorem sum_bits {m : Nat} {l : List Int} (h : ∀ n ∈ l, intBits n ≤ m) (hl : l.length ≤ 64) : intBits l.sum ≤ m + 7 := by
  refine intBits_le_iff.mpr ?_
  have h1 := sum_abs (B := 2 ^ m) l fun n hn => Nat.le_of_lt (intBits_le_iff.mp (h n hn))
  have h2 : l.length * 2 ^ m ≤ 64 * 2 ^ m := Nat.mul_le_mul_right _ hl
  have h3 : 2 ^ (m + 7) = 128 * 2 ^ m := by rw [Nat.pow_add, Nat.mul_comm]
  have h4 : 0 < 2 ^ m := Nat.two_pow_pos m
  rw [h3]; omega
theorem pick_bits {ws : List Value} {ns : List Int} {lo hi st : Option Int} (hI : IntsAre ws (ns.take 40)) (hLay : PyData.layable0 (.list (ns.map .int)) = true) : intBits (pickNums (ns.take 40) lo hi st).sum ≤ 1048600 := by
  have hmem : ∀ n ∈ pickNums (ns.take 40) lo hi st, intBits n ≤ 1048576 := by
    intro n hn
    unfold pickNums at hn
    obtain ⟨j, _, e⟩ := List.mem_filterMap.mp hn
    exact intBits_le_of_item (List.mem_of_mem_take (List.mem_of_getElem? e)) hLay
  have hlen : (pickNums (ns.take 40) lo hi st).length ≤ 64 := by
    have h1 := (hI.pick lo hi st).length
    have h2 := slicePick_size_le ws.toArray lo hi st
    have h3 := hI.length
    have h4 : (slicePick ws.toArray lo hi st).toList.length = (slicePick ws.toArray lo hi st).size := Array.length_toList
    have h5 : ws.toArray.size = ws.length := List.size_toArray ..
    have h6 : (ns.take 40).length ≤ 40 := by rw [List.length_take]; omega
    omega
  have := sum_bits hmem hlen
  omega
end Mine
-- Fin
set_option maxHeartbeats 1000000
namespace Mine
theorem first_asc (x : Int) : Asc (firstOf x).1 ∧ Asc (firstOf x).2 := by
  have hg := wordsOf_good x
  have hne := wordsOf_ne x
  unfold firstOf
  cases h : wordsOf x with
  | nil => exact absurd h hne
  | cons a r =>
    rw [h] at hg
    exact ⟨(hg a (List.mem_cons_self ..)).asc, asc_next fun w hw => hg w (List.mem_cons_of_mem _ hw)⟩
theorem spl_first (x : Int) {d : Str} {a b : List Nat} (hx : d.cps.toList = a ++ (pageOf (wordsOf x)).cps.toList ++ b) (ha : ∀ k ∈ a, Unicode.isSpace k = true) (hb : ∀ k ∈ b, Unicode.isSpace k = true) : spl d = firstOf x := by
  have hg := wordsOf_good x
  have hne := wordsOf_ne x
  unfold firstOf
  cases h : wordsOf x with
  | nil => exact absurd h hne
  | cons w r =>
    rw [h] at hg hx
    exact spl_page hg hx ha hb
theorem spl_first1 (x : Int) : spl (Str.ofString "\n" ++ pageOf (wordsOf x) ++ Str.ofString " \n") = firstOf x := by
  refine spl_first x (a := [10]) (b := [32, 10]) ?_ ?_ ?_
  · rw [tl_append, tl_append]
    congr 1
  · intro k hk; rw [List.mem_singleton.mp hk]; decide +kernel
  · intro k hk
    simp only [List.mem_cons, List.not_mem_nil, or_false] at hk
    rcases hk with rfl | rfl <;> decide +kernel
theorem spl_first2 (x : Int) : spl (pageOf (wordsOf x)) = firstOf x :=
  spl_first x (a := []) (b := []) (by simp) (fun _ h => nomatch h) (fun _ h => nomatch h)
section
variable {prog : Program} {w : World} {A : Around} {E : Value → Shared → Prop} {s : Shared} {a b : Addr} {Q : Value → Shared → Prop}
theorem ne_same {r1 r2 : Str × Str} {t1 t2 u1 u2 : Tok} {n1 n2 : Nat} (e : r1 = r2) (h1 : Asc r2.1) (h2 : Asc r2.2)
    (ha : s.heap.get? a = some { cls := .type "tuple", data := .seq [Value.str r1.1 t1, .str r1.2 t2].toArray n1 }) (hb : s.heap.get? b = some { cls := .type "tuple", data := .seq [Value.str r2.1 u1, .str r2.2 u2].toArray n2 })
    (hu : A.units + 64 < cLine) (h : Q (.bool false) s) : wpAny (model prog w) A (compareOp .NotEq (.ref a) (.ref b)) Q E s := by
  subst e
  refine ne_pair ha hb h1 h2 h1 h2 hu ?_
  simpa using h
end
end Mine
-- C12
set_option maxHeartbeats 1000000
namespace Mine
open Builtin.Int (intBits)
/-- replace upon a page: the words with a line end alone between two of them -/
theorem c_rows {w p loose mean mg mb} (ws : List Str) (t t1 t2 : Tok) (hw : ws ≠ []) (hg : ∀ v ∈ ws, Good v) (hx : (pageOf ws).length ≤ 4100000) (news : Led) :
    Ctr w p loose mean mg mb 28 [.str (pageOf ws) t, .str (Str.ofString "\n \n\n") t1, .str (Str.ofString "\n") t2] 1 8 news (RetV news (fun t => .str (Txt.join NL ws) t)) := by
  have h := c_replace (w := w) (p := p) (loose := loose) (mean := mean) (mg := mg) (mb := mb) (pageOf ws) SEP NL t t1 t2 hx (by decide +kernel) (by decide +kernel) news
  have e : Txt.split (pageOf ws) SEP = ws := split_sep hw hg
  rw [e] at h
  exact h
theorem rows_len {x : Int} (hx : intBits x ≤ 4000000) : (Txt.join NL (wordsOf x)).length ≤ 5000000 := by
  have hw := wordsOf_size hx (by omega)
  have h1 := join_len NL (wordsOf x)
  rw [nl_len] at h1
  omega
end Mine
namespace Mine
open Builtin.Str (occurrences)
theorem nl_one : NL = ⟨#[10]⟩ := str_ext (by rw [nl_tl])
theorem found_rows {ws : List Str} (hne : ws ≠ []) (hg : ∀ v ∈ ws, Good v) : (!(occurrences (Txt.join NL ws) (Str.ofString "\n") 0 (Txt.join NL ws).length 1).isEmpty) = decide (ws.length ≠ 1) := by
  have e : Str.ofString "\n" = ⟨#[10]⟩ := nl_one
  rw [e, StrLaws.found_one]
  exact decide_eq_decide.mpr (nl_in_rows hne hg)
theorem rows_many {ws : List Str} (hne : ws ≠ []) (hg : ∀ v ∈ ws, Good v) (h : (!(occurrences (Txt.join NL ws) (Str.ofString "\n") 0 (Txt.join NL ws).length 1).isEmpty) = true) : spl (Txt.join NL ws) = (Str.ofString "", Txt.join NL ws) := by
  rw [found_rows hne hg] at h
  rw [spl_rows hne hg, if_neg (of_decide_eq_true h)]
theorem rows_single {ws : List Str} (hne : ws ≠ []) (hg : ∀ v ∈ ws, Good v) (h : (!(occurrences (Txt.join NL ws) (Str.ofString "\n") 0 (Txt.join NL ws).length 1).isEmpty) = false) : spl (Txt.join NL ws) = (Txt.join NL ws, Str.ofString "") := by
  rw [found_rows hne hg] at h
  rw [spl_rows hne hg, if_pos (by simpa using h)]
end Mine
namespace Mine
theorem rows_asc {ws : List Str} (hne : ws ≠ []) (hg : ∀ v ∈ ws, Good v) : Asc (spl (Txt.join NL ws)).1 ∧ Asc (spl (Txt.join NL ws)).2 := by
  rw [spl_rows hne hg]
  split
  · exact ⟨asc_rows hg, asc_em⟩
  · exact ⟨asc_em, asc_rows hg⟩
section
variable {prog : Program} {w : World} {A : Around} {E : Value → Shared → Prop} {s : Shared} {Q : Value → Shared → Prop}
/-- a new pair has come -/
def PairPost (h₀ : Heap) (L : Addr) (m : Str → Option Value) (news : Led) (r : Str × Str) (s : Shared) (v : Value) (s₂ : Shared) : Prop := ∃ D t u h' tk', v = .ref D ∧ s₂ = { s with heap := h', toks := tk' } ∧ Fr h₀ L h' m ∧ News h₀ L h' ((D, { cls := .type "tuple", data := .seq [Value.str r.1 t, .str r.2 u].toArray }) :: news)
/-- two roads to one new pair are joined -/
theorem cut_pair {a : Sem Value} {h₀ : Heap} {L : Addr} {m : Str → Option Value} {news : Led} (r : Str × Str) (_F : Fr h₀ L s.heap m) (_N : News h₀ L s.heap news)
    (key : wpAny (model prog w) A a (PairPost h₀ L m news r s) E s)
    (rest : ∀ D t u h' tk', Fr h₀ L h' m → News h₀ L h' ((D, { cls := .type "tuple", data := .seq [Value.str r.1 t, .str r.2 u].toArray }) :: news) → Q (.ref D) { s with heap := h', toks := tk' }) :
    wpAny (model prog w) A a Q E s := by
  refine wpAny_mono key ?_ fun _ _ e => e
  rintro v s₂ ⟨D, t, u, h', tk', rfl, rfl, F', N'⟩
  exact rest D t u h' tk' F' N'
end
end Mine
-- C13
set_option maxHeartbeats 1000000
namespace Mine
/-- the lambda's table: not yet filled, or with the lambda's code -/
def TabSt (ps : Array Value) (extra : Led) : Prop :=
  (ps = #[] ∧ extra = []) ∨ ∃ (c' : Addr) (oc : Obj) (vs : Array Value) (t : Tok), ps = #[rawInt 81, rawInt 45, .ref c'] ∧ extra = [(c', oc)] ∧ oc.data = .fields vs ∧ vs[1]? = some (.str lamQual t)
def lawJ (cA Dd Dt : Addr) (od : Obj) (m₁ : Str → Option Value) (news₁ : Led) : Prop :=
  m₁ (Str.ofString "drawn") = some (.ref Dd) ∧ ∃ (o ot : Obj) (v₀ : Option Value) (ps : Array Value) (extra : Led), o.data = .cell v₀ ∧ TabSt ps extra ∧
    news₁ = (cA, o) :: (87, tabObj ps) :: (Dd, od) :: (Dt, ot) :: extra
section
variable {h₀ h : Heap} {L : Addr} {m : Str → Option Value} {s : Shared} {all own extra : Led} {I cA Dd Dt : Addr} {od o ot : Obj} {ps : Array Value} {v₀ : Option Value} {Q : Flow → Shared → Prop} {tk : Nat}
theorem turn_end (F : Fr h₀ L h m) (N : News h₀ L h all) (hd : m (Str.ofString "drawn") = some (.ref Dd)) (ho : o.data = .cell v₀) (hT : TabSt ps extra)
    (sub : ∀ p ∈ ((cA, o) :: (87, tabObj ps) :: (Dd, od) :: (Dt, ot) :: extra) ++ own, p ∈ all)
    (off : ∀ p ∈ (cA, o) :: (87, tabObj ps) :: (Dd, od) :: (Dt, ot) :: extra, p.1 ∉ [I + 1, I]) :
    TurnPost h₀ L s [I + 1, I] own (lawJ cA Dd Dt od) Q .next { s with heap := h, toks := tk } :=
  ⟨h, tk, m, _, rfl, F, fun p hp => N p (sub p hp), off, hd, o, ot, v₀, ps, extra, ho, hT, rfl⟩
end
section
variable {M : Model} {A : Around} {E : Value → Shared → Prop} {s : Shared} {h₀ : Heap} {L a : Addr} {m mg mb : Str → Option Value} {cn : Str} {cs : Scope} {ccd : Value} {cl : List (Str × Addr)}
  {p : Program} {loose : List Str} {mean : ExcName → Option Value} {ps : Array Value} {extra rest : Led} {clos : List (Str × Addr)} {pos : Pos} {fl : Nat} {qual : Str} {Q : Value → Shared → Prop}
/-- the lambda is made: its code is new at the first time, met again later -/
theorem make_lam (F : Fr h₀ L s.heap m) (T : Top p loose mean mg mb h₀) (C : CodeHd h₀ 89 87) (hcd : ccd = .ref 89) (hpos : pos.line = 81 ∧ pos.col = 45) (hq : qual = lamQual)
    (hcl : closureFor lamScope (envX cn cs L a ccd cl) = pure clos) (hTab : TabSt ps extra) (N : News h₀ L s.heap ((87, tabObj ps) :: (extra ++ rest))) (hne : ∀ p ∈ rest, p.1 ≠ 87)
    (h : ∀ f c' oc vs t ctv h' tk, Fr h₀ L h' m → News h₀ L h' ((f, kla_obj (Str.ofString "<lambda>") lamQual lamParams lamBody lamScope clos ((mg "__name__").getD .none) c' ctv) :: (c', oc) :: (87, tabObj #[rawInt 81, rawInt 45, .ref c']) :: rest) →
      oc.data = .fields vs → vs[1]? = some (.str lamQual t) → (∀ q ∈ rest, q.1 < f) → ((c', oc) ∈ extra ∨ ∀ q ∈ rest, q.1 < c') → Q (.ref f) { s with heap := h', toks := tk }) :
    wpAny M A (makeFunction (Str.ofString "<lambda>") qual lamParams (.expr lamBody) lamScope (envX cn cs L a ccd cl) [] [] [] pos fl) Q E s := by
  obtain ⟨hp1, hp2⟩ := hpos
  subst hq
  rcases hTab with ⟨rfl, rfl⟩ | ⟨c', oc, vs, t, rfl, rfl, hd, hv⟩
  · refine kla_nest (ps := #[]) F N T C hcd (.head hne) trivial rfl hcl fun f c' oc vs t ctv h' tk F' N' hd hv hlt hlt2 => ?_
    refine h f c' oc vs t ctv h' tk F' (fun q hq => N' q ?_) hd hv (fun q hq => Nat.lt_trans (hlt q (.tail _ hq)) hlt2) (.inr fun q hq => hlt q (.tail _ hq))
    rw [hp1, hp2]; exact hq
  · refine kla_hit (ps := #[rawInt 81, rawInt 45, .ref c']) (c' := c') F N T C hcd (.head _) trivial ?_ hcl fun f ctv h' tk F' N' hlt => ?_
    · simp [codeAmong, rawInt, hp1, hp2]
    · refine h f c' oc vs t ctv h' tk F' (fun q hq => N' q ?_) hd hv (fun q hq => hlt q (.tail _ (List.mem_append_right _ hq))) (.inl (.head _))
      rcases List.mem_cons.mp hq with rfl | hq
      · exact .head _
      · rcases List.mem_cons.mp hq with rfl | hq
        · exact .tail _ (.tail _ (List.mem_append_left _ (.head _)))
        · rcases List.mem_cons.mp hq with rfl | hq
          · exact .tail _ (.head _)
          · exact .tail _ (.tail _ (List.mem_append_right _ hq))
end
theorem extra_ne {h₀ h : Heap} {L c : Addr} {all extra : Led} {ps : Array Value} {o : Obj} {v : Option Value} {q : Addr × Obj} (N : News h₀ L h all) (hT : TabSt ps extra) (hc : (c, o) ∈ all) (ho : o.data = .cell v) (hq : q ∈ extra) (hqa : q ∈ all) : q.1 ≠ c := by
  intro e
  have h1 := (N q hqa).1
  rw [e, (N _ hc).1] at h1
  rcases hT with ⟨_, rfl⟩ | ⟨c', oc, vs, t, _, rfl, hd, _⟩
  · cases hq
  · rw [List.mem_singleton.mp hq] at h1
    have h2 : o = oc := Option.some.inj h1
    rw [← h2, ho] at hd; cases hd
/-- the words of the places above, as the comprehension makes them -/
theorem above_made {x : Int} {n : Nat} (hn : n = 31 - lowP x) {ys : List Value} (h : CarriedAll ys ((rangeKs (((lowP x : Nat) : Int) + 1) n).map fun k => PyData.str (wordN k.toNat))) :
    ∃ l : List (Str × Tok), ys = strValues l ∧ l.map (·.1) = aboveW (lowP x) := by
  have key : ∀ {ys : List Value} {L : List Int}, CarriedAll ys (L.map fun k => PyData.str (wordN k.toNat)) → ∃ l : List (Str × Tok), ys = strValues l ∧ l.map (·.1) = L.map fun k => wordN k.toNat := by
    intro ys L
    induction L generalizing ys with
    | nil => intro h; cases h; exact ⟨[], rfl, rfl⟩
    | cons k r ih =>
      intro h
      cases h with
      | cons hv hr =>
        obtain ⟨l, rfl, e⟩ := ih hr
        cases hv with
        | str _ t => exact ⟨(_, t) :: l, rfl, by rw [List.map_cons, e]; rfl⟩
  obtain ⟨l, e1, e2⟩ := key h
  refine ⟨l, e1, ?_⟩
  rw [e2, hn]
  unfold rangeKs aboveW aboveL
  rw [List.map_map, List.range'_eq_map_range, List.map_map]
  refine List.map_congr_left fun i _ => ?_
  show wordN ((((lowP x : Nat) : Int) + 1 + (i : Int)).toNat) = wordN (lowP x + 1 + i)
  congr 1
theorem above_size {x : Int} : (aboveW (lowP x)).length ≤ 31 := by simp [aboveW, aboveL]
theorem strs_append (la lb : List (Str × Tok)) : ((strValues la).toArray.toList ++ (strValues lb).toArray.toList).toArray = (strValues (la ++ lb)).toArray := by simp [strValues]
section
variable {prog : Program} {w : World} {A : Around} {E : Value → Shared → Prop} {s : Shared} {h₀ : Heap} {L : Addr} {m : Str → Option Value} {news : Led} {a b : Addr} {la lb : List (Str × Tok)} {ea eb : Nat} {Q : Value → Shared → Prop}
theorem add_strs (F : Fr h₀ L s.heap m) (N : News h₀ L s.heap news) (ha : (a, listOf (strValues la).toArray ea) ∈ news) (hb : (b, listOf (strValues lb).toArray eb) ∈ news) (hsz : la.length + lb.length ≤ 1000)
    (h : ∀ D h', (∀ p ∈ news, p.1 < D) → Fr h₀ L h' m → News h₀ L h' ((D, listOf (strValues (la ++ lb)).toArray 0) :: news) → Q (.ref D) { s with heap := h' }) :
    wpAny (model prog w) A (binaryOp .Add (.ref a) (.ref b)) Q E s := by
  refine add_arrays F N (News.isList N ha) (News.isList N hb) (fun h' F' N' => h _ h' (fun p hp => Heap.lt_size (N p hp).1) F' ?_) ?_
  · rw [strs_append] at N'; exact N'
  · simp only [strValues, List.size_toArray, List.length_map, sizeLine_eq]; omega
theorem ne_strs_eq (N : News h₀ L s.heap news) (ha : (a, listOf (strValues la).toArray ea) ∈ news) (hb : (b, listOf (strValues lb).toArray eb) ∈ news) (e : la.map (·.1) = lb.map (·.1)) (hg : ∀ v ∈ la.map (·.1), Good v) (hu : A.units + 64 < cLine)
    (h : Q (.bool false) s) : wpAny (model prog w) A (compareOp .NotEq (.ref a) (.ref b)) Q E s := by
  refine ne_strs (News.isList N ha) (News.isList N hb) (fun x hx => (hg x hx).asc) (fun x hx => (hg x (e ▸ hx)).asc) hu ?_
  rw [e]; simpa using h
end
theorem top_fmod (x : Int) : x - x.fmod (2 ^ Int.toNat 32) = topAt x 32 := by rw [fmod32]; rfl
theorem top_size {x : Int} (h : Builtin.Int.intBits x ≤ 3000000) : Builtin.Int.intBits (x - x.fmod (2 ^ Int.toNat 32)) ≤ 4000000 := by
  rw [top_fmod]
  have := topAt_bits h (by omega) (Nat.le_refl 32)
  omega
theorem neg_top_size {x : Int} (h : Builtin.Int.intBits x ≤ 3000000) : Builtin.Int.intBits (-2 ^ Int.toNat 32 - (x - x.fmod (2 ^ Int.toNat 32))) ≤ 4000000 := by
  have h1 : Builtin.Int.intBits (-2 ^ Int.toNat 32) ≤ 64 := by decide +kernel
  rw [top_fmod]
  have h2 := topAt_bits h (by omega) (Nat.le_refl 32)
  have h3 := intBits_sub_le h1 h2
  omega
theorem neg_top (x : Int) : sixteens (-2 ^ Int.toNat 32 - (x - x.fmod (2 ^ Int.toNat 32))) = sixteens (-2 ^ 32 - topAt x 32) := by rw [top_fmod]; rfl
theorem six_len (top : Int) : (sixteens top).length ≤ 1 := by unfold sixteens; split <;> simp
end Mine
-- L1
set_option maxHeartbeats 8000000
namespace Mine
open Builtin.Int (intBits)
section
local macro_rules | `(tactic| walk_at "pad 9") => `(tactic| fail "pad")
local macro_rules | `(tactic| walk_at "pad 8") => `(tactic| fail "pad")
local macro_rules | `(tactic| walk_at "pad 7") => `(tactic| fail "pad")
local macro_rules | `(tactic| walk_at "pad 6") => `(tactic| fail "pad")
local macro_rules | `(tactic| walk_at "pad 5") => `(tactic| fail "pad")
local macro_rules | `(tactic| walk_at "exec For Tuple Call cons nil") => `(tactic| (k_dflt (refine wpAny_For ?_)))
local macro_rules | `(tactic| walk_at "own call") => `(tactic| (k_dflt (first | (refine' c_page _ _ ?hx _ _ _ _ _ _ _ _ _ _ _ _ _ _ _ _ _ _ ?k1 ?k2 ?k3 ?k4 ?k5 ?kK ?kd ?ku ?_; (case k1 => k_asm); (case k2 => k_asm); (case k3 => k_asm); (case k4 => k_asm); (case k5 => k_asm); (case kK => first | exact rfl | assumption); (case hx => assumption); (case kd => ktr_room); (case ku => ktr_units); intro t9 h9 tk9 F9 N9; (try dsimp only); (try k_sweep)) | (refine' c_splitdoc _ _ ?hx _ _ _ _ _ _ _ _ _ _ _ _ _ _ _ _ _ _ ?k1 ?k2 ?k3 ?k4 ?k5 ?kK ?kd ?ku ?_; (case k1 => k_asm); (case k2 => k_asm); (case k3 => k_asm); (case k4 => k_asm); (case k5 => k_asm); (case kK => first | exact rfl | assumption); (case hx => assumption); (case kd => ktr_room); (case ku => ktr_units); intro D9 t9 u9 h9 tk9 lt9 F9 N9; (try dsimp only); (try k_sweep)) | (refine' c_first _ _ ?hx _ _ _ _ _ _ _ _ _ _ _ _ _ _ _ _ _ _ ?k1 ?k2 ?k3 ?k4 ?k5 ?kK ?kd ?ku ?_; (case k1 => k_asm); (case k2 => k_asm); (case k3 => k_asm); (case k4 => k_asm); (case k5 => k_asm); (case kK => first | exact rfl | assumption); (case hx => assumption); (case kd => ktr_room); (case ku => ktr_units); intro D9 t9 u9 h9 tk9 lt9 F9 N9; (try dsimp only); (try k_sweep)) | (refine' c_rows _ _ _ _ ?hw ?hg ?hx _ _ _ _ _ _ _ _ _ _ _ _ _ _ _ _ _ _ ?k1 ?k2 ?k3 ?k4 ?k5 ?kK ?kd ?ku ?_; (case k1 => k_asm); (case k2 => k_asm); (case k3 => k_asm); (case k4 => k_asm); (case k5 => k_asm); (case kK => first | exact rfl | assumption); (case hw => assumption); (case hg => assumption); (case hx => assumption); (case kd => ktr_room); (case ku => ktr_units); intro t9 h9 tk9 F9 N9; (try dsimp only); (try k_sweep)) | (refine' c_peeled _ _ ?hw ?hg ?hn ?hl _ _ _ _ _ _ _ _ _ _ _ _ _ _ _ _ _ _ ?k1 ?k2 ?k3 ?k4 ?k5 ?kK ?kd ?ku ?_; (case k1 => k_asm); (case k2 => k_asm); (case k3 => k_asm); (case k4 => k_asm); (case k5 => k_asm); (case kK => first | exact rfl | assumption); (case hw => assumption); (case hg => assumption); (case hn => assumption); (case hl => assumption); (case kd => ktr_room); (case ku => ktr_units); intro D9 l9 ep9 h9 tk9 hl9 lt9 F9 N9; (try dsimp only); (try k_sweep)) | (refine' c_word _ _ ?h0 ?h1 _ _ _ _ _ _ _ _ _ _ _ _ _ _ _ _ _ _ ?k1 ?k2 ?k3 ?k4 ?k5 ?kK ?kd ?ku ?_; (case k1 => k_asm); (case k2 => k_asm); (case k3 => k_asm); (case k4 => k_asm); (case k5 => k_asm); (case kK => first | exact rfl | assumption); (case h0 => first | assumption | omega); (case h1 => first | assumption | omega); (case kd => ktr_room); (case ku => ktr_units); intro t9 h9 tk9 F9 N9; (try dsimp only); (try k_sweep)) | (refine' c_lowest _ _ ?hx _ _ _ _ _ _ _ _ _ _ _ _ _ _ _ _ _ _ ?k1 ?k2 ?k3 ?k4 ?k5 ?kK ?kd ?ku ?_; (case k1 => k_asm); (case k2 => k_asm); (case k3 => k_asm); (case k4 => k_asm); (case k5 => k_asm); (case kK => first | exact rfl | assumption); (case hx => assumption); (case kd => ktr_room); (case ku => ktr_units); intro t9 h9 tk9 F9 N9; (try dsimp only); (try k_sweep)) | (refine' c_sixteens _ _ ?hx _ _ _ _ _ _ _ _ _ _ _ _ _ _ _ _ _ _ ?k1 ?k2 ?k3 ?k4 ?k5 ?kK ?kd ?ku ?_; (case k1 => k_asm); (case k2 => k_asm); (case k3 => k_asm); (case k4 => k_asm); (case k5 => k_asm); (case kK => first | exact rfl | assumption); (case hx => assumption); (case kd => ktr_room); (case ku => ktr_units); intro D9 l9 ep9 h9 tk9 hl9 lt9 F9 N9; (try dsimp only); (try k_sweep)))))
local macro_rules | `(tactic| walk_at "mine steps") => `(tactic| repeat' (first | ((with_reducible show wpAny _ _ (call (Value.ref _) _) _ _ _); walk_at "own call") | ((fail_if_success (with_reducible show wpAny _ _ (call (Value.ref _) _) _ _ _)); (fail_if_success (with_reducible show wpAny _ _ (compareOp CmpOp.NotEq (Value.ref _) (Value.ref _)) _ _ _)); (fail_if_success (with_reducible show wpAny _ _ (eval (Expr.IfExp _ _ _ _) _) _ _ _)); (fail_if_success (with_reducible show wpAny _ _ (exec (Stmt.Assign _ (Expr.ListComp _ _ _ _) _) _) _ _ _)); (fail_if_success (with_reducible show wpAny _ _ (eval (Expr.Lambda _ _ _ _) _) _ _ _)); (fail_if_success (with_reducible show wpAny _ _ (binaryOp Operator.Add (Value.ref _) (Value.ref _)) _ _ _)); (fail_if_success (with_reducible show LCg.CompSrc _ _ _ _ _ _ _ _ _ _ _ _ _ _)); first | (k_unfold; (try dsimp only)) | walk1 | (dsimp only; walk1)) | fail "no step"))
local macro_rules | `(tactic| walk_at "plain steps") => `(tactic| repeat' (first | ((fail_if_success (with_reducible show wpAny _ _ (call (Value.ref _) _) _ _ _)); (fail_if_success (with_reducible show wpAny _ _ (compareOp CmpOp.NotEq (Value.ref _) (Value.ref _)) _ _ _)); (fail_if_success (with_reducible show wpAny _ _ (eval (Expr.IfExp _ _ _ _) _) _ _ _)); (fail_if_success (with_reducible show wpAny _ _ (exec (Stmt.Assign _ (Expr.ListComp _ _ _ _) _) _) _ _ _)); (fail_if_success (with_reducible show wpAny _ _ (eval (Expr.Lambda _ _ _ _) _) _ _ _)); (fail_if_success (with_reducible show wpAny _ _ (binaryOp Operator.Add (Value.ref _) (Value.ref _)) _ _ _)); (fail_if_success (with_reducible show LCg.CompSrc _ _ _ _ _ _ _ _ _ _ _ _ _ _)); first | (k_unfold; (try dsimp only)) | walk1 | (dsimp only; walk1)) | fail "no step"))
theorem law_holds : PySem.Challenge.rw_ph0029_01.Holds := hd (by
  w_on
  w_strict (k_go0; (all_goals try k_fold); k_steps)
  rename (IntsAre _ (List.take 40 _)) => hI
  rename (PyData.layable0 _ = true) => hLay
  rename Fr _ _ _ _ => F1
  rename News _ _ _ _ => N1
  rename_i w s0 s1 mg mb G Y fa o pm doc ho hg X V T B TE TW hcd ns hsh hlay0 hr1 hl2 a4 a3 a2 wl wa hL ra w1 r0 hIn hr hc1 hc2 hD h1 tk1 cO hcO X0 XK TK BK l0 Dd ws h2 hC hL2 hdl h3 Dt h4 hdt
  have N1' := sub_news (news := (s1.heap.objs.size + 1, cO) :: (87, tabObj #[]) :: (Dd, listOf ws.toArray 0) :: (Dt, { cls := .type "tuple", data := .seq [Value.int 8589939072 _, .int 40 _].toArray }) :: []) N1 (fun p hp => by
    rcases List.mem_cons.mp hp with rfl | hp
    · exact .tail _ (.tail _ (.head _))
    · rcases List.mem_cons.mp hp with rfl | hp
      · exact .tail _ (.tail _ (.tail _ (.head _)))
      · rcases List.mem_cons.mp hp with rfl | hp
        · exact .tail _ (.head _)
        · rcases List.mem_cons.mp hp with rfl | hp
          · exact .head _
          · cases hp)
  refine for_enumT (fun _ => lawJ (s1.heap.objs.size + 1) Dd Dt (listOf ws.toArray 0)) rfl F1 N1' (.tail _ (.tail _ (.tail _ (.head _)))) ?hj ?hE ?turn ?done
  case hj => exact ⟨rfl, cO, _, _, #[], [], hcO, .inl ⟨rfl, rfl⟩, rfl⟩
  case hE => passes_own
  case turn =>
    rintro I Tp i tkp x m₁ news₁ h tk' own hx ⟨hm1, oC, ot, v₀, ps, extra, hoC, hTab, rfl⟩ hoff hown F3 N3 hIT hI3
    rw [map1 hm1] at F3
    clear F1 N1 N1'
    obtain ⟨x0, tx, hx0, rfl⟩ : ∃ x0 tx, intBits x0 ≤ 64 ∧ x = .int x0 tx := by
      match i, hx with
      | 0, hx => exact ⟨8589939072, _, by decide +kernel, (Option.some.inj hx).symm⟩
      | 1, hx => exact ⟨40, _, by decide +kernel, (Option.some.inj hx).symm⟩
      | n + 2, hx => cases hx
    k_steps
    rename Fr _ _ _ _ => F4
    rename News _ _ _ _ => N4
    refine LSm.sum_ints F4 N4 rfl (News.isList N4 (List.Mem.head _)) (hI.pick _ _ _) ?_
    intro h5 tk5 t5 F5 N5
    have hS := pick_bits (lo := some (i : Int)) (hi := none) (st := some 2) hI hLay
    generalize (pickNums (ns.take 40) (some (i : Int)) none (some 2)).sum = S at hS ⊢
    have hX : intBits (x0 + S) ≤ 3000000 := by
      have := intBits_add_le hx0 hS
      omega
    have hX4 : intBits (x0 + S) ≤ 4000000 := by omega
    have hXn : intBits (-(x0 + S)) ≤ 3000000 := intBits_neg_le hX
    have hXn4 : intBits (-(x0 + S)) ≤ 4000000 := by omega
    have hpl : (Str.ofString "\n" ++ pageOf (wordsOf (x0 + S)) ++ Str.ofString " \n").length ≤ 5000000 := by
      have h1 := page_len hX4
      have e1 : (Str.ofString "\n").length = 1 := nl_len
      have e2 : (Str.ofString " \n").length = 2 := by decide +kernel
      rw [Str.length_append, Str.length_append]; omega
    have hpa : (pageOf (wordsOf (-(x0 + S)))).length ≤ 5000000 := Nat.le_trans (page_len hXn4) (by omega)
    have hpr : (pageOf (wordsOf (x0 + S))).length ≤ 4100000 := Nat.le_trans (page_len hX4) (by omega)
    have hs1 := spl_first1 (x0 + S)
    have hs2 := spl_first2 (-(x0 + S))
    obtain ⟨ha1, ha2⟩ := first_asc (x0 + S)
    obtain ⟨ha3, ha4⟩ := first_asc (-(x0 + S))
    have hrl := rows_len hX4
    have hw := wordsOf_ne (x0 + S)
    have hg := wordsOf_good (x0 + S)
    clear F4 N4
    walk_at "mine steps"
    rename News _ _ _ _ => N9
    refine ne_same hs1 ha1 ha2 (N9 _ (.tail _ (.head _))).1 (N9 _ (.head _)).1 (by ke_room) ?_
    walk_at "mine steps"
    rename News _ _ _ _ => N10
    refine ne_same hs2 ha3 ha4 (N10 _ (.tail _ (.head _))).1 (N10 _ (.head _)).1 (by ke_room) ?_
    walk_at "mine steps"
    (try clear N9); (try clear N10)
    rename News _ _ _ _ => N11
    rename Fr _ _ _ _ => F11
    refine cut_pair (spl (Txt.join NL (wordsOf (x0 + S)))) F11 N11 ?key ?_
    case key =>
      clear hs1 hs2 ha1 ha2 ha3 ha4
      walk1
      walk_at "mine steps"
      all_goals dsimp only [PairPost]
      all_goals rename (Builtin.Str.occurrences _ _ _ _ _).isEmpty = _ => hf
      · rename News _ _ _ _ => N12
        rename Fr _ _ _ _ => F12
        have e := rows_single hw hg (by rw [hf]; rfl)
        rw [e] at N12 ⊢
        exact ⟨_, _, _, _, _, rfl, rfl, F12, N12⟩
      · rename News _ _ _ _ => N12
        rename Fr _ _ _ _ => F12
        have e := rows_many hw hg (by rw [hf]; rfl)
        rw [e] at N12 ⊢
        exact ⟨_, _, _, _, _, rfl, rfl, F12, N12⟩
    intro D12 t12 u12 h12 tk12 F12 N12
    clear F11 N11
    refine ne_same rfl (rows_asc hw hg).1 (rows_asc hw hg).2 (N12 _ (.tail _ (.head _))).1 (N12 _ (.head _)).1 (by ke_room) ?_
    clear hs1 hs2 ha1 ha2 ha3 ha4 hpl hpa hpr hrl
    walk_at "mine steps"
    · rename (Int.fmod _ _ ≠ 0) => hb
      have hm32 : (x0 + S) % 2 ^ 32 ≠ 0 := by rwa [fmod32] at hb
      rename News _ _ _ _ => N13
      rename Fr _ _ _ _ => F13
      have N14 := sub_news (news := (s1.heap.objs.size + 1, oC) :: (87, tabObj ps) :: (Dd, listOf ws.toArray 0) :: (Dt, ot) :: (Tp, { cls := .type "tuple", data := .seq #[.int ((i : Nat) : Int) tkp, .int x0 tx] }) :: (extra ++ own)) N13 (fun p hp => by
        have hp' : p ∈ (Tp, { cls := .type "tuple", data := .seq #[.int ((i : Nat) : Int) tkp, .int x0 tx] }) :: (((s1.heap.objs.size + 1, oC) :: (87, tabObj ps) :: (Dd, listOf ws.toArray 0) :: (Dt, ot) :: extra) ++ own) := by
          simp only [List.mem_cons, List.mem_append] at hp ⊢
          rcases hp with h | h | h | h | h | h | h
          · exact .inr (.inl (.inl h))
          · exact .inr (.inl (.inr (.inl h)))
          · exact .inr (.inl (.inr (.inr (.inl h))))
          · exact .inr (.inl (.inr (.inr (.inr (.inl h)))))
          · exact .inl h
          · exact .inr (.inl (.inr (.inr (.inr (.inr h)))))
          · exact .inr (.inr h)
        clear hp
        repeat first | exact hp' | refine List.mem_cons_of_mem _ ?_)
      clear N13
      have hwz := wordsOf_size hX4 (by omega)
      have hwz2 := wordsOf_size hXn4 (by omega)
      have hn1 := hwz.2
      have hn2 := hwz2.2
      have hl1 : ((wordsOf (x0 + S)).map (·.length)).sum ≤ 4500000 := Nat.le_trans hwz.1 (by omega)
      have hl3 : ((wordsOf (-(x0 + S))).map (·.length)).sum ≤ 4500000 := Nat.le_trans hwz2.1 (by omega)
      have hw2 := wordsOf_ne (-(x0 + S))
      have hg2 := wordsOf_good (-(x0 + S))
      walk_at "mine steps"
      rename_i Dm lm epm h15 tk15 hlm ltm F15 N15
      have hDtI : @LT.lt Nat _ Dt I := hI3 (Dt, _) (.tail _ (.tail _ (.tail _ (.head _))))
      have hcI : @LT.lt Nat _ (s1.heap.objs.size + 1) I := hI3 (s1.heap.objs.size + 1, _) (.head _)
      have h87L : @LT.lt Nat _ 87 s1.heap.objs.size := l0
      have hownC : ∀ p ∈ own, @LT.lt Nat _ (s1.heap.objs.size + 1) p.1 := by
        intro p hp
        have h9 := hown p hp
        simp only [List.mem_cons, List.not_mem_nil, or_false] at h9
        rcases h9 with e | e | e <;> rw [e]
        · exact Nat.lt_succ_of_lt hcI
        · exact hcI
        · exact hdt.2.1
      have hDmC : @LT.lt Nat _ (s1.heap.objs.size + 1) Dm := ltm _ (.head _)
      have hneC : ∀ p ∈ (87, tabObj ps) :: (Dd, listOf ws.toArray 0) :: (Dt, ot) :: (Tp, { cls := .type "tuple", data := .seq #[.int ((i : Nat) : Int) tkp, .int x0 tx] }) :: (extra ++ own), p.1 ≠ s1.heap.objs.size + 1 := by
        intro p hp
        rcases List.mem_cons.mp hp with rfl | hp
        · exact Nat.ne_of_lt (Nat.lt_succ_of_lt h87L)
        · rcases List.mem_cons.mp hp with rfl | hp
          · exact Nat.ne_of_gt hdl.1
          · rcases List.mem_cons.mp hp with rfl | hp
            · exact Nat.ne_of_gt hdt.2.1
            · rcases List.mem_cons.mp hp with rfl | hp
              · exact Nat.ne_of_gt (Nat.lt_trans (Nat.lt_succ_of_lt hcI) hIT)
              · rcases List.mem_append.mp hp with hp | hp
                · exact extra_ne N15 hTab (.tail _ (.head _)) hoC hp (.tail _ (.tail _ (.tail _ (.tail _ (.tail _ (.tail _ (List.mem_append_left _ hp)))))))
                · exact Nat.ne_of_gt (hownC p hp)
      refine storeX_C F15 N15 rfl (.tail (Nat.ne_of_gt hDmC) (.head hneC)) hoC ?_
      intro h16 o16 F16 N16 ho16
      (try dsimp only at N16)
      clear F15 N15
      have hlp := (lowP_spec hm32).1
      have hp0 : (0 : Int) ≤ ((lowP (x0 + S) : Nat) : Int) := Int.natCast_nonneg _
      have hp1 : ((lowP (x0 + S) : Nat) : Int) < 32 := by omega
      walk_at "mine steps"
      rename Fr _ _ _ _ => F17
      rename News _ _ _ _ => N17
      rename (Dm < _ ∧ _) => hltf
      rename_i Df h17a h17
      obtain ⟨lf, hlf, N17f⟩ : ∃ lf : List (Str × Tok), lf.map (·.1) = [wordN (lowP (x0 + S))] ∧ News (ghostOf s1.heap [(89, 87)]) s1.heap.objs.size h17 ((Df, listOf (strValues lf).toArray 0) :: (Dm, listOf (strValues lm).toArray epm) :: (s1.heap.objs.size + 1, o16) :: (87, tabObj ps) :: (Dd, listOf ws.toArray 0) :: (Dt, ot) :: (Tp, { cls := .type "tuple", data := .seq #[.int ((i : Nat) : Int) tkp, .int x0 tx] }) :: (extra ++ own)) := ⟨[(_, _)], rfl, N17⟩
      clear N17
      rename News _ _ _ _ => N17
      k_dflt (refine LCg.Assign_ListComp_U (F₀ := F17) (by rfl) (by with_unfolding_all rfl) (by with_unfolding_all rfl) (by decide) (by rfl) (by decide) (by rfl) (by rfl) (by rfl) ?_)
      walk_at "mine steps"
      rename IsRange _ _ _ _ _ _ _ _ => hR
      rename Fr _ _ _ _ => F18
      rename News _ _ _ _ => N18
      k_dflt (refine LCg.CompSrc.range (n := 31 - lowP (x0 + S)) rfl F18 N18 hR (small_one (by omega) (by omega) (by omega) (by omega)) ?hn ?hz ?_)
      case hn => rw [rangeSize_nat]; congr 1; omega
      case hz => rw [sizeLine_eq]; omega
      intro g'
      k_dflt (refine kct_range (fun k => wordN k.toNat) (fun k' t' I' oI' C' oC' D' m' ys' h' tk' E' hlo' hhi' hC' hx' F19 N19 off' ne' _ => ?_) ?_)
      · clear F18 N18 hR
        walk_at "plain steps"
        have hk0 : 0 ≤ k' := by omega
        have hk1 : k' < 32 := by omega
        refine' c_word _ _ hk0 hk1 _ _ _ _ _ _ _ _ _ _ _ _ _ _ _ _ _ _ ?k1 ?k2 ?k3 ?k4 ?k5 ?kK ?kd ?ku ?_
        case k1 => k_asm
        case k2 => exact F19
        case k3 => k_asm
        case k4 => exact N19
        case k5 => k_asm
        case kK => first | exact rfl | assumption
        case kd => ktr_room
        case ku => ktr_units
        intro t9 h9 tk9 F9 N9
        exact ⟨h9, tk9, _, rfl, F9, N9, off', trivial, rfl, t9, rfl⟩
      · unfold KPfDone
        intro ys hys _ Da h20 tk20 F20 N20 off20
        obtain ⟨la, rfl, hla⟩ := above_made rfl hys
        clear F18 N18 hR
        have hrest : ∀ p ∈ (Da, listOf (strValues la).toArray (strValues la).length) :: (Df, listOf (strValues lf).toArray 0) :: (Dm, listOf (strValues lm).toArray epm) :: (s1.heap.objs.size + 1, o16) :: (Dd, listOf ws.toArray 0) :: (Dt, ot) :: (Tp, { cls := .type "tuple", data := .seq #[.int ((i : Nat) : Int) tkp, .int x0 tx] }) :: own, p.1 ≠ 87 := by
          have h9 : @LT.lt Nat _ 87 (s1.heap.objs.size + 1) := Nat.lt_succ_of_lt h87L
          intro p hp
          simp only [List.mem_cons] at hp
          rcases hp with rfl | rfl | rfl | rfl | rfl | rfl | rfl | hp
          · exact Ne.symm off20.2.2.2.1
          · exact Nat.ne_of_gt hltf.2.2.1
          · exact Nat.ne_of_gt (Nat.lt_trans h9 hDmC)
          · exact Nat.ne_of_gt h9
          · exact Nat.ne_of_gt hdl.2
          · exact Nat.ne_of_gt hdt.2.2
          · exact Nat.ne_of_gt (Nat.lt_trans (Nat.lt_trans (Nat.lt_trans h9 hcI) (Nat.lt_succ_self _)) hIT)
          · exact Nat.ne_of_gt (Nat.lt_trans h9 (hownC p hp))
        have N21 := sub_news (news := (87, tabObj ps) :: (extra ++ ((Da, listOf (strValues la).toArray (strValues la).length) :: (Df, listOf (strValues lf).toArray 0) :: (Dm, listOf (strValues lm).toArray epm) :: (s1.heap.objs.size + 1, o16) :: (Dd, listOf ws.toArray 0) :: (Dt, ot) :: (Tp, { cls := .type "tuple", data := .seq #[.int ((i : Nat) : Int) tkp, .int x0 tx] }) :: own))) N20 (fun p hp => by
          simp only [List.mem_cons, List.mem_append] at hp ⊢
          rcases hp with h | h | h | h | h | h | h | h | h | h
          · exact .inr (.inr (.inr (.inr (.inl h))))
          · exact .inr (.inr (.inr (.inr (.inr (.inr (.inr (.inr (.inl h))))))))
          · exact .inl h
          · exact .inr (.inl h)
          · exact .inr (.inr (.inl h))
          · exact .inr (.inr (.inr (.inl h)))
          · exact .inr (.inr (.inr (.inr (.inr (.inl h)))))
          · exact .inr (.inr (.inr (.inr (.inr (.inr (.inl h))))))
          · exact .inr (.inr (.inr (.inr (.inr (.inr (.inr (.inl h)))))))
          · exact .inr (.inr (.inr (.inr (.inr (.inr (.inr (.inr (.inr h)))))))))
        clear N20
        dsimp only
        walk_at "mine steps"
        k_dflt (refine kla_eval (by rfl) ?_)
        k_dflt (refine make_lam (clos := [(Str.ofString "mine", s1.heap.objs.size + 1)]) F20 TK codeHd rfl ⟨rfl, rfl⟩ ?hq ?hcl hTab N21 ?hne ?_)
        case hq => exact (by decide +kernel : (Str.ofString "law" ++ Str.ofString ".<locals>.") ++ Str.ofString "<lambda>" = lamQual)
        case hcl => exact rfl
        case hne => exact hrest
        intro fl c' oc vs tv ctv h22 tk22 F22 N22 hoc hvs hltl hc'
        clear F20 N21
        walk_at "plain steps"
        have hla1 : la.length ≤ 100 := by
          have h9 := above_size (x := x0 + S)
          rw [← hla, List.length_map] at h9
          omega
        refine' c_split Da fl la (strValues la).length (wordsOf (x0 + S)) hla1 _ ?hs ?hP _ _ _ _ _ _ _ _ _ _ _ _ _ _ _ _ _ ?k1 ?k2 ?k3 ?k4 ?k5 ?kK ?kd ?ku ?_
        case k1 => k_asm
        case k2 => exact F22
        case k3 => k_asm
        case k4 => exact N22
        case k5 => k_asm
        case kK => first | exact rfl | assumption
        case kd => ktr_room
        case ku => ktr_units
        case hs => exact .tail _ (.tail _ (.tail _ (.head _)))
        case hP => exact ⟨s1.heap.objs.size + 1, c', Dm, _, ctv, oc, o16, vs, tv, lm, epm, .head _, .tail _ (.head _), hoc, hvs, .tail _ (.tail _ (.tail _ (.tail _ (.tail _ (.tail _ (.head _)))))), ho16, .tail _ (.tail _ (.tail _ (.tail _ (.tail _ (.head _))))), hlm⟩
        intro Ds Dy Dn ly ln ey en h23 tk23 hly hln hDy hDyn hDns F23 N23
        (try dsimp only)
        clear F22 N22
        walk_at "mine steps"
        rename News _ _ _ _ => N24
        rename Fr _ _ _ _ => F24
        have hlf1 : lf.length = 1 := by rw [← List.length_map (f := (·.1)), hlf]; rfl
        have hly1 : ly.length ≤ 100 := by
          have h9 := List.length_filter_le (fun w => (wordsOf (x0 + S)).contains w) (la.map (·.1))
          rw [← hly, List.length_map, List.length_map] at h9
          omega
        have hln1 : ln.length ≤ 100 := by
          have h9 := List.length_filter_le (fun w => !(wordsOf (x0 + S)).contains w) (la.map (·.1))
          rw [← hln, List.length_map, List.length_map] at h9
          omega
        rw [hla] at hly hln
        refine add_strs F24 N24 (.tail _ (.tail _ (.tail _ (.tail _ (.tail _ (.tail _ (.tail _ (.head _)))))))) (.tail _ (.head _)) (by omega) ?_
        intro D25 h25 hlt25 F25 N25
        clear F24 N24
        have hxt := top_size hX
        walk_at "mine steps"
        rename_i D26 l26 ep26 h26 tk26 hl26 lt26 F26 N26
        rw [top_fmod] at hl26
        have hl26n : l26.length ≤ 1 := by
          have h9 := six_len (topAt (x0 + S) 32)
          rw [← hl26, List.length_map] at h9
          exact h9
        refine add_strs F26 N26 (.tail _ (.head _)) (.head _) (by rw [List.length_append]; omega) ?_
        intro D27 h27 hlt27 F27 N27
        clear F26 N26
        obtain ⟨hown1, hown2⟩ := own_words hm32
        have e27 : lm.map (·.1) = ((lf ++ ly) ++ l26).map (·.1) := by
          rw [List.map_append, List.map_append, hlm, hlf, hly, hl26]; exact hown1
        refine ne_strs_eq N27 (by repeat first | exact .head _ | refine .tail _ ?_) (.head _) e27 (by rw [hlm]; exact hg) (by ke_room) ?_
        walk_at "mine steps"
        rename_i D28 l28 ep28 h28 tk28 hl28 lt28 F28 N28
        refine add_strs F28 N28 (by repeat first | exact .head _ | refine .tail _ ?_) (by repeat first | exact .head _ | refine .tail _ ?_) (by omega) ?_
        intro D29 h29 hlt29 F29 N29
        clear F28 N28
        have hxt2 := neg_top_size hX
        walk_at "mine steps"
        rename_i D30 l30 ep30 h30 tk30 hl30 lt30 F30 N30
        rw [neg_top] at hl30
        have hl30n : l30.length ≤ 1 := by
          have h9 := six_len (-2 ^ 32 - topAt (x0 + S) 32)
          rw [← hl30, List.length_map] at h9
          exact h9
        refine add_strs F30 N30 (.tail _ (.head _)) (.head _) (by rw [List.length_append]; omega) ?_
        intro D31 h31 hlt31 F31 N31
        clear F30 N30
        have e31 : l28.map (·.1) = ((lf ++ ln) ++ l30).map (·.1) := by
          rw [List.map_append, List.map_append, hl28, hlf, hln, hl30]; exact hown2
        refine ne_strs_eq N31 (.tail _ (.tail _ (.tail _ (.head _)))) (.head _) e31 (by rw [hl28]; exact hg2) (by ke_room) ?_
        walk_at "mine steps"
        rename News _ _ _ _ => N32
        rename Fr _ _ _ _ => F32
        refine turn_end (o := o16) (ps := #[rawInt 81, rawInt 45, .ref c']) (extra := [(c', oc)]) (ot := ot) F32 N32 ?hd ho16 (.inr ⟨c', oc, vs, tv, rfl, rfl, hoc, hvs⟩) ?sub ?off
        case hd => rfl
        case sub =>
          intro p hp
          have hp' : p ∈ (c', oc) :: (87, tabObj #[rawInt 81, rawInt 45, .ref c']) :: (Da, listOf (strValues la).toArray (strValues la).length) :: (Df, listOf (strValues lf).toArray 0) :: (Dm, listOf (strValues lm).toArray epm) :: (s1.heap.objs.size + 1, o16) :: (Dd, listOf ws.toArray 0) :: (Dt, ot) :: (Tp, { cls := .type "tuple", data := .seq #[.int ((i : Nat) : Int) tkp, .int x0 tx] }) :: own := by
            simp only [List.mem_cons, List.mem_append, List.not_mem_nil, or_false] at hp ⊢
            rcases hp with (h | h | h | h | h) | h
            · exact .inr (.inr (.inr (.inr (.inr (.inl h)))))
            · exact .inr (.inl h)
            · exact .inr (.inr (.inr (.inr (.inr (.inr (.inl h))))))
            · exact .inr (.inr (.inr (.inr (.inr (.inr (.inr (.inl h)))))))
            · exact .inl h
            · exact .inr (.inr (.inr (.inr (.inr (.inr (.inr (.inr (.inr h))))))))
          clear hp
          repeat first | exact hp' | refine List.mem_cons_of_mem _ ?_
        case off =>
          intro p hp
          rcases List.mem_cons.mp hp with rfl | hp
          · exact hoff (s1.heap.objs.size + 1, oC) (.head _)
          · rcases List.mem_cons.mp hp with rfl | hp
            · exact hoff (87, tabObj ps) (.tail _ (.head _))
            · rcases List.mem_cons.mp hp with rfl | hp
              · exact hoff _ (.tail _ (.tail _ (.head _)))
              · rcases List.mem_cons.mp hp with rfl | hp
                · exact hoff _ (.tail _ (.tail _ (.tail _ (.head _))))
                · rw [List.mem_singleton.mp hp]
                  rcases hc' with h9 | h9
                  · exact hoff _ (.tail _ (.tail _ (.tail _ (.tail _ h9))))
                  · have h8 : @LT.lt Nat _ Tp c' := h9 (Tp, _) (.tail _ (.tail _ (.tail _ (.tail _ (.tail _ (.tail _ (.head _)))))))
                    have h7 : @LT.lt Nat _ (I + 1) c' := Nat.lt_trans hIT h8
                    intro h6
                    rcases List.mem_cons.mp h6 with e | h6
                    · exact absurd e (Nat.ne_of_gt h7)
                    · exact absurd (List.mem_singleton.mp h6) (Nat.ne_of_gt (Nat.lt_of_succ_lt h7))
    · rename News _ _ _ _ => N13
      rename Fr _ _ _ _ => F13
      refine turn_end F13 N13 rfl hoC hTab ?_ hoff
      intro p hp
      repeat first | exact hp | refine List.mem_cons_of_mem _ ?_
  case done =>
    rintro m₁ news₁ h tk ⟨hm1, oC, ot, v₀, ps, extra, hoC, hTab, rfl⟩ F3 N3
    clear F1 N1 N1'
    k_steps)
end
end Mine
theorem PySem.Challenge.cw_ph0029_01_holds : PySem.Challenge.rw_ph0029_01.Holds :=
  Mine.law_holds
