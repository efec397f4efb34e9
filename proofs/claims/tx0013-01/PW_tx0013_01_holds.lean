import PyProof.Rows.All
import Wide.All
import OpenK.AllK
import Wide.FinOn
import PySem.Challenge.RW_tx0013_01
open PySem PySem.W PySem.Calls PyProof.Rows
set_option Elab.async false
namespace Mine
set_option maxRecDepth 100000 in
set_option maxHeartbeats 8000000 in
open_top hd for PySem.Challenge.rw_tx0013_01
end Mine
namespace Mine
def Halt (P : Prop) : Prop := P
theorem Halt.mk {P : Prop} (h : Halt P) : P := h
theorem Halt.out {P : Prop} (h : P) : Halt P := h
abbrev Led := List (Addr × Obj)
/-- the contract of a def of the text, over the law's own ground -/
abbrev Says {D : Type} (w : World) (mean : ExcName → Option Value) (mg mb : Str → Option Value) (f : Addr) (c : ToldN D) (d : D) : Prop :=
  TellsN PySem.Challenge.rw_tx0013_01.row.prog w (hd.heap_39 w.params) hd.view_39 (looseW hd.view_39 [Str.ofString "_filemode_table"]) mean mg mb f c d
theorem ktn_drop {h₀ h : Heap} {L : Addr} {news all : Led} (N : News h₀ L h all) (hs : ∀ p ∈ news, p ∈ all) : News h₀ L h (news ++ []) := by
  rw [List.append_nil]; exact fun p hp => N p (hs p hp)
/-- a contract of a pure def: values in, one value back; nothing is made that lasts -/
abbrev pureT {D : Type} (vs : D → List Value → Prop) (ok : D → Prop) (n : D → Nat) (out : D → Value → Prop) : ToldN D where
  Rel := fun _ l d => vs d l
  Ok := ok
  size := n
  Tl := fun tl => tl = []
  Out := fun _ r d => out d r
theorem pure_use {D : Type} {w : World} {mean : ExcName → Option Value} {mg mb : Str → Option Value} {f : Addr} {vsR : D → List Value → Prop} {ok : D → Prop} {sz : D → Nat} {out : D → Value → Prop} {d : D} (C : Says w mean mg mb f (pureT vsR ok sz out) d)
    {dp un : Nat} {gd : Option (List Code)} {cn : Str} {cs : Scope} {a : Addr} {ccd : Value} {cl : List (Str × Addr)} {outer : List Env} {A₀ : Around} {base h₀ : Heap} {L : Addr} {m : Str → Option Value} {news : Led} {s : Shared} {vs : List Value} {Q E : Value → Shared → Prop}
    (B : Below A₀ base outer h₀) (F : Fr h₀ L s.heap m) (X : (hd.heap_39 w.params).In h₀) (N : News h₀ L s.heap news) (T : Top hd.view_39 (looseW hd.view_39 [Str.ofString "_filemode_table"]) mean mg mb h₀) (hk : cs.kind = .function)
    (R : vsR d vs) (o : ok d) (hd : dp + sz d < recursionLimit) (hu : un + 8 * sz d < cLine)
    (ret : ∀ r h' tk', Fr h₀ L h' m → News h₀ L h' news → out d r → Q r { s with heap := h', toks := tk' }) :
    wpAny (model PySem.Challenge.rw_tx0013_01.row.prog w) (ktrTop dp un gd cn cs L a ccd cl outer) (call (.ref f) vs) Q E s := by
  refine tellsN_use B F X N T hk R C o hd hu ?_
  intro r tl h' tk' F' N' _ ht ho
  have ht' : tl = [] := ht
  subst ht'
  rw [List.append_nil] at N' 
  exact ret r h' tk' F' N' ho
abbrev isbT : ToldN Int := pureT (fun n vs => ∃ t, vs = [.int n t]) (fun _ => True) (fun _ => 1) (fun n r => ∃ _t : Tok, r = .bool (if n = 0 then false else Builtin.bitAnd n (n - 1) == 0))
abbrev highT : ToldN Int := pureT (fun n vs => ∃ t, vs = [.int n t]) (fun _ => True) (fun _ => 1) (fun n r => ∃ t : Tok, r = .int ((Builtin.Int.intBits n : Int) - 1) t)
abbrev imodeT : ToldN Int := pureT (fun n vs => ∃ t, vs = [.int n t]) (fun _ => True) (fun _ => 1) (fun n r => ∃ t : Tok, r = .int (Builtin.bitAnd n 4095) t)
abbrev ifmtT : ToldN Int := pureT (fun n vs => ∃ t, vs = [.int n t]) (fun _ => True) (fun _ => 1) (fun n r => ∃ t : Tok, r = .int (Builtin.bitAnd n 61440) t)
/-- what _law_shown says -/
def shown (n : Int) : Int := if n % 65536 / 4096 ∈ ([1, 2, 4, 6, 8, 10, 12] : List Int) then n % 65536 else n % 65536 % 4096
abbrev shownT : ToldN Int := pureT (fun n vs => ∃ t, vs = [.int n t]) (fun _ => True) (fun _ => 1) (fun n r => ∃ t : Tok, r = .int (shown n) t)
end Mine
namespace Mine
def Apart (own news : Led) : Prop := ∀ p ∈ own, ∀ q ∈ news, p.1 ≠ q.1
/-- a turn's end: on, or out by break, or back by return -/
def TurnEnd (h₀ : Heap) (L : Addr) (own : Led) (J : (Str → Option Value) → Led → Prop) (s : Shared) (Q : Flow → Shared → Prop) (f : Flow) (s₃ : Shared) : Prop :=
  match f with
  | .ret v => Q (.ret v) s₃
  | .brk => Q .next s₃
  | _ => ∃ h' tk m' all news', s₃ = { s with heap := h', toks := tk } ∧ Fr h₀ L h' m' ∧ News h₀ L h' all ∧ (∀ p ∈ own, p ∈ all) ∧ (∀ p ∈ news', p ∈ all) ∧ Apart own news' ∧ J m' news'
theorem TurnEnd.go {h₀ h' : Heap} {L : Addr} {own all news' : Led} {J : (Str → Option Value) → Led → Prop} {s : Shared} {Q : Flow → Shared → Prop} {tk : Nat} {m' : Str → Option Value}
    (F : Fr h₀ L h' m') (N : News h₀ L h' all) (ho : ∀ p ∈ own, p ∈ all) (hn : ∀ p ∈ news', p ∈ all) (ha : Apart own news') (j : J m' news') : TurnEnd h₀ L own J s Q .next { s with heap := h', toks := tk } :=
  ⟨h', tk, m', all, news', rfl, F, N, ho, hn, ha, j⟩
theorem upd_mid {D : Addr} {o o' : Obj} {news : Led} (h2 : ∀ p ∈ news, p.1 ≠ D) : ∀ {own : Led}, (∀ p ∈ own, p.1 ≠ D) → Upd D o o' (own ++ (D, o) :: news) (own ++ (D, o') :: news)
  | [], _ => .head h2
  | _ :: _, h1 => .tail (h1 _ (.head _)) (upd_mid h2 fun q hq => h1 q (.tail _ hq))
theorem append_led {prog : Program} {w : World} {A : Around} {E : Value → Shared → Prop} {s : Shared} {h₀ : Heap} {L l : Addr} {m : Str → Option Value} {own news : Led} {its : Array Value} {k : Nat} {x : Value} {Q : Value → Shared → Prop}
    (F : Fr h₀ L s.heap m) (N : News h₀ L s.heap (own ++ (l, W.listOf its k) :: news)) (h1 : ∀ p ∈ own, p.1 ≠ l) (h2 : ∀ p ∈ news, p.1 ≠ l) (hsz : its.size ≤ sizeLine)
    (h : ∀ h', Fr h₀ L h' m → News h₀ L h' (own ++ (l, W.listOf (its.push x) (k + 1)) :: news) → Q .none { s with heap := h' }) : wpAny (model prog w) A (call (.builtin "list.append") [.ref l, x]) Q E s :=
  append_K F N (upd_mid h2 h1) h hsz
section
variable {prog : Program} {w : World} {A : Around} {E : Value → Shared → Prop} {s : Shared} {env : Env} {h₀ : Heap} {target : Expr} {body orelse : List Stmt} {Q : Flow → Shared → Prop}
theorem own_at {h : Heap} : ∀ {wr : List Addr}, (∀ b ∈ wr, ∃ o, h.get? b = some o) → ∃ own : Led, own.map (·.1) = wr ∧ ∀ p ∈ own, h.get? p.1 = some p.2
  | [], _ => ⟨[], rfl, fun _ h => nomatch h⟩
  | b :: r, hb => by
    obtain ⟨o, ho⟩ := hb b (.head _)
    obtain ⟨own, e, k⟩ := own_at (wr := r) fun c hc => hb c (.tail _ hc)
    refine ⟨(b, o) :: own, by rw [List.map_cons, e], fun p hp => ?_⟩
    rcases List.mem_cons.mp hp with rfl | hp
    · exact ho
    · exact k p hp
theorem m_loop {R : Result → Shared → Prop} {I : Addr} {fp wr : List Addr} {n : Nat} {P Md : Nat → Value → Heap → Prop} {St : Nat → Heap → Prop} {m : Str → Option Value} {news : Led} (kept : Led)
    (W : KTurns prog w A target I fp wr n P Md St) (hL : env.locals ∉ fp) (hwr : ∀ b ∈ wr, h₀.get? b = none) (hlive : ∀ i h, St i h → ∀ b ∈ wr, ∃ o, h.get? b = some o)
    (hfp : ∀ b ∈ fp, b ∈ wr ∨ (∃ o, h₀.get? b = some o) ∨ ∃ o, (b, o) ∈ kept)
    (J : Nat → (Str → Option Value) → Led → Prop) (hkept : ∀ i m news, J i m news → ∀ p ∈ kept, p ∈ news)
    (hst : St 0 s.heap) (F : Fr h₀ env.locals s.heap m) (N : News h₀ env.locals s.heap news) (hoff : ∀ p ∈ news, p.1 ∉ wr) (h0 : J 0 m news)
    (turn : ∀ i v m₁ news₁ h₁ tk₁ own, i < n → P i v h₁ → J i m₁ news₁ → own.map (·.1) = wr → Apart own news₁ → Fr h₀ env.locals h₁ m₁ → News h₀ env.locals h₁ (own ++ news₁) →
      wpAny (model prog w) A (assign target env v) (fun _ s₂ => wpAny (model prog w) A (execs body env)
        (TurnEnd h₀ env.locals own (J (i + 1)) { s with heap := h₁, toks := tk₁ } fun f s' => R (.ok f) s') (notedBy (model prog w) A env fun e s' => R (.error e) s') s₂) (notedBy (model prog w) A env fun e s' => R (.error e) s') { s with heap := h₁, toks := tk₁ })
    (done : ∀ h' tk m' news', Fr h₀ env.locals h' m' → News h₀ env.locals h' news' → J n m' news' →
      wpAny (model prog w) A (execs orelse env) (fun f s₃ => R (.ok f) s₃) (notedBy (model prog w) A env fun e s' => R (.error e) s') { s with heap := h', toks := tk }) :
    codeAny (model prog w) A (.forLoop target (.ref I) body orelse env) R s := by
  have hLw : env.locals ∉ wr := fun h => hL (W.sub _ h)
  have old : ∀ b o, h₀.get? b = some o → b ∉ wr := fun b o e hb => by rw [hwr b hb] at e; cases e
  refine codeAny_forLoop_any
    (fun k s' => ∃ h' tk m' news' i, s' = { s with heap := h', toks := tk } ∧ St i h' ∧ Fr h₀ env.locals h' m' ∧ News h₀ env.locals h' news' ∧ (∀ p ∈ news', p.1 ∉ wr) ∧ J i m' news' ∧ i ≤ n ∧ k = n + 1 - i) ?_ (n + 1)
    ⟨s.heap, s.toks, m, news, 0, rfl, hst, F, N, hoff, h0, Nat.zero_le _, rfl⟩
  rintro k s' ⟨h', tk, m', news', i, rfl, hst', F', N', hoff', hJ, hi, rfl⟩
  have next : ∀ h₁ : Heap, (∀ b o, b ∉ wr → h'.get? b = some o → h₁.get? b = some o) → Fr h₀ env.locals h₁ m' ∧ News h₀ env.locals h₁ news' := fun h₁ hk₁ =>
    ⟨⟨F'.ns.at' fun o e => hk₁ _ o hLw e, fun b o e => hk₁ b o (old b o e) (F'.keep b o e), F'.above⟩, fun p hp => ⟨hk₁ _ _ (hoff' p hp) (N' p hp).1, (N' p hp).2⟩⟩
  by_cases hlt : i < n
  · refine W.item i _ _ _ hlt hst' fun v h₁ tk₁ hMd hk₁ => ?_
    refine W.go i v _ _ _ hMd fun h₂ hP hst₂ hk₂ => ?_
    obtain ⟨F₂, N₂⟩ := next h₂ fun b o hb x => hk₂ b o hb (hk₁ b o hb x)
    obtain ⟨own, hown, hget⟩ := own_at (hlive _ _ hst₂)
    have memw : ∀ p ∈ own, p.1 ∈ wr := fun p hp => hown ▸ List.mem_map_of_mem hp
    have Nown : News h₀ env.locals h₂ own := fun p hp => ⟨hget p hp, fun e => hLw (e ▸ memw p hp), hwr _ (memw p hp)⟩
    have hap : Apart own news' := fun p hp q hq e => hoff' q hq (e ▸ memw p hp)
    have fin : ∀ s₃, (∃ h₃ tk₃ m₃ all news₃, s₃ = { s with heap := h₃, toks := tk₃ } ∧ Fr h₀ env.locals h₃ m₃ ∧ News h₀ env.locals h₃ all ∧ (∀ p ∈ own, p ∈ all) ∧ (∀ p ∈ news₃, p ∈ all) ∧ Apart own news₃ ∧ J (i + 1) m₃ news₃) →
        ∃ k', k' < n + 1 - i ∧ ∃ h' tk m' news' i, s₃ = { s with heap := h', toks := tk } ∧ St i h' ∧ Fr h₀ env.locals h' m' ∧ News h₀ env.locals h' news' ∧ (∀ p ∈ news', p.1 ∉ wr) ∧ J i m' news' ∧ i ≤ n ∧ k' = n + 1 - i := by
      rintro s₃ ⟨h₃, tk₃, m₃, all, news₃, rfl, F₃, N₃, ho, hn, ha, hJ₃⟩
      have off₃ : ∀ p ∈ news₃, p.1 ∉ wr := fun p hp hb => by
        rw [← hown] at hb
        obtain ⟨q, hq, e⟩ := List.mem_map.mp hb
        exact ha q hq p hp e
      refine ⟨n + 1 - (i + 1), by omega, h₃, tk₃, m₃, news₃, i + 1, rfl, ?_, F₃, fun p hp => N₃ p (hn p hp), off₃, hJ₃, hlt, rfl⟩
      refine W.frame _ _ _ hst₂ fun b hb o e => ?_
      rcases hfp b hb with h1 | ⟨o', h1⟩ | ⟨o', h1⟩
      · rw [← hown] at h1
        obtain ⟨q, hq, rfl⟩ := List.mem_map.mp h1
        have e1 := hget q hq
        rw [e] at e1
        rw [Option.some.inj e1]
        exact (N₃ q (ho q hq)).1
      · have e1 := F₂.keep b o' h1
        rw [e] at e1
        rw [Option.some.inj e1]
        exact F₃.keep b o' h1
      · have e1 := (N₂ _ (hkept _ _ _ hJ _ h1)).1
        rw [e] at e1
        rw [Option.some.inj e1]
        exact (N₃ _ (hn _ (hkept _ _ _ hJ₃ _ h1))).1
    refine wpAny_mono (turn i v m' news' h₂ tk₁ own hlt hP hJ hown hap F₂ (Nown.append N₂)) (fun _ s₂ h₂' => wpAny_mono h₂' (fun f s₃ h₃ => ?_) fun _ _ e => e) fun _ _ e => e
    cases f with
    | ret v => exact h₃
    | brk => exact h₃
    | cont => exact fin _ h₃
    | next => exact fin _ h₃
  · have hin : i = n := by omega
    subst hin
    refine W.done _ _ _ hst' fun h₁ tk₁ hk₁ => ?_
    obtain ⟨F₁, N₁⟩ := next h₁ hk₁
    exact done h₁ tk₁ m' news' F₁ N₁ hJ
/-- what a for over made turns asks, once its iterator stands -/
def Turns (prog : Program) (w : World) (A : Around) (h₀ : Heap) (env : Env) (target : Expr) (body orelse : List Stmt) (Q : Flow → Shared → Prop) (E : Value → Shared → Prop) (it : Value) (s₂ : Shared) : Prop :=
  ∃ (I : Addr) (fp wr : List Addr) (n : Nat) (P Md : Nat → Value → Heap → Prop) (St : Nat → Heap → Prop) (m : Str → Option Value) (news kept : Led) (J : Nat → (Str → Option Value) → Led → Prop),
    it = .ref I ∧ KTurns prog w A target I fp wr n P Md St ∧ env.locals ∉ fp ∧ (∀ b ∈ wr, h₀.get? b = none) ∧ (∀ i h, St i h → ∀ b ∈ wr, ∃ o, h.get? b = some o) ∧
    (∀ b ∈ fp, b ∈ wr ∨ (∃ o, h₀.get? b = some o) ∨ ∃ o, (b, o) ∈ kept) ∧ (∀ i m news, J i m news → ∀ p ∈ kept, p ∈ news) ∧
    St 0 s₂.heap ∧ Fr h₀ env.locals s₂.heap m ∧ News h₀ env.locals s₂.heap news ∧ (∀ p ∈ news, p.1 ∉ wr) ∧ J 0 m news ∧
    (∀ i v m₁ news₁ h₁ tk₁ own, i < n → P i v h₁ → J i m₁ news₁ → own.map (·.1) = wr → Apart own news₁ → Fr h₀ env.locals h₁ m₁ → News h₀ env.locals h₁ (own ++ news₁) →
      wpAny (model prog w) A (assign target env v) (fun _ s₃ => wpAny (model prog w) A (execs body env) (TurnEnd h₀ env.locals own (J (i + 1)) { s₂ with heap := h₁, toks := tk₁ } Q) E s₃) E { s₂ with heap := h₁, toks := tk₁ }) ∧
    (∀ h' tk m' news', Fr h₀ env.locals h' m' → News h₀ env.locals h' news' → J n m' news' → wpAny (model prog w) A (execs orelse env) Q E { s₂ with heap := h', toks := tk })
theorem m_for {iter : Expr} {pos : Pos} {m : Str → Option Value} (_F : Fr h₀ env.locals s.heap m)
    (h : wpAny (model prog w) A (eval iter env) (fun xv s₁ => wpAny (model prog w) A (pyIter xv) (fun it s₂ => Turns prog w A h₀ env target body orelse Q E it s₂) E s₁) E s)
    (hs : ∀ x, foldedSetIterable iter env x = pure x := by intro _; rfl)
    (hE : PassesOwn (model prog w) A env E := by passes_own) :
    wpAny (model prog w) A (exec (.For target iter body orelse pos) env) Q E s := by
  refine wpAny_For (wpAny_mono h (fun xv s₁ h₁ => wpAny_mono h₁ (fun it s₂ h₂ => ?_) fun _ _ e => e) fun _ _ e => e) hs
  obtain ⟨I, fp, wr, n, P, Md, St, m, news, kept, J, rfl, W, hL, hwr, hlive, hfp, hkept, hst, F, N, hoff, h0, turn, done⟩ := h₂
  exact m_loop (R := fun r s' => match r with | .ok f => Q f s' | .error e => cameBackBy (model prog w) A env E e s') kept W hL hwr hlive hfp J hkept hst F N hoff h0
    (fun i v m₁ news₁ h₁ tk₁ own a b c d e F₁ N₁ => wpAny_mono (turn i v m₁ news₁ h₁ tk₁ own a b c d e F₁ N₁) (fun _ _ x => wpAny_passesOwn hE x) hE)
    (fun h' tk m' news' F' N' j => wpAny_passesOwn hE (done h' tk m' news' F' N' j))
end
end Mine
namespace Mine
local macro_rules | `(tactic| walk_at "m enter") => `(tactic| (refine wpAny_call ?_; k_dflt ktr_enter))
set_option maxRecDepth 100000 in
set_option maxHeartbeats 8000000 in
theorem isb_says (w : World) (mean : ExcName → Option Value) (mg mb : Str → Option Value) : ∀ d, Says w mean mg mb 21 isbT d := by
  unfold Says
  k_fill
  w_top off
  intro d
  unfold TellsN
  intro dp un gd cn cs a ccd cl outer A₀ base h₀ L m news s vs Q E B F X N T hk hR hok hd hu hret
  obtain ⟨t, rfl⟩ := hR
  dsimp only [isbT, pureT] at hd hu hret
  walk_at "m enter"
  k_steps
  all_goals refine hret _ [] _ _ (by k_asm) (ktn_drop (by k_asm) (by kcf_all)) ktn_ord0 rfl ?_
  all_goals simp_all
set_option maxRecDepth 100000 in
set_option maxHeartbeats 8000000 in
theorem high_says (w : World) (mean : ExcName → Option Value) (mg mb : Str → Option Value) : ∀ d, Says w mean mg mb 28 highT d := by
  unfold Says
  k_fill
  intro d
  unfold TellsN
  intro dp un gd cn cs a ccd cl outer A₀ base h₀ L m news s vs Q E B F X N T hk hR hok hd hu hret
  obtain ⟨t, rfl⟩ := hR
  dsimp only [highT, pureT] at hd hu hret
  walk_at "m enter"
  k_steps
  all_goals refine hret _ [] _ _ (by k_asm) (ktn_drop (by k_asm) (by kcf_all)) ktn_ord0 rfl ?_
  all_goals exact ⟨_, rfl⟩
set_option maxRecDepth 100000 in
set_option maxHeartbeats 8000000 in
theorem imode_says (w : World) (mean : ExcName → Option Value) (mg mb : Str → Option Value) : ∀ d, Says w mean mg mb 35 imodeT d := by
  unfold Says
  k_fill
  intro d
  unfold TellsN
  intro dp un gd cn cs a ccd cl outer A₀ base h₀ L m news s vs Q E B F X N T hk hR hok hd hu hret
  obtain ⟨t, rfl⟩ := hR
  dsimp only [imodeT, pureT] at hd hu hret
  walk_at "m enter"
  k_steps
  all_goals refine hret _ [] _ _ (by k_asm) (ktn_drop (by k_asm) (by kcf_all)) ktn_ord0 rfl ?_
  all_goals exact ⟨_, rfl⟩
set_option maxRecDepth 100000 in
set_option maxHeartbeats 8000000 in
theorem ifmt_says (w : World) (mean : ExcName → Option Value) (mg mb : Str → Option Value) : ∀ d, Says w mean mg mb 42 ifmtT d := by
  unfold Says
  k_fill
  intro d
  unfold TellsN
  intro dp un gd cn cs a ccd cl outer A₀ base h₀ L m news s vs Q E B F X N T hk hR hok hd hu hret
  obtain ⟨t, rfl⟩ := hR
  dsimp only [ifmtT, pureT] at hd hu hret
  walk_at "m enter"
  k_steps
  all_goals refine hret _ [] _ _ (by k_asm) (ktn_drop (by k_asm) (by kcf_all)) ktn_ord0 rfl ?_
  all_goals exact ⟨_, rfl⟩
theorem shown_in {n : Int} (h : ([1, 2, 4, 6, 8, 10, 12] : List Int).any (fun x => x == (n.fmod 65536).fdiv 4096) = true) : shown n = n.fmod 65536 := by
  rw [Int.fmod_eq_emod_of_nonneg _ (by decide), Int.fdiv_eq_ediv_of_nonneg _ (by decide)] at h
  rw [shown, if_pos, Int.fmod_eq_emod_of_nonneg _ (by decide)]
  obtain ⟨x, hx, e⟩ := List.any_eq_true.mp h
  rw [← beq_iff_eq.mp e]; exact hx
theorem shown_out {n : Int} (h : ([1, 2, 4, 6, 8, 10, 12] : List Int).any (fun x => x == (n.fmod 65536).fdiv 4096) = false) : shown n = (n.fmod 65536).fmod 4096 := by
  rw [Int.fmod_eq_emod_of_nonneg _ (by decide), Int.fdiv_eq_ediv_of_nonneg _ (by decide)] at h
  rw [shown, if_neg, Int.fmod_eq_emod_of_nonneg _ (by decide), Int.fmod_eq_emod_of_nonneg _ (by decide)]
  intro hx
  exact Bool.false_ne_true (h.symm.trans (List.any_eq_true.mpr ⟨_, hx, beq_self_eq_true _⟩))
set_option maxRecDepth 100000 in
set_option maxHeartbeats 8000000 in
theorem shown_says (w : World) (mean : ExcName → Option Value) (mg mb : Str → Option Value) : ∀ d, Says w mean mg mb 110 shownT d := by
  unfold Says
  k_fill
  intro d
  unfold TellsN
  intro dp un gd cn cs a ccd cl outer A₀ base h₀ L m news s vs Q E B F X N T hk hR hok hd hu hret
  obtain ⟨t, rfl⟩ := hR
  dsimp only [shownT, pureT] at hd hu hret
  walk_at "m enter"
  k_steps
  · exact hret _ [] _ _ (by k_asm) (ktn_drop (by k_asm) (by kcf_all)) ktn_ord0 rfl ⟨_, congrArg (fun i => Value.int i _) (shown_in (by assumption)).symm⟩
  · exact hret _ [] _ _ (by k_asm) (ktn_drop (by k_asm) (by kcf_all)) ktn_ord0 rfl ⟨_, congrArg (fun i => Value.int i _) (shown_out (by assumption)).symm⟩
end Mine
namespace Mine
local macro_rules | `(tactic| walk_at "m enter") => `(tactic| (refine wpAny_call ?_; k_dflt ktr_enter))
local macro_rules | `(tactic| walk_at "m keep") => `(tactic| exact ktn_drop (by k_asm) (by kcf_all))
local macro_rules | `(tactic| walk_at "exec While Compare cons nil") => `(tactic| refine Halt.mk ?_)
local macro_rules | `(tactic| walk_at "m same") => `(tactic| (intro z h2 _; (simp only [List.forall_mem_cons, List.not_mem_nil, false_implies, implies_true, and_true, ne_eq] at h2); simp [h2, kstB]))
/-- the halvings until two numbers meet -/
def meet (a b : Nat) : Nat := if a = b then 0 else meet (a / 2) (b / 2) + 1
termination_by a + b
decreasing_by omega
theorem meet_eq (a : Nat) : meet a a = 0 := by rw [meet]; simp
theorem meet_ne {a b : Nat} (h : a ≠ b) : meet a b = meet (a / 2) (b / 2) + 1 := by rw [meet]; simp [h]
theorem fdiv2 (x : Nat) : Int.fdiv (x : Int) 2 = ((x / 2 : Nat) : Int) := by
  rw [Int.fdiv_eq_ediv_of_nonneg _ (by omega)]; omega
abbrev partsT : ToldN (Nat × Nat) := pureT (fun d vs => ∃ t u, vs = [.int (d.1 : Int) t, .int (d.2 : Int) u]) (fun _ => True) (fun _ => 1) (fun d r => ∃ t : Tok, r = .int ((meet d.1 d.2 : Int) - 1) t)
set_option maxRecDepth 100000 in
set_option maxHeartbeats 8000000 in
theorem parts_says (w : World) (mean : ExcName → Option Value) (mg mb : Str → Option Value) : ∀ d, Says w mean mg mb 117 partsT d := by
  unfold Says
  k_fill
  w_top off
  k_with_none
  rintro ⟨a₀, b₀⟩
  unfold TellsN
  intro dp un gd cn cs a ccd cl outer A₀ base h₀ L m news s vs Q E B F X N T hk hR hok hd hu hret
  obtain ⟨t, u, rfl⟩ := hR
  dsimp only [partsT, pureT] at hd hu hret ⊢
  walk_at "m enter"
  k_steps
  refine Halt.out ?_
  refine' ksw_while (σ := Nat × Nat × Nat × Tok × Tok × Tok) (fun _ => news) (fun c => [(Str.ofString "one", .int (c.1 : Int) c.2.2.2.1), (Str.ofString "other", .int (c.2.1 : Int) c.2.2.2.2.1), (Str.ofString "halvings", .int (c.2.2.1 : Int) c.2.2.2.2.2)])
      (fun _ => True) [] (fun c => c.2.2.1 + meet c.1 c.2.1 = meet a₀ b₀) (fun c => c.1 + c.2.1) (a₀, b₀, 0, t, u, _) (by k_asm) (by k_asm) trivial ?hk9 ?hp9 ?turn9
  case hk9 => (intro p hp; simp only [List.mem_cons, List.not_mem_nil, or_false] at hp; rcases hp with rfl | rfl | rfl <;> rfl)
  case hp9 => simp
  rintro ⟨x, y, k, ta, tb, tk⟩ u' h' tk' - hP F' N'
  dsimp only at hP F' N' ⊢
  k_fold
  k_steps
  · rename_i hne _ _ _ _ _
    have hne' : x ≠ y := by omega
    rw [meet_ne hne'] at hP
    refine ksw_end ⟨x / 2, y / 2, k + 1, ?t1, ?t2, ?t3⟩ (by k_asm) (by k_asm) (fun _ h => h) trivial ?ps (by walk_at "m same") (by dsimp only; omega) (by dsimp only; omega)
    case ps =>
      intro p hp
      simp only [List.mem_cons, List.not_mem_nil, or_false] at hp
      rcases hp with rfl | rfl | rfl
      · exact congrArg (fun i => some (Value.int i _)) (fdiv2 x)
      · exact congrArg (fun i => some (Value.int i _)) (fdiv2 y)
      · rfl
  · rename_i hxy _ _ _ _
    have hxy' : x = y := by omega
    rw [hxy', meet_eq] at hP
    exact hret _ [] _ _ (by k_asm) (ktn_drop (by k_asm) (fun _ h => h)) ktn_ord0 rfl ⟨_, congrArg (fun i => Value.int i _) (by omega)⟩
end Mine
namespace Mine
local macro_rules | `(tactic| walk_at "m enter") => `(tactic| (refine wpAny_call ?_; k_dflt ktr_enter))
local macro_rules | `(tactic| walk_at "m keep") => `(tactic| exact ktn_drop (by k_asm) (by kcf_all))
/-- what _law_set says of a row and a place -/
def setF (row : Str) (p : Nat) : Bool :=
  if 11 < p then ((Txt.find (Str.ofString "?pc?d?b?-?l?s") (Txt.item row 0)).fdiv (2 ^ (p - 12))).fmod 2 == 1
  else if 8 < p then !(Builtin.Str.occurrences (Str.ofString "sStT") (Txt.item row (36 - 3 * (p : Int))) 0 (Str.ofString "sStT").length 1).isEmpty
  else !(Builtin.Str.occurrences (Str.ofString "rwxst") (Txt.item row (9 - (p : Int))) 0 (Str.ofString "rwxst").length 1).isEmpty
abbrev setT : ToldN (Str × Nat) := pureT (fun d vs => ∃ t u, vs = [.str d.1 t, .int (d.2 : Int) u]) (fun d => d.1.length = 10 ∧ d.2 < 16) (fun _ => 1) (fun d r => ∃ _t : Tok, r = .bool (setF d.1 d.2))
set_option maxRecDepth 100000 in
set_option maxHeartbeats 8000000 in
theorem set_says (w : World) (mean : ExcName → Option Value) (mg mb : Str → Option Value) : ∀ d, Says w mean mg mb 89 setT d := by
  unfold Says
  k_fill
  w_top off
  rintro ⟨row, p⟩
  unfold TellsN
  intro dp un gd cn cs a ccd cl outer A₀ base h₀ L m news s vs Q E B F X N T hk hR hok hd hu hret
  obtain ⟨t, u, rfl⟩ := hR
  obtain ⟨hlen, hp⟩ := hok
  dsimp only [setT, pureT] at hlen hp hd hu hret ⊢
  walk_at "m enter"
  k_steps
  · rename_i h9 _ _ _ _ _ _
    refine hret _ [] _ _ (by k_asm) (ktn_drop (by k_asm) (fun _ h => h)) ktn_ord0 rfl ⟨0, ?_⟩
    have e : ((p : Int) - 12).toNat = p - 12 := by omega
    rw [e, setF, if_pos (by omega)]
  · refine hret _ [] _ _ (by k_asm) (ktn_drop (by k_asm) (fun _ h => h)) ktn_ord0 rfl ⟨0, ?_⟩
    rw [setF, if_neg (by omega), if_pos (by omega)]
  · refine hret _ [] _ _ (by k_asm) (ktn_drop (by k_asm) (fun _ h => h)) ktn_ord0 rfl ⟨0, ?_⟩
    rw [setF, if_neg (by omega), if_neg (by omega)]
end Mine
set_option maxRecDepth 100000
namespace Mine
open PySem.AutoSeq1 (wpAny_loadPart')
theorem meets_enum_tup (l : Addr) (items : Array Value) (n : Nat) (dct : Option Addr) (sl : Array (Option Value)) :
    Meets (Builtin.«enumerate.__new__» ⟨[.type "enumerate", .ref l], []⟩) (fun _ R s => s.heap.get? l = some { cls := .type "tuple", dict := dct, data := .seq items n, slots := sl } ∧
      R (.ok (.ret (.ref (s.heap.push { cls := .type "tuple_iterator", data := .fields #[.ref l, .int 0 0] }).objs.size)))
        { s with heap := (s.heap.push { cls := .type "tuple_iterator", data := .fields #[.ref l, .int 0 0] }).push { cls := .type "enumerate", data := .fields #[.none, .bool false, .ref s.heap.objs.size, rawInt 0, .none, .none] } }) :=
  .of_wp fun prog w A R s h => by
    obtain ⟨hp, g, d, tk, os⟩ := s; obtain ⟨hl, h⟩ := h
    have hsub := sub_enumerate
    have hT : Heap.IsTuple (Shared.heap ⟨hp, g, d, tk, os⟩) l items := ⟨_, hl, rfl, n, rfl⟩
    wp_walk using wpAny_loadPart' hl
    refine wpAny_stack_any fun st => wpAny_pure ?_
    split
    · rename_i c _ _ _ _ _
      cases (c == Value.type "enumerate")
      · wp_walk using wpAny_loadPart' hl, wpAny_pyIter_tuple hT
        exact ⟨_, rfl, h⟩
      · wp_walk using wpAny_loadPart' hl, wpAny_pyIter_tuple hT
        exact ⟨_, rfl, h⟩
    · wp_walk using wpAny_loadPart' hl, wpAny_pyIter_tuple hT
      exact ⟨_, rfl, h⟩
section
variable {prog : Program} {w : World} {A : Around} {E : Value → Shared → Prop} {s : Shared}
theorem call_enum_tup {l : Addr} {items : Array Value} {Q : Value → Shared → Prop} (hL : s.heap.IsTuple l items)
    (h : ∀ h', IsEnum h' (s.heap.objs.size + 1) s.heap.objs.size 0 .none → h'.IsTupleIter s.heap.objs.size l 0 →
      (∀ b o, s.heap.get? b = some o → h'.get? b = some o) → Q (.ref (s.heap.objs.size + 1)) { s with heap := h' }) :
    wpAny (model prog w) A (call (.type "enumerate") [.ref l]) Q E s := by
  obtain ⟨⟨c, dct, dt, sl⟩, hl, hc, n, hd⟩ := hL
  replace hc : c = .type "tuple" := hc
  replace hd : dt = .seq items n := hd
  subst hc hd
  refine callType_new F.called_enumerate (by decide) (F.typeCall_enumerate_1 _) (F.newCall_enumerate_1 _) (fun obj => F.args_object_init_2 obj _) F.entry_enumerate_new
    (meets_enum_tup l items n dct sl) ⟨hl, ?_⟩
  have hz : (s.heap.push { cls := .type "tuple_iterator", data := .fields #[.ref l, .int 0 0] }).objs.size = s.heap.objs.size + 1 := Heap.size_push ..
  show _ ∧ _
  rw [hz]
  have he : IsEnum ((s.heap.push { cls := .type "tuple_iterator", data := .fields #[.ref l, .int 0 0] }).push
      { cls := .type "enumerate", data := .fields #[.none, .bool false, .ref s.heap.objs.size, rawInt 0, .none, .none] }) (s.heap.objs.size + 1) s.heap.objs.size 0 .none := by
    have q := Heap.get?_push_size (s.heap.push { cls := .type "tuple_iterator", data := .fields #[.ref l, .int 0 0] })
      (o := { cls := .type "enumerate", data := .fields #[.none, .bool false, .ref s.heap.objs.size, rawInt 0, .none, .none] }) rfl
    rw [hz] at q; exact q
  exact ⟨⟨_, he, rfl⟩, h _ he ⟨_, Heap.get?_push_of_some _ (Heap.get?_push_size _ rfl), rfl, rfl⟩ fun b o x => Heap.get?_push_of_some _ (Heap.get?_push_of_some _ x)⟩
theorem nextOf_tup_item {it t : Addr} {i : Nat} {items} {x : Value} {Q : Value → Shared → Prop} (hit : s.heap.IsTupleIter it t i)
    (ht : s.heap.IsTuple t items) (hx : items[i]? = some x)
    (hQ : ∀ h', h'.IsTupleIter it t (i + 1) → Heap.SameBut it s.heap h' → Q x { s with heap := h' }) :
    wpAny (model prog w) A (Builtin.SmallTypes.nextOf (.ref it)) Q E s := by
  obtain ⟨o, ho, hc, hd⟩ := id hit
  obtain ⟨ol, hol, _, nl, hdl⟩ := ht
  unfold Builtin.SmallTypes.nextOf
  refine wpAny_bind (wpAny_callSpecial?_slot (name := Str.ofString "__next__") hit.typeIs F.slot_tuple_iterator_next
    (wpAny_call_entry F.slot_tuple_iterator_next hit.typeIs F.entry_tuple_iterator_next ?_ (F.args_tuple_iterator_next_1 _)))
  show wpAny _ _ (field (.ref it) 0 >>= _) _ _ s
  refine wpAny_bind (wpAny_field ho hd (x := .ref t) rfl ?_)
  show wpAny _ _ (if (Value.ref t == Value.none) = true then _ else _) _ _ s
  rw [if_neg (show ¬ ((Value.ref t == Value.none) = true) from Bool.false_ne_true)]
  show wpAny _ _ (field (.ref it) 1 >>= _) _ _ s
  refine wpAny_bind (wpAny_field ho hd (x := .int i 0) rfl ?_)
  show wpAny _ _ (seqItems? (.ref t) >>= _) _ _ s
  refine wpAny_bind (wpAny_seqItems hol hdl ?_)
  simp only [Int.toNat_natCast, hx]
  refine wpAny_bind (wpAny_setField ho hd (by simp) (wpAny_pure ⟨x, rfl, wpAny_pure (hQ _ ?_ (Heap.SameBut.update ..))⟩))
  exact ⟨_, Heap.get?_update_self _ ho (Obj.isFreed_of_fields (Obj.data_mapFields hd _)), (Obj.cls_mapFields ..).trans hc, by
    rw [Obj.data_mapFields hd]; simp [rawInt]⟩
theorem nextOf_tup_end {it t : Addr} {i : Nat} {items} {Q : Value → Shared → Prop} (hh : A.handled = none)
    (hit : s.heap.IsTupleIter it t i) (ht : s.heap.IsTuple t items) (hx : items[i]? = none)
    (hE : ∀ h' e, Heap.ExtBut it s.heap h' → (∃ o, h'.get? e = some o ∧ o.cls = .type "StopIteration") → E (.ref e) { s with heap := h' }) :
    wpAny (model prog w) A (Builtin.SmallTypes.nextOf (.ref it)) Q E s := by
  obtain ⟨o, ho, hc, hd⟩ := id hit
  obtain ⟨ol, hol, _, nl, hdl⟩ := ht
  unfold Builtin.SmallTypes.nextOf
  refine wpAny_bind (wpAny_callSpecial?_slot (name := Str.ofString "__next__") hit.typeIs F.slot_tuple_iterator_next
    (wpAny_call_entry F.slot_tuple_iterator_next hit.typeIs F.entry_tuple_iterator_next ?_ (F.args_tuple_iterator_next_1 _)))
  show wpAny _ _ (field (.ref it) 0 >>= _) _ _ s
  refine wpAny_bind (wpAny_field ho hd (x := .ref t) rfl ?_)
  show wpAny _ _ (if (Value.ref t == Value.none) = true then _ else _) _ _ s
  rw [if_neg (show ¬ ((Value.ref t == Value.none) = true) from Bool.false_ne_true)]
  show wpAny _ _ (field (.ref it) 1 >>= _) _ _ s
  refine wpAny_bind (wpAny_field ho hd (x := .int i 0) rfl ?_)
  show wpAny _ _ (seqItems? (.ref t) >>= _) _ _ s
  refine wpAny_bind (wpAny_seqItems hol hdl ?_)
  simp only [Int.toNat_natCast, hx]
  refine wpAny_bind (wpAny_rule (wpAny_bind (wpAny_setField ho hd (by simp) ?_)))
  show wpAny _ _ (newExc (.type "StopIteration") [] >>= _) _ _ _
  refine wpAny_bind ?_
  simp only [newExc, newTuple]
  refine wpAny_bind (wpAny_newObj_type ?_ (by size_fits))
  refine wpAny_bind (m := firstArgMember _ _) (wpAny_of_eq (a := Value.none) (by first | rfl | (simp only [firstArgMember]; rfl)) ?_)
  refine wpAny_newObj_type ?_ (by size_fits)
  simp only [raiseNew]
  refine wpAny_bind (wpAny_handled ?_)
  first | rw [show A.in1.handled = none from hh] | rw [hh]
  refine wpAny_bind (wpAny_pure (wpAny_throw ?_))
  exact hE _ _ (((Heap.SameBut.update ..).extBut.push _).push _) ⟨_, Heap.get?_push_size _ rfl, rfl⟩
theorem draws_tup (hh : A.handled = none) (it t : Addr) (hne : t ≠ it) (items : Array Value) :
    Draws prog w A it [it, t] items.size (fun i v => items[i]? = some v) (fun i h => h.IsTupleIter it t i ∧ h.IsTuple t items) where
  live := fun _ _ st => let ⟨o, ho, _⟩ := st.1; ⟨o, ho⟩
  frame := fun _ _ _ st hk => ⟨let ⟨o, ho, r⟩ := st.1; ⟨o, hk it (by simp) o ho, r⟩, let ⟨o, ho, r⟩ := st.2; ⟨o, hk t (by simp) o ho, r⟩⟩
  item := fun i s Q E hi st hQ => by
    refine nextOf_tup_item st.1 st.2 (x := items[i]) (by simp [hi]) fun h' hit' hs' => ?_
    exact hQ _ h' s.toks (by simp [hi]) ⟨hit', st.2.extBut hs'.extBut hne⟩ hs'
  done := fun s Q E st hE => nextOf_tup_end hh st.1 st.2 (by simp) hE
end
theorem own1 {own : Led} {a : Addr} (h : own.map (·.1) = [a]) : ∃ oa, own = [(a, oa)] := by
  cases own with
  | nil => cases h
  | cons p r =>
    cases r with
    | nil => obtain ⟨x, y⟩ := p; simp at h; exact ⟨y, by rw [h]⟩
    | cons q r => simp at h
theorem own2 {own : Led} {a b : Addr} (h : own.map (·.1) = [a, b]) : ∃ oa ob, own = [(a, oa), (b, ob)] := by
  cases own with
  | nil => cases h
  | cons p r =>
    rw [List.map_cons] at h
    obtain ⟨h1, h2⟩ := List.cons.inj h
    obtain ⟨ob, rfl⟩ := own1 h2
    obtain ⟨x, y⟩ := p
    exact ⟨y, ob, by rw [← h1]⟩
theorem nat_ne {a b : Nat} (h : a < b) (e : a = b) : False := Nat.ne_of_lt h e
section
variable {prog : Program} {w : World} {A : Around} {E : Value → Shared → Prop} {s : Shared} {env : Env} {h₀ : Heap} {body orelse : List Stmt} {Q : Flow → Shared → Prop}
/-- for (a, b) in enumerate(t), t a tuple that stood before the call -/
theorem enum_turns {elts : List Expr} {k : Nat} {pos : Pos} {t : Addr} {items : Array Value} {m : Str → Option Value} {news : Led}
    (hh : A.handled = none) (ht : h₀.IsTuple t items) (F : Fr h₀ env.locals s.heap m) (N : News h₀ env.locals s.heap news)
    (J : Nat → (Str → Option Value) → Led → Prop) (h0 : J 0 m news)
    (turn : ∀ i T x u m₁ news₁ h₁ tk₁ e it oe oi, items[i]? = some x → h₁.IsTuple T #[.int (i : Int) u, x] → J i m₁ news₁ → Apart [(e, oe), (it, oi)] news₁ → Fr h₀ env.locals h₁ m₁ → News h₀ env.locals h₁ ([(e, oe), (it, oi)] ++ news₁) →
      wpAny (model prog w) A (assign (.Tuple elts k pos) env (.ref T)) (fun _ s₃ => wpAny (model prog w) A (execs body env) (TurnEnd h₀ env.locals [(e, oe), (it, oi)] (J (i + 1)) { s with heap := h₁, toks := tk₁ } Q) E s₃) E { s with heap := h₁, toks := tk₁ })
    (done : ∀ h' tk m' news', Fr h₀ env.locals h' m' → News h₀ env.locals h' news' → J items.size m' news' → wpAny (model prog w) A (execs orelse env) Q E { s with heap := h', toks := tk }) :
    wpAny (model prog w) A (call (.type "enumerate") [.ref t]) (fun xv s₁ => wpAny (model prog w) A (pyIter xv) (fun it s₂ => Turns prog w A h₀ env (.Tuple elts k pos) body orelse Q E it s₂) E s₁) E s := by
  have htu : s.heap.IsTuple t items := ht.at fun o e => F.keep t o e
  obtain ⟨ot, hot, _⟩ := id ht
  have hlt0 : t < h₀.objs.size := Heap.lt_size hot
  have hlt : t < s.heap.objs.size := Heap.lt_size (F.keep _ _ hot)
  have hL : env.locals < s.heap.objs.size := F.ns.lt
  have hne : t ≠ s.heap.objs.size := Nat.ne_of_lt hlt
  have hne1 : t ≠ s.heap.objs.size + 1 := Nat.ne_of_lt (Nat.lt_succ_of_lt hlt)
  have fresh : ∀ b, s.heap.objs.size ≤ b → h₀.get? b = none := fun b hb => ktu_new F hb
  refine call_enum_tup htu fun h' hE hI hk => ?_
  refine wpAny_pyIter_enum hE ?_
  have W := KTurns.ofWalksU (elts := elts) (k := k) (pos := pos) (WalksT.enumerateD (prog := prog) (w := w) (draws_tup (prog := prog) (w := w) (A := A.in1) hh s.heap.objs.size t hne items) (s.heap.objs.size + 1) (Nat.succ_ne_self _) (by simp; exact fun e => hne1 e.symm) (by simp)).toU
  refine ⟨_, _, _, _, _, _, _, m, news, [], J, rfl, W, ?_, ?_, ?_, ?_, (fun _ _ _ _ _ h => nomatch h), ⟨⟨_, hE⟩, hI, htu.at fun o e => hk t o e⟩, F.keeps hk, N.grown hk, ?_, h0, ?_, ?_⟩
  · intro hm
    simp only [List.mem_cons, List.not_mem_nil, or_false] at hm
    have hL0 := F.above
    rcases hm with e | e | e
    · exact nat_ne (Nat.lt_succ_of_lt hL) e
    · exact nat_ne hL e
    · exact absurd hlt0 (Nat.not_lt.mpr (e ▸ hL0))
  · intro b hb
    simp only [List.mem_cons, List.not_mem_nil, or_false] at hb
    rcases hb with rfl | rfl
    · exact fresh _ (Nat.le_succ _)
    · exact fresh _ (Nat.le_refl _)
  · rintro i h ⟨⟨old, he⟩, ⟨oi, hoi, _⟩, _⟩ b hb
    simp only [List.mem_cons, List.not_mem_nil, or_false] at hb
    rcases hb with rfl | rfl
    · exact ⟨_, he⟩
    · exact ⟨_, hoi⟩
  · intro b hb
    simp only [List.mem_cons, List.not_mem_nil, or_false] at hb
    rcases hb with rfl | rfl | rfl
    · exact .inl (by simp)
    · exact .inl (by simp)
    · exact .inr (.inl ⟨ot, hot⟩)
  · intro p hp hb
    have := Heap.lt_size (N p hp).1
    simp only [List.mem_cons, List.not_mem_nil, or_false] at hb
    rcases hb with e | e
    · exact nat_ne (Nat.lt_succ_of_lt this) e
    · exact nat_ne this e
  · rintro i v m₁ news₁ h₁ tk₁ own hi ⟨T, vals, rfl, ⟨u, x, hx, rfl⟩, hT⟩ hJ hown hap F₁ N₁
    obtain ⟨oe, oi, rfl⟩ := own2 hown
    exact turn i T x u m₁ news₁ h₁ tk₁ _ _ oe oi hx hT hJ hap F₁ N₁
  · intro h' tk m' news' F' N' hJ
    exact done h' tk m' news' F' N' hJ
/-- for target in t, t a tuple that stood before the call -/
theorem tup_turns {target : Expr} {t : Addr} {items : Array Value} {m : Str → Option Value} {news : Led}
    (hh : A.handled = none) (ht : h₀.IsTuple t items) (F : Fr h₀ env.locals s.heap m) (N : News h₀ env.locals s.heap news)
    (J : Nat → (Str → Option Value) → Led → Prop) (h0 : J 0 m news)
    (turn : ∀ i x m₁ news₁ h₁ tk₁ it oi, items[i]? = some x → J i m₁ news₁ → Apart [(it, oi)] news₁ → Fr h₀ env.locals h₁ m₁ → News h₀ env.locals h₁ ([(it, oi)] ++ news₁) →
      wpAny (model prog w) A (assign target env x) (fun _ s₃ => wpAny (model prog w) A (execs body env) (TurnEnd h₀ env.locals [(it, oi)] (J (i + 1)) { s with heap := h₁, toks := tk₁ } Q) E s₃) E { s with heap := h₁, toks := tk₁ })
    (done : ∀ h' tk m' news', Fr h₀ env.locals h' m' → News h₀ env.locals h' news' → J items.size m' news' → wpAny (model prog w) A (execs orelse env) Q E { s with heap := h', toks := tk }) :
    wpAny (model prog w) A (pyIter (.ref t)) (fun it s₂ => Turns prog w A h₀ env target body orelse Q E it s₂) E s := by
  have htu : s.heap.IsTuple t items := ht.at fun o e => F.keep t o e
  obtain ⟨ot, hot, _⟩ := id ht
  have hlt0 : t < h₀.objs.size := Heap.lt_size hot
  have hlt : t < s.heap.objs.size := Heap.lt_size (F.keep _ _ hot)
  have hL : env.locals < s.heap.objs.size := F.ns.lt
  have hne : t ≠ s.heap.objs.size := Nat.ne_of_lt hlt
  refine wpAny_pyIter_tuple htu ?_
  have W := KTurns.ofWalks (target := target) (Walks.tuple (prog := prog) (w := w) hh s.heap.objs.size t hne items) fun i v s Q E st q => letGo_tupleiter st.1 q
  have hk : ∀ b o, s.heap.get? b = some o → (s.heap.push { cls := .type "tuple_iterator", data := .fields #[.ref t, .int 0 0] }).get? b = some o := fun b o e => Heap.get?_push_of_some _ e
  refine ⟨_, _, _, _, _, _, _, m, news, [], J, rfl, W, ?_, ?_, ?_, ?_, (fun _ _ _ _ _ h => nomatch h), ⟨⟨_, Heap.get?_push_size _ rfl, rfl, rfl⟩, htu.at fun o e => hk t o e⟩, F.keeps hk, N.grown hk, ?_, h0, ?_, ?_⟩
  · intro hm
    simp only [List.mem_cons, List.not_mem_nil, or_false] at hm
    have hL0 := F.above
    rcases hm with e | e
    · exact nat_ne hL e
    · exact absurd hlt0 (Nat.not_lt.mpr (e ▸ hL0))
  · intro b hb
    simp only [List.mem_cons, List.not_mem_nil, or_false] at hb
    rw [hb]
    exact ktu_new F (Nat.le_refl _)
  · rintro i h ⟨⟨oi, hoi, _⟩, _⟩ b hb
    simp only [List.mem_cons, List.not_mem_nil, or_false] at hb
    rw [hb]
    exact ⟨_, hoi⟩
  · intro b hb
    simp only [List.mem_cons, List.not_mem_nil, or_false] at hb
    rcases hb with rfl | rfl
    · exact .inl (by simp)
    · exact .inr (.inl ⟨ot, hot⟩)
  · intro p hp hb
    have := Heap.lt_size (N p hp).1
    simp only [List.mem_cons, List.not_mem_nil, or_false] at hb
    exact nat_ne this hb
  · rintro i v m₁ news₁ h₁ tk₁ own hi hx hJ hown hap F₁ N₁
    obtain ⟨oi, rfl⟩ := own1 hown
    exact turn i v m₁ news₁ h₁ tk₁ _ oi hx hJ hap F₁ N₁
  · intro h' tk m' news' F' N' hJ
    exact done h' tk m' news' F' N' hJ
end
end Mine
namespace Mine
local macro_rules | `(tactic| walk_at "m enter") => `(tactic| (refine wpAny_call ?_; k_dflt ktr_enter))
local macro_rules | `(tactic| walk_at "exec For Tuple Call") => `(tactic| refine Halt.mk ?_)
local macro_rules | `(tactic| walk_at "exec For Tuple Call cons nil") => `(tactic| refine Halt.mk ?_)
local macro_rules | `(tactic| walk_at "exec For Tuple Name") => `(tactic| refine Halt.mk ?_)
local macro_rules | `(tactic| walk_at "exec For Tuple Name cons cons") => `(tactic| refine Halt.mk ?_)
local macro_rules | `(tactic| walk_at "call type:enumerate") => `(tactic| refine Halt.mk ?_)
local macro_rules | `(tactic| walk_at "pyIter ref") => `(tactic| refine Halt.mk ?_)
theorem fr_known {h₀ h : Heap} {L : Addr} {m : Str → Option Value} {ps : List (Str × Value)} (hp : ∀ p ∈ ps, m p.1 = some p.2) (F : Fr h₀ L h m) : Fr h₀ L h (kstB m ps) := by
  have e : kstB m ps = m := funext fun z => kstB_eq hp fun _ => rfl
  rw [e]; exact F
def tabD : List (List (Int × Nat)) :=
  [[(40960, 108), (49152, 115), (32768, 45), (24576, 98), (16384, 100), (8192, 99), (4096, 112)], [(256, 114)], [(128, 119)], [(2112, 115), (2048, 83), (64, 120)],
   [(32, 114)], [(16, 119)], [(1032, 115), (1024, 83), (8, 120)], [(4, 114)], [(2, 119)], [(513, 116), (512, 84), (1, 120)]]
def hitF (n i : Nat) (b : Int) : Bool := if i = 0 then Builtin.bitAnd n 61440 == b else Builtin.bitAnd n b == b
def pickF (n i : Nat) : List (Int × Nat) → Nat
  | [] => if i = 0 then 63 else 45
  | (b, c) :: r => if hitF n i b then c else pickF n i r
def charF (n i : Nat) : Nat := pickF n i (tabD.getD i [])
def sign (c : Nat) : Str := ⟨#[c]⟩
def rowF (n : Nat) : Str := ⟨((List.range 10).map (charF n)).toArray⟩
abbrev fileT : ToldN Nat := pureT (fun d vs => ∃ t, vs = [.int (d : Int) t]) (fun _ => True) (fun _ => 2) (fun d r => ∃ t : Tok, r = .str (rowF d) t)
/-- a table's rows as the top's heap holds them -/
inductive Pairs (h : Heap) : List Value → List (Int × Nat) → Prop
  | nil : Pairs h [] []
  | cons {a : Addr} {b : Int} {c : Nat} {tb tc : Tok} {vs : List Value} {r : List (Int × Nat)} : h.IsTuple a #[.int b tb, .str (sign c) tc] → Pairs h vs r → Pairs h (.ref a :: vs) ((b, c) :: r)
theorem Pairs.at {h : Heap} : ∀ {vs : List Value} {r : List (Int × Nat)}, Pairs h vs r → ∀ {j : Nat} {v : Value}, vs[j]? = some v → ∃ a b c tb tc, v = .ref a ∧ h.IsTuple a #[.int b tb, .str (sign c) tc] ∧ r[j]? = some (b, c)
  | _, _, .nil, j, v, hv => by simp at hv
  | _, _, .cons ht hr, 0, v, hv => by simp at hv; subst hv; exact ⟨_, _, _, _, _, rfl, ht, rfl⟩
  | _, _, .cons ht hr, j + 1, v, hv => by simpa using Pairs.at hr (j := j) (v := v) (by simpa using hv)
theorem Pairs.length {h : Heap} : ∀ {vs : List Value} {r : List (Int × Nat)}, Pairs h vs r → vs.length = r.length
  | _, _, .nil => rfl
  | _, _, .cons _ hr => congrArg (· + 1) hr.length
def tabV : List Value := [.ref 50, .ref 52, .ref 54, .ref 58, .ref 60, .ref 62, .ref 66, .ref 68, .ref 70, .ref 74]
set_option maxRecDepth 100000 in
set_option maxHeartbeats 8000000 in
theorem tabs_at (w : World) {h : Heap} (X : (hd.heap_39 w.params).In h) : ∀ i x, tabV[i]? = some x → ∃ a ps, x = .ref a ∧ h.IsTuple a ps.toArray ∧ Pairs h ps (tabD.getD i []) := by
  have t : ∀ {a : Addr} {l : List Value}, (hd.heap_39 w.params).lookup a = some ⟨.type "tuple", none, .seq l.toArray 0, #[]⟩ → h.IsTuple a l.toArray := fun e => tupK X e
  intro i x hx
  match i, hx with
  | 0, hx => cases hx; exact ⟨_, _, rfl, t rfl, .cons (t rfl) (.cons (t rfl) (.cons (t rfl) (.cons (t rfl) (.cons (t rfl) (.cons (t rfl) (.cons (t rfl) .nil))))))⟩
  | 1, hx => cases hx; exact ⟨_, _, rfl, t rfl, .cons (t rfl) .nil⟩
  | 2, hx => cases hx; exact ⟨_, _, rfl, t rfl, .cons (t rfl) .nil⟩
  | 3, hx => cases hx; exact ⟨_, _, rfl, t rfl, .cons (t rfl) (.cons (t rfl) (.cons (t rfl) .nil))⟩
  | 4, hx => cases hx; exact ⟨_, _, rfl, t rfl, .cons (t rfl) .nil⟩
  | 5, hx => cases hx; exact ⟨_, _, rfl, t rfl, .cons (t rfl) .nil⟩
  | 6, hx => cases hx; exact ⟨_, _, rfl, t rfl, .cons (t rfl) (.cons (t rfl) (.cons (t rfl) .nil))⟩
  | 7, hx => cases hx; exact ⟨_, _, rfl, t rfl, .cons (t rfl) .nil⟩
  | 8, hx => cases hx; exact ⟨_, _, rfl, t rfl, .cons (t rfl) .nil⟩
  | 9, hx => cases hx; exact ⟨_, _, rfl, t rfl, .cons (t rfl) (.cons (t rfl) (.cons (t rfl) .nil))⟩
  | k + 10, hx => simp [tabV] at hx
end Mine
namespace Mine
local macro_rules | `(tactic| walk_at "m enter") => `(tactic| (refine wpAny_call ?_; k_dflt ktr_enter))
local macro_rules | `(tactic| walk_at "exec For Tuple Call") => `(tactic| refine Halt.mk ?_)
local macro_rules | `(tactic| walk_at "exec For Tuple Call cons nil") => `(tactic| refine Halt.mk ?_)
local macro_rules | `(tactic| walk_at "exec For Tuple Name") => `(tactic| refine Halt.mk ?_)
local macro_rules | `(tactic| walk_at "exec For Tuple Name cons cons") => `(tactic| refine Halt.mk ?_)
local macro_rules | `(tactic| walk_at "call type:enumerate") => `(tactic| refine Halt.mk ?_)
local macro_rules | `(tactic| walk_at "pyIter ref") => `(tactic| refine Halt.mk ?_)
local macro_rules | `(tactic| walk_at "call builtin:str.join") => `(tactic| refine Halt.mk ?_)
local macro_rules | `(tactic| walk_at "call builtin:list.append") => `(tactic| refine Halt.mk ?_)
local macro_rules | `(tactic| walk_at "TurnEnd") => `(tactic| refine Halt.mk ?_)
theorem signs_row (n : Nat) : (List.range 10).map (fun j => sign (charF n j)) = signs (rowF n) := by
  show _ = (rowF n).cps.toList.map fun c => (⟨#[c]⟩ : Str)
  rw [show (rowF n).cps.toList = (List.range 10).map (charF n) from rfl, List.map_map]
  rfl
theorem join_signs (n : Nat) : Txt.join (Str.ofString "") (signs (rowF n)) = rowF n :=
  (eq_of_beq (join_closes (sep := Str.ofString "") (sep' := ⟨#[]⟩) (ys := signs (rowF n)) rfl)).trans (join_nil_signs (rowF n))
theorem signs_weight (n : Nat) : ((signs (rowF n)).map (·.length)).sum + (signs (rowF n)).length ≤ 1048576 := by
  rw [← signs_row]
  simp [sign, Str.length, List.range, List.range.loop]
theorem hit_0 {n i : Nat} {b : Int} (h : (i : Int) = 0) (e : Builtin.bitAnd n 61440 = b) : hitF n i b = true := by rw [hitF, if_pos (by omega)]; exact beq_iff_eq.mpr e
theorem hit_n {n i : Nat} {b : Int} (h : (i : Int) ≠ 0) (e : Builtin.bitAnd n b = b) : hitF n i b = true := by rw [hitF, if_neg (by omega)]; exact beq_iff_eq.mpr e
theorem miss_0 {n i : Nat} {b : Int} (h : (i : Int) = 0) (e : Builtin.bitAnd n 61440 ≠ b) : hitF n i b = false := by rw [hitF, if_pos (by omega)]; exact beq_eq_false_iff_ne.mpr e
theorem miss_n {n i : Nat} {b : Int} (h : (i : Int) ≠ 0) (e : Builtin.bitAnd n b ≠ b) : hitF n i b = false := by rw [hitF, if_neg (by omega)]; exact beq_eq_false_iff_ne.mpr e
theorem drop_at {α : Type} : ∀ {l : List α} {j : Nat} {x : α}, l[j]? = some x → l.drop j = x :: l.drop (j + 1)
  | y :: r, 0, x, h => by simp at h; subst h; rfl
  | y :: r, j + 1, x, h => by simpa using drop_at (l := r) (j := j) (x := x) (by simpa using h)
  | [], j, x, h => by simp at h
theorem chars_snoc {n i : Nat} {vs : List Value} (h : StrsAre vs ((List.range i).map fun j => sign (charF n j))) {c : Nat} (t : Tok) (e : charF n i = c) : StrsAre (vs ++ [.str (sign c) t]) ((List.range (i + 1)).map fun j => sign (charF n j)) := by
  rw [List.range_succ, List.map_append, List.map_singleton, e]
  exact StrsAre.append' h (.cons _ _ .nil)
theorem apart_head {own news : Led} {l : Addr} {o o' : Obj} (h : Apart own ((l, o) :: news)) : Apart own ((l, o') :: news) := fun p hp q hq => by
  rcases List.mem_cons.mp hq with rfl | hq
  · exact h p hp (l, o) (.head _)
  · exact h p hp q (.tail _ hq)
local macro_rules | `(tactic| walk_at "m room") => `(tactic| first | ((try dsimp only); omega) | exact Nat.le_of_ble_eq_true rfl | decide)
local macro_rules | `(tactic| walk_at "call ref") => `(tactic| (refine pure_use (ifmt_says _ _ _ _ _) (by k_asm) (by k_asm) (by k_asm) (by k_asm) (by k_asm) rfl ⟨_, rfl⟩ trivial (by walk_at "m room") (by walk_at "m room") ?_; rintro _ h9 tk9 F9 N9 ⟨t9, e9⟩; subst e9))
set_option maxRecDepth 100000 in
set_option maxHeartbeats 8000000 in
theorem file_says (w : World) (mean : ExcName → Option Value) (mg mb : Str → Option Value) : ∀ d, Says w mean mg mb 82 fileT d := by
  unfold Says
  k_fill
  w_top off
  intro n
  unfold TellsN
  intro dp un gd cn cs a ccd cl outer A₀ base h₀ L m news s vs Q E B F X N T hk hR hok hd hu hret
  obtain ⟨t, rfl⟩ := hR
  dsimp only [fileT, pureT] at hd hu hret ⊢
  walk_at "m enter"
  k_steps
  rename_i g Lf hx0 FG B' X' T' tk0 l hx1 l1 hx2 Fx Nx
  refine Halt.out ?_
  refine m_for Fx ?_
  k_steps
  refine Halt.out ?_
  refine enum_turns (t := 75) (items := tabV.toArray) rfl (tupK X' rfl) Fx Nx
    (fun i m₁ nx => ∃ vs k, nx = (l, W.listOf vs.toArray k) :: news ∧ StrsAre vs ((List.range i).map fun j => sign (charF n j)) ∧ m₁ (Str.ofString "mode") = some (.int (n : Int) t) ∧ m₁ (Str.ofString "perm") = some (.ref l))
    ⟨[], 0, rfl, .nil, rfl, rfl⟩ ?turn ?done
  case turn =>
    rintro i T x u m₁ nx h₁ tk₁ e it oe oi hx hT ⟨vs, k, rfl, hvs, hm1, hm2⟩ hap F₁ N₁
    obtain ⟨a, ps, rfl, ha, hps⟩ := tabs_at w X' i x (by simpa using hx)
    have hx0' : i < tabV.length := by
      have := (Array.getElem?_eq_some_iff.mp hx).1; simpa using this
    have F₂ := fr_known (ps := [(Str.ofString "mode", .int (n : Int) t), (Str.ofString "perm", .ref l)]) (by
      intro p hp; simp only [List.mem_cons, List.not_mem_nil, or_false] at hp; rcases hp with rfl | rfl <;> assumption) F₁
    clear F₁ Fx Nx
    k_unmd
    k_fold
    k_steps
    rename_i hx3 hx4 Fa Na hx5 hx6 F₃ N₃
    refine Halt.out ?_
    refine m_for F₃ ?_
    k_steps
    refine Halt.out ?_
    refine tup_turns (t := a) (items := ps.toArray) rfl ha F₃ N₃
      (fun j m₁ nx => nx = [(e, oe), (it, oi)] ++ (l, W.listOf vs.toArray k) :: news ∧ m₁ (Str.ofString "mode") = some (.int (n : Int) t) ∧ m₁ (Str.ofString "perm") = some (.ref l) ∧ m₁ (Str.ofString "index") = some (.int (i : Int) u) ∧
        pickF n i (tabD.getD i []) = pickF n i ((tabD.getD i []).drop j))
      ⟨rfl, rfl, rfl, rfl, rfl⟩ ?turn2 ?done2
    case turn2 =>
      rintro j x m₂ nx h₂ tk₂ it2 oi2 hx ⟨rfl, hm1, hm2, hm3, hpick⟩ hap2 F₄ N₄
      obtain ⟨pa, b, c, tb, tc, rfl, hpa, hrow⟩ := hps.at (j := j) (v := x) (by simpa using hx)
      have hpa' : IsTup h₂ pa #[.int b tb, .str (sign c) tc] := let ⟨o, ho, r⟩ := hpa; ⟨o, F₄.keep _ _ ho, r⟩
      have F₅ := fr_known (ps := [(Str.ofString "mode", .int (n : Int) t), (Str.ofString "perm", .ref l), (Str.ofString "index", .int (i : Int) u)]) (by
        intro p hp; simp only [List.mem_cons, List.not_mem_nil, or_false] at hp; rcases hp with rfl | rfl | rfl <;> assumption) F₄
      clear F₄ F₃ N₃ F₂ Fa Na
      have hdr : (tabD.getD i []).drop j = (b, c) :: (tabD.getD i []).drop (j + 1) := drop_at hrow
      have hch : hitF n i b = true → charF n i = c := fun h => by rw [charF, hpick, hdr, pickF, if_pos h]
      have hno : hitF n i b = false → pickF n i (tabD.getD i []) = pickF n i ((tabD.getD i []).drop (j + 1)) := fun h => by rw [hpick, hdr, pickF, h]; rfl
      have hnw : ∀ p ∈ news, p.1 ≠ l := fun p hp => Nat.ne_of_lt (l1 p hp)
      have hne : ∀ p ∈ ([(it2, oi2), (e, oe), (it, oi)] : Led), p.1 ≠ l := by
        intro p hp
        rcases List.mem_cons.mp hp with rfl | hp
        · exact hap2 _ (.head _) (l, W.listOf vs.toArray k) (by simp)
        · exact hap _ hp (l, _) (.head _)
      have hsz : vs.toArray.size ≤ sizeLine := by
        have := hvs.length
        rw [List.size_toArray, sizeLine_eq]; simp at this; simp [tabV] at hx0'; omega
      k_unmd
      k_fold
      k_steps
      · refine Halt.out ?_
        refine append_led (own := [(it2, oi2), (e, oe), (it, oi)]) (by k_asm) (by k_asm) hne hnw hsz ?_
        intro h9 F9 N9
        k_steps
        refine Halt.out ?_
        dsimp only [TurnEnd]
        k_steps
        refine Halt.out ?_
        rw [List.push_toArray] at N9
        exact TurnEnd.go (by k_asm) N9 (fun p hp => List.mem_append.mpr (.inl (.tail _ hp))) (fun p hp => List.mem_append.mpr (.inr hp)) (apart_head hap) ⟨_, k + 1, rfl, chars_snoc hvs tc (hch (hit_0 (by assumption) (by assumption))), rfl, rfl⟩
      · refine Halt.out ?_
        refine TurnEnd.go (by k_asm) (by k_asm) (fun p hp => List.mem_append.mpr (.inl hp)) (fun p hp => List.mem_append.mpr (.inr hp)) hap2 ⟨rfl, rfl, rfl, rfl, hno (miss_0 (by assumption) (by assumption))⟩
      · refine Halt.out ?_
        refine append_led (own := [(it2, oi2), (e, oe), (it, oi)]) (by k_asm) (by k_asm) hne hnw hsz ?_
        intro h9 F9 N9
        k_steps
        refine Halt.out ?_
        dsimp only [TurnEnd]
        k_steps
        refine Halt.out ?_
        rw [List.push_toArray] at N9
        exact TurnEnd.go (by k_asm) N9 (fun p hp => List.mem_append.mpr (.inl (.tail _ hp))) (fun p hp => List.mem_append.mpr (.inr hp)) (apart_head hap) ⟨_, k + 1, rfl, chars_snoc hvs tc (hch (hit_n (by assumption) (by assumption))), rfl, rfl⟩
      · refine Halt.out ?_
        refine TurnEnd.go (by k_asm) (by k_asm) (fun p hp => List.mem_append.mpr (.inl hp)) (fun p hp => List.mem_append.mpr (.inr hp)) hap2 ⟨rfl, rfl, rfl, rfl, hno (miss_n (by assumption) (by assumption))⟩
    case done2 =>
      rintro h₂ tk₂ m₂ nx F₄ N₄ ⟨rfl, hm1, hm2, hm3, hpick⟩
      have F₅ := fr_known (ps := [(Str.ofString "mode", .int (n : Int) t), (Str.ofString "perm", .ref l), (Str.ofString "index", .int (i : Int) u)]) (by
        intro p hp; simp only [List.mem_cons, List.not_mem_nil, or_false] at hp; rcases hp with rfl | rfl | rfl <;> assumption) F₄
      clear F₄ F₃ N₃ F₂ Fa Na
      have hlen : ps.toArray.size = (tabD.getD i []).length := by rw [List.size_toArray]; exact hps.length
      rw [hlen, List.drop_length] at hpick
      k_unmd
      k_fold
      have hnw : ∀ p ∈ news, p.1 ≠ l := fun p hp => Nat.ne_of_lt (l1 p hp)
      have hne : ∀ p ∈ ([(e, oe), (it, oi)] : Led), p.1 ≠ l := fun p hp => hap _ hp (l, _) (.head _)
      have hsz : vs.toArray.size ≤ sizeLine := by
        have := hvs.length
        rw [List.size_toArray, sizeLine_eq]; simp at this; simp [tabV] at hx0'; omega
      k_steps
      · refine Halt.out ?_
        refine append_led (own := [(e, oe), (it, oi)]) (by k_asm) (by k_asm) hne hnw hsz ?_
        intro h9 F9 N9
        k_steps
        refine Halt.out ?_
        rw [List.push_toArray] at N9
        exact TurnEnd.go (by k_asm) N9 (fun p hp => List.mem_append.mpr (.inl hp)) (fun p hp => List.mem_append.mpr (.inr hp)) (apart_head hap) ⟨_, k + 1, rfl, chars_snoc (c := 63) hvs _ (hpick.trans (by rw [pickF, if_pos (by omega)])), rfl, rfl⟩
      · refine Halt.out ?_
        refine append_led (own := [(e, oe), (it, oi)]) (by k_asm) (by k_asm) hne hnw hsz ?_
        intro h9 F9 N9
        k_steps
        refine Halt.out ?_
        rw [List.push_toArray] at N9
        exact TurnEnd.go (by k_asm) N9 (fun p hp => List.mem_append.mpr (.inl hp)) (fun p hp => List.mem_append.mpr (.inr hp)) (apart_head hap) ⟨_, k + 1, rfl, chars_snoc (c := 45) hvs _ (hpick.trans (by rw [pickF, if_neg (by omega)])), rfl, rfl⟩
  case done =>
    rintro h₁ tk₁ m₁ nx F₁ N₁ ⟨vs, k, rfl, hvs, hm1, hm2⟩
    have F₂ := fr_known (ps := [(Str.ofString "mode", .int (n : Int) t), (Str.ofString "perm", .ref l)]) (by
      intro p hp; simp only [List.mem_cons, List.not_mem_nil, or_false] at hp; rcases hp with rfl | rfl <;> assumption) F₁
    clear F₁
    k_unmd
    k_fold
    have hl : h₁.IsList l vs.toArray := ⟨_, (N₁ (l, _) (.head _)).1, rfl, _, rfl⟩
    k_steps
    refine Halt.out ?_
    have hvs' : StrsAre vs (signs (rowF n)) := (signs_row n) ▸ hvs
    refine join_listW hl hvs' (Nat.zero_le _) (signs_weight n) ?_
    intro t9 k9
    rw [join_signs]
    k_steps
    exact hret _ [] _ _ (by k_asm) (ktn_drop (by k_asm) (fun p hp => .tail _ hp)) ktn_ord0 rfl ⟨_, rfl⟩
end Mine
namespace Mine
/-- a tree: a leaf is a number; a fork a place and two trees -/
inductive T where
  | leaf (n : Nat)
  | fork (p : Nat) (l r : T)
abbrev tupO (vs : List Value) (k : Nat) : Obj := { cls := .type "tuple", data := .seq vs.toArray k }
/-- the ledger bears the tree at v -/
inductive TreeIn (news : Led) : Value → T → Prop
  | leaf {a : Addr} {n : Nat} {t : Tok} {k : Nat} : (a, tupO [.int (n : Int) t] k) ∈ news → TreeIn news (.ref a) (.leaf n)
  | fork {a : Addr} {p : Nat} {t : Tok} {vl vr : Value} {l r : T} {k : Nat} : (a, tupO [.int (p : Int) t, vl, vr] k) ∈ news → TreeIn news vl l → TreeIn news vr r → TreeIn news (.ref a) (.fork p l r)
theorem TreeIn.mono {news news' : Led} {v : Value} {t : T} (h : TreeIn news v t) (hs : ∀ p ∈ news, p ∈ news') : TreeIn news' v t := by
  induction h with
  | leaf hm => exact .leaf (hs _ hm)
  | fork hm _ _ ihl ihr => exact .fork (hs _ hm) ihl ihr
def T.size : T → Nat
  | .leaf _ => 0
  | .fork _ l r => l.size + r.size + 1
def T.depth : T → Nat
  | .leaf _ => 0
  | .fork _ l r => max l.depth r.depth + 1
/-- every place below 16 -/
def T.ok : T → Prop
  | .leaf _ => True
  | .fork p l r => p < 16 ∧ l.ok ∧ r.ok
/-- down the tree by a row alone -/
def T.lead (row : Str) : T → Nat
  | .leaf n => n
  | .fork p l r => if setF row p then r.lead row else l.lead row
/-- a contract of a def that reads what the ledger bears; nothing is made that lasts -/
abbrev readT {D : Type} (vs : Led → D → List Value → Prop) (ok : D → Prop) (n : D → Nat) (out : D → Value → Prop) : ToldN D where
  Rel := fun news l d => vs news d l
  Ok := ok
  size := n
  Tl := fun tl => tl = []
  Out := fun _ r d => out d r
theorem read_use {D : Type} {w : World} {mean : ExcName → Option Value} {mg mb : Str → Option Value} {f : Addr} {vsR : Led → D → List Value → Prop} {ok : D → Prop} {sz : D → Nat} {out : D → Value → Prop} {d : D} (C : Says w mean mg mb f (readT vsR ok sz out) d)
    {dp un : Nat} {gd : Option (List Code)} {cn : Str} {cs : Scope} {a : Addr} {ccd : Value} {cl : List (Str × Addr)} {outer : List Env} {A₀ : Around} {base h₀ : Heap} {L : Addr} {m : Str → Option Value} {news : Led} {s : Shared} {vs : List Value} {Q E : Value → Shared → Prop}
    (B : Below A₀ base outer h₀) (F : Fr h₀ L s.heap m) (X : (hd.heap_39 w.params).In h₀) (N : News h₀ L s.heap news) (T : Top hd.view_39 (looseW hd.view_39 [Str.ofString "_filemode_table"]) mean mg mb h₀) (hk : cs.kind = .function)
    (R : vsR news d vs) (o : ok d) (hd : dp + sz d < recursionLimit) (hu : un + 8 * sz d < cLine)
    (ret : ∀ r h' tk', Fr h₀ L h' m → News h₀ L h' news → out d r → Q r { s with heap := h', toks := tk' }) :
    wpAny (model PySem.Challenge.rw_tx0013_01.row.prog w) (ktrTop dp un gd cn cs L a ccd cl outer) (call (.ref f) vs) Q E s := by
  refine tellsN_use B F X N T hk R C o hd hu ?_
  intro r tl h' tk' F' N' _ ht ho
  have ht' : tl = [] := ht
  subst ht'
  rw [List.append_nil] at N' 
  exact ret r h' tk' F' N' ho
end Mine
namespace Mine
local macro_rules | `(tactic| walk_at "m enter") => `(tactic| (refine wpAny_call ?_; k_dflt ktr_enter))
local macro_rules | `(tactic| walk_at "ite") => `(tactic| (k_dflt (first | refine PySem.W.ite_neg (by decide) ?_ | refine PySem.W.ite_pos (by decide) ?_)))
local macro_rules | `(tactic| walk_at "m room") => `(tactic| first | ((try dsimp only); omega) | exact Nat.le_of_ble_eq_true rfl | decide)
local macro_rules | `(tactic| walk_at "exec While Compare cons nil") => `(tactic| refine Halt.mk ?_)
local macro_rules | `(tactic| walk_at "KswEnd") => `(tactic| refine Halt.mk ?_)
local macro_rules | `(tactic| walk_at "m same") => `(tactic| (intro z h2 _; (simp only [List.forall_mem_cons, List.not_mem_nil, false_implies, implies_true, and_true, ne_eq] at h2); simp [h2, kstB]))
local macro_rules | `(tactic| walk_at "call ref") => `(tactic| (refine pure_use (set_says _ _ _ _ (_, _)) (by k_asm) (by k_asm) (by k_asm) (by k_asm) (by k_asm) rfl ⟨_, _, rfl⟩ ⟨by assumption, by assumption⟩ (by walk_at "m room") (by walk_at "m room") ?_; rintro _ h9 tk9 F9 N9 ⟨t9, e9⟩; subst e9))
abbrev leadT : ToldN (T × Str) := readT (fun news d vs => ∃ v t, vs = [v, .str d.2 t] ∧ TreeIn news v d.1) (fun d => d.1.ok ∧ d.2.length = 10) (fun _ => 2) (fun d r => ∃ t : Tok, r = .int (d.1.lead d.2 : Int) t)
set_option maxRecDepth 100000 in
set_option maxHeartbeats 8000000 in
theorem lead_says (w : World) (mean : ExcName → Option Value) (mg mb : Str → Option Value) : ∀ d, Says w mean mg mb 96 leadT d := by
  unfold Says
  k_fill
  w_top off
  k_with_none
  rintro ⟨tr, row⟩
  unfold TellsN
  intro dp un gd cn cs a ccd cl outer A₀ base h₀ L m news s vs Q E B F X N T hk hR hok hd hu hret
  obtain ⟨v₀, t, rfl, hv₀⟩ := hR
  obtain ⟨hok, hlen⟩ := hok
  dsimp only [leadT, readT] at hv₀ hok hlen hd hu hret ⊢
  walk_at "m enter"
  k_steps
  rename_i g Lf hx0 FG Fa Na B' X' T'
  refine Halt.out ?_
  refine ksw_while (σ := Value × Mine.T) (fun _ => news) (fun c => [(Str.ofString "tree", c.1), (Str.ofString "row", .str row t)])
      (fun c => TreeIn news c.1 c.2 ∧ c.2.ok) [] (fun c => c.2.lead row = tr.lead row) (fun c => c.2.size) (v₀, tr) (by k_asm) (by k_asm) ⟨hv₀, hok⟩ ?hk9 rfl ?turn9
  case hk9 => (intro p hp; simp only [List.mem_cons, List.not_mem_nil, or_false] at hp; rcases hp with rfl | rfl <;> rfl)
  rintro ⟨v, x⟩ u' h' tk' ⟨hv, hx⟩ hP F' N'
  dsimp only at hv hx hP F' N' ⊢
  cases hv with
  | leaf hm =>
    k_unmd
    k_fold
    k_steps
    have hP' : _ = tr.lead row := hP
    exact hret _ [] _ _ (by k_asm) (ktn_drop (by k_asm) (fun _ h => h)) ktn_ord0 rfl ⟨_, by rw [← hP']; rfl⟩
  | fork hm hl hr =>
    rename_i fa fp ft vl vr tl tr' fk
    obtain ⟨hp16, hlo, hro⟩ := hx
    k_unmd
    k_fold
    k_steps
    · refine Halt.out ?_
      have hs : setF row fp = true := by assumption
      refine ksw_end (vr, tr') (by k_asm) (by k_asm) (fun _ h => h) ⟨hr, hro⟩ ?_ (by walk_at "m same") ?_ ?_
      · intro p hp; simp only [List.mem_cons, List.not_mem_nil, or_false] at hp; rcases hp with rfl | rfl <;> rfl
      · rw [← hP, T.lead, if_pos hs]
      · show tr'.size < tl.size + tr'.size + 1; omega
    · refine Halt.out ?_
      have hs : setF row fp = false := by assumption
      refine ksw_end (vl, tl) (by k_asm) (by k_asm) (fun _ h => h) ⟨hl, hlo⟩ ?_ (by walk_at "m same") ?_ ?_
      · intro p hp; simp only [List.mem_cons, List.not_mem_nil, or_false] at hp; rcases hp with rfl | rfl <;> rfl
      · rw [← hP, T.lead, hs]; rfl
      · show tl.size < tl.size + tr'.size + 1; omega
end Mine
namespace Mine
local macro_rules | `(tactic| walk_at "m enter") => `(tactic| (refine wpAny_call ?_; k_dflt ktr_enter))
local macro_rules | `(tactic| walk_at "ite") => `(tactic| (k_dflt (first | refine PySem.W.ite_neg (by decide) ?_ | refine PySem.W.ite_pos (by decide) ?_)))
local macro_rules | `(tactic| walk_at "m room") => `(tactic| first | ((try dsimp only); omega) | exact Nat.le_of_ble_eq_true rfl | decide)
local macro_rules | `(tactic| walk_at "call ref") => `(tactic| ((with_reducible show wpAny _ _ (PySem.call (Value.ref 103) _) _ _ _); refine Halt.mk ?_))
local macro_rules | `(tactic| walk_at "call ref") => `(tactic| (refine pure_use (set_says _ _ _ _ (_, _)) (by k_asm) (by k_asm) (by k_asm) (by k_asm) (by k_asm) rfl ⟨_, _, rfl⟩ ⟨by assumption, by assumption⟩ (by walk_at "m room") (by walk_at "m room") ?_; rintro _ h9 tk9 F9 N9 ⟨t9, e9⟩; subst e9))
/-- a number put into a tree -/
def T.put (place : Nat) (row : Str) (number : Nat) : T → T
  | .leaf n => if setF row place then .fork place (.leaf n) (.leaf number) else .fork place (.leaf number) (.leaf n)
  | .fork p l r =>
    if place < p then (if setF row p then .fork p l (r.put place row number) else .fork p (l.put place row number) r)
    else if setF row place then .fork place (.fork p l r) (.leaf number) else .fork place (.leaf number) (.fork p l r)
theorem news_two {h₀ h : Heap} {L : Addr} {p q : Addr × Obj} {news : Led} (N : News h₀ L h (p :: q :: news)) : News h₀ L h (news ++ [p, q]) := fun x hx => N x (by
  rcases List.mem_append.mp hx with hx | hx
  · exact .tail _ (.tail _ hx)
  · rcases List.mem_cons.mp hx with rfl | hx
    · exact .head _
    · exact .tail _ (List.mem_cons.mpr (.inl (List.mem_singleton.mp hx))))
theorem ord_two {a b : Addr} {o o' : Obj} {news : Led} (h1 : ∀ p ∈ news, p.1 < b) (h2 : @LT.lt Nat _ b a ∧ AllLt a news) : ∀ q ∈ news, ∀ p ∈ ([(a, o), (b, o')] : Led), q.1 < p.1 := by
  intro q hq p hp
  rcases List.mem_cons.mp hp with rfl | hp
  · exact Nat.lt_trans (h1 q hq) h2.1
  · rw [List.mem_singleton.mp hp]; exact h1 q hq
theorem mem_two {p q : Addr × Obj} (news : Led) (_ : Unit) : p ∈ news ++ [p, q] ∧ q ∈ news ++ [p, q] := ⟨List.mem_append.mpr (.inr (.head _)), List.mem_append.mpr (.inr (.tail _ (.head _)))⟩
abbrev putT : ToldN (T × Nat × Str × Nat) where
  Rel := fun news vs d => ∃ v t1 t2 t3, vs = [v, .int (d.2.1 : Int) t1, .str d.2.2.1 t2, .int (d.2.2.2 : Int) t3] ∧ TreeIn news v d.1
  Ok := fun d => d.1.ok ∧ d.2.1 < 16 ∧ d.2.2.1.length = 10
  size := fun d => d.1.depth + 2
  Tl := fun _ => True
  Out := fun news r d => TreeIn news r (d.1.put d.2.1 d.2.2.1 d.2.2.2)
set_option maxRecDepth 100000 in
set_option maxHeartbeats 8000000 in
theorem put_says (w : World) (mean : ExcName → Option Value) (mg mb : Str → Option Value) : ∀ d, Says w mean mg mb 103 putT d := by
  unfold Says
  k_fill
  w_top off
  k_with_none
  refine tellsN_of ?_
  rintro ⟨tr, place, row, number⟩ IH
  unfold TellsN
  intro dp un gd cn cs a ccd cl outer A₀ base h₀ L m news s vs Q E B F X N T hk hR hok hd hu hret
  obtain ⟨v₀, t1, t2, t3, rfl, hv₀⟩ := hR
  obtain ⟨hok, hpl, hlen⟩ := hok
  dsimp only [putT] at hv₀ hok hpl hlen hd hu hret IH ⊢
  cases hv₀ with
  | leaf hm =>
    rename_i la ln lt lk
    walk_at "m enter"
    k_steps
    · have hs : setF row place = true := by assumption
      exact hret _ [_, _] _ _ (by k_asm) (news_two (by k_asm)) (ord_two (by assumption) (by assumption)) trivial (by
        rw [T.put, if_pos hs]
        exact .fork (mem_two _ ()).1 (.leaf (List.mem_append.mpr (.inl hm))) (.leaf (mem_two _ ()).2))
    · have hs : setF row place = false := by assumption
      exact hret _ [_, _] _ _ (by k_asm) (news_two (by k_asm)) (ord_two (by assumption) (by assumption)) trivial (by
        rw [T.put, hs]
        exact .fork (mem_two _ ()).1 (.leaf (mem_two _ ()).2) (.leaf (List.mem_append.mpr (.inl hm))))
  | fork hm hl hr =>
    rename_i fa fp ft vl vr tl tr' fk
    obtain ⟨hp16, hlo, hro⟩ := hok
    walk_at "m enter"
    k_steps
    · have hs : setF row fp = true := by assumption
      have hdp : tr'.depth + 1 ≤ (Mine.T.fork fp tl tr').depth := by simp only [Mine.T.depth]; omega
      refine Halt.out ?_
      refine tellsN_use (c := putT) (d := (tr', place, row, number)) (by k_asm) (by k_asm) (by k_asm) (by k_asm) (by k_asm) rfl ⟨_, _, _, _, rfl, hr⟩ (IH (tr', place, row, number) (by dsimp only; omega)) ⟨hro, hpl, hlen⟩ (by dsimp only; omega) (by dsimp only; omega) ?_
      intro r9 tl9 h9 tk9 F9 N9 ord9 _ ho9
      dsimp only at ho9
      k_steps
      exact hret _ (_ :: tl9) _ _ (by k_asm) (ktn_tl2 (by k_asm)) (ktn_ord2 (by ktn_lt) ord9) trivial (by
        rw [T.put, if_pos (by omega), if_pos hs]
        exact .fork ktn_new (hl.mono ktn_subA) (ho9.mono ktn_subB))
    · have hs : setF row fp = false := by assumption
      have hdp : tl.depth + 1 ≤ (Mine.T.fork fp tl tr').depth := by simp only [Mine.T.depth]; omega
      refine Halt.out ?_
      refine tellsN_use (c := putT) (d := (tl, place, row, number)) (by k_asm) (by k_asm) (by k_asm) (by k_asm) (by k_asm) rfl ⟨_, _, _, _, rfl, hl⟩ (IH (tl, place, row, number) (by dsimp only; omega)) ⟨hlo, hpl, hlen⟩ (by dsimp only; omega) (by dsimp only; omega) ?_
      intro r9 tl9 h9 tk9 F9 N9 ord9 _ ho9
      dsimp only at ho9
      k_steps
      exact hret _ (_ :: tl9) _ _ (by k_asm) (ktn_tl2 (by k_asm)) (ktn_ord2 (by ktn_lt) ord9) trivial (by
        rw [T.put, if_pos (by omega), hs]
        exact .fork ktn_new (ho9.mono ktn_subB) (hr.mono ktn_subA))
    · have hs : setF row place = true := by assumption
      exact hret _ [_, _] _ _ (by k_asm) (news_two (by k_asm)) (ord_two (by assumption) (by assumption)) trivial (by
        rw [T.put, if_neg (by omega), if_pos hs]
        exact .fork (mem_two _ ()).1 ((TreeIn.fork hm hl hr).mono fun _ h => List.mem_append.mpr (.inl h)) (.leaf (mem_two _ ()).2))
    · have hs : setF row place = false := by assumption
      exact hret _ [_, _] _ _ (by k_asm) (news_two (by k_asm)) (ord_two (by assumption) (by assumption)) trivial (by
        rw [T.put, if_neg (by omega), hs]
        exact .fork (mem_two _ ()).1 (.leaf (mem_two _ ()).2) ((TreeIn.fork hm hl hr).mono fun _ h => List.mem_append.mpr (.inl h)))
end Mine
namespace Mine
theorem xor_and_add : ∀ (a b : Nat), (a ^^^ b) + 2 * (a &&& b) = a + b := by
  intro a
  induction a using Nat.strongRecOn with
  | ind a ih =>
    intro b
    by_cases ha : a = 0
    · subst ha; simp
    · have h := ih (a / 2) (by omega) (b / 2)
      rw [← Nat.xor_div_two, ← Nat.and_div_two] at h
      have hx : (a ^^^ b) % 2 = (a % 2 + b % 2) % 2 := by
        have h1 := Nat.testBit_xor a b 0
        simp only [Nat.testBit_zero] at h1
        rcases Nat.mod_two_eq_zero_or_one (a ^^^ b) with e | e <;> rcases Nat.mod_two_eq_zero_or_one a with e1 | e1 <;> rcases Nat.mod_two_eq_zero_or_one b with e2 | e2 <;> simp_all
      have hn : (a &&& b) % 2 = (a % 2) * (b % 2) := by
        have h1 := Nat.testBit_and a b 0
        simp only [Nat.testBit_zero] at h1
        rcases Nat.mod_two_eq_zero_or_one (a &&& b) with e | e <;> rcases Nat.mod_two_eq_zero_or_one a with e1 | e1 <;> rcases Nat.mod_two_eq_zero_or_one b with e2 | e2 <;> simp_all
      rcases Nat.mod_two_eq_zero_or_one a with e1 | e1 <;> rcases Nat.mod_two_eq_zero_or_one b with e2 | e2 <;> rw [e1, e2] at hx hn <;> omega
theorem andN (a b : Nat) : Builtin.bitAnd (a : Int) (b : Int) = ((a &&& b : Nat) : Int) := by
  rw [bitAnd_pp (by omega) (by omega)]; simp
theorem xorN (a b : Nat) : Builtin.bitXor (a : Int) (b : Int) = ((a ^^^ b : Nat) : Int) := by
  rw [bitXor_and, andN]
  have := xor_and_add a b
  omega
theorem intBits_pos {a : Nat} (h : a ≠ 0) : Builtin.Int.intBits (a : Int) = a.log2 + 1 := by
  unfold Builtin.Int.intBits
  have : ((a : Int) == 0) = false := by simp; omega
  rw [this]; simp
theorem intBits_nil : Builtin.Int.intBits ((0 : Nat) : Int) = 0 := rfl
theorem flip_lt {a : Nat} (h : a ≠ 0) : a ^^^ 2 ^ a.log2 < 2 ^ a.log2 := by
  refine Nat.lt_pow_two_of_testBit _ fun i hi => ?_
  rw [Nat.testBit_xor, Nat.testBit_two_pow]
  by_cases e : a.log2 = i
  · rw [← e, Nat.testBit_log2 h]; simp
  · have h1 : a < 2 ^ i := (Nat.log2_lt h).mp (by omega)
    rw [Nat.testBit_lt_two_pow h1]; simp [e]
theorem log2_le_self' {a : Nat} (h : a ≠ 0) : 2 ^ a.log2 ≤ a := (Nat.le_log2 h).mp (Nat.le_refl _)
theorem flip_dec {a : Nat} (h : a ≠ 0) : a ^^^ 2 ^ a.log2 < a := Nat.lt_of_lt_of_le (flip_lt h) (log2_le_self' h)
/-- the places of a number's set bits, downward, and whether each is the last -/
def takenS (a : Nat) : List (Nat × Bool) := if h : a = 0 then [] else (a.log2, a &&& (a - 1) == 0) :: takenS (a ^^^ 2 ^ a.log2)
termination_by a
decreasing_by exact flip_dec h
theorem takenS_nil : takenS 0 = [] := by rw [takenS]; simp
theorem takenS_cons {a : Nat} (h : a ≠ 0) : takenS a = (a.log2, a &&& (a - 1) == 0) :: takenS (a ^^^ 2 ^ a.log2) := by rw [takenS]; simp [h]
end Mine
namespace Mine
local macro_rules | `(tactic| walk_at "m enter") => `(tactic| (refine wpAny_call ?_; k_dflt ktr_enter))
local macro_rules | `(tactic| walk_at "ite") => `(tactic| (k_dflt (first | refine PySem.W.ite_neg (by decide) ?_ | refine PySem.W.ite_pos (by decide) ?_)))
local macro_rules | `(tactic| walk_at "m room") => `(tactic| first | ((try dsimp only); omega) | exact Nat.le_of_ble_eq_true rfl | decide)
local macro_rules | `(tactic| walk_at "exec While Compare cons nil") => `(tactic| refine Halt.mk ?_)
local macro_rules | `(tactic| walk_at "KswEnd") => `(tactic| refine Halt.mk ?_)
local macro_rules | `(tactic| walk_at "call builtin:list.append") => `(tactic| refine Halt.mk ?_)
local macro_rules | `(tactic| walk_at "call ref") => `(tactic| ((with_reducible show wpAny _ _ (PySem.call (Value.ref 28) _) _ _ _); k_dflt (refine pure_use (high_says _ _ _ _ _) (by k_asm) (by k_asm) (by k_asm) (by k_asm) (by k_asm) rfl ⟨_, rfl⟩ trivial (by walk_at "m room") (by walk_at "m room") ?_; rintro _ h9 tk9 F9 N9 ⟨t9, e9⟩; subst e9)))
local macro_rules | `(tactic| walk_at "call ref") => `(tactic| ((with_reducible show wpAny _ _ (PySem.call (Value.ref 21) _) _ _ _); k_dflt (refine pure_use (isb_says _ _ _ _ _) (by k_asm) (by k_asm) (by k_asm) (by k_asm) (by k_asm) rfl ⟨_, rfl⟩ trivial (by walk_at "m room") (by walk_at "m room") ?_; rintro _ h9 tk9 F9 N9 ⟨t9, e9⟩; subst e9)))
local macro_rules | `(tactic| walk_at "m same") => `(tactic| (intro z h2 h3; (simp only [List.forall_mem_cons, List.not_mem_nil, false_implies, implies_true, and_true, ne_eq] at h2); (simp only [List.contains_cons, List.contains_nil, Bool.or_false, Bool.or_eq_false_iff, beq_eq_false_iff_ne, ne_eq] at h3); simp [h2, h3, kstB]))
/-- a made list of made pairs (an int, a bool) -/
inductive PairsIn (news : Led) : List Value → List (Nat × Bool) → Prop
  | nil : PairsIn news [] []
  | cons {a : Addr} {p : Nat} {b : Bool} {t : Tok} {k : Nat} {vs : List Value} {r : List (Nat × Bool)} : (a, tupO [.int (p : Int) t, .bool b] k) ∈ news → PairsIn news vs r → PairsIn news (.ref a :: vs) ((p, b) :: r)
theorem PairsIn.mono {news news' : Led} (hs : ∀ p ∈ news, p ∈ news') : ∀ {vs : List Value} {r : List (Nat × Bool)}, PairsIn news vs r → PairsIn news' vs r
  | _, _, .nil => .nil
  | _, _, .cons h r => .cons (hs _ h) (r.mono hs)
theorem PairsIn.snoc {news : Led} {a : Addr} {p : Nat} {b : Bool} {t : Tok} {k : Nat} (h : (a, tupO [.int (p : Int) t, .bool b] k) ∈ news) : ∀ {vs : List Value} {r : List (Nat × Bool)}, PairsIn news vs r → PairsIn news (vs ++ [.ref a]) (r ++ [(p, b)])
  | _, _, .nil => .cons h .nil
  | _, _, .cons h' r => .cons h' (r.snoc h)
theorem PairsIn.length {news : Led} : ∀ {vs : List Value} {r : List (Nat × Bool)}, PairsIn news vs r → vs.length = r.length
  | _, _, .nil => rfl
  | _, _, .cons _ r => congrArg (· + 1) r.length
theorem isb_eq {x : Nat} (h : x ≠ 0) : (if (x : Int) = 0 then false else Builtin.bitAnd (x : Int) ((x : Int) - 1) == 0) = (x &&& (x - 1) == 0) := by
  rw [if_neg (by omega), show (x : Int) - 1 = ((x - 1 : Nat) : Int) by omega, andN]
  cases q : (x &&& (x - 1) == 0) with
  | true => rw [beq_iff_eq.mp q]; rfl
  | false =>
    have := beq_eq_false_iff_ne.mp q
    exact beq_eq_false_iff_ne.mpr (by omega)
theorem flip_int (x : Nat) : Builtin.bitXor (x : Int) ((2 : Int) ^ ((x.log2 : Nat) : Int).toNat) = ((x ^^^ 2 ^ x.log2 : Nat) : Int) := by
  rw [Int.toNat_natCast, show (2 : Int) ^ x.log2 = ((2 ^ x.log2 : Nat) : Int) by simp, xorN]
abbrev takenT : ToldN Nat where
  Rel := fun _ vs n => ∃ t, vs = [.int (n : Int) t]
  Ok := fun n => n < 65536
  size := fun _ => 2
  Tl := fun _ => True
  Out := fun news r n => ∃ l vs k, r = .ref l ∧ (l, W.listOf vs.toArray k) ∈ news ∧ PairsIn news vs (takenS n)
set_option maxRecDepth 100000 in
set_option maxHeartbeats 8000000 in
theorem taken_says (w : World) (mean : ExcName → Option Value) (mg mb : Str → Option Value) : ∀ d, Says w mean mg mb 129 takenT d := by
  unfold Says
  k_fill
  w_top off
  k_with_none
  intro n
  unfold TellsN
  intro dp un gd cn cs a ccd cl outer A₀ base h₀ L m news s vs Q E B F X N T hk hR hok hd hu hret
  obtain ⟨t0, rfl⟩ := hR
  dsimp only [takenT] at hok hd hu hret ⊢
  walk_at "m enter"
  k_steps
  rename_i g Lf hx0 FG B' X' T' tk0 l hx1 l1 hx2 Fx Nx
  refine Halt.out ?_
  refine ksw_while (σ := Nat × Tok × List Value × Nat × List (Nat × Bool) × Led) (fun c => (l, W.listOf c.2.2.1.toArray c.2.2.2.1) :: (c.2.2.2.2.2 ++ news)) (fun c => [(Str.ofString "apart", .int (c.1 : Int) c.2.1), (Str.ofString "taken", .ref l)])
      (fun c => PairsIn c.2.2.2.2.2 c.2.2.1 c.2.2.2.2.1 ∧ ∀ p ∈ c.2.2.2.2.2, l < p.1) [Str.ofString "place"] (fun c => c.2.2.2.2.1 ++ takenS c.1 = takenS n ∧ c.1 < 65536 ∧ c.2.2.1.length + c.1 ≤ 65536) (fun c => c.1) (n, t0, [], 0, [], []) (by k_asm) (by k_asm) ⟨.nil, fun _ h => nomatch h⟩ ?hk9 ⟨rfl, hok, by simp; omega⟩ ?turn9
  case hk9 => (intro p hp; simp only [List.mem_cons, List.not_mem_nil, or_false] at hp; rcases hp with rfl | rfl <;> rfl)
  rintro ⟨x, tx, ws, k, done, made⟩ u' h' tk' ⟨hps, hlt⟩ ⟨hP, hx, hlen⟩ F' N'
  dsimp only at hps hlt hP hx hlen F' N' ⊢
  k_unmd
  k_fold
  k_steps
  · rename_i hx1 _ _ _ _ _ _ _ _ _ _ D hD Fd Nd lD
    have hx0 : x ≠ 0 := by
      have : (x : Int) ≠ 0 := by assumption
      omega
    have hlog : x.log2 < 16 := (Nat.log2_lt hx0).mpr hx
    have e : ((Builtin.Int.intBits (x : Int) : Nat) : Int) - 1 = ((x.log2 : Nat) : Int) := by rw [intBits_pos hx0]; omega
    rw [e] at Fd Nd
    rw [isb_eq hx0] at Nd
    obtain ⟨td, Nd⟩ : ∃ td, News g Lf hD ((D, tupO [.int ((x.log2 : Nat) : Int) td, .bool (x &&& (x - 1) == 0)] 0) :: (l, W.listOf ws.toArray k) :: (made ++ news)) := ⟨_, Nd⟩
    refine Halt.out ?_
    refine append_led (own := [(D, tupO [.int ((x.log2 : Nat) : Int) td, .bool (x &&& (x - 1) == 0)] 0)]) (news := made ++ news) (by k_asm) Nd (fun p hp => by rw [List.mem_singleton.mp hp]; exact Ne.symm (Nat.ne_of_lt lD.1)) (fun p hp => (List.mem_append.mp hp).elim (fun h => Ne.symm (Nat.ne_of_lt (hlt p h))) fun h => Nat.ne_of_lt (l1 p h)) (by rw [List.size_toArray, sizeLine_eq]; omega) ?_
    intro h9 F9 N9
    clear Fd Nd
    rw [List.push_toArray] at N9
    k_steps
    refine Halt.out ?_
    refine ksw_end (x ^^^ 2 ^ x.log2, ?tt, ws ++ [.ref D], k + 1, done ++ [(x.log2, x &&& (x - 1) == 0)], (D, tupO [.int ((x.log2 : Nat) : Int) td, .bool (x &&& (x - 1) == 0)] 0) :: made) (by k_asm) (by k_asm) ?hn ⟨PairsIn.snoc (t := td) (k := 0) (.head _) (hps.mono fun _ h => .tail _ h), ?hl⟩ ?ps (by walk_at "m same") ⟨?hP, ?hx, ?hlen⟩ (flip_dec hx0)
    case ps =>
      intro p hp; simp only [List.mem_cons, List.not_mem_nil, or_false] at hp
      rcases hp with rfl | rfl
      · exact congrArg (fun i => some (Value.int i _)) (flip_int x)
      · rfl
    case hn =>
      intro p hp
      rcases List.mem_cons.mp hp with rfl | hp
      · exact .tail _ (.head _)
      · rcases List.mem_cons.mp hp with rfl | hp
        · exact .head _
        · exact .tail _ (.tail _ hp)
    case hl =>
      intro p hp
      rcases List.mem_cons.mp hp with rfl | hp
      · exact lD.1
      · exact hlt p hp
    case hP => rw [← hP, takenS_cons hx0, List.append_assoc]; rfl
    case hx => exact Nat.lt_trans (flip_dec hx0) hx
    case hlen =>
      have := flip_dec hx0
      simp only [List.length_append, List.length_singleton]; omega
  · have hx0 : x = 0 := by
      have : (x : Int) = 0 := by assumption
      omega
    subst hx0
    rw [takenS_nil, List.append_nil] at hP
    refine hret _ ((l, W.listOf ws.toArray k) :: made) _ _ (by k_asm) (fun p hp => ?_) ?_ trivial ⟨l, ws, k, rfl, List.mem_append.mpr (.inr (.head _)), hP ▸ hps.mono fun _ h => List.mem_append.mpr (.inr (.tail _ h))⟩
    · have N9 : News h₀ L h' ((l, W.listOf ws.toArray k) :: (made ++ news)) := by k_asm
      refine N9 p ?_
      rcases List.mem_append.mp hp with hp | hp
      · exact .tail _ (List.mem_append.mpr (.inr hp))
      · rcases List.mem_cons.mp hp with rfl | hp
        · exact .head _
        · exact .tail _ (List.mem_append.mpr (.inl hp))
    · intro q hq p hp
      rcases List.mem_cons.mp hp with rfl | hp
      · exact l1 q hq
      · exact Nat.lt_trans (l1 q hq) (hlt p hp)
end Mine
namespace Mine
/-- values, each as W says of its datum -/
inductive Each {α : Type} (W : α → Value → Prop) : List α → List Value → Prop
  | nil : Each W [] []
  | cons {x : α} {v : Value} {xs : List α} {vs : List Value} : W x v → Each W xs vs → Each W (x :: xs) (v :: vs)
section
variable {α : Type} {W : α → Value → Prop}
theorem Each.length : ∀ {xs : List α} {vs : List Value}, Each W xs vs → vs.length = xs.length
  | _, _, .nil => rfl
  | _, _, .cons _ r => congrArg (· + 1) r.length
theorem Each.append {ys : List α} {us : List Value} : ∀ {xs : List α} {vs : List Value}, Each W xs vs → Each W ys us → Each W (xs ++ ys) (vs ++ us)
  | _, _, .nil, h => h
  | _, _, .cons h r, k => .cons h (r.append k)
theorem Each.one {x : α} {v : Value} (h : W x v) : Each W [x] [v] := .cons h .nil
theorem Each.at : ∀ {xs : List α} {vs : List Value}, Each W xs vs → ∀ {i : Nat} {v : Value}, vs[i]? = some v → ∃ x, xs[i]? = some x ∧ W x v
  | _, _, .nil, i, v, h => by simp at h
  | _, _, .cons h r, 0, v, e => by simp at e; subst e; exact ⟨_, rfl, h⟩
  | _, _, .cons h r, i + 1, v, e => by simpa using r.at (i := i) (v := v) (by simpa using e)
theorem Each.get : ∀ {xs : List α} {vs : List Value}, Each W xs vs → ∀ {i : Nat} {x : α}, xs[i]? = some x → ∃ v, vs[i]? = some v ∧ W x v
  | _, _, .nil, i, v, h => by simp at h
  | _, _, .cons h r, 0, v, e => by simp at e; subst e; exact ⟨_, rfl, h⟩
  | _, _, .cons h r, i + 1, v, e => by simpa using r.get (i := i) (x := v) (by simpa using e)
theorem Each.take (k : Nat) : ∀ {xs : List α} {vs : List Value}, Each W xs vs → Each W (xs.take k) (vs.take k) := by
  induction k with
  | zero => intro xs vs _; simp; exact .nil
  | succ k ih =>
    intro xs vs h
    cases h with
    | nil => exact .nil
    | cons h r => exact .cons h (ih r)
theorem Each.drop (k : Nat) : ∀ {xs : List α} {vs : List Value}, Each W xs vs → Each W (xs.drop k) (vs.drop k) := by
  induction k with
  | zero => intro xs vs h; exact h
  | succ k ih =>
    intro xs vs h
    cases h with
    | nil => exact .nil
    | cons h r => exact ih r
end
/-- a natural number, a text -/
def isN (n : Nat) (v : Value) : Prop := ∃ t, v = .int (n : Int) t
def isS (x : Str) (v : Value) : Prop := ∃ t, v = .str x t
theorem Each.ints : ∀ {ns : List Nat} {vs : List Value}, Each isN ns vs → IntsAre vs (ns.map Int.ofNat)
  | _, _, .nil => .nil
  | _, _, .cons ⟨t, h⟩ r => by subst h; exact .cons _ t r.ints
theorem Each.ofInts : ∀ {ns : List Nat} {vs : List Value}, IntsAre vs (ns.map Int.ofNat) → Each isN ns vs
  | [], _, h => by cases h; exact .nil
  | n :: r, _, h => by cases h with | cons _ t h => exact .cons ⟨t, rfl⟩ (Each.ofInts h)
/-- an element's end in a block: nothing but tokens and what lasts not -/
def ElEnd (h₀ : Heap) (L : Addr) (m : Str → Option Value) (s : Shared) (led : Led) (R : Value → Prop) (y : Value) (s₂ : Shared) : Prop :=
  ∃ h' tk, s₂ = { s with heap := h', toks := tk } ∧ Fr h₀ L h' m ∧ News h₀ L h' led ∧ R y
theorem ElEnd.go {h₀ h' : Heap} {L : Addr} {m : Str → Option Value} {s : Shared} {led all : Led} {R : Value → Prop} {y : Value} {tk : Nat} (F : Fr h₀ L h' m) (N : News h₀ L h' all) (hs : ∀ p ∈ led, p ∈ all) (r : R y) :
    ElEnd h₀ L m s led R y { s with heap := h', toks := tk } := ⟨h', tk, rfl, F, fun p hp => N p (hs p hp), r⟩
/-- what a block's test owes: the told answer, and what comes behind it -/
def TestEnd (b : Bool) (Y N : Shared → Prop) (ok : Bool) (s' : Shared) : Prop := ok = b ∧ (if ok = true then Y s' else N s')
theorem TestEnd.yes {b ok : Bool} {Y N : Shared → Prop} {s' : Shared} (h : ok = true) (hb : b = true) (k : Y s') : TestEnd b Y N ok s' := by
  subst h hb; exact ⟨rfl, by rw [if_pos rfl]; exact k⟩
theorem TestEnd.no {b ok : Bool} {Y N : Shared → Prop} {s' : Shared} (h : ok = false) (hb : b = false) (k : N s') : TestEnd b Y N ok s' := by
  subst h hb; exact ⟨rfl, by rw [if_neg (by decide)]; exact k⟩
section
variable {prog : Program} {w : World} {A : Around} {h₀ : Heap} {L : Addr} {m : Str → Option Value} {env : Env} {ct elt : Expr} {x : Str} {scope : Scope} {cl : List (Str × Addr)} {s : Shared} {S : Led → Prop} {P : Nat → Value → Prop} {Fin : List Value → Led → Prop} {n : Nat} {news : Led}
variable {α β : Type} {V : α → Value → Prop} {W : β → Value → Prop}
/-- a block's turns without a test -/
theorem rest_each {items : List α} (g : α → β) (hn : n = items.length) (hP : ∀ (i : Nat) (v : Value), i < n → P i v → ∃ a, items[i]? = some a ∧ V a v) (hS : S news)
    (turn : ∀ (i : Nat) (a : α) (v : Value) (I : Addr) (oI : Obj) (C : Addr) (oC : Obj) (D : Addr) (ys : List Value) (m₂ : Str → Option Value) (h : Heap) (tk : Nat) (E' : Value → Shared → Prop), items[i]? = some a → V a v → LCg.NsObj oC m₂ → m₂ x = some v → Fr h₀ L h m → News h₀ L h ((I, oI) :: (C, oC) :: (D, LCg.lst ys) :: news) → LCg.Off3 I C D news → ((@Ne Nat I C) ∧ (@Ne Nat I D) ∧ (@Ne Nat C D)) →
      wpAny (model prog w) A (eval elt (compEnvC scope cl C env)) (ElEnd h₀ L m { s with heap := h, toks := tk } ((I, oI) :: (C, oC) :: (D, LCg.lst ys) :: news) (W (g a))) E' { s with heap := h, toks := tk })
    (fin : ∀ ys, Each W (items.map g) ys → Fin ys news) : LCg.CompRest prog w A h₀ L m env elt x scope cl s S P Fin n 0 [] news := by
  have key : ∀ (j i : Nat) (ys : List Value), i + j = n → Each W ((items.take i).map g) ys → LCg.CompRest prog w A h₀ L m env elt x scope cl s S P Fin j i ys news := by
    intro j
    induction j with
    | zero =>
      intro i ys hi hy
      have e : i = items.length := by omega
      subst e
      rw [List.take_length] at hy
      exact LCg.CompRest.zero (fin ys hy)
    | succ j ih =>
      intro i ys hi hy
      refine LCg.CompRest.succ ?_
      intro v I oI C oC D m₂ h tk E' hv hC hx F N off ne
      obtain ⟨a, ha, hVa⟩ := hP i v (by omega) hv
      refine wpAny_mono (turn i a v I oI C oC D ys m₂ h tk E' ha hVa hC hx F N off ne) (fun y s₂ hq => ?_) fun _ _ e => e
      obtain ⟨h', tk', e, F', N', hw⟩ := hq
      refine ⟨h', tk', news, e, F', N', off, hS, ?_⟩
      refine ih (i + 1) _ (by omega) ?_
      rw [List.take_add_one, ha]
      simpa using hy.append (Each.one hw)
  exact key n 0 [] (by omega) (by simp only [List.take_zero, List.map_nil]; exact .nil)
/-- a block's turns behind one test -/
theorem rest_test {items : List α} (p : α → Bool) (g : α → β) (hn : n = items.length) (hP : ∀ (i : Nat) (v : Value), i < n → P i v → ∃ a, items[i]? = some a ∧ V a v) (hS : S news)
    (turn : ∀ (i : Nat) (a : α) (v : Value) (I : Addr) (oI : Obj) (C : Addr) (oC : Obj) (D : Addr) (ys : List Value) (m₂ : Str → Option Value) (h : Heap) (tk : Nat) (E' : Value → Shared → Prop), items[i]? = some a → V a v → LCg.NsObj oC m₂ → m₂ x = some v → Fr h₀ L h m → News h₀ L h ((I, oI) :: (C, oC) :: (D, LCg.lst ys) :: news) → LCg.Off3 I C D news → ((@Ne Nat I C) ∧ (@Ne Nat I D) ∧ (@Ne Nat C D)) →
      wpAny (model prog w) A (isTrue ct (compEnvC scope cl C env) (eval ct (compEnvC scope cl C env))) (TestEnd (p a)
        (wpAny (model prog w) A (eval elt (compEnvC scope cl C env)) (ElEnd h₀ L m { s with heap := h, toks := tk } ((I, oI) :: (C, oC) :: (D, LCg.lst ys) :: news) (W (g a))) E')
        (ElEnd h₀ L m { s with heap := h, toks := tk } ((I, oI) :: (C, oC) :: (D, LCg.lst ys) :: news) (fun _ => True) Value.none)) E' { s with heap := h, toks := tk })
    (fin : ∀ ys, Each W ((items.filter p).map g) ys → Fin ys news) : LCt.CompRestT prog w A h₀ L m env ct elt x scope cl s S P Fin n 0 [] news := by
  have key : ∀ (j i : Nat) (ys : List Value), i + j = n → Each W (((items.take i).filter p).map g) ys → LCt.CompRestT prog w A h₀ L m env ct elt x scope cl s S P Fin j i ys news := by
    intro j
    induction j with
    | zero =>
      intro i ys hi hy
      have e : i = items.length := by omega
      subst e
      rw [List.take_length] at hy
      exact LCt.CompRestT.zero (fin ys hy)
    | succ j ih =>
      intro i ys hi hy
      refine LCt.CompRestT.succ ?_
      intro v I oI C oC D m₂ h tk E' hv hC hx F N off ne
      obtain ⟨a, ha, hVa⟩ := hP i v (by omega) hv
      refine wpAny_mono (turn i a v I oI C oC D ys m₂ h tk E' ha hVa hC hx F N off ne) (fun ok s₂ hq => ?_) fun _ _ e => e
      obtain ⟨hok, hq⟩ := hq
      have ht : items.take (i + 1) = items.take i ++ [a] := by rw [List.take_add_one, ha]; rfl
      cases ok with
      | true =>
        simp only [if_true] at hq ⊢
        refine wpAny_mono hq (fun y s₃ hq => ?_) fun _ _ e => e
        obtain ⟨h', tk', e, F', N', hw⟩ := hq
        refine ⟨h', tk', news, e, F', N', off, hS, ?_⟩
        refine ih (i + 1) _ (by omega) ?_
        rw [ht, List.filter_append, List.map_append, List.filter_cons, ← hok]
        simpa using hy.append (Each.one hw)
      | false =>
        simp only [Bool.false_eq_true, if_false] at hq ⊢
        obtain ⟨h', tk', e, F', N', _⟩ := hq
        refine ⟨h', tk', news, e, F', N', off, hS, ?_⟩
        refine ih (i + 1) _ (by omega) ?_
        rw [ht, List.filter_append, List.map_append, List.filter_cons, ← hok]
        simpa using hy
  exact key n 0 [] (by omega) (by simp only [List.take_zero, List.filter_nil, List.map_nil]; exact .nil)
end
section
variable {prog : Program} {w : World} {A : Around} {E : Value → Shared → Prop} {s : Shared} {h₀ : Heap} {L l : Addr} {news : Led} {its : Array Value} {k : Nat}
theorem list_led (N : News h₀ L s.heap news) (hm : (l, W.listOf its k) ∈ news) : s.heap.IsList l its := ⟨_, (N _ hm).1, rfl, _, rfl⟩
theorem len_led {Q : Value → Shared → Prop} (N : News h₀ L s.heap news) (hm : (l, W.listOf its k) ∈ news) (hz : its.size < 2 ^ 40) (h : Q (.int its.size (s.toks + 1)) { s with toks := s.toks + 1 + 1 }) :
    wpAny (model prog w) A (call (.builtin "len") [.ref l]) Q E s := call_len_list (list_led N hm) (by omega) h
theorem item_led {value slice : Expr} {i : Int} {u : Tok} {v : Value} {Q : Value → Shared → Prop} (N : News h₀ L s.heap news) (hm : (l, W.listOf its k) ∈ news) (h0 : 0 ≤ i) (hz : i < 2 ^ 63) (hx : its[i.toNat]? = some v) (h : Q v s)
    (hs : subscripted slice false (.ref l) (.int i u) = operate [.ref l, .int i u] (getItem (.ref l) (.int i u)) := by with_unfolding_all rfl) :
    wpAny (model prog w) A (subscriptTail value slice (.ref l) (.int i u)) Q E s :=
  tail_any (list_led N hm).typeIs slot_list_getitem.lookup (wpAny_getItem_list (list_led N hm) h0 hz hx h) hs
theorem last_led {value slice : Expr} {u : Tok} {v : Value} {Q : Value → Shared → Prop} (N : News h₀ L s.heap news) (hm : (l, W.listOf its k) ∈ news) (hp : 0 < its.size) (hx : its[its.size - 1]? = some v) (h : Q v s)
    (hs : subscripted slice false (.ref l) (.int (-1) u) = operate [.ref l, .int (-1) u] (getItem (.ref l) (.int (-1) u)) := by with_unfolding_all rfl) :
    wpAny (model prog w) A (subscriptTail value slice (.ref l) (.int (-1) u)) Q E s :=
  tail_any (list_led N hm).typeIs slot_list_getitem.lookup (wpAny_getItem_list_neg (list_led N hm) (by decide) (by omega) (by decide) (by rw [show ((-1 : Int) + its.size).toNat = its.size - 1 by omega]; exact hx) h) hs
end
end Mine
namespace Mine
local macro_rules | `(tactic| walk_at "ite") => `(tactic| (k_dflt (first | refine PySem.W.ite_neg (by decide) ?_ | refine PySem.W.ite_pos (by decide) ?_)))
local macro_rules | `(tactic| walk_at "m enterC") => `(tactic| (refine' code_defC ?k1 ?k2 ?k3 ?k4 ?k5 ?kA ?kF ?kK ?k6 ?k7 ?k8 ?k9 ?kB ?kD ?_ ?c2 ?c3 ?c4; (case kA => exact rfl); (case kF => exact rfl); (case kK => assumption); (case k1 => k_asm); (case k2 => k_asm); (case k3 => k_asm); (case k4 => k_asm); (case k5 => k_asm); (case k6 => k_is); (case k7 => k_is); (case k8 => ktr_room); (case k9 => exact BindsTo.of_eq rfl); (case kB => exact rfl); (case kD => decide +kernel); (case c2 => exact rfl); (case c3 => exact rfl); (case c4 => exact rfl); k_whole; intro g' L' h' tk' cells' FG' F' N' Y' B' X' T' l1; k_cells Y'; (try simp only [List.cons_append, List.nil_append] at N'); (try dsimp only); (try k_fold)))
local macro_rules | `(tactic| walk_at "m room") => `(tactic| first | omega | (dsimp only; omega) | (dsimp only [treeT]; omega) | exact Nat.le_of_ble_eq_true rfl | decide)
local macro_rules | `(tactic| walk_at "call ref") => `(tactic| ((with_reducible show wpAny _ _ (PySem.call (Value.ref 122) _) _ _ _); refine Halt.mk ?_))
local macro_rules | `(tactic| walk_at "call ref") => `(tactic| ((with_reducible show wpAny _ _ (PySem.call (Value.ref 117) _) _ _ _); k_dflt (refine pure_use (parts_says _ _ _ _ (_, _)) (by k_asm) (by k_asm) (by k_asm) (by k_asm) (by k_asm) rfl ⟨_, _, rfl⟩ trivial (by walk_at "m room") (by walk_at "m room") ?_; rintro _ h9 tk9 F9 N9 ⟨t9, e9⟩; subst e9)))
theorem all_ne_succ {L : Addr} {news : Led} (h : ∀ p ∈ news, p.1 < L) : ∀ p ∈ news, p.1 ≠ L + 1 := fun p hp => Nat.ne_of_lt (Nat.lt_succ_of_lt (h p hp))
local macro_rules | `(tactic| k_all) => `(tactic| exact all_ne_succ (by assumption))
local macro_rules | `(tactic| walk_at "call builtin:len") => `(tactic| refine Halt.mk ?_)
local macro_rules | `(tactic| walk_at "subscriptTail") => `(tactic| refine Halt.mk ?_)
local macro_rules | `(tactic| walk_at "CompSrcT") => `(tactic| refine Halt.mk ?_)
local macro_rules | `(tactic| walk_at "TestEnd") => `(tactic| refine Halt.mk ?_)
local macro_rules | `(tactic| walk_at "ElEnd") => `(tactic| refine Halt.mk ?_)
local macro_rules | `(tactic| walk_at "exec Assign cons ListComp") => `(tactic| refine Halt.mk ?_)
/-- the tree that is told without any order -/
inductive TreeOf : List Nat → T → Prop
  | one (x : Nat) : TreeOf [x] (.leaf x)
  | two {ns : List Nat} {p : Nat} {l r : T} : 2 ≤ ns.length → meet (ns.headD 0) (ns.getLastD 0) = p + 1 → TreeOf (ns.filter fun y => y / 2 ^ p % 2 == 0) l → TreeOf (ns.filter fun y => y / 2 ^ p % 2 == 1) r → TreeOf ns (.fork p l r)
/-- numbers, rising, each below 2 ** 16 -/
def Rising (ns : List Nat) : Prop := ns.Pairwise (· < ·) ∧ ∀ x ∈ ns, x < 65536
theorem news_one {h₀ h : Heap} {L : Addr} {p q : Addr × Obj} {news : Led} (N : News h₀ L h (p :: q :: news)) : News h₀ L h (news ++ [p]) := fun x hx => N x (by
  rcases List.mem_append.mp hx with hx | hx
  · exact .tail _ (.tail _ hx)
  · rw [List.mem_singleton.mp hx]; exact .head _)
theorem ktn_lt9 {a b : Addr} {news : Led} (h : @LT.lt Nat _ a b ∧ AllLt b news) : AllLt b news := h.2
theorem digit (n pl : Nat) : ((n : Int).fdiv (2 ^ ((pl : Nat) : Int).toNat)).fmod 2 = ((n / 2 ^ pl % 2 : Nat) : Int) := by
  rw [Int.toNat_natCast, show (2 : Int) ^ pl = ((2 ^ pl : Nat) : Int) by simp, Int.fdiv_eq_ediv_of_nonneg _ (Int.natCast_nonneg _), Int.fmod_eq_emod_of_nonneg _ (by decide), ← Int.natCast_ediv]
  omega
theorem digit_beq (a b : Nat) : ((a : Int) == (b : Int)) = (a == b) := by
  cases h : (a == b) with
  | true => rw [beq_iff_eq.mp h]; simp
  | false => have := beq_eq_false_iff_ne.mp h; exact beq_eq_false_iff_ne.mpr (by omega)
theorem meet_pos {a b : Nat} (h : a ≠ b) : 1 ≤ meet a b := by rw [meet_ne h]; omega
theorem meet_le : ∀ (k a b : Nat), a < 2 ^ k → b < 2 ^ k → meet a b ≤ k := by
  intro k
  induction k with
  | zero => intro a b ha hb; rw [show a = b by omega, meet_eq]; omega
  | succ k ih =>
    intro a b ha hb
    by_cases e : a = b
    · rw [e, meet_eq]; omega
    · rw [meet_ne e]
      have := ih (a / 2) (b / 2) (by omega) (by omega)
      omega
theorem meet_bits : ∀ (k x y : Nat), meet x y = k + 1 → x < y → x / 2 ^ k % 2 = 0 ∧ y / 2 ^ k % 2 = 1 ∧ x / 2 ^ (k + 1) = y / 2 ^ (k + 1) := by
  intro k
  induction k with
  | zero =>
    intro x y h hlt
    rw [meet_ne (by omega)] at h
    have e : x / 2 = y / 2 := by
      by_cases q : x / 2 = y / 2
      · exact q
      · rw [meet_ne q] at h; omega
    simp only [Nat.pow_zero, Nat.div_one, Nat.zero_add, Nat.pow_one]
    omega
  | succ k ih =>
    intro x y h hlt
    rw [meet_ne (by omega)] at h
    have ne : x / 2 ≠ y / 2 := by
      intro q; rw [q, meet_eq] at h; omega
    have := ih (x / 2) (y / 2) (by omega) (by omega)
    rw [Nat.div_div_eq_div_mul, Nat.div_div_eq_div_mul, Nat.div_div_eq_div_mul, Nat.div_div_eq_div_mul, ← Nat.pow_succ', ← Nat.pow_succ'] at this
    exact this
theorem split_ok {ns : List Nat} {p : Nat → Bool} {a b : Nat} (h : Rising ns) (ha : a ∈ ns) (pa : p a = true) (hb : b ∈ ns) (pb : p b = false) :
    ns.filter p ≠ [] ∧ Rising (ns.filter p) ∧ (ns.filter p).length < ns.length := by
  refine ⟨List.ne_nil_of_mem (List.mem_filter.mpr ⟨ha, pa⟩), ⟨h.1.sublist List.filter_sublist, fun x hx => h.2 x (List.mem_filter.mp hx).1⟩, ?_⟩
  have hle := List.length_filter_le p ns
  refine Nat.lt_of_le_of_ne hle fun e => ?_
  have := List.length_filter_eq_length_iff.mp e b hb
  rw [pb] at this; cases this
theorem last_mem {l : List Nat} (h : l ≠ []) : l.getLastD 0 ∈ l := by
  rw [List.getLastD_eq_getLast?, List.getLast?_eq_some_getLast h]; exact List.getLast_mem h
theorem rising_last {x : Nat} {r : List Nat} (h : Rising (x :: r)) (h2 : ¬ ((x :: r).length : Int) = 1) : x < (x :: r).getLastD 0 := by
  have hr : r ≠ [] := by rintro rfl; simp at h2
  have hm : (x :: r).getLastD 0 ∈ r := by
    rw [List.getLastD_eq_getLast?, List.getLast?_cons]
    rw [List.getLast?_eq_some_getLast hr]; exact List.getLast_mem hr
  exact (List.pairwise_cons.mp h.1).1 _ hm
theorem TreeIn.tuples {news news' : Led} {v : Value} {t : T} (h : TreeIn news v t) (hs : ∀ p ∈ news, (∃ vs k, p.2 = tupO vs k) → p ∈ news') : TreeIn news' v t := by
  induction h with
  | leaf hm => exact .leaf (hs _ hm ⟨_, _, rfl⟩)
  | fork hm _ _ ihl ihr => exact .fork (hs _ hm ⟨_, _, rfl⟩) ihl ihr
theorem not_tup {o : Obj} {its : Array Value} {k : Nat} (e : o = W.listOf its k) : ¬ ∃ vs k, o = tupO vs k := by
  rintro ⟨vs, j, h⟩
  rw [e] at h
  have := congrArg Obj.cls h
  simp at this
theorem cell_not_tup {o : Obj} {v : Option Value} (e : o.data = .cell v) : ¬ ∃ vs k, o = tupO vs k := by
  rintro ⟨vs, j, h⟩
  rw [h] at e
  cases e
theorem sub_tail {a b c q : Addr × Obj} {news t1 t2 : Led} {its its' : Array Value} {k k' : Nat} {v : Option Value} (ha : a.2 = W.listOf its k) (hb : b.2 = W.listOf its' k') (hc : c.2.data = .cell v) :
    ∀ p ∈ a :: b :: c :: news ++ t1, (∃ vs k, p.2 = tupO vs k) → p ∈ news ++ (q :: (t1 ++ t2)) := by
  intro p hp ht
  simp only [List.mem_append, List.mem_cons] at hp ⊢
  rcases hp with (rfl | rfl | rfl | h) | h
  · exact absurd ht (not_tup ha)
  · exact absurd ht (not_tup hb)
  · exact absurd ht (cell_not_tup hc)
  · exact .inl h
  · exact .inr (.inr (.inl h))
theorem sub_tail2 {a b c q : Addr × Obj} {news t1 t2 : Led} {its its' : Array Value} {k k' : Nat} {v : Option Value} (ha : a.2 = W.listOf its k) (hb : b.2 = W.listOf its' k') (hc : c.2.data = .cell v) :
    ∀ p ∈ a :: b :: c :: news ++ t1 ++ t2, (∃ vs k, p.2 = tupO vs k) → p ∈ news ++ (q :: (t1 ++ t2)) := by
  intro p hp ht
  rcases List.mem_append.mp hp with hp | hp
  · exact sub_tail ha hb hc p hp ht
  · simp [hp]
section
variable {h₀ h : Heap} {L D : Addr} {oD : Obj} {a b c q : Addr × Obj} {news t1 t2 : Led}
theorem news_tail (N : News h₀ L h (q :: (a :: b :: c :: news ++ t1 ++ t2))) : News h₀ L h (news ++ (q :: (t1 ++ t2))) := fun p hp => N p (by
  simp only [List.mem_append, List.mem_cons] at hp ⊢
  rcases hp with h | h | h | h <;> simp [h])
theorem ord_tail (h1 : ∀ q ∈ a :: b :: c :: news, ∀ p ∈ t1, q.1 < p.1) (h2 : ∀ q ∈ a :: b :: c :: news ++ t1, ∀ p ∈ t2, q.1 < p.1) (h3 : ∀ p ∈ a :: b :: c :: news ++ t1 ++ t2, p.1 < D) : ∀ q ∈ news, ∀ p ∈ (D, oD) :: (t1 ++ t2), q.1 < p.1 := by
  intro q hq p hp
  have hq' : q ∈ a :: b :: c :: news := .tail _ (.tail _ (.tail _ hq))
  rcases List.mem_cons.mp hp with rfl | hp
  · exact h3 q (List.mem_append.mpr (.inl (List.mem_append.mpr (.inl hq'))))
  · rcases List.mem_append.mp hp with hp | hp
    · exact h1 q hq' p hp
    · exact h2 q (List.mem_append.mpr (.inl hq')) p hp
end
abbrev treeT : ToldN (List Nat) where
  Rel := fun news vs ns => ∃ a ws k, vs = [.ref a] ∧ (a, W.listOf ws.toArray k) ∈ news ∧ Each isN ns ws
  Ok := fun ns => ns ≠ [] ∧ ns.length ≤ 100 ∧ Rising ns
  size := fun ns => ns.length + 2
  Tl := fun _ => True
  Out := fun news r ns => ∃ t, TreeIn news r t ∧ TreeOf ns t
set_option maxRecDepth 100000 in
set_option maxHeartbeats 8000000 in
theorem tree_says (w : World) (mean : ExcName → Option Value) (mg mb : Str → Option Value) : ∀ d, Says w mean mg mb 122 treeT d := by
  unfold Says
  k_fill
  w_top off
  k_with_none
  refine tellsN_of ?_
  intro ns IH
  unfold TellsN
  intro dp un gd cn cs a ccd cl outer A₀ base h₀ L m news s vs Q E B F X N T hk hR hok hd hu hret
  obtain ⟨la, ws, k, rfl, hla, hws⟩ := hR
  obtain ⟨hne, hnl, hris⟩ := hok
  dsimp only [treeT] at hd hu hret IH ⊢
  refine wpAny_call ?_
  k_dflt (walk_at "m enterC")
  k_steps
  have hwl := hws.length
  refine Halt.out ?_
  refine len_led (by k_asm) (List.mem_cons_of_mem _ hla) (by rw [List.size_toArray]; omega) ?_
  rw [List.size_toArray, hwl]
  k_steps
  · refine Halt.out ?_
    obtain ⟨x, rfl⟩ := List.length_eq_one_iff.mp (show ns.length = 1 by omega)
    obtain ⟨v, hv, t0, rfl⟩ := hws.get (i := 0) (x := x) rfl
    refine item_led (by k_asm) (List.mem_cons_of_mem _ hla) (by decide) (by decide) (by simpa using hv) ?_
    k_steps
    exact hret _ [_] _ _ (by k_asm) (news_one (by k_asm)) (ktn_ord1 (ktn_lt9 (by assumption))) trivial ⟨_, .leaf (List.mem_append.mpr (.inr (.head _))), .one x⟩
  · refine Halt.out ?_
    obtain ⟨x, r, rfl⟩ := List.exists_cons_of_ne_nil hne
    obtain ⟨v, hv, t0, rfl⟩ := hws.get (i := 0) (x := x) rfl
    refine item_led (by k_asm) (List.mem_cons_of_mem _ hla) (by decide) (by decide) (by simpa using hv) ?_
    k_steps
    refine Halt.out ?_
    obtain ⟨y, hy⟩ : ∃ y, y = (x :: r).getLastD 0 := ⟨_, rfl⟩
    obtain ⟨v, hv2, t2, rfl⟩ := hws.get (i := ws.length - 1) (x := y) (by rw [hy, hwl]; simp [List.getLastD_eq_getLast?, List.getLast?_eq_getElem?])
    refine last_led (by k_asm) (List.mem_cons_of_mem _ hla) (by rw [List.size_toArray, hwl]; exact Nat.succ_pos _) (by rw [List.size_toArray]; simpa using hv2) ?_
    k_steps
    rename (Obj.data _ = Data.cell (some (Value.int _ _))) => dc
    have hxl : x < y := hy ▸ rising_last hris (by omega)
    have hl16 : y < 65536 := hris.2 _ (hy ▸ last_mem hne)
    have hx16 : x < 65536 := hris.2 _ (.head _)
    obtain ⟨pl, hpl⟩ : ∃ pl, meet x y = pl + 1 := ⟨meet x y - 1, by have := meet_pos (a := x) (b := y) (by omega); omega⟩
    have hp16 : pl < 16 := by have := meet_le 16 x y hx16 hl16; omega
    dsimp only at dc
    rw [hpl, show ((pl + 1 : Nat) : Int) - 1 = (pl : Int) by omega] at dc
    have hz : ws.toArray.size ≤ sizeLine := by rw [List.size_toArray, sizeLine_eq, hwl]; omega
    refine Halt.out ?_
    refine LCt.Assign_ListComp_T (F₀ := by k_asm) (by rfl) (by with_unfolding_all rfl) (by with_unfolding_all rfl) (by decide) (by rfl) (by decide) (by rfl) (by rfl) (by rfl) ?_
    k_steps
    refine Halt.out ?_
    refine LCt.CompSrcT.ledger rfl (by k_asm) (by k_asm) (List.mem_cons_of_mem _ hla) hz ?_
    intro g9
    refine rest_test (items := x :: r) (V := isN) (W := isN) (fun y => y / 2 ^ pl % 2 == 0) id (by rw [List.size_toArray, hwl]) (fun i v _ h => hws.at (by simpa using h)) (.inr ⟨_, List.mem_cons_of_mem _ hla, rfl, _, rfl⟩) ?_ ?_
    · rintro i n v I oI C oC D ys m₂ h tk E' hi ⟨tv, rfl⟩ hC hx F N off ne
      k_unmd
      k_fold
      k_steps
      refine Halt.out ?_
      have hdig := digit n pl
      cases hb : (n / 2 ^ pl % 2 == 0) with
      | true =>
        refine TestEnd.yes (by rw [hdig, ← hb]; exact digit_beq _ 0) rfl ?_
        k_unmd
        k_fold
        k_steps
        refine Halt.out ?_
        exact ElEnd.go (by k_asm) (by k_asm) (fun _ h => h) ⟨tv, rfl⟩
      | false =>
        refine TestEnd.no (by rw [hdig, ← hb]; exact digit_beq _ 0) rfl ?_
        exact ElEnd.go (by k_asm) (by k_asm) (fun _ h => h) trivial
    · intro ys hys D h tk F N off
      rw [List.map_id] at hys
      dsimp only
      k_unmd
      k_fold
      k_steps
      refine Halt.out ?_
      refine LCt.Assign_ListComp_T (F₀ := by k_asm) (by rfl) (by with_unfolding_all rfl) (by with_unfolding_all rfl) (by decide) (by rfl) (by decide) (by rfl) (by rfl) (by rfl) ?_
      k_steps
      refine Halt.out ?_
      refine LCt.CompSrcT.ledger rfl (by k_asm) (by k_asm) (List.mem_cons_of_mem _ (List.mem_cons_of_mem _ hla)) hz ?_
      intro g9
      refine rest_test (items := x :: r) (V := isN) (W := isN) (fun y => y / 2 ^ pl % 2 == 1) id (by rw [List.size_toArray, hwl]) (fun i v _ h => hws.at (by simpa using h)) (.inr ⟨_, List.mem_cons_of_mem _ (List.mem_cons_of_mem _ hla), rfl, _, rfl⟩) ?_ ?_
      · rintro i n v I oI C oC D2 ys2 m₂ h tk E' hi ⟨tv, rfl⟩ hC hx F N off ne
        k_unmd
        k_fold
        k_steps
        refine Halt.out ?_
        have hdig := digit n pl
        cases hb : (n / 2 ^ pl % 2 == 1) with
        | true =>
          refine TestEnd.yes (by rw [hdig, ← hb]; exact digit_beq _ 1) rfl ?_
          k_unmd
          k_fold
          k_steps
          refine Halt.out ?_
          exact ElEnd.go (by k_asm) (by k_asm) (fun _ h => h) ⟨tv, rfl⟩
        | false =>
          refine TestEnd.no (by rw [hdig, ← hb]; exact digit_beq _ 1) rfl ?_
          exact ElEnd.go (by k_asm) (by k_asm) (fun _ h => h) trivial
      · intro zs hzs D2 h tk F2 N2 off2
        rw [List.map_id] at hzs
        clear F N
        dsimp only
        k_unmd
        (try k_fold)
        obtain ⟨hx0, hy1, _⟩ := meet_bits pl x y hpl hxl
        have hym : y ∈ x :: r := hy ▸ last_mem hne
        have hL := split_ok (p := fun y => y / 2 ^ pl % 2 == 0) hris (show x ∈ x :: r from .head _) (by simp [hx0]) hym (by simp [hy1])
        have hR := split_ok (p := fun y => y / 2 ^ pl % 2 == 1) hris hym (by simp [hy1]) (show x ∈ x :: r from .head _) (by simp [hx0])
        k_steps
        refine Halt.out ?_
        refine tellsN_use (c := treeT) (d := (x :: r).filter fun y => y / 2 ^ pl % 2 == 0) (by k_asm) (by k_asm) (by k_asm) (by k_asm) (by k_asm) rfl ⟨_, _, _, rfl, .tail _ (.head _), hys⟩ (IH _ (by omega)) ⟨hL.1, by omega, hL.2.1⟩ (by show dp + 1 + (_ + 2) < recursionLimit; omega) (by show un + 3 + 8 * (_ + 2) < cLine; omega) ?_
        rintro r9 tl9 h9 tk9 F9 N9 ord9 - ⟨t9, ht9, hof9⟩
        k_steps
        refine Halt.out ?_
        refine tellsN_use (c := treeT) (d := (x :: r).filter fun y => y / 2 ^ pl % 2 == 1) (by k_asm) (by k_asm) (by k_asm) (by k_asm) (by k_asm) rfl ⟨_, _, _, rfl, List.mem_append.mpr (.inl (.head _)), hzs⟩ (IH _ (by omega)) ⟨hR.1, by omega, hR.2.1⟩ (by show dp + 1 + (_ + 2) < recursionLimit; omega) (by show un + 3 + 8 * (_ + 2) < cLine; omega) ?_
        rintro r10 tl10 h10 tk10 F10 N10 ord10 - ⟨t10, ht10, hof10⟩
        k_steps
        refine hret _ (_ :: (tl9 ++ tl10)) _ _ (by k_asm) (news_tail (by k_asm)) (ord_tail ord9 ord10 (by assumption)) trivial
          ⟨.fork pl t9 t10, .fork ktn_new (ht9.tuples (sub_tail rfl rfl dc)) (ht10.tuples (sub_tail2 rfl rfl dc)), .two (by simp only [List.length_cons] at *; omega) (by rw [← hy]; exact hpl) hof9 hof10⟩
end Mine
namespace Mine
section
variable {prog : Program} {w : World} {A : Around} {E : Value → Shared → Prop} {s : Shared} {env : Env} {h₀ : Heap} {body orelse : List Stmt} {Q : Flow → Shared → Prop}
/-- for target in l, l a list that the ledger bears all the while -/
theorem list_turns {target : Expr} {l : Addr} {items : Array Value} {k : Nat} {m : Str → Option Value} {news : Led}
    (hh : A.handled = none) (F : Fr h₀ env.locals s.heap m) (N : News h₀ env.locals s.heap news) (hl : (l, W.listOf items k) ∈ news)
    (J : Nat → (Str → Option Value) → Led → Prop) (hk : ∀ i m news, J i m news → (l, W.listOf items k) ∈ news) (h0 : J 0 m news)
    (turn : ∀ i x m₁ news₁ h₁ tk₁ it oi, items[i]? = some x → J i m₁ news₁ → Apart [(it, oi)] news₁ → Fr h₀ env.locals h₁ m₁ → News h₀ env.locals h₁ ([(it, oi)] ++ news₁) →
      wpAny (model prog w) A (assign target env x) (fun _ s₃ => wpAny (model prog w) A (execs body env) (TurnEnd h₀ env.locals [(it, oi)] (J (i + 1)) { s with heap := h₁, toks := tk₁ } Q) E s₃) E { s with heap := h₁, toks := tk₁ })
    (done : ∀ h' tk m' news', Fr h₀ env.locals h' m' → News h₀ env.locals h' news' → J items.size m' news' → wpAny (model prog w) A (execs orelse env) Q E { s with heap := h', toks := tk }) :
    wpAny (model prog w) A (pyIter (.ref l)) (fun it s₂ => Turns prog w A h₀ env target body orelse Q E it s₂) E s := by
  have hli : s.heap.IsList l items := list_led N hl
  have hlt : l < s.heap.objs.size := Heap.lt_size (N _ hl).1
  have hL : env.locals < s.heap.objs.size := F.ns.lt
  have hne : l ≠ s.heap.objs.size := Nat.ne_of_lt hlt
  refine wpAny_pyIter_list hli ?_
  have Wk := KTurns.ofWalks (target := target) (Walks.list (prog := prog) (w := w) hh s.heap.objs.size l hne items) fun i v s Q E st q => letGo_listiter st.1 q
  have up : ∀ b o, s.heap.get? b = some o → (s.heap.push { cls := .type "list_iterator", data := .fields #[.ref l, .int 0 0] }).get? b = some o := fun b o e => Heap.get?_push_of_some _ e
  refine ⟨_, _, _, _, _, _, _, m, news, [(l, W.listOf items k)], J, rfl, Wk, ?_, ?_, ?_, ?_, ?_, ⟨⟨_, Heap.get?_push_size _ rfl, rfl, rfl⟩, hli.at fun o e => up l o e⟩, F.keeps up, N.grown up, ?_, h0, ?_, ?_⟩
  · intro hm
    simp only [List.mem_cons, List.not_mem_nil, or_false] at hm
    rcases hm with e | e
    · exact nat_ne hL e
    · exact (N _ hl).2.1 e.symm
  · intro b hb
    simp only [List.mem_cons, List.not_mem_nil, or_false] at hb
    rw [hb]
    exact ktu_new F (Nat.le_refl _)
  · rintro i h ⟨⟨oi, hoi, _⟩, _⟩ b hb
    simp only [List.mem_cons, List.not_mem_nil, or_false] at hb
    rw [hb]
    exact ⟨_, hoi⟩
  · intro b hb
    simp only [List.mem_cons, List.not_mem_nil, or_false] at hb
    rcases hb with rfl | rfl
    · exact .inl (by simp)
    · exact .inr (.inr ⟨_, .head _⟩)
  · intro i m news j p hp
    rw [List.mem_singleton.mp hp]
    exact hk i m news j
  · intro p hp hb
    have := Heap.lt_size (N p hp).1
    simp only [List.mem_cons, List.not_mem_nil, or_false] at hb
    exact nat_ne this hb
  · rintro i v m₁ news₁ h₁ tk₁ own hi hx hJ hown hap F₁ N₁
    obtain ⟨oi, rfl⟩ := own1 hown
    exact turn i v m₁ news₁ h₁ tk₁ _ oi hx hJ hap F₁ N₁
  · intro h' tk m' news' F' N' hJ
    exact done h' tk m' news' F' N' hJ
theorem letGo_rangeiter {E : Value → Shared → Prop} {target : Expr} {I : Addr} {x lf st : Int} {v : Value} {Q' : Unit → Shared → Prop} {s' : Shared} (hit : IsRangeIter s'.heap I x lf st) (h : Q' () s') :
    wpAny (model prog w) A (letOwnedTupleGo target (.ref I) v) Q' E s' := by
  unfold letOwnedTupleGo
  cases target <;> first
    | exact wpAny_pure h
    | (cases v <;> first
        | exact wpAny_pure h
        | (refine wpAny_bind (wpAny_load hit ?_)
           exact wpAny_pure h))
/-- for target in range(a, a + n) -/
theorem range_turns {target : Expr} {r : Addr} {a b : Int} {t u v : Tok} {n : Nat} {m : Str → Option Value} {news : Led}
    (hh : A.handled = none) (hr : IsRange s.heap r a b 1 t u v) (hsm : Builtin.Range.small a b 1 = true) (hn : Builtin.Range.rangeSize a b 1 = ((n : Nat) : Int)) (F : Fr h₀ env.locals s.heap m) (N : News h₀ env.locals s.heap news)
    (J : Nat → (Str → Option Value) → Led → Prop) (h0 : J 0 m news)
    (turn : ∀ i tv m₁ news₁ h₁ tk₁ it oi, i < n → J i m₁ news₁ → Apart [(it, oi)] news₁ → Fr h₀ env.locals h₁ m₁ → News h₀ env.locals h₁ ([(it, oi)] ++ news₁) →
      wpAny (model prog w) A (assign target env (.int (a + i) tv)) (fun _ s₃ => wpAny (model prog w) A (execs body env) (TurnEnd h₀ env.locals [(it, oi)] (J (i + 1)) { s with heap := h₁, toks := tk₁ } Q) E s₃) E { s with heap := h₁, toks := tk₁ })
    (done : ∀ h' tk m' news', Fr h₀ env.locals h' m' → News h₀ env.locals h' news' → J n m' news' → wpAny (model prog w) A (execs orelse env) Q E { s with heap := h', toks := tk }) :
    wpAny (model prog w) A (pyIter (.ref r)) (fun it s₂ => Turns prog w A h₀ env target body orelse Q E it s₂) E s := by
  have hL : env.locals < s.heap.objs.size := F.ns.lt
  refine wpAny_pyIter_range hr hsm ?_
  have Wk := KTurns.ofWalks (target := target) (Walks.range (prog := prog) (w := w) hh s.heap.objs.size a 1 n) fun i v s Q E st q => letGo_rangeiter st q
  have up : ∀ b' o, s.heap.get? b' = some o → (s.heap.push { cls := .type "range_iterator", data := .fields #[rawInt a, rawInt (Builtin.Range.rangeSize a b 1), rawInt 1] }).get? b' = some o := fun b o e => Heap.get?_push_of_some _ e
  refine ⟨_, _, _, _, _, _, _, m, news, [], J, rfl, Wk, ?_, ?_, ?_, ?_, (fun _ _ _ _ _ h => nomatch h), ?_, F.keeps up, N.grown up, ?_, h0, ?_, ?_⟩
  · intro hm
    simp only [List.mem_cons, List.not_mem_nil, or_false] at hm
    exact nat_ne hL hm
  · intro b hb
    simp only [List.mem_cons, List.not_mem_nil, or_false] at hb
    rw [hb]
    exact ktu_new F (Nat.le_refl _)
  · intro i h st b hb
    simp only [List.mem_cons, List.not_mem_nil, or_false] at hb
    rw [hb]
    exact ⟨_, st⟩
  · intro b hb
    exact .inl hb
  · show IsRangeIter _ _ _ _ _
    rw [hn]; simpa using Heap.get?_push_size _ rfl
  · intro p hp hb
    have := Heap.lt_size (N p hp).1
    simp only [List.mem_cons, List.not_mem_nil, or_false] at hb
    exact nat_ne this hb
  · rintro i v m₁ news₁ h₁ tk₁ own hi ⟨tv, rfl⟩ hJ hown hap F₁ N₁
    obtain ⟨oi, rfl⟩ := own1 hown
    rw [Int.mul_one]
    exact turn i tv m₁ news₁ h₁ tk₁ _ oi hi hJ hap F₁ N₁
  · intro h' tk m' news' F' N' hJ
    exact done h' tk m' news' F' N' hJ
end
section
variable {prog : Program} {w : World} {A : Around} {E : Value → Shared → Prop} {s : Shared} {h₀ : Heap} {L : Addr} {m : Str → Option Value} {env : Env}
/-- a source that goes by steps -/
def SrcStep (prog : Program) (w : World) (A : Around) (h₀ : Heap) (L : Addr) (m : Str → Option Value) (env : Env) (ct elt : Expr) (x : Str) (scope : Scope) (cl : List (Str × Addr)) (Fin : Shared → List Value → Led → Prop) (xv : Value) (s₁ : Shared) : Prop :=
  ∃ r a b c t u v n news, xv = .ref r ∧ A.handled = none ∧ Fr h₀ L s₁.heap m ∧ News h₀ L s₁.heap news ∧ IsRange s₁.heap r a b c t u v ∧ Builtin.Range.small a b c = true ∧ Builtin.Range.rangeSize a b c = ((n : Nat) : Int) ∧ n ≤ sizeLine ∧
    ∀ s₂ : Shared, (∃ h, s₂ = { s₁ with heap := h }) → LCt.CompRestT prog w A h₀ L m env ct elt x scope cl s₂ (fun _ => True) (fun i v => ∃ t, v = .int (a + (i : Int) * c) t) (Fin s₂) n 0 [] news
theorem step_st {I : Addr} {a c : Int} {n : Nat} : ∀ (i : Nat) (h h' : Heap) (o : Obj) (nw : Led), IsRangeIter h I (a + (i : Nat) * c) ((n : Int) - (i : Nat)) c → h.get? I = some o → h'.get? I = some o → (∀ b o, h₀.get? b = some o → h'.get? b = some o) → News h₀ L h' nw → True →
    IsRangeIter h' I (a + (i : Nat) * c) ((n : Int) - (i : Nat)) c := by
  intro i h h' o nw st e e' _ _ _
  have q : h.get? I = some _ := st
  rw [e] at q
  show h'.get? I = some _
  rw [e']; exact q
theorem comp_step {ct elt iter : Expr} {x : Str} {px : Pos} {scope : Scope} {cl : List (Str × Addr)} {pos : Pos} {Q : Value → Shared → Prop} (_F₀ : Fr h₀ L s.heap m)
    (hclos : closureFor scope env = pure cl) (hcell : ∀ y ∈ scope.names, y.2 ≠ .cell) (hkind : scope.kind = .function)
    (hnames : ∀ y ∈ scope.names, y.2 = .local → scope.names.lookup y.1 = some .local) (hx : scope.names.lookup x = some .local)
    (h : wpAny (model prog w) A (eval iter env) (SrcStep prog w A h₀ L m env ct elt x scope cl (fun s₂ => LCg.FinE h₀ L m s₂ Q)) E s)
    (hs : ∀ x, foldedSetIterable iter env x = pure x := by intro _; rfl) :
    wpAny (model prog w) A (eval (.ListComp elt [⟨.Name x px, iter, [ct], 0⟩] scope pos) env) Q E s := by
  rw [eval_ListComp]
  refine wpAny_comprehension_free (use := none) rfl hs hclos hkind hnames (wpAny_mono h (fun xv s₁ h₁ => ?_) fun _ _ e => e)
  obtain ⟨r, a, b, c, t, u, v, n, news, rfl, hh, F, N, hr, hsm, hn, hsz, R⟩ := h₁
  refine wpAny_pyIter_range hr hsm ?_
  refine LCt.block_T (Walks.range hh s₁.heap.objs.size a c n) hsz (fun i h st => ⟨_, st⟩) step_st hcell hkind hx (by show IsRangeIter _ _ _ _ _; rw [hn]; simpa using Heap.get?_push_size _ rfl) (fun b hb => ?_)
    (F.keeps fun _ _ e => Heap.get?_push_of_some _ e) (N.grown fun _ _ e => Heap.get?_push_of_some _ e) (Nat.ne_of_lt F.ns.lt) (ktu_new F (Nat.le_refl _)) (fun p hp => Nat.ne_of_lt (Heap.lt_size (N p hp).1)) trivial (R _ ⟨_, rfl⟩) ?_
  · rw [List.mem_singleton.mp hb]
    show s₁.heap.objs.size < (s₁.heap.push _).objs.size
    rw [Heap.size_push]; exact Nat.lt_succ_self _
  · intro D C g tk m' ys news' F' N' o1 hnm hC₀ hD₀ hCL hDL hCD offC fin
    refine ⟨m', hnm, fun g' hs' => fin D g' tk (F'.change hs' hCL hC₀) (fun p hp => ?_) o1⟩
    refine ⟨hs'.extBut _ _ ?_ (N' p hp).1, (N' p hp).2⟩
    rcases List.mem_cons.mp hp with rfl | hp
    · exact Ne.symm hCD
    · exact offC p hp
end
end Mine
namespace Mine
def treeD : T → PyData
  | .leaf n => .tuple [.int n]
  | .fork p l r => .tuple [.int p, treeD l, treeD r]
theorem treeD_lay : ∀ t : T, (treeD t).canLay0 = true
  | .leaf n => by simp [treeD, PyData.canLay0, PyData.canLayAll0]
  | .fork p l r => by simp [treeD, PyData.canLay0, PyData.canLayAll0, treeD_lay l, treeD_lay r]
theorem treeD_depth : ∀ t : T, (treeD t).depth ≤ t.size + 1
  | .leaf n => by simp [treeD, PyData.depth, PyData.depthAll, T.size]
  | .fork p l r => by
    have h1 := treeD_depth l
    have h2 := treeD_depth r
    simp only [treeD, PyData.depth, PyData.depthAll, T.size]; omega
theorem treeD_eqv : ∀ t : T, PyData.eqv (treeD t) (treeD t) = true
  | .leaf n => by simp [treeD, PyData.eqv, PyData.eqvAll]
  | .fork p l r => by simp [treeD, PyData.eqv, PyData.eqvAll, treeD_eqv l, treeD_eqv r]
section
variable {h₀ h : Heap} {L : Addr} {news : Led}
theorem tree_reads (N : News h₀ L h news) {v : Value} {t : T} (ht : TreeIn news v t) : ∃ as, Reads h v (treeD t) as := by
  induction ht with
  | leaf hm => exact ⟨_, reads_tuple_at (N _ hm).1 rfl rfl (.cons (.int _ _) .nil)⟩
  | fork hm _ _ ihl ihr =>
    obtain ⟨as, h1⟩ := ihl
    obtain ⟨bs, h2⟩ := ihr
    exact ⟨_, reads_tuple_at (N _ hm).1 rfl rfl (.cons (.int _ _) (.cons h1 (.cons h2 .nil)))⟩
def natsD (ns : List Nat) : List PyData := ns.map fun (n : Nat) => PyData.int (Int.ofNat n)
theorem nats_reads : ∀ {ns : List Nat} {vs : List Value}, Each isN ns vs → ∃ as, ReadsAll h vs (natsD ns) as
  | _, _, .nil => ⟨_, .nil⟩
  | _, _, .cons ⟨t, e⟩ r => by
    subst e
    obtain ⟨as, q⟩ := nats_reads r
    exact ⟨_, ReadsAll.cons (Reads.int _ t) q⟩
theorem natsD_lay : ∀ ns : List Nat, PyData.canLayAll0 (natsD ns) = true ∧ PyData.depthAll (natsD ns) = 0
  | [] => ⟨rfl, rfl⟩
  | n :: r => by
    have := natsD_lay r
    simp only [natsD, List.map_cons] at this ⊢
    simp only [PyData.canLayAll0, PyData.depthAll, PyData.canLay0, PyData.depth, this, Bool.true_and, Nat.max_self, and_self]
theorem natsD_eqv : ∀ ns : List Nat, PyData.eqvAll (natsD ns) (natsD ns) = true
  | [] => rfl
  | n :: r => by
    have := natsD_eqv r
    simp only [natsD, List.map_cons] at this ⊢
    simp only [PyData.eqvAll, PyData.eqv, this, beq_self_eq_true, Bool.and_self]
theorem natsD_any (x : Nat) : ∀ ns : List Nat, ((natsD ns).any fun y => PyData.eqv y (.int (x : Int))) = ns.contains x
  | [] => rfl
  | n :: r => by
    have := natsD_any x r
    simp only [natsD, List.map_cons] at this ⊢
    rw [List.any_cons, this, List.contains_cons]
    congr 1
    simp only [PyData.eqv]
    cases hq : (x == n) with
    | true => rw [beq_iff_eq.mp hq]; simp
    | false => have := beq_eq_false_iff_ne.mp hq; exact beq_eq_false_iff_ne.mpr fun hh => this (Int.ofNat.inj hh).symm
def pairsD (r : List (Nat × Bool)) : List PyData := r.map fun p => PyData.tuple [.int (p.1 : Int), .bool p.2]
theorem pairs_reads (N : News h₀ L h news) : ∀ {r : List (Nat × Bool)} {vs : List Value}, PairsIn news vs r → ∃ as, ReadsAll h vs (pairsD r) as
  | _, _, .nil => ⟨_, .nil⟩
  | _, _, .cons hm r => by
    obtain ⟨as, q⟩ := pairs_reads N r
    exact ⟨_, .cons (reads_tuple_at (N _ hm).1 rfl rfl (.cons (.int _ _) (.cons (.bool _) .nil))) q⟩
theorem pairsD_lay : ∀ r : List (Nat × Bool), PyData.canLayAll0 (pairsD r) = true ∧ PyData.depthAll (pairsD r) ≤ 1
  | [] => ⟨rfl, by simp [pairsD, PyData.depthAll]⟩
  | n :: r => by
    have := pairsD_lay r
    simp only [pairsD, List.map_cons] at this ⊢
    simp [PyData.canLayAll0, PyData.depthAll, PyData.canLay0, PyData.depth, this]
theorem pairsD_eqv : ∀ r : List (Nat × Bool), PyData.eqvAll (pairsD r) (pairsD r) = true
  | [] => rfl
  | n :: r => by
    have := pairsD_eqv r
    simp only [pairsD, List.map_cons] at this ⊢
    simp [PyData.eqvAll, PyData.eqv, this]
end
section
variable {prog : Program} {w : World} {A : Around} {E : Value → Shared → Prop} {s : Shared} {h₀ : Heap} {L : Addr} {news : Led} {Q : Value → Shared → Prop}
theorem tree_ne {va vb : Value} {t : T} (N : News h₀ L s.heap news) (ha : TreeIn news va t) (hb : TreeIn news vb t) (hz : t.size ≤ 60) (hu : A.units + 64 < cLine) (h : Q (.bool false) s) : wpAny (model prog w) A (compareOp .NotEq va vb) Q E s := by
  obtain ⟨as, ra⟩ := tree_reads N ha
  obtain ⟨bs, rb⟩ := tree_reads N hb
  have hd := treeD_depth t
  have sh : SeqAt.shaped (treeD t) = true := by
    unfold SeqAt.shaped; rw [treeD_lay, Bool.true_and]; exact decide_eq_true (by omega)
  refine ne_dataH ra rb sh sh hu ?_
  rw [treeD_eqv]; exact h
theorem nats_ne {a b : Addr} {vs ws : List Value} {ka kb : Nat} {ns : List Nat} (N : News h₀ L s.heap news) (ha : (a, W.listOf vs.toArray ka) ∈ news) (hb : (b, W.listOf ws.toArray kb) ∈ news) (ea : Each isN ns vs) (eb : Each isN ns ws) (hu : A.units + 64 < cLine) (h : Q (.bool false) s) :
    wpAny (model prog w) A (compareOp .NotEq (.ref a) (.ref b)) Q E s := by
  obtain ⟨as, ra⟩ := nats_reads (h := s.heap) ea
  obtain ⟨bs, rb⟩ := nats_reads (h := s.heap) eb
  have l := natsD_lay ns
  have sh : SeqAt.shaped (.list (natsD ns)) = true := by
    unfold SeqAt.shaped; simp only [PyData.canLay0, PyData.depth, l.1, l.2]; rfl
  refine ne_dataH (reads_list_at (N _ ha).1 rfl rfl (by simpa using ra)) (reads_list_at (N _ hb).1 rfl rfl (by simpa using rb)) sh sh hu ?_
  rw [PyData.eqv, natsD_eqv]; exact h
theorem pairs_ne {a b : Addr} {vs ws : List Value} {ka kb : Nat} {r : List (Nat × Bool)} (N : News h₀ L s.heap news) (ha : (a, W.listOf vs.toArray ka) ∈ news) (hb : (b, W.listOf ws.toArray kb) ∈ news) (ea : PairsIn news vs r) (eb : PairsIn news ws r) (hu : A.units + 64 < cLine) (h : Q (.bool false) s) :
    wpAny (model prog w) A (compareOp .NotEq (.ref a) (.ref b)) Q E s := by
  obtain ⟨as, ra⟩ := pairs_reads N ea
  obtain ⟨bs, rb⟩ := pairs_reads N eb
  have l := pairsD_lay r
  have sh : SeqAt.shaped (.list (pairsD r)) = true := by
    unfold SeqAt.shaped; simp only [PyData.canLay0, PyData.depth, l.1, Bool.true_and]; exact decide_eq_true (by omega)
  refine ne_dataH (reads_list_at (N _ ha).1 rfl rfl (by simpa using ra)) (reads_list_at (N _ hb).1 rfl rfl (by simpa using rb)) sh sh hu ?_
  rw [PyData.eqv, pairsD_eqv]; exact h
theorem nat_notIn {a : Addr} {vs : List Value} {ka : Nat} {ns : List Nat} {x : Nat} {t : Tok} (N : News h₀ L s.heap news) (ha : (a, W.listOf vs.toArray ka) ∈ news) (ea : Each isN ns vs) (hu : A.units + 64 < cLine) (h : Q (.bool (!ns.contains x)) s) :
    wpAny (model prog w) A (compareOp .NotIn (.int (x : Int) t) (.ref a)) Q E s := by
  obtain ⟨as, ra⟩ := nats_reads (h := s.heap) ea
  have l := natsD_lay ns
  refine SeqAt.notIn_list_reads (reads_list_at (N _ ha).1 rfl rfl (by simpa using ra)) (.int (x : Int) t) l.1 rfl (by rw [l.2]; omega) ?_
  rw [natsD_any]; exact h
end
end Mine
namespace Mine
/-- an element's end in a block: one pair was made -/
def PairEnd (h₀ : Heap) (L : Addr) (m : Str → Option Value) (s : Shared) (led : Led) (q : Nat × Bool) (y : Value) (s₂ : Shared) : Prop :=
  ∃ h' tk T t k, s₂ = { s with heap := h', toks := tk } ∧ Fr h₀ L h' m ∧ News h₀ L h' ((T, tupO [.int (q.1 : Int) t, .bool q.2] k) :: led) ∧ AllLt T led ∧ y = .ref T
theorem PairEnd.go {h₀ h' : Heap} {L T : Addr} {m : Str → Option Value} {s : Shared} {led : Led} {q : Nat × Bool} {b : Bool} {t : Tok} {k tk : Nat} (F : Fr h₀ L h' m) (N : News h₀ L h' ((T, tupO [.int (q.1 : Int) t, .bool b] k) :: led)) (hb : b = q.2) (l : AllLt T led) :
    PairEnd h₀ L m s led q (.ref T) { s with heap := h', toks := tk } := by
  subst hb
  exact ⟨h', tk, T, t, k, rfl, F, N, l, rfl⟩
theorem AllLt.mem {d : Addr} : ∀ {l : Led}, AllLt d l → ∀ p ∈ l, p.1 < d
  | [], _, _, h => nomatch h
  | _ :: _, x, p, h => by
    rcases List.mem_cons.mp h with rfl | h
    · exact x.1
    · exact AllLt.mem x.2 p h
section
variable {prog : Program} {w : World} {A : Around} {h₀ : Heap} {L : Addr} {m : Str → Option Value} {env : Env} {elt : Expr} {x : Str} {scope : Scope} {cl : List (Str × Addr)} {s : Shared} {S : Led → Prop} {P : Nat → Value → Prop} {Fin : List Value → Led → Prop} {n : Nat} {hd tl : Led}
/-- a block that makes a pair each turn -/
theorem rest_pairs {items : List Nat} (g : Nat → Nat × Bool) (hn : n = items.length) (hP : ∀ (i : Nat) (v : Value), i < n → P i v → ∃ a, items[i]? = some a ∧ isN a v) (hS : ∀ tl, S (hd ++ tl))
    (turn : ∀ (i : Nat) (a : Nat) (v : Value) (I : Addr) (oI : Obj) (C : Addr) (oC : Obj) (D : Addr) (ys : List Value) (m₂ : Str → Option Value) (h : Heap) (tk : Nat) (E' : Value → Shared → Prop) (tl : Led), items[i]? = some a → isN a v → LCg.NsObj oC m₂ → m₂ x = some v → Fr h₀ L h m → News h₀ L h ((I, oI) :: (C, oC) :: (D, LCg.lst ys) :: (hd ++ tl)) → LCg.Off3 I C D (hd ++ tl) → ((@Ne Nat I C) ∧ (@Ne Nat I D) ∧ (@Ne Nat C D)) →
      wpAny (model prog w) A (eval elt (compEnvC scope cl C env)) (PairEnd h₀ L m { s with heap := h, toks := tk } ((I, oI) :: (C, oC) :: (D, LCg.lst ys) :: (hd ++ tl)) (g a)) E' { s with heap := h, toks := tk })
    (fin : ∀ ys tl', PairsIn tl' ys (items.map g) → (∀ p ∈ tl, p ∈ tl') → Fin ys (hd ++ tl')) : LCg.CompRest prog w A h₀ L m env elt x scope cl s S P Fin n 0 [] (hd ++ tl) := by
  have key : ∀ (j i : Nat) (ys : List Value) (tl' : Led), i + j = n → PairsIn tl' ys ((items.take i).map g) → (∀ p ∈ tl, p ∈ tl') → LCg.CompRest prog w A h₀ L m env elt x scope cl s S P Fin j i ys (hd ++ tl') := by
    intro j
    induction j with
    | zero =>
      intro i ys tl' hi hy hs
      have e : i = items.length := by omega
      subst e
      rw [List.take_length] at hy
      exact LCg.CompRest.zero (fin ys tl' hy hs)
    | succ j ih =>
      intro i ys tl' hi hy hs
      refine LCg.CompRest.succ ?_
      intro v I oI C oC D m₂ h tk E' hv hC hx F N off ne
      obtain ⟨a, ha, hVa⟩ := hP i v (by omega) hv
      refine wpAny_mono (turn i a v I oI C oC D ys m₂ h tk E' tl' ha hVa hC hx F N off ne) (fun y s₂ hq => ?_) fun _ _ e => e
      obtain ⟨h', tk', T, t, k, e, F', N', lt, rfl⟩ := hq
      have lm := AllLt.mem lt
      refine ⟨h', tk', hd ++ (T, tupO [.int ((g a).1 : Int) t, .bool (g a).2] k) :: tl', e, F', fun p hp => N' p ?_, ?_, hS _, ?_⟩
      · simp only [List.mem_cons, List.mem_append] at hp ⊢
        rcases hp with h1 | h1 | h1 | h1 | h1 | h1 <;> simp [h1]
      · refine LCg.Off3.of fun p hp => ?_
        have o3 := LCg.Off3.mem off
        rcases List.mem_append.mp hp with hp | hp
        · exact o3 p (List.mem_append.mpr (.inl hp))
        · rcases List.mem_cons.mp hp with rfl | hp
          · exact ⟨Ne.symm (Nat.ne_of_lt (lm (I, oI) (.head _))), Ne.symm (Nat.ne_of_lt (lm (C, oC) (.tail _ (.head _)))), Ne.symm (Nat.ne_of_lt (lm (D, LCg.lst ys) (.tail _ (.tail _ (.head _)))))⟩
          · exact o3 p (List.mem_append.mpr (.inr hp))
      · refine ih (i + 1) _ _ (by omega) ?_ fun p hp => .tail _ (hs p hp)
        rw [List.take_add_one, ha]
        have := PairsIn.snoc (news := (T, tupO [.int ((g a).1 : Int) t, .bool (g a).2] k) :: tl') (.head _) (hy.mono fun _ h => .tail _ h)
        simpa using this
  exact key n 0 [] tl (by omega) (by simp only [List.take_zero, List.map_nil]; exact .nil) fun _ h => h
end
end Mine
namespace Mine
section
variable {prog : Program} {w : World} {A : Around} {E : Value → Shared → Prop} {s : Shared} {env : Env} {h₀ : Heap} {body orelse : List Stmt} {Q : Flow → Shared → Prop}
/-- turns that tell what their iterator is -/
theorem turns_of {target : Expr} {I : Addr} {fp wr : List Addr} {n : Nat} {P : Nat → Value → Prop} {St : Nat → Heap → Prop} (W : Walks prog w A I fp wr n P St)
    (hgo : ∀ i v (s : Shared) (Q : Unit → Shared → Prop) (E : Value → Shared → Prop), St i s.heap → Q () s → wpAny (model prog w) A (letOwnedTupleGo target (.ref I) v) Q E s) :
    KTurns prog w A target I fp wr n (fun i v h => P i v ∧ St (i + 1) h) (fun i v h => P i v ∧ St (i + 1) h) St :=
  let K := KTurns.ofWalks (target := target) W hgo
  { sub := K.sub, frame := K.frame, item := K.item, done := K.done,
    go := fun i v s Q E hm hQ => hgo (i + 1) v s Q E hm.2 (hQ s.heap hm hm.2 fun _ _ _ e => e) }
/-- for target in range(a, a + n) -/
theorem range_go {target : Expr} {r : Addr} {a b : Int} {t u v : Tok} {n : Nat} {m : Str → Option Value} {news : Led}
    (hh : A.handled = none) (hr : IsRange s.heap r a b 1 t u v) (hsm : Builtin.Range.small a b 1 = true) (hn : Builtin.Range.rangeSize a b 1 = ((n : Nat) : Int)) (F : Fr h₀ env.locals s.heap m) (N : News h₀ env.locals s.heap news)
    (J : Nat → (Str → Option Value) → Led → Prop) (h0 : J 0 m news)
    (turn : ∀ i tv m₁ news₁ h₁ tk₁ it oi, i < n → oi.cls = .type "range_iterator" → J i m₁ news₁ → Apart [(it, oi)] news₁ → Fr h₀ env.locals h₁ m₁ → News h₀ env.locals h₁ ([(it, oi)] ++ news₁) →
      wpAny (model prog w) A (assign target env (.int (a + i) tv)) (fun _ s₃ => wpAny (model prog w) A (execs body env) (TurnEnd h₀ env.locals [(it, oi)] (J (i + 1)) { s with heap := h₁, toks := tk₁ } Q) E s₃) E { s with heap := h₁, toks := tk₁ })
    (done : ∀ h' tk m' news', Fr h₀ env.locals h' m' → News h₀ env.locals h' news' → J n m' news' → wpAny (model prog w) A (execs orelse env) Q E { s with heap := h', toks := tk }) :
    wpAny (model prog w) A (pyIter (.ref r)) (fun it s₂ => Turns prog w A h₀ env target body orelse Q E it s₂) E s := by
  have hL : env.locals < s.heap.objs.size := F.ns.lt
  refine wpAny_pyIter_range hr hsm ?_
  have Wk := turns_of (target := target) (Walks.range (prog := prog) (w := w) hh s.heap.objs.size a 1 n) fun i v s Q E st q => letGo_rangeiter st q
  have up : ∀ b' o, s.heap.get? b' = some o → (s.heap.push { cls := .type "range_iterator", data := .fields #[rawInt a, rawInt (Builtin.Range.rangeSize a b 1), rawInt 1] }).get? b' = some o := fun b o e => Heap.get?_push_of_some _ e
  refine ⟨_, _, _, _, _, _, _, m, news, [], J, rfl, Wk, ?_, ?_, ?_, ?_, (fun _ _ _ _ _ h => nomatch h), ?_, F.keeps up, N.grown up, ?_, h0, ?_, ?_⟩
  · intro hm
    simp only [List.mem_cons, List.not_mem_nil, or_false] at hm
    exact nat_ne hL hm
  · intro b hb
    simp only [List.mem_cons, List.not_mem_nil, or_false] at hb
    rw [hb]
    exact ktu_new F (Nat.le_refl _)
  · intro i h st b hb
    simp only [List.mem_cons, List.not_mem_nil, or_false] at hb
    rw [hb]
    exact ⟨_, st⟩
  · intro b hb
    exact .inl hb
  · show IsRangeIter _ _ _ _ _
    rw [hn]; simpa using Heap.get?_push_size _ rfl
  · intro p hp hb
    have := Heap.lt_size (N p hp).1
    simp only [List.mem_cons, List.not_mem_nil, or_false] at hb
    exact nat_ne this hb
  · rintro i v m₁ news₁ h₁ tk₁ own hi ⟨⟨tv, rfl⟩, hst⟩ hJ hown hap F₁ N₁
    obtain ⟨oi, rfl⟩ := own1 hown
    rw [Int.mul_one]
    have hoi : oi.cls = .type "range_iterator" := by
      have h1 := (N₁ _ (.head _)).1
      have h2 : h₁.get? s.heap.objs.size = some _ := hst
      rw [h1] at h2
      have h3 : oi = _ := Option.some.inj h2
      rw [h3]
    exact turn i tv m₁ news₁ h₁ tk₁ _ oi hi hoi hJ hap F₁ N₁
  · intro h' tk m' news' F' N' hJ
    exact done h' tk m' news' F' N' hJ
end
end Mine
namespace Mine
def lawBody : List Stmt := match (PySem.Challenge.pw_tx0013_01.main.body[35]? : Option Stmt) with
  | some (.FunctionDef _ _ b _ _ _ _ _ _ _) => b
  | _ => []
def lawScope : Scope := match (PySem.Challenge.pw_tx0013_01.main.body[35]? : Option Stmt) with
  | some (.FunctionDef _ _ _ _ _ _ c _ _ _) => c
  | _ => default
/-- the law's own frame -/
abbrev lawEnv (L fa : Addr) (cdv : Value) : Env := envOfC (Str.ofString "law") lawScope L fa cdv
abbrev lawA (L fa : Addr) (cdv : Value) : Around := callerA.deeper (lawEnv L fa cdv)
/-- the law's cells, the last first -/
abbrev cellsL (L : Addr) (cm cr ct cd cn cw co cp : Obj) : Led :=
  [(L + 1 + 1 + 1 + 1 + 1 + 1 + 1 + 1, cp), (L + 1 + 1 + 1 + 1 + 1 + 1 + 1, co), (L + 1 + 1 + 1 + 1 + 1 + 1, cw), (L + 1 + 1 + 1 + 1 + 1, cn), (L + 1 + 1 + 1 + 1, cd), (L + 1 + 1 + 1, ct), (L + 1 + 1, cr), (L + 1, cm)]
theorem above_ne {L c : Addr} {tail : Led} (h : ∀ p ∈ tail, L + 8 < p.1) (hc : c ≤ L + 8) : ∀ p ∈ tail, p.1 ≠ c := fun p hp e => Nat.lt_irrefl _ (Nat.lt_of_lt_of_le (h p hp) (e ▸ hc))
end Mine
namespace Mine
theorem mem_skip2 {a b c : Addr × Obj} {r : Led} : ∀ p ∈ a :: r, p ∈ a :: b :: c :: r := fun _ h => by
  rcases List.mem_cons.mp h with rfl | h
  · exact .head _
  · exact .tail _ (.tail _ (.tail _ h))
theorem mem_skip1 {a b : Addr × Obj} {r : Led} : ∀ p ∈ a :: r, p ∈ a :: b :: r := fun _ h => by
  rcases List.mem_cons.mp h with rfl | h
  · exact .head _
  · exact .tail _ (.tail _ h)
theorem int_at {wx : List Value} {zs : List Int} {i : Nat} {x : Value} (Ix : IntsAre wx zs) (h : wx.toArray[i]? = some x) : ∃ z t, x = .int z t := by
  obtain ⟨z, t, e, _⟩ := Ix.at i x (by simpa using h)
  exact ⟨z, t, e⟩
end Mine
namespace Mine
def for2 : Stmt := (lawBody[8]?).getD (.Pass default)
def body2 : List Stmt := match for2 with
  | .For _ _ b _ _ => b
  | _ => []
def for1 : Stmt := (lawBody[4]?).getD (.Pass default)
def body1 : List Stmt := match for1 with
  | .For _ _ b _ _ => b
  | _ => []
end Mine
namespace Mine
def shownN (n : Nat) : Nat := if n % 65536 / 4096 ∈ [1, 2, 4, 6, 8, 10, 12] then n % 65536 else n % 65536 % 4096
theorem shown_cast (n : Nat) : shown (n : Int) = (shownN n : Int) := by
  unfold shown shownN
  have e : (((n : Int) % 65536 / 4096 ∈ ([1, 2, 4, 6, 8, 10, 12] : List Int)) ↔ (n % 65536 / 4096 ∈ [1, 2, 4, 6, 8, 10, 12])) := by
    simp only [List.mem_cons, List.not_mem_nil, or_false]
    omega
  by_cases h : n % 65536 / 4096 ∈ [1, 2, 4, 6, 8, 10, 12]
  · rw [if_pos h, if_pos (e.mpr h)]; omega
  · rw [if_neg h, if_neg (fun q => h (e.mp q))]; omega
section
variable {prog : Program} {w : World} {A : Around} {E : Value → Shared → Prop} {s : Shared} {Q : Value → Shared → Prop} {t u : Tok}
theorem pow16 {z : Int} (h : ∀ e : Nat, e < 16 → z.fmod 16 = (e : Int) → Q (.int ((2 ^ e : Nat) : Int) s.toks) { s with toks := s.toks + 1 }) :
    wpAny (model prog w) A (binaryOp .Pow (.int 2 t) (.int (z.fmod 16) u)) Q E s := by
  have h1 : 0 ≤ z.fmod 16 := by rw [Int.fmod_eq_emod_of_nonneg _ (by decide)]; omega
  have h2 : z.fmod 16 < 16 := by rw [Int.fmod_eq_emod_of_nonneg _ (by decide)]; omega
  refine pow_int_small h1 (by omega) (by decide) ?_
  have := h (z.fmod 16).toNat (by omega) (by omega)
  rw [show (2 : Int) ^ (z.fmod 16).toNat = ((2 ^ (z.fmod 16).toNat : Nat) : Int) by simp]
  exact this
theorem xor_nat {a b : Nat} (h : Q (.int ((a ^^^ b : Nat) : Int) s.toks) { s with toks := s.toks + 1 }) : wpAny (model prog w) A (binaryOp .BitXor (.int (a : Int) t) (.int (b : Int) u)) Q E s := by
  refine xor_int ?_
  rw [xorN]; exact h
end
theorem fmod_at {n : Nat} (z : Int) (h : 0 < n) : ∃ i : Nat, z.fmod (n : Int) = (i : Int) ∧ i < n := by
  rw [Int.fmod_eq_emod_of_nonneg _ (Int.natCast_nonneg n)]
  have h1 := Int.emod_nonneg z (show (n : Int) ≠ 0 by omega)
  have h2 := Int.emod_lt_of_pos z (show (0 : Int) < n by omega)
  exact ⟨(z % (n : Int)).toNat, by omega, by omega⟩
theorem xor_lt {a b k : Nat} (h1 : a < 2 ^ k) (h2 : b < 2 ^ k) : a ^^^ b < 2 ^ k := Nat.xor_lt_two_pow h1 h2
theorem two_lt {e : Nat} (h : e < 16) : 2 ^ e < 2 ^ 18 := Nat.pow_lt_pow_right (by decide) (by omega)
end Mine
namespace Mine
/-- nothing of rest lies on a cell -/
structure Off (L : Addr) (rest : Led) : Prop where
  o1 : ∀ p ∈ rest, p.1 ≠ L + 1
  o2 : ∀ p ∈ rest, p.1 ≠ L + 1 + 1
  o3 : ∀ p ∈ rest, p.1 ≠ L + 1 + 1 + 1
  o4 : ∀ p ∈ rest, p.1 ≠ L + 1 + 1 + 1 + 1
  o5 : ∀ p ∈ rest, p.1 ≠ L + 1 + 1 + 1 + 1 + 1
  o6 : ∀ p ∈ rest, p.1 ≠ L + 1 + 1 + 1 + 1 + 1 + 1
  o7 : ∀ p ∈ rest, p.1 ≠ L + 1 + 1 + 1 + 1 + 1 + 1 + 1
  o8 : ∀ p ∈ rest, p.1 ≠ L + 1 + 1 + 1 + 1 + 1 + 1 + 1 + 1
theorem Off.nil {L : Addr} : Off L [] := by constructor <;> exact fun _ h => nomatch h
theorem Off.cons {L a : Addr} {o : Obj} {r : Led} (h : L + 8 < a) (k : Off L r) : Off L ((a, o) :: r) := by
  have g : ∀ c : Addr, c ≤ L + 8 → (∀ p ∈ r, p.1 ≠ c) → ∀ p ∈ (a, o) :: r, p.1 ≠ c := by
    intro c hc hr p hp
    rcases List.mem_cons.mp hp with rfl | hp
    · exact Ne.symm (Nat.ne_of_lt (Nat.lt_of_le_of_lt hc h))
    · exact hr p hp
  exact ⟨g _ (by simp [Nat.add_assoc]) k.o1, g _ (by simp [Nat.add_assoc]) k.o2, g _ (by simp [Nat.add_assoc]) k.o3, g _ (by simp [Nat.add_assoc]) k.o4, g _ (by simp [Nat.add_assoc]) k.o5, g _ (by simp [Nat.add_assoc]) k.o6, g _ (by simp [Nat.add_assoc]) k.o7, g _ (by simp [Nat.add_assoc]) k.o8⟩
theorem Off.own {L a : Addr} {o : Obj} {r : Led} {cm cr ct cd cn cw co cp : Obj} {q r' : Led} (h : Apart [(a, o)] (q ++ (cellsL L cm cr ct cd cn cw co cp ++ r'))) (k : Off L r) : Off L ((a, o) :: r) := by
  have h := h (a, o) (.head _)
  have g : ∀ c : Addr, (∀ p ∈ r, p.1 ≠ c) → (∃ x, (c, x) ∈ cellsL L cm cr ct cd cn cw co cp) → ∀ p ∈ (a, o) :: r, p.1 ≠ c := by
    rintro c hr ⟨x, hc⟩ p hp
    rcases List.mem_cons.mp hp with rfl | hp
    · exact h (c, x) (List.mem_append.mpr (.inr (List.mem_append.mpr (.inl hc))))
    · exact hr p hp
  exact ⟨g _ k.o1 ⟨cm, by simp⟩, g _ k.o2 ⟨cr, by simp⟩, g _ k.o3 ⟨ct, by simp⟩, g _ k.o4 ⟨cd, by simp⟩, g _ k.o5 ⟨cn, by simp⟩, g _ k.o6 ⟨cw, by simp⟩, g _ k.o7 ⟨co, by simp⟩, g _ k.o8 ⟨cp, by simp⟩⟩
end Mine
namespace Mine
theorem in8 {p a b c d e f g h : Addr × Obj} {rest : Led} (k : p ∈ rest) : p ∈ a :: b :: c :: d :: e :: f :: g :: h :: rest := by simp [k]
end Mine
namespace Mine
theorem rowF_len (n : Nat) : (rowF n).length = 10 := by
  unfold rowF PySem.Str.length
  simp
end Mine
namespace Mine
def isI (z : Int) (v : Value) : Prop := ∃ t, v = .int z t
theorem Each.toInts : ∀ {zs : List Int} {vs : List Value}, Each isI zs vs → IntsAre vs zs
  | _, _, .nil => .nil
  | _, _, .cons ⟨t, h⟩ r => by subst h; exact .cons _ t r.toInts
/-- how high two numbers part, less one: minus one if they are the same -/
def gap (b a : Nat) : Int := (meet a b : Int) - 1
/-- the places from 15 down -/
def places : List Nat := (List.range 16).map (15 - ·)
def partedS (r o : Str) : List Nat := places.filter fun p => setF r p != setF o p
/-- what the law asks of one more mode, told without any program -/
structure Plain8 (t : T) (ds : List Nat) (md : Nat) : Prop where
  low : t.lead (rowF md) < 65536
  num : shownN md < 65536
  near : ∀ M ∈ ds.map (gap (shownN md)), (∀ a ∈ ds.map (gap (shownN md)), M ≤ a) → ((Builtin.Int.intBits ((t.lead (rowF md) ^^^ shownN md : Nat) : Int) : Nat) : Int) - 1 = M
  take : takenS (t.lead (rowF md) ^^^ shownN md) = (partedS (rowF md) (rowF (t.lead (rowF md)))).map fun p => (p, p == (partedS (rowF md) (rowF (t.lead (rowF md)))).getLastD 0)
theorem places_at {i : Nat} (h : i < 16) : places[i]? = some (15 - i) := by
  unfold places
  simp [List.getElem?_map, h]
end Mine
namespace Mine
theorem news_tl {h₀ h : Heap} {L : Addr} {a : Addr × Obj} {r : Led} (N : News h₀ L h (a :: r)) : News h₀ L h r := fun p hp => N p (.tail _ hp)
end Mine
namespace Mine
theorem step_val {i : Nat} {v : Value} (h : i < 16) (e : ∃ t, v = .int (15 + (i : Int) * (-1)) t) : ∃ a, places[i]? = some a ∧ isN a v := by
  obtain ⟨t, rfl⟩ := e
  exact ⟨15 - i, places_at h, t, by congr 1; omega⟩
theorem place_lt {i a : Nat} (h : places[i]? = some a) : a < 16 := by
  have : a ∈ places := List.mem_of_getElem? h
  unfold places at this
  obtain ⟨x, _, e⟩ := List.mem_map.mp this
  omega
end Mine
namespace Mine
theorem last_of {xs : List Nat} {vs : List Value} (h : Each isN xs vs) (hne : xs ≠ []) : 0 < vs.toArray.size ∧ ∃ t, vs.toArray[vs.toArray.size - 1]? = some (.int ((xs.getLastD 0 : Nat) : Int) t) := by
  have hl := h.length
  have hp := List.length_pos_iff.mpr hne
  obtain ⟨v, hv, t, rfl⟩ := h.get (i := vs.length - 1) (x := xs.getLastD 0) (by
    rw [hl, List.getLastD_eq_getLast?, List.getLast?_eq_getElem?]
    rw [List.getElem?_eq_getElem (by omega)]; rfl)
  refine ⟨by rw [List.size_toArray]; omega, t, ?_⟩
  rw [List.size_toArray]; simpa using hv
theorem len_parted (r o : Str) : (partedS r o).length ≤ 16 := by
  refine Nat.le_trans (List.length_filter_le _ _) ?_
  exact Nat.le_of_ble_eq_true rfl
end Mine
namespace Mine
theorem mem_grow {hd rest tl9 tl' : Led} {d : Addr × Obj} (hs : ∀ p ∈ rest ++ tl9, p ∈ tl') : ∀ p ∈ (hd ++ rest) ++ tl9, p ∈ d :: (hd ++ tl') := fun p hp => by
  rw [List.append_assoc] at hp
  rcases List.mem_append.mp hp with hp | hp
  · exact .tail _ (List.mem_append.mpr (.inl hp))
  · exact .tail _ (List.mem_append.mpr (.inr (hs p hp)))
theorem mem_tl {hd tl' : Led} {d : Addr × Obj} : ∀ p ∈ tl', p ∈ d :: (hd ++ tl') := fun p hp => .tail _ (List.mem_append.mpr (.inr hp))
theorem pair_beq (a b : Nat) : ((a : Int) == (b : Int)) = (a == b) := digit_beq a b
end Mine
namespace Mine
theorem in10 {p a b c d e f g h i j : Addr × Obj} {rest : Led} (k : p ∈ rest) : p ∈ a :: b :: c :: d :: e :: f :: g :: h :: i :: j :: rest := by simp [k]
end Mine
namespace Mine
theorem news_end {h₀ h : Heap} {L : Addr} {d d2 a b c e f g i j : Addr × Obj} {tl' rest tl9 : Led} (N : News h₀ L h (d :: d2 :: a :: b :: c :: e :: f :: g :: i :: j :: tl')) (hs : ∀ p ∈ rest ++ tl9, p ∈ tl') : News h₀ L h ([a, b, c, e, f, g, i, j] ++ rest) := fun p hp => N p (by
  rcases List.mem_append.mp hp with hp | hp
  · simp only [List.mem_cons, List.not_mem_nil, or_false] at hp
    simp only [List.mem_cons]
    rcases hp with h | h | h | h | h | h | h | h <;> simp [h]
  · have := hs p (List.mem_append.mpr (.inl hp))
    simp [this])
end Mine
namespace Mine
section
variable {prog : Program} {w : World} {A : Around} {E : Value → Shared → Prop} {s : Shared} {h₀ : Heap} {env : Env}
theorem assign_local {y : Str} {py : Pos} {v : Value} {m : Str → Option Value} {news : Led} {Q : Unit → Shared → Prop} (F : Fr h₀ env.locals s.heap m) (N : News h₀ env.locals s.heap news)
    (hy : env.kindOf y = some .local) (hp : (env.scope.kind == .class || (env.scope.kind == .module && env.locals != env.globals)) = false)
    (h : ∀ h' tk, Fr h₀ env.locals h' (fun z => if z = y then some v else m z) → News h₀ env.locals h' news → Q () { s with heap := h', toks := tk }) :
    wpAny (model prog w) A (assign (.Name y py) env v) Q E s := by
  refine wpAny_assign_Name (wpAny_storeName_local hy F.ns (fun h₂ hn₂ hs₂ => ?_) hp)
  have hL₀ : h₀.get? env.locals = none := Heap.get?_none_of_le F.above
  refine h h₂ _ ⟨hn₂, fun b o e => hs₂.extBut b o (fun q => by rw [q, hL₀] at e; cases e) (F.keep b o e), F.above⟩ fun p hp => ?_
  exact ⟨hs₂.extBut _ _ (N p hp).2.1 (N p hp).1, (N p hp).2⟩
end
theorem mem_swap8 {own : Led} {d : Addr × Obj} {c8 tail : Led} : ∀ p ∈ c8 ++ (own ++ d :: tail), p ∈ own ++ d :: (c8 ++ tail) := fun p hp => by
  simp only [List.mem_append, List.mem_cons] at hp ⊢
  rcases hp with h | h | h | h <;> simp [h]
end Mine
namespace Mine
theorem cells_same {L : Addr} {cm cr ct cd cn cw co cp cm' cr' ct' cd' cn' cw' co' cp' : Obj} : ∀ x ∈ cellsL L cm cr ct cd cn cw co cp, ∃ y ∈ cellsL L cm' cr' ct' cd' cn' cw' co' cp', y.1 = x.1 := by
  intro x hx
  simp only [List.mem_cons, List.not_mem_nil, or_false] at hx
  rcases hx with rfl | rfl | rfl | rfl | rfl | rfl | rfl | rfl
  · exact ⟨(_, cp'), by simp, rfl⟩
  · exact ⟨(_, co'), by simp, rfl⟩
  · exact ⟨(_, cw'), by simp, rfl⟩
  · exact ⟨(_, cn'), by simp, rfl⟩
  · exact ⟨(_, cd'), by simp, rfl⟩
  · exact ⟨(_, ct'), by simp, rfl⟩
  · exact ⟨(_, cr'), by simp, rfl⟩
  · exact ⟨(_, cm'), by simp, rfl⟩
theorem apart_new {own q r : Led} {L : Addr} {cm cr ct cd cn cw co cp cm' cr' ct' cd' cn' cw' co' cp' : Obj} (h : Apart own (q ++ (cellsL L cm cr ct cd cn cw co cp ++ r))) : Apart own (q ++ (cellsL L cm' cr' ct' cd' cn' cw' co' cp' ++ r)) := by
  intro p hp x hx
  rcases List.mem_append.mp hx with hx | hx
  · exact h p hp x (List.mem_append.mpr (.inl hx))
  · rcases List.mem_append.mp hx with hx | hx
    · obtain ⟨y, hy, e⟩ := cells_same (cm' := cm) (cr' := cr) (ct' := ct) (cd' := cd) (cn' := cn) (cw' := cw) (co' := co) (cp' := cp) x hx
      rw [← e]
      exact h p hp y (List.mem_append.mpr (.inr (List.mem_append.mpr (.inl hy))))
    · exact h p hp x (List.mem_append.mpr (.inr (List.mem_append.mpr (.inr hx))))
theorem mem_back8 {own : Led} {d : Addr × Obj} {c8 tail : Led} : ∀ p ∈ d :: (c8 ++ tail), p ∈ c8 ++ (own ++ d :: tail) := fun p hp => by
  simp only [List.mem_append, List.mem_cons] at hp ⊢
  rcases hp with h | h | h <;> simp [h]
end Mine
namespace Mine
local macro_rules | `(tactic| walk_at "ite") => `(tactic| (k_dflt (first | refine PySem.W.ite_neg (by decide) ?_ | refine PySem.W.ite_pos (by decide) ?_)))
local macro_rules | `(tactic| walk_at "call builtin:len") => `(tactic| refine Halt.mk ?_)
local macro_rules | `(tactic| walk_at "subscriptTail") => `(tactic| refine Halt.mk ?_)
local macro_rules | `(tactic| walk_at "binaryOp Pow int int") => `(tactic| (refine pow16 ?_; intro e7 hlt7 he7; (try dsimp only)))
local macro_rules | `(tactic| walk_at "binaryOp BitXor int int") => `(tactic| (refine xor_nat ?_; (try dsimp only)))
local macro_rules | `(tactic| walk_at "call ref") => `(tactic| ((with_reducible show wpAny _ _ (PySem.call (Value.ref 110) _) _ _ _); refine Halt.mk ?_))
local macro_rules | `(tactic| walk_at "call ref") => `(tactic| ((with_reducible show wpAny _ _ (PySem.call (Value.ref 129) _) _ _ _); refine Halt.mk ?_))
local macro_rules | `(tactic| walk_at "m room") => `(tactic| first | exact Nat.le_of_ble_eq_true rfl | omega | (dsimp only; omega) | decide)
local macro_rules | `(tactic| walk_at "call ref") => `(tactic| ((with_reducible show wpAny _ _ (PySem.call (Value.ref 82) _) _ _ _); k_dflt (refine pure_use (file_says _ _ _ _ _) (by k_asm) (by k_asm) (by k_asm) (by k_asm) (by k_asm) rfl ⟨_, rfl⟩ trivial (by walk_at "m room") (by walk_at "m room") ?_; rintro _ h9 tk9 F9 N9 ⟨t9, e9⟩; subst e9)))
local macro_rules | `(tactic| k_all) => `(tactic| first | exact Off.o1 (by assumption) | exact Off.o2 (by assumption) | exact Off.o3 (by assumption) | exact Off.o4 (by assumption) | exact Off.o5 (by assumption) | exact Off.o6 (by assumption) | exact Off.o7 (by assumption) | exact Off.o8 (by assumption))
local macro_rules | `(tactic| walk_at "call ref") => `(tactic| ((with_reducible show wpAny _ _ (PySem.call (Value.ref 96) _) _ _ _); k_dflt (refine read_use (lead_says _ _ _ _ (_, rowF _)) (by k_asm) (by k_asm) (by k_asm) (by k_asm) (by k_asm) rfl ⟨_, _, rfl, TreeIn.mono (by assumption) (fun _ h => in8 h)⟩ ⟨by assumption, rowF_len _⟩ (by walk_at "m room") (by walk_at "m room") ?_; rintro _ h9 tk9 F9 N9 ⟨t9, e9⟩; dsimp only at e9; subst e9)))
local macro_rules | `(tactic| walk_at "call ref") => `(tactic| ((with_reducible show wpAny _ _ (PySem.call (Value.ref 28) _) _ _ _); k_dflt (refine pure_use (high_says _ _ _ _ _) (by k_asm) (by k_asm) (by k_asm) (by k_asm) (by k_asm) rfl ⟨_, rfl⟩ trivial (by walk_at "m room") (by walk_at "m room") ?_; rintro _ h9 tk9 F9 N9 ⟨t9, e9⟩; subst e9)))
local macro_rules | `(tactic| walk_at "eval ListComp") => `(tactic| refine Halt.mk ?_)
local macro_rules | `(tactic| walk_at "call ref") => `(tactic| ((with_reducible show wpAny _ _ (PySem.call (Value.ref 89) _) _ _ _); k_dflt (refine pure_use (set_says _ _ _ _ (_, _)) (by k_asm) (by k_asm) (by k_asm) (by k_asm) (by k_asm) rfl ⟨_, _, rfl⟩ ⟨rowF_len _, by assumption⟩ (by walk_at "m room") (by walk_at "m room") ?_; rintro _ h9 tk9 F9 N9 ⟨t9, e9⟩; subst e9)))
local macro_rules | `(tactic| walk_at "CompSrc") => `(tactic| refine Halt.mk ?_)
local macro_rules | `(tactic| walk_at "CompSrcT") => `(tactic| refine Halt.mk ?_)
local macro_rules | `(tactic| walk_at "SrcStep") => `(tactic| refine Halt.mk ?_)
local macro_rules | `(tactic| walk_at "TestEnd") => `(tactic| refine Halt.mk ?_)
local macro_rules | `(tactic| walk_at "ElEnd") => `(tactic| refine Halt.mk ?_)
local macro_rules | `(tactic| walk_at "call builtin:min") => `(tactic| refine Halt.mk ?_)
local macro_rules | `(tactic| walk_at "call ref") => `(tactic| ((with_reducible show wpAny _ _ (PySem.call (Value.ref 117) _) _ _ _); k_dflt (refine pure_use (parts_says _ _ _ _ (_, _)) (by k_asm) (by k_asm) (by k_asm) (by k_asm) (by k_asm) rfl ⟨_, _, rfl⟩ trivial (by walk_at "m room") (by walk_at "m room") ?_; rintro _ h9 tk9 F9 N9 ⟨t9, e9⟩; subst e9)))
local macro_rules | `(tactic| walk_at "compareOp NotEq ref ref") => `(tactic| refine Halt.mk ?_)
local macro_rules | `(tactic| walk_at "PairEnd") => `(tactic| refine Halt.mk ?_)
set_option maxRecDepth 100000 in
set_option maxHeartbeats 8000000 in
theorem turn8 {w : World} {mean : ExcName → Option Value} {mg mb : Str → Option Value} {base h₀ : Heap} {L fa : Addr} {cdv : Value} {s : Shared} {m : Str → Option Value} {rest : Led} {Q : Flow → Shared → Prop} {E : Value → Shared → Prop}
    {ml dl : Addr} {mvs dvs : List Value} {ms ds : List Nat} {mk dk : Nat} {vt : Value} {t : T} {cm cr ct cd cn cw co cp : Obj} {v2 v3 v4 v5 : Option Value} {zx : Int} {tx : Tok}
    (B : Below callerA base [] h₀) (KX : (hd.heap_39 w.params).In h₀) (T0 : Top hd.view_39 (looseW hd.view_39 [Str.ofString "_filemode_table"]) mean mg mb h₀)
    (F : Fr h₀ L s.heap m) (hx : m (Str.ofString "x") = some (.int zx tx))
    (N : News h₀ L s.heap (cellsL L cm cr ct cd cn cw co cp ++ rest)) (hap : Off L rest)
    (dm : cm.data = .cell (some (.ref ml))) (dt : ct.data = .cell (some vt)) (dd : cd.data = .cell (some (.ref dl))) (dn : cn.data = .cell v2) (dw : cw.data = .cell v3) (do' : co.data = .cell v4) (dp' : cp.data = .cell v5)
    (hml : (ml, W.listOf mvs.toArray mk) ∈ rest) (hms : Each isN ms mvs) (hdl : (dl, W.listOf dvs.toArray dk) ∈ rest) (hds : Each isN ds dvs) (ht : TreeIn rest vt t) (hto : t.ok)
    (hm0 : ms ≠ []) (hm1 : ms.length ≤ 100) (hm2 : ∀ x ∈ ms, x < 2 ^ 18)
    (hd0 : ds ≠ []) (hd1 : ds.length ≤ 100) (plain : ∀ md, md < 2 ^ 18 → Plain8 t ds md)
    (done : ∀ h tk m' cn cw co cp v2 v3 v4 v5, Fr h₀ L h m' → News h₀ L h (cellsL L cm cr ct cd cn cw co cp ++ rest) → cn.data = .cell v2 → cw.data = .cell v3 → co.data = .cell v4 → cp.data = .cell v5 → Q .next { s with heap := h, toks := tk }) :
    wpAny (model PySem.Challenge.rw_tx0013_01.row.prog w) (lawA L fa cdv) (execs body2 (lawEnv L fa cdv)) Q E s := by
  revert KX; k_fill; intro KX
  w_top off
  have F1 := fr_known (ps := [(Str.ofString "x", .int zx tx)]) (by intro p hq; rw [List.mem_singleton.mp hq]; exact hx) F
  clear F
  dsimp only [cellsL, List.cons_append, List.nil_append] at N
  have hml2 := hms.length
  have hpos : 0 < ms.length := List.length_pos_iff.mpr hm0
  unfold body2 for2 lawBody PySem.Challenge.pw_tx0013_01
  unfold lawA lawEnv lawScope PySem.Challenge.pw_tx0013_01
  dsimp only [List.getElem?_cons_succ, List.getElem?_cons_zero, Option.getD_some]
  k_steps
  refine Halt.out ?_
  refine len_led (by k_asm) (in8 hml) (by rw [List.size_toArray]; omega) ?_
  rw [List.size_toArray, hml2]
  k_steps
  refine Halt.out ?_
  obtain ⟨i9, hi9, hi9'⟩ := fmod_at zx hpos
  rw [hi9]
  obtain ⟨a9, ha9⟩ : ∃ a, ms[i9]? = some a := ⟨_, List.getElem?_eq_getElem hi9'⟩
  obtain ⟨va, hva, ta, rfl⟩ := hms.get ha9
  refine item_led (by k_asm) (in8 hml) (by omega) (by omega) (by simpa using hva) ?_
  have ha18 : a9 < 2 ^ 18 := hm2 _ (List.mem_of_getElem? ha9)
  dsimp only
  k_steps
  refine Halt.out ?_
  rename (Fr h₀ L _ _) => F8
  generalize hmd : (a9 ^^^ 2 ^ _ ^^^ 2 ^ _) = md at F8 ⊢
  have hmd18 : md < 2 ^ 18 := hmd ▸ xor_lt (xor_lt ha18 (two_lt (by assumption))) (two_lt (by assumption))
  clear hmd
  k_dflt (refine pure_use (shown_says _ _ _ _ _) (by k_asm) (by k_asm) (by k_asm) (by k_asm) (by k_asm) rfl ⟨_, rfl⟩ trivial (by walk_at "m room") (by walk_at "m room") ?_; rintro _ h9 tk9 F9 N9 ⟨t9, e9⟩; rw [shown_cast] at e9; subst e9)
  k_steps
  have hp8 := plain md hmd18
  have hdl2 := hds.length
  have hdz : dvs.toArray.size ≤ sizeLine := by rw [List.size_toArray, sizeLine_eq, hdl2]; omega
  refine Halt.out ?_
  refine LCg.ListComp_U (F₀ := by k_asm) (by with_unfolding_all rfl) (by decide) (by rfl) (by decide) (by rfl) ?_
  k_steps
  refine Halt.out ?_
  refine LCg.CompSrc.ledger rfl (by k_asm) (by k_asm) (in8 hdl) hdz ?_
  intro g9
  refine rest_each (items := ds) (V := isN) (W := isI) (gap (shownN md)) (by rw [List.size_toArray, hdl2]) (fun i v _ h => hds.at (by simpa using h)) (.inr ⟨_, in8 hdl, rfl, _, rfl⟩) ?_ ?_
  · rintro i n v I oI C oC D ys m₂ h tk E' hi ⟨tv, rfl⟩ hC hx F N off ne
    k_unmd
    k_fold
    k_steps
    refine Halt.out ?_
    exact ElEnd.go (by k_asm) (by k_asm) (fun _ h => h) ⟨_, rfl⟩
  · intro ys hys D h tk F N off
    dsimp only
    k_unmd
    k_fold
    k_steps
    refine Halt.out ?_
    refine kso_min (vs := ys) (by k_asm) (by k_asm) ⟨_, (N _ (.head _)).1, rfl, _, rfl⟩ hys.toInts (by rw [List.length_map]; exact List.length_pos_iff.mpr hd0) rfl ?_
    intro h6 M t6 tk6 F6 N6 hM hMin
    have hMe := hp8.near M hM hMin
    subst hMe
    have N7 := news_tl N6
    clear F N hM hMin off N6
    k_steps
    · exact absurd rfl (by assumption)
    refine Halt.out ?_
    refine comp_step (_F₀ := by k_asm) (by with_unfolding_all rfl) (by decide) (by rfl) (by decide) (by rfl) ?_
    k_steps
    refine Halt.out ?_
    refine ⟨_, 15, -1, -1, _, _, _, 16, _, rfl, rfl, by k_asm, by k_asm, by assumption, by decide, by decide, Nat.le_of_ble_eq_true rfl, ?_⟩
    rintro _ ⟨g8, rfl⟩
    refine rest_test (items := places) (V := isN) (W := isN) (fun p => setF (rowF md) p != setF (rowF (t.lead (rowF md))) p) id rfl (fun i v h e => step_val h e) trivial ?_ ?_
    · rintro i n v I oI C oC D2 ys2 m₂ h tk E' hi ⟨tv, rfl⟩ hC hx F N off ne
      have hn16 : n < 16 := place_lt hi
      k_unmd
      (try k_fold)
      k_steps
      refine Halt.out ?_
      cases hb : (setF (rowF md) n != setF (rowF (t.lead (rowF md))) n) with
      | true =>
        refine TestEnd.yes (by first | exact hb | simpa using hb) rfl ?_
        k_unmd
        (try k_fold)
        k_steps
        refine Halt.out ?_
        exact ElEnd.go (by k_asm) (by k_asm) (fun _ h => h) ⟨tv, rfl⟩
      | false =>
        refine TestEnd.no (by first | exact hb | simpa using hb) rfl ?_
        exact ElEnd.go (by k_asm) (by k_asm) (fun _ h => h) trivial
    · intro ys2 hys2 D2 h tk F N off
      rw [List.map_id] at hys2
      simp only [LCg.Off1] at off
      dsimp only
      k_unmd
      (try k_fold)
      k_steps
      refine Halt.out ?_
      refine tellsN_use (c := takenT) (d := t.lead (rowF md) ^^^ shownN md) (by k_asm) (by k_asm) (by k_asm) (by k_asm) (by k_asm) rfl ⟨_, rfl⟩ (taken_says _ _ _ _ _) (xor_lt (k := 16) hp8.low hp8.num) (by walk_at "m room") (by walk_at "m room") ?_
      rintro r9 tl9 h9 tk9 F9 N9 ord9 - ⟨l9, vs9, k9, rfl, hl9, hps9⟩
      rw [hp8.take] at hps9
      simp only [List.cons_append] at N9
      k_steps
      refine Halt.out ?_
      have hy2 := hys2.length
      have hy3 := len_parted (rowF md) (rowF (t.lead (rowF md)))
      refine LCg.ListComp_U (F₀ := by k_asm) (by with_unfolding_all rfl) (by decide) (by rfl) (by decide) (by rfl) ?_
      k_steps
      refine Halt.out ?_
      refine LCg.CompSrc.ledger rfl (by k_asm) (by k_asm) (.head _) (by rw [List.size_toArray, sizeLine_eq, hy2]; exact Nat.le_trans hy3 (Nat.le_of_ble_eq_true rfl)) ?_
      intro g7
      refine rest_pairs (items := partedS (rowF md) (rowF (t.lead (rowF md)))) (hd := [_, _, _, _, _, _, _, _, _]) (tl := rest ++ tl9) (fun p => (p, p == (partedS (rowF md) (rowF (t.lead (rowF md)))).getLastD 0)) (by rw [List.size_toArray, hy2]; rfl) (fun i v _ h => hys2.at (by simpa using h)) (fun tl => .inr ⟨_, .head _, rfl, _, rfl⟩) ?_ ?_
      · rintro i n v I oI C oC D ys m₂ h tk E' tl hi ⟨tv, rfl⟩ hC hx F N off ne
        dsimp only [List.cons_append, List.nil_append] at N off ⊢
        obtain ⟨hpos2, tl2, hlast⟩ := last_of hys2 (List.ne_nil_of_mem (List.mem_of_getElem? hi))
        k_unmd
        (try k_fold)
        k_steps
        refine Halt.out ?_
        refine last_led (by k_asm) (.tail _ (.tail _ (.tail _ (.head _)))) hpos2 hlast ?_
        k_steps
        refine Halt.out ?_
        exact PairEnd.go (by k_asm) (by assumption) (pair_beq _ _) (by assumption)
      · intro ys tl' hps hs D h tk F N off
        have hl10 := mem_grow (hd := [_, _, _, _, _, _, _, _, _]) (d := (D, LCg.lst ys)) hs _ hl9
        have hp9 := hps9.mono (mem_grow (hd := [_, _, _, _, _, _, _, _, _]) (d := (D, LCg.lst ys)) hs)
        dsimp only [List.cons_append, List.nil_append] at N off hl10 hp9
        k_unmd
        (try k_fold)
        k_steps
        refine Halt.out ?_
        refine pairs_ne (by k_asm) hl10 (.head _) hp9 (hps.mono fun _ h => in10 h) (by walk_at "m room") ?_
        k_steps
        exact done _ _ _ _ _ _ _ _ _ _ _ F (news_end N hs) (by assumption) (by assumption) (by assumption) (by assumption)
end Mine
namespace Mine
local macro_rules | `(tactic| walk_at "ite") => `(tactic| (k_dflt (first | refine PySem.W.ite_neg (by decide) ?_ | refine PySem.W.ite_pos (by decide) ?_)))
local macro_rules | `(tactic| walk_at "exec For") => `(tactic| refine Halt.mk ?_)
local macro_rules | `(tactic| walk_at "exec For Name BinOp") => `(tactic| refine Halt.mk ?_)
local macro_rules | `(tactic| walk_at "exec For Name BinOp cons nil") => `(tactic| refine Halt.mk ?_)
set_option maxRecDepth 100000 in
set_option maxHeartbeats 8000000 in
theorem seg8 {w : World} {mean : ExcName → Option Value} {mg mb : Str → Option Value} {base h₀ : Heap} {L fa : Addr} {cdv : Value} {s : Shared} {m : Str → Option Value} {tail : Led} {Q : Flow → Shared → Prop} {E : Value → Shared → Prop}
    {sl ml dl : Addr} {vs mvs dvs : List Value} {zs : List Int} {ms ds : List Nat} {mk dk : Nat} {vt : Value} {t : T} {cm cr ct cd cn cw co cp : Obj} {v1 v2 v3 v4 v5 : Option Value}
    (B : Below callerA base [] h₀) (KX : (hd.heap_39 w.params).In h₀) (T0 : Top hd.view_39 (looseW hd.view_39 [Str.ofString "_filemode_table"]) mean mg mb h₀)
    (hE : PassesOwn (model PySem.Challenge.rw_tx0013_01.row.prog w) (lawA L fa cdv) (lawEnv L fa cdv) E)
    (hL : h₀.IsList sl vs.toArray) (hI : IntsAre vs zs) (hn : zs.length ≤ 63)
    (F : Fr h₀ L s.heap m) (hp : m (Str.ofString "script") = some (.ref sl))
    (N : News h₀ L s.heap (cellsL L cm cr ct cd cn cw co cp ++ tail)) (hap : Off L tail)
    (dm : cm.data = .cell (some (.ref ml))) (dr : cr.data = .cell v1) (dt : ct.data = .cell (some vt)) (dd : cd.data = .cell (some (.ref dl))) (dn : cn.data = .cell v2) (dw : cw.data = .cell v3) (do' : co.data = .cell v4) (dp' : cp.data = .cell v5)
    (hml : (ml, W.listOf mvs.toArray mk) ∈ tail) (hms : Each isN ms mvs) (hdl : (dl, W.listOf dvs.toArray dk) ∈ tail) (hds : Each isN ds dvs) (ht : TreeIn tail vt t) (hto : t.ok)
    (hm0 : ms ≠ []) (hm1 : ms.length ≤ 100) (hm2 : ∀ x ∈ ms, x < 2 ^ 18)
    (hd0 : ds ≠ []) (hd1 : ds.length ≤ 100) (plain : ∀ md, md < 2 ^ 18 → Plain8 t ds md)
    (hq : ∀ h tk m', Fr h₀ L h m' → Q .next { s with heap := h, toks := tk }) :
    wpAny (model PySem.Challenge.rw_tx0013_01.row.prog w) (lawA L fa cdv) (exec for2 (lawEnv L fa cdv)) Q E s := by
  revert KX; k_fill; intro KX
  w_top off
  have F1 := fr_known (ps := [(Str.ofString "script", .ref sl)]) (by intro p hq; rw [List.mem_singleton.mp hq]; exact hp) F
  clear F
  unfold lawA lawEnv lawScope PySem.Challenge.pw_tx0013_01 at hE
  unfold for2 lawBody PySem.Challenge.pw_tx0013_01
  unfold lawA lawEnv lawScope PySem.Challenge.pw_tx0013_01
  dsimp only [List.getElem?_cons_succ, List.getElem?_cons_zero, Option.getD_some] at hE ⊢
  refine m_for F1 ?_ (hE := hE)
  k_steps
  rename_i Dx hDx Dl wx hx Fx Nx Ix lx
  have hDl : L + 8 < Dl := lx.2.2.1
  have N2 : News h₀ L hx ((Dl, W.listOf wx.toArray 0) :: (cellsL L cm cr ct cd cn cw co cp ++ tail)) := fun p hp => Nx p (mem_skip2 p hp)
  refine list_turns (k := 0) (items := wx.toArray) rfl (by k_asm) N2 (.head _)
    (fun _ m' news' => ∃ cn cw co cp v2 v3 v4 v5, news' = (Dl, W.listOf wx.toArray 0) :: (cellsL L cm cr ct cd cn cw co cp ++ tail) ∧ cn.data = .cell v2 ∧ cw.data = .cell v3 ∧ co.data = .cell v4 ∧ cp.data = .cell v5)
    ?keep ?base ?turn ?done
  case keep => rintro i m' news' ⟨_, _, _, _, _, _, _, _, rfl, _⟩; exact .head _
  case base => exact ⟨_, _, _, _, _, _, _, _, rfl, dn, dw, do', dp'⟩
  case turn =>
    rintro i x m₁ news₁ h₁ tk₁ it oi hx ⟨cn, cw, co, cp, v2, v3, v4, v5, rfl, dn, dw, do', dp'⟩ hap₁ F₁ N₁
    obtain ⟨zx, tx, rfl⟩ := int_at Ix hx
    refine assign_local F₁ N₁ (by with_unfolding_all rfl) (by rfl) ?_
    intro h2 tk2 F2 N2
    have offD : Off L ((Dl, W.listOf wx.toArray 0) :: tail) := Off.cons hDl hap
    refine turn8 (zx := zx) (tx := tx) (rest := [(it, oi)] ++ (Dl, W.listOf wx.toArray 0) :: tail) B KX T0 F2 (by simp) (fun p hp => N2 p (mem_swap8 p hp)) (Off.own (q := [(Dl, W.listOf wx.toArray 0)]) (r' := tail) hap₁ offD) dm dt dd dn dw do' dp' (.tail _ (.tail _ hml)) hms (.tail _ (.tail _ hdl)) hds (ht.mono fun _ h => .tail _ (.tail _ h)) hto hm0 hm1 hm2 hd0 hd1 plain ?_
    intro h tk m' cn cw co cp v2 v3 v4 v5 F3 N3 dn dw do' dp'
    exact TurnEnd.go F3 N3 (fun p hp => List.mem_append.mpr (.inr (List.mem_append.mpr (.inl hp)))) mem_back8 (apart_new (q := [(Dl, W.listOf wx.toArray 0)]) hap₁) ⟨cn, cw, co, cp, v2, v3, v4, v5, rfl, dn, dw, do', dp'⟩
  case done =>
    rintro h' tk' m' news' F' N' -
    k_steps
    exact hq _ _ _ F'
end Mine
namespace Mine
theorem Off.ofD {L D : Addr} {o : Obj} {r : Led} {cm cr ct cd cn cw co cp : Obj} {q : Led} (h : LCg.Off1 D (cellsL L cm cr ct cd cn cw co cp ++ q)) (k : Off L r) : Off L ((D, o) :: r) := by
  have g : ∀ c : Addr, (∀ p ∈ r, p.1 ≠ c) → @Ne Nat c D → ∀ p ∈ (D, o) :: r, p.1 ≠ c := by
    intro c hr hc p hp
    rcases List.mem_cons.mp hp with rfl | hp
    · exact Ne.symm hc
    · exact hr p hp
  simp only [List.cons_append, List.nil_append, LCg.Off1] at h
  obtain ⟨h8, h7, h6, h5, h4, h3, h2, h1, _⟩ := h
  exact ⟨g _ k.o1 h1, g _ k.o2 h2, g _ k.o3 h3, g _ k.o4 h4, g _ k.o5 h5, g _ k.o6 h6, g _ k.o7 h7, g _ k.o8 h8⟩
/-- the places where a list's element comes for the first time, told by what is there -/
def firstsS (ds : List Nat) : List Nat := ((List.range ds.length).filter fun j => !(ds.take j).contains (ds.getD j 0)).map fun j => ds.getD j 0
/-- what the law asks of the tree at the end, told without any program -/
structure Plain5 (t : T) (ms : List Nat) : Prop where
  lead : ∀ x ∈ ms, t.lead (rowF x) = shownN x
  sort : ∀ zs : List Int, zs.Perm ((firstsS (ms.map shownN)).map Int.ofNat) → zs.Pairwise (· ≤ ·) → ∃ ns : List Nat, zs = ns.map Int.ofNat ∧ ns ≠ [] ∧ ns.length ≤ 60 ∧ Rising ns ∧ ∀ t', TreeOf ns t' → t' = t
theorem in12 {p a b c d e f g h i j k l : Addr × Obj} {rest : Led} (q : p ∈ rest) : p ∈ a :: b :: c :: d :: e :: f :: g :: h :: i :: j :: k :: l :: rest := by simp [q]
end Mine
namespace Mine
theorem range_val {i n : Nat} {v : Value} (h : i < n) (e : ∃ t, v = .int (0 + (i : Int)) t) : ∃ a, (List.range n)[i]? = some a ∧ isN a v := by
  obtain ⟨t, rfl⟩ := e
  exact ⟨i, by simp [h], t, by congr 1; omega⟩
theorem range_lt {i j n : Nat} (h : (List.range n)[i]? = some j) : j < n := List.mem_range.mp (List.mem_of_getElem? h)
theorem each_getD {xs : List Nat} {vs : List Value} (h : Each isN xs vs) {j : Nat} (hj : j < xs.length) : ∃ t, vs.toArray[((j : Nat) : Int).toNat]? = some (.int ((xs.getD j 0 : Nat) : Int) t) := by
  obtain ⟨v, hv, t, rfl⟩ := h.get (i := j) (x := xs.getD j 0) (by
    rw [List.getElem?_eq_getElem hj, List.getD_eq_getElem?_getD, List.getElem?_eq_getElem hj]; rfl)
  exact ⟨t, by simpa using hv⟩
end Mine
namespace Mine
theorem getD_cast (ds : List Nat) (j : Nat) : (ds.map Int.ofNat).getD ((j : Nat) : Int).toNat 0 = ((ds.getD j 0 : Nat) : Int) := by
  rw [Int.toNat_natCast, List.getD_eq_getElem?_getD, List.getD_eq_getElem?_getD, List.getElem?_map]
  cases ds[j]? <;> rfl
theorem first_eq (ds : List Nat) (j : Nat) : (!(List.take ((j : Nat) : Int).toNat (ds.map Int.ofNat)).any fun x => x == (ds.map Int.ofNat).getD ((j : Nat) : Int).toNat 0) = !(ds.take j).contains (ds.getD j 0) := by
  rw [getD_cast, Int.toNat_natCast, ← List.map_take]
  congr 1
  generalize ds.take j = l
  generalize ds.getD j 0 = x
  induction l with
  | nil => rfl
  | cons a l ih =>
    rw [List.map_cons, List.any_cons, List.contains_cons, ih]
    congr 1
    show ((a : Int) == (x : Int)) = (x == a)
    rw [digit_beq]
    cases h : (a == x) with
    | true => rw [beq_iff_eq.mp h]; simp
    | false => exact (beq_eq_false_iff_ne.mpr (Ne.symm (beq_eq_false_iff_ne.mp h))).symm
end Mine
namespace Mine
theorem firstsS_len (ds : List Nat) : (firstsS ds).length ≤ ds.length := by
  unfold firstsS
  rw [List.length_map]
  refine Nat.le_trans (List.length_filter_le _ _) ?_
  rw [List.length_range]; exact Nat.le_refl _
end Mine
namespace Mine
theorem news_cut {h₀ h : Heap} {L : Addr} {d d2 a b c e f g i j : Addr × Obj} {tail tl9 : Led} (N : News h₀ L h ((d :: d2 :: a :: b :: c :: e :: f :: g :: i :: j :: tail) ++ tl9)) : News h₀ L h ([a, b, c, e, f, g, i, j] ++ d2 :: tail) := fun p hp => N p (by
  rcases List.mem_append.mp hp with hp | hp
  · simp only [List.mem_cons, List.not_mem_nil, or_false] at hp
    rcases hp with h | h | h | h | h | h | h | h <;> simp [h]
  · rcases List.mem_cons.mp hp with h | h <;> simp [h])
end Mine
namespace Mine
local macro_rules | `(tactic| walk_at "ite") => `(tactic| (k_dflt (first | refine PySem.W.ite_neg (by decide) ?_ | refine PySem.W.ite_pos (by decide) ?_)))
local macro_rules | `(tactic| walk_at "m room") => `(tactic| first | exact Nat.le_of_ble_eq_true rfl | omega | (dsimp only; omega) | decide)
local macro_rules | `(tactic| walk_at "call builtin:len") => `(tactic| refine Halt.mk ?_)
local macro_rules | `(tactic| walk_at "subscriptTail") => `(tactic| refine Halt.mk ?_)
local macro_rules | `(tactic| walk_at "call ref") => `(tactic| ((with_reducible show wpAny _ _ (PySem.call (Value.ref 110) _) _ _ _); k_dflt (refine pure_use (shown_says _ _ _ _ _) (by k_asm) (by k_asm) (by k_asm) (by k_asm) (by k_asm) rfl ⟨_, rfl⟩ trivial (by walk_at "m room") (by walk_at "m room") ?_; rintro _ h9 tk9 F9 N9 ⟨t9, e9⟩; rw [shown_cast] at e9; subst e9)))
local macro_rules | `(tactic| walk_at "call ref") => `(tactic| ((with_reducible show wpAny _ _ (PySem.call (Value.ref 96) _) _ _ _); refine Halt.mk ?_))
local macro_rules | `(tactic| walk_at "call ref") => `(tactic| ((with_reducible show wpAny _ _ (PySem.call (Value.ref 122) _) _ _ _); refine Halt.mk ?_))
local macro_rules | `(tactic| k_all) => `(tactic| first | exact Off.o1 (by assumption) | exact Off.o2 (by assumption) | exact Off.o3 (by assumption) | exact Off.o4 (by assumption) | exact Off.o5 (by assumption) | exact Off.o6 (by assumption) | exact Off.o7 (by assumption) | exact Off.o8 (by assumption))
local macro_rules | `(tactic| walk_at "eval ListComp") => `(tactic| refine Halt.mk ?_)
local macro_rules | `(tactic| walk_at "CompSrc") => `(tactic| refine Halt.mk ?_)
local macro_rules | `(tactic| walk_at "CompSrcT") => `(tactic| refine Halt.mk ?_)
local macro_rules | `(tactic| walk_at "TestEnd") => `(tactic| refine Halt.mk ?_)
local macro_rules | `(tactic| walk_at "ElEnd") => `(tactic| refine Halt.mk ?_)
local macro_rules | `(tactic| walk_at "call builtin:sorted") => `(tactic| refine Halt.mk ?_)
local macro_rules | `(tactic| walk_at "compareOp NotEq ref ref") => `(tactic| refine Halt.mk ?_)
local macro_rules | `(tactic| walk_at "compareOp NotIn") => `(tactic| refine Halt.mk ?_)
local macro_rules | `(tactic| walk_at "exec For") => `(tactic| refine Halt.mk ?_)
local macro_rules | `(tactic| walk_at "exec For Name BinOp cons nil") => `(tactic| refine Halt.mk ?_)
set_option maxRecDepth 100000 in
set_option maxHeartbeats 8000000 in
theorem seg5 {w : World} {mean : ExcName → Option Value} {mg mb : Str → Option Value} {base h₀ : Heap} {L fa : Addr} {cdv : Value} {s : Shared} {m : Str → Option Value} {tail : Led} {Q : Flow → Shared → Prop} {E : Value → Shared → Prop}
    {sl ml fl rl : Addr} {vs mvs fvs rvs : List Value} {zs : List Int} {ms : List Nat} {mk fk rk : Nat} {vt : Value} {t : T} {cm cr ct cd cn cw co cp : Obj} {v1 v2 v3 v4 v5 : Option Value}
    (B : Below callerA base [] h₀) (KX : (hd.heap_39 w.params).In h₀) (T0 : Top hd.view_39 (looseW hd.view_39 [Str.ofString "_filemode_table"]) mean mg mb h₀)
    (hE : PassesOwn (model PySem.Challenge.rw_tx0013_01.row.prog w) (lawA L fa cdv) (lawEnv L fa cdv) E)
    (hL : h₀.IsList sl vs.toArray) (hI : IntsAre vs zs) (hn : zs.length ≤ 63)
    (F : Fr h₀ L s.heap m) (hp : m (Str.ofString "script") = some (.ref sl)) (hp2 : m (Str.ofString "found") = some (.ref fl))
    (N : News h₀ L s.heap (cellsL L cm cr ct cd cn cw co cp ++ tail)) (hap : Off L tail)
    (dm : cm.data = .cell (some (.ref ml))) (dr : cr.data = .cell (some (.ref rl))) (dt : ct.data = .cell (some vt)) (dd : cd.data = .cell v1) (dn : cn.data = .cell v2) (dw : cw.data = .cell v3) (do' : co.data = .cell v4) (dp' : cp.data = .cell v5)
    (hml : (ml, W.listOf mvs.toArray mk) ∈ tail) (hms : Each isN ms mvs) (hfl : (fl, W.listOf fvs.toArray fk) ∈ tail) (hfs : Each isN (ms.map shownN) fvs) (hrl : (rl, W.listOf rvs.toArray rk) ∈ tail) (hrs : Each isS (ms.map rowF) rvs) (ht : TreeIn tail vt t) (hto : t.ok) (htz : t.size ≤ 60)
    (hm0 : ms ≠ []) (hm1 : ms.length ≤ 7) (hm2 : ∀ x ∈ ms, x < 2 ^ 18)
    (p5 : Plain5 t ms) (plain : ∀ md, md < 2 ^ 18 → Plain8 t (ms.map shownN) md)
    (hq : ∀ h tk m', Fr h₀ L h m' → Q (.ret (.bool true)) { s with heap := h, toks := tk }) :
    wpAny (model PySem.Challenge.rw_tx0013_01.row.prog w) (lawA L fa cdv) (execs (lawBody.drop 5) (lawEnv L fa cdv)) Q E s := by
  revert KX; k_fill; intro KX
  w_top off
  obtain ⟨ta, rfl⟩ : ∃ a, vt = .ref a := by cases ht <;> exact ⟨_, rfl⟩
  have F1 := fr_known (ps := [(Str.ofString "script", .ref sl), (Str.ofString "found", .ref fl)]) (by intro p hq; simp only [List.mem_cons, List.not_mem_nil, or_false] at hq; rcases hq with rfl | rfl <;> assumption) F
  clear F
  have hml2 := hms.length
  have hmz : mvs.toArray.size ≤ sizeLine := by rw [List.size_toArray, sizeLine_eq, hml2]; omega
  dsimp only [cellsL, List.cons_append, List.nil_append] at N
  unfold lawBody PySem.Challenge.pw_tx0013_01
  unfold lawA lawEnv lawScope PySem.Challenge.pw_tx0013_01
  dsimp only [List.getElem?_cons_succ, List.getElem?_cons_zero, List.drop_succ_cons, List.drop_zero]
  k_steps
  refine Halt.out ?_
  refine LCg.ListComp_U (F₀ := by k_asm) (by with_unfolding_all rfl) (by decide) (by rfl) (by decide) (by rfl) ?_
  k_steps
  refine Halt.out ?_
  refine LCg.CompSrc.ledger rfl (by k_asm) (by k_asm) (in8 hml) hmz ?_
  intro g9
  refine rest_each (items := ms) (V := isN) (W := isN) shownN (by rw [List.size_toArray, hml2]) (fun i v _ h => hms.at (by simpa using h)) (.inr ⟨_, in8 hml, rfl, _, rfl⟩) ?_ ?_
  · rintro i n v I oI C oC D ys m₂ h tk E' hi ⟨tv, rfl⟩ hC hx F N off ne
    k_unmd
    (try k_fold)
    k_steps
    refine Halt.out ?_
    exact ElEnd.go (by k_asm) (by k_asm) (fun _ h => h) ⟨_, rfl⟩
  intro dvs hds Dd h tk F N off
  have hap1 : Off L ((Dd, LCg.lst dvs) :: tail) := Off.ofD (q := tail) off hap
  simp only [LCg.Off1] at off
  dsimp only
  k_unmd
  (try k_fold)
  k_steps
  refine Halt.out ?_
  dsimp only
  refine nats_ne (by k_asm) (.tail _ (in8 hfl)) (.head _) hfs hds (by walk_at "m room") ?_
  k_steps
  have hrs2 := hrs.length
  rw [List.length_map] at hrs2
  have hrz : rvs.toArray.size ≤ sizeLine := by rw [List.size_toArray, sizeLine_eq, hrs2]; omega
  refine Halt.out ?_
  refine LCg.ListComp_U (F₀ := by k_asm) (by with_unfolding_all rfl) (by decide) (by rfl) (by decide) (by rfl) ?_
  k_steps
  refine Halt.out ?_
  refine LCg.CompSrc.ledger rfl (by k_asm) (by k_asm) (.tail _ (in8 hrl)) hrz ?_
  intro g9
  refine rest_each (items := ms.map rowF) (V := isS) (W := isN) (fun r => t.lead r) (by rw [List.size_toArray, hrs2, List.length_map]) (fun i v _ h => hrs.at (by simpa using h)) (.inr ⟨_, .tail _ (in8 hrl), rfl, _, rfl⟩) ?_ ?_
  · rintro i r v I oI C oC D ys m₂ h tk E' hi ⟨tv, rfl⟩ hC hx F N off ne
    have hr10 : r.length = 10 := by
      obtain ⟨x, _, rfl⟩ := List.mem_map.mp (List.mem_of_getElem? hi)
      exact rowF_len x
    k_unmd
    (try k_fold)
    k_steps
    refine Halt.out ?_
    refine read_use (lead_says _ _ _ _ (t, r)) (by k_asm) (by k_asm) (by k_asm) (by k_asm) (by k_asm) rfl ⟨_, _, rfl, ht.mono (fun _ h => in12 h)⟩ ⟨hto, hr10⟩ (by walk_at "m room") (by walk_at "m room") ?_
    rintro _ h9 tk9 F9 N9 ⟨t9, e9⟩
    dsimp only at e9
    subst e9
    k_steps
    refine Halt.out ?_
    exact ElEnd.go (by k_asm) (by k_asm) (fun _ h => h) ⟨_, rfl⟩
  intro lvs hls Dl h tk F N off2
  have hle : (ms.map rowF).map (fun r => t.lead r) = ms.map shownN := by
    rw [List.map_map]; exact List.map_congr_left fun x hx => p5.lead x hx
  rw [hle] at hls
  simp only [LCg.Off1] at off2
  dsimp only
  k_unmd
  (try k_fold)
  k_steps
  refine Halt.out ?_
  refine nats_ne (by k_asm) (.head _) (.tail _ (.head _)) hls hds (by walk_at "m room") ?_
  have N2 := news_tl N
  clear N off2
  k_steps
  refine Halt.out ?_
  refine LCt.ListComp_T (F₀ := by k_asm) (by with_unfolding_all rfl) (by decide) (by rfl) (by decide) (by rfl) ?_
  k_steps
  refine Halt.out ?_
  have hdl2 := hds.length
  rw [List.length_map] at hdl2
  refine len_led (by k_asm) (.head _) (by rw [List.size_toArray, hdl2]; omega) ?_
  rw [List.size_toArray, hdl2]
  dsimp only
  k_steps
  refine Halt.out ?_
  have hdI := hds.ints
  refine LCt.CompSrcT.range (n := ms.length) rfl (by k_asm) (by k_asm) (by assumption) (small_one (by decide) (by decide) (by omega) (by omega)) (by rw [rangeSize_nat]; omega) (by rw [sizeLine_eq]; omega) ?_
  intro g9
  refine rest_test (items := List.range ms.length) (V := isN) (W := isN) (fun j => !((ms.map shownN).take j).contains ((ms.map shownN).getD j 0)) (fun j => (ms.map shownN).getD j 0) (by rw [List.length_range]) (fun i v hi e => range_val hi e) trivial ?_ ?_
  · rintro i j v I oI C oC D ys m₂ h tk E' hi ⟨tv, rfl⟩ hC hx F N off ne
    have hj := range_lt hi
    obtain ⟨tj, hjv⟩ := each_getD hds (j := j) (by rw [List.length_map]; exact hj)
    k_unmd
    (try k_fold)
    k_steps
    refine Halt.out ?_
    have hfe := first_eq (ms.map shownN) j
    cases hb : (!((ms.map shownN).take j).contains ((ms.map shownN).getD j 0)) with
    | true =>
      refine TestEnd.yes (hfe.trans hb) rfl ?_
      k_unmd
      (try k_fold)
      k_steps
      refine Halt.out ?_
      exact ElEnd.go (by k_asm) (by k_asm) (fun _ h => .tail _ h) ⟨_, congrArg (fun i => Value.int i _) (getD_cast _ _)⟩
    | false =>
      refine TestEnd.no (hfe.trans hb) rfl ?_
      exact ElEnd.go (by k_asm) (by k_asm) (fun _ h => .tail _ h) trivial
  intro cvs hcs Dc h tk F N off3
  have hcs2 : Each isN (firstsS (ms.map shownN)) cvs := by
    unfold firstsS; rw [List.length_map]; exact hcs
  simp only [LCg.Off1] at off3
  dsimp only
  k_unmd
  (try k_fold)
  k_steps
  refine Halt.out ?_
  refine kso_sorted (vs := cvs) (by k_asm) (by k_asm) ⟨_, (N _ (.head _)).1, rfl, _, rfl⟩ hcs2.ints (by have := firstsS_len (ms.map shownN); rw [List.length_map] at this ⊢; omega) ?_
  intro Ds svs zs9 c9 h8 F8 N8 hlt8 hsI hlen8 hperm hsorted _
  obtain ⟨ns, hzs, hne, hnl, hris, htree⟩ := p5.sort zs9 hperm hsorted
  subst hzs
  have hsN := Each.ofInts hsI
  have N7 := (show News h₀ L h8 _ from fun p hp => N8 p (mem_skip1 p hp))
  clear hlt8 off3 N F N8
  k_steps
  refine Halt.out ?_
  refine tellsN_use (c := treeT) (d := ns) (by k_asm) (by k_asm) (by k_asm) (by k_asm) (by k_asm) rfl ⟨_, _, _, rfl, .head _, hsN⟩ (tree_says _ _ _ _ _) ⟨hne, by omega, hris⟩ (Nat.lt_of_le_of_lt (Nat.add_le_add_left (Nat.add_le_add_right hnl 2) _) (Nat.le_of_ble_eq_true rfl)) (Nat.lt_of_le_of_lt (Nat.add_le_add_left (Nat.mul_le_mul_left 8 (Nat.add_le_add_right hnl 2)) _) (Nat.le_of_ble_eq_true rfl)) ?_
  rintro r9 tl9 h9 tk9 F9 N9 ord9 - ⟨t9, ht9, hof9⟩
  rw [htree t9 hof9] at ht9
  obtain ⟨rb, rfl⟩ : ∃ b, r9 = .ref b := by cases ht9 <;> exact ⟨_, rfl⟩
  k_steps
  refine Halt.out ?_
  refine tree_ne N9 (ht.mono fun _ h => List.mem_append.mpr (.inl (.tail _ (.tail _ (in8 h))))) ht9 htz (by walk_at "m room") ?_
  have N6 := news_cut N9
  clear N9 N7
  k_steps
  refine Halt.out ?_
  refine seg8 (tail := (Dd, LCg.lst dvs) :: tail) (cm := cm) (cr := cr) (ct := ct) (cn := cn) (cw := cw) (co := co) (cp := cp) B KX T0 hE hL hI hn F9 (by simp [kstB]) N6 hap1 dm dr dt (by assumption) dn dw do' dp' (.tail _ hml) hms (.head _) hds (ht.mono fun _ h => .tail _ h) hto hm0 (by omega) hm2 (by simpa using hm0) (by rw [List.length_map]; omega) plain ?_
  intro h tk m' F'
  dsimp only
  k_steps
  exact hq _ _ _ F'
end Mine
namespace Mine
/-- the tree, grown by one mode's row -/
def growT (t : T) (x : Nat) : T := if shownN x ^^^ t.lead (rowF x) = 0 then t else t.put (shownN x ^^^ t.lead (rowF x)).log2 (rowF x) (shownN x)
def treeAt (ms : List Nat) (i : Nat) : T := ((ms.drop 1).take i).foldl growT (.leaf (shownN (ms.getD 0 0)))
theorem treeAt_zero (ms : List Nat) : treeAt ms 0 = .leaf (shownN (ms.getD 0 0)) := rfl
theorem treeAt_succ {ms : List Nat} {i x : Nat} (h : ms[i + 1]? = some x) : treeAt ms (i + 1) = growT (treeAt ms i) x := by
  unfold treeAt
  rw [List.take_add_one, List.getElem?_drop, show 1 + i = i + 1 by omega, h, List.foldl_append]
  rfl
/-- what the law's first loop asks, told without any program -/
structure Plain4 (ms : List Nat) : Prop where
  ok : ∀ i, i < ms.length → (treeAt ms i).ok
  size : ∀ i, i < ms.length → (treeAt ms i).size ≤ 60
  low : ∀ i r, i < ms.length → (treeAt ms i).lead r < 65536
  num : ∀ x, shownN x < 65536
theorem T.depth_size : ∀ t : T, t.depth ≤ t.size
  | .leaf _ => Nat.le_refl _
  | .fork _ l r => by
    have h1 := T.depth_size l
    have h2 := T.depth_size r
    simp only [T.depth, T.size]; omega
theorem Off.tl {L : Addr} {q r : Led} {cm cr ct cd cn cw co cp : Obj} (h : ∀ x ∈ cellsL L cm cr ct cd cn cw co cp, ∀ p ∈ q, x.1 < p.1) (k : Off L r) : Off L (q ++ r) := by
  have g : ∀ c : Addr, (∀ p ∈ r, p.1 ≠ c) → (∃ x, (c, x) ∈ cellsL L cm cr ct cd cn cw co cp) → ∀ p ∈ q ++ r, p.1 ≠ c := by
    rintro c hr ⟨x, hc⟩ p hp
    rcases List.mem_append.mp hp with hp | hp
    · exact Ne.symm (Nat.ne_of_lt (h (c, x) hc p hp))
    · exact hr p hp
  exact ⟨g _ k.o1 ⟨cm, by simp⟩, g _ k.o2 ⟨cr, by simp⟩, g _ k.o3 ⟨ct, by simp⟩, g _ k.o4 ⟨cd, by simp⟩, g _ k.o5 ⟨cn, by simp⟩, g _ k.o6 ⟨cw, by simp⟩, g _ k.o7 ⟨co, by simp⟩, g _ k.o8 ⟨cp, by simp⟩⟩
end Mine
namespace Mine
theorem high_val {a : Nat} (h : (a : Int) ≠ 0) : ((Builtin.Int.intBits (a : Int) : Nat) : Int) - 1 = ((a.log2 : Nat) : Int) := by
  rw [intBits_pos (by omega)]; omega
theorem at_succ {α β : Type} {W : β → Value → Prop} {g : α → β} {xs : List α} {vs : List Value} {i : Nat} {x : α} (h : Each W (xs.map g) vs) (hx : xs[i + 1]? = some x) : ∃ v, vs.toArray[(1 + (i : Int)).toNat]? = some v ∧ W (g x) v := by
  obtain ⟨v, hv, hw⟩ := h.get (i := i + 1) (x := g x) (by rw [List.getElem?_map, hx]; rfl)
  exact ⟨v, by rw [show (1 + (i : Int)).toNat = i + 1 by omega]; simpa using hv, hw⟩
end Mine
namespace Mine
theorem mem_swap {c8 rest tl9 : Led} : ∀ p ∈ c8 ++ (tl9 ++ rest), p ∈ (c8 ++ rest) ++ tl9 := fun p hp => by
  simp only [List.mem_append] at hp ⊢
  rcases hp with h | h | h <;> simp [h]
theorem mem_swap' {c8 rest tl9 : Led} : ∀ p ∈ (c8 ++ rest) ++ tl9, p ∈ c8 ++ (tl9 ++ rest) := fun p hp => by
  simp only [List.mem_append] at hp ⊢
  rcases hp with (h | h) | h <;> simp [h]
end Mine
namespace Mine
theorem put_keep {L : Addr} {rest tl9 : Led} {cm cr ct cd cn cw co cp : Obj} {w1 w2 w3 w4 w5 w6 w7 w8 : Option Value} (dm : cm.data = .cell w1) (dr : cr.data = .cell w2) (dt : ct.data = .cell w3) (dd : cd.data = .cell w4) (dn : cn.data = .cell w5) (dw : cw.data = .cell w6) (do' : co.data = .cell w7) (dp' : cp.data = .cell w8) :
    ∀ p ∈ (cellsL L cm cr ct cd cn cw co cp ++ rest) ++ tl9, (∃ vs k, p.2 = tupO vs k) → p ∈ tl9 ++ rest := by
  intro p hp ht
  rcases List.mem_append.mp hp with hp | hp
  · rcases List.mem_append.mp hp with hp | hp
    · exfalso
      simp only [List.mem_cons, List.not_mem_nil, or_false] at hp
      rcases hp with rfl | rfl | rfl | rfl | rfl | rfl | rfl | rfl
      · exact cell_not_tup dp' ht
      · exact cell_not_tup do' ht
      · exact cell_not_tup dw ht
      · exact cell_not_tup dn ht
      · exact cell_not_tup dd ht
      · exact cell_not_tup dt ht
      · exact cell_not_tup dr ht
      · exact cell_not_tup dm ht
    · exact List.mem_append.mpr (.inr hp)
  · exact List.mem_append.mpr (.inl hp)
end Mine
namespace Mine
local macro_rules | `(tactic| walk_at "ite") => `(tactic| (k_dflt (first | refine PySem.W.ite_neg (by decide) ?_ | refine PySem.W.ite_pos (by decide) ?_)))
local macro_rules | `(tactic| walk_at "m room") => `(tactic| first | exact Nat.le_of_ble_eq_true rfl | omega | (dsimp only; omega) | decide)
local macro_rules | `(tactic| walk_at "subscriptTail") => `(tactic| refine Halt.mk ?_)
local macro_rules | `(tactic| walk_at "subscriptTail Name Name ref int") => `(tactic| refine Halt.mk ?_)
local macro_rules | `(tactic| walk_at "binaryOp BitXor int int") => `(tactic| (refine xor_nat ?_; (try dsimp only)))
local macro_rules | `(tactic| walk_at "call ref") => `(tactic| ((with_reducible show wpAny _ _ (PySem.call (Value.ref 103) _) _ _ _); refine Halt.mk ?_))
local macro_rules | `(tactic| walk_at "call ref") => `(tactic| ((with_reducible show wpAny _ _ (PySem.call (Value.ref 96) _) _ _ _); k_dflt (refine read_use (lead_says _ _ _ _ (_, rowF _)) (by k_asm) (by k_asm) (by k_asm) (by k_asm) (by k_asm) rfl ⟨_, _, rfl, TreeIn.mono (by assumption) (fun _ h => in8 h)⟩ ⟨by assumption, rowF_len _⟩ (by walk_at "m room") (by walk_at "m room") ?_; rintro _ h9 tk9 F9 N9 ⟨t9, e9⟩; dsimp only at e9; subst e9)))
local macro_rules | `(tactic| walk_at "call ref") => `(tactic| ((with_reducible show wpAny _ _ (PySem.call (Value.ref 28) _) _ _ _); k_dflt (refine pure_use (high_says _ _ _ _ _) (by k_asm) (by k_asm) (by k_asm) (by k_asm) (by k_asm) rfl ⟨_, rfl⟩ trivial (by walk_at "m room") (by walk_at "m room") ?_; rintro _ h9 tk9 F9 N9 ⟨t9, e9⟩; rw [high_val (by assumption)] at e9; subst e9)))
local macro_rules | `(tactic| k_all) => `(tactic| first | exact Off.o1 (by assumption) | exact Off.o2 (by assumption) | exact Off.o3 (by assumption) | exact Off.o4 (by assumption) | exact Off.o5 (by assumption) | exact Off.o6 (by assumption) | exact Off.o7 (by assumption) | exact Off.o8 (by assumption))
set_option maxRecDepth 100000 in
set_option maxHeartbeats 8000000 in
theorem turn4 {w : World} {mean : ExcName → Option Value} {mg mb : Str → Option Value} {base h₀ : Heap} {L fa : Addr} {cdv : Value} {s : Shared} {m : Str → Option Value} {rest : Led} {Q : Flow → Shared → Prop} {E : Value → Shared → Prop}
    {sl fl rl : Addr} {fvs rvs : List Value} {ms : List Nat} {fk rk : Nat} {vt : Value} {t : T} {cm cr ct cd cn cw co cp : Obj} {v1 v2 v3 v4 v5 v6 : Option Value} {i x : Nat} {tki : Tok}
    (B : Below callerA base [] h₀) (KX : (hd.heap_39 w.params).In h₀) (T0 : Top hd.view_39 (looseW hd.view_39 [Str.ofString "_filemode_table"]) mean mg mb h₀)
    (F : Fr h₀ L s.heap m) (hk : m (Str.ofString "k") = some (.int (1 + (i : Int)) tki)) (hp : m (Str.ofString "script") = some (.ref sl)) (hp2 : m (Str.ofString "found") = some (.ref fl))
    (N : News h₀ L s.heap (cellsL L cm cr ct cd cn cw co cp ++ rest)) (hap : Off L rest)
    (dm : cm.data = .cell v6) (dr : cr.data = .cell (some (.ref rl))) (dt : ct.data = .cell (some vt)) (dd : cd.data = .cell v1) (dn : cn.data = .cell v2) (dw : cw.data = .cell v3) (do' : co.data = .cell v4) (dp' : cp.data = .cell v5)
    (hfl : (fl, W.listOf fvs.toArray fk) ∈ rest) (hfs : Each isN (ms.map shownN) fvs) (hrl : (rl, W.listOf rvs.toArray rk) ∈ rest) (hrs : Each isS (ms.map rowF) rvs) (ht : TreeIn rest vt t) (hto : t.ok) (htz : t.size ≤ 60)
    (hx : ms[i + 1]? = some x) (hm1 : ms.length ≤ 7) (low : t.lead (rowF x) < 65536) (num : shownN x < 65536)
    (done : ∀ h tk m' ct vt tl, Fr h₀ L h m' → m' (Str.ofString "script") = some (.ref sl) → m' (Str.ofString "found") = some (.ref fl) → News h₀ L h (cellsL L cm cr ct cd cn cw co cp ++ (tl ++ rest)) → ct.data = .cell (some vt) → Off L (tl ++ rest) →
      TreeIn (tl ++ rest) vt (growT t x) → (∀ q ∈ rest, ∀ p ∈ tl, q.1 < p.1) → Q .next { s with heap := h, toks := tk }) :
    wpAny (model PySem.Challenge.rw_tx0013_01.row.prog w) (lawA L fa cdv) (execs body1 (lawEnv L fa cdv)) Q E s := by
  revert KX; k_fill; intro KX
  w_top off
  obtain ⟨ta, rfl⟩ : ∃ a, vt = .ref a := by cases ht <;> exact ⟨_, rfl⟩
  have F1 := fr_known (ps := [(Str.ofString "k", .int (1 + (i : Int)) tki), (Str.ofString "script", .ref sl), (Str.ofString "found", .ref fl)]) (by intro p hq; simp only [List.mem_cons, List.not_mem_nil, or_false] at hq; rcases hq with rfl | rfl | rfl <;> assumption) F
  clear F
  have hil : i + 1 < ms.length := (List.getElem?_eq_some_iff.mp hx).1
  obtain ⟨_, hfv, tf, rfl⟩ := at_succ hfs hx
  obtain ⟨_, hrv, tr, rfl⟩ := at_succ hrs hx
  dsimp only [cellsL, List.cons_append, List.nil_append] at N
  unfold body1 for1 lawBody PySem.Challenge.pw_tx0013_01
  unfold lawA lawEnv lawScope PySem.Challenge.pw_tx0013_01
  dsimp only [List.getElem?_cons_succ, List.getElem?_cons_zero, Option.getD_some]
  k_steps
  refine Halt.out ?_
  dsimp only
  refine item_led (by k_asm) (in8 hfl) (by omega) (by omega) hfv ?_
  k_steps
  refine Halt.out ?_
  dsimp only
  refine item_led (by k_asm) (in8 hrl) (by omega) (by omega) hrv ?_
  k_steps
  · refine Halt.out ?_
    dsimp only
    refine item_led (by k_asm) (in8 hrl) (by omega) (by omega) hrv ?_
    k_steps
    refine Halt.out ?_
    dsimp only
    refine item_led (by k_asm) (in8 hfl) (by omega) (by omega) hfv ?_
    k_steps
    refine Halt.out ?_
    have ha0 : ((shownN x ^^^ t.lead (rowF x) : Nat) : Int) ≠ 0 := by assumption
    have ha1 : shownN x ^^^ t.lead (rowF x) ≠ 0 := by omega
    have hlog : (shownN x ^^^ t.lead (rowF x)).log2 < 16 := (Nat.log2_lt ha1).mpr (xor_lt (k := 16) num low)
    have hds := T.depth_size t
    have hd60 : t.depth ≤ 60 := Nat.le_trans hds htz
    refine tellsN_use (c := putT) (d := (t, (shownN x ^^^ t.lead (rowF x)).log2, rowF x, shownN x)) (by k_asm) (by k_asm) (by k_asm) (by k_asm) (by k_asm) rfl ⟨_, _, _, _, rfl, ht.mono (fun _ h => in8 h)⟩ (put_says _ _ _ _ _) ⟨hto, hlog, rowF_len _⟩ (Nat.lt_of_le_of_lt (Nat.add_le_add_left (Nat.add_le_add_right hd60 2) _) (Nat.le_of_ble_eq_true rfl)) (Nat.lt_of_le_of_lt (Nat.add_le_add_left (Nat.mul_le_mul_left 8 (Nat.add_le_add_right hd60 2)) _) (Nat.le_of_ble_eq_true rfl)) ?_
    rintro r9 tl9 h9 tk9 F9 N9 ord9 - ho9
    dsimp only at ho9
    have hap9 : Off L (tl9 ++ rest) := Off.tl (cm := cm) (cr := cr) (ct := ct) (cd := cd) (cn := cn) (cw := cw) (co := co) (cp := cp) (fun x hx p hp => ord9 x (List.mem_append.mpr (.inl hx) : x ∈ cellsL L cm cr ct cd cn cw co cp ++ rest) p hp) hap
    have N8 : News h₀ L h9 (cellsL L cm cr ct cd cn cw co cp ++ (tl9 ++ rest)) := fun p hp => N9 p (mem_swap (c8 := cellsL L cm cr ct cd cn cw co cp) p hp)
    have ht9 := ho9.tuples (news' := tl9 ++ rest) (put_keep (L := L) dm dr dt dd dn dw do' dp')
    dsimp only [cellsL, List.cons_append, List.nil_append] at N8
    clear N9
    k_steps
    dsimp only
    refine done _ _ _ _ _ tl9 (by assumption) (by with_unfolding_all rfl) (by with_unfolding_all rfl) (by assumption) (by assumption) hap9 ?_ (fun q hq p hp => ord9 q (in8 hq) p hp)
    rw [growT, if_neg ha1]
    exact ht9
  · dsimp only
    have ha0 : ((shownN x ^^^ t.lead (rowF x) : Nat) : Int) = 0 := by assumption
    have ha1 : shownN x ^^^ t.lead (rowF x) = 0 := by omega
    refine done _ _ _ ct _ [] (by assumption) (by with_unfolding_all rfl) (by with_unfolding_all rfl) (by assumption) dt hap ?_ (fun _ _ _ h => nomatch h)
    rw [growT, if_pos ha1]
    exact ht
end Mine
namespace Mine
theorem Off.sub {L : Addr} {r r' : Led} (hs : ∀ p ∈ r', p ∈ r) (k : Off L r) : Off L r' :=
  ⟨fun p hp => k.o1 p (hs p hp), fun p hp => k.o2 p (hs p hp), fun p hp => k.o3 p (hs p hp), fun p hp => k.o4 p (hs p hp), fun p hp => k.o5 p (hs p hp), fun p hp => k.o6 p (hs p hp), fun p hp => k.o7 p (hs p hp), fun p hp => k.o8 p (hs p hp)⟩
theorem mem_own {own c8 r : Led} : ∀ p ∈ c8 ++ (own ++ r), p ∈ own ++ (c8 ++ r) := fun p hp => by
  simp only [List.mem_append] at hp ⊢
  rcases hp with h | h | h <;> simp [h]
theorem mem_drop {c8 tl' own tl tail : Led} : ∀ p ∈ c8 ++ ((tl' ++ tl) ++ tail), p ∈ c8 ++ (tl' ++ (own ++ (tl ++ tail))) := fun p hp => by
  simp only [List.mem_append] at hp ⊢
  rcases hp with h | (h | h) | h <;> simp [h]
theorem mem_drop2 {tl' own tl tail : Led} : ∀ p ∈ (tl' ++ tl) ++ tail, p ∈ tl' ++ (own ++ (tl ++ tail)) := fun p hp => by
  simp only [List.mem_append] at hp ⊢
  rcases hp with (h | h) | h <;> simp [h]
theorem iter_not_tup {o : Obj} (e : o.cls = .type "range_iterator") : ¬ ∃ vs k, o = tupO vs k := by
  rintro ⟨vs, j, h⟩
  rw [h] at e
  have := Value.type.inj e
  exact absurd this (by decide)
theorem drop_it {it : Addr} {oi : Obj} {tl' tl tail : Led} (e : oi.cls = .type "range_iterator") : ∀ p ∈ tl' ++ ([(it, oi)] ++ (tl ++ tail)), (∃ vs k, p.2 = tupO vs k) → p ∈ (tl' ++ tl) ++ tail := fun p hp ht => by
  simp only [List.mem_append, List.mem_singleton] at hp ⊢
  rcases hp with h | rfl | h | h
  · simp [h]
  · exact absurd ht (iter_not_tup e)
  · simp [h]
  · simp [h]
local macro_rules | `(tactic| walk_at "call builtin:len") => `(tactic| refine Halt.mk ?_)
set_option maxRecDepth 100000 in
set_option maxHeartbeats 8000000 in
theorem seg4 {w : World} {mean : ExcName → Option Value} {mg mb : Str → Option Value} {base h₀ : Heap} {L fa : Addr} {cdv : Value} {s : Shared} {m : Str → Option Value} {tail : Led} {Q : Flow → Shared → Prop} {E : Value → Shared → Prop}
    {sl ml fl rl : Addr} {mvs fvs rvs : List Value} {ms : List Nat} {mk fk rk : Nat} {vt : Value} {cm cr ct cd cn cw co cp : Obj} {v1 v2 v3 v4 v5 : Option Value}
    (B : Below callerA base [] h₀) (KX : (hd.heap_39 w.params).In h₀) (T0 : Top hd.view_39 (looseW hd.view_39 [Str.ofString "_filemode_table"]) mean mg mb h₀)
    (hE : PassesOwn (model PySem.Challenge.rw_tx0013_01.row.prog w) (lawA L fa cdv) (lawEnv L fa cdv) E)
    (F : Fr h₀ L s.heap m) (hp : m (Str.ofString "script") = some (.ref sl)) (hp2 : m (Str.ofString "found") = some (.ref fl))
    (N : News h₀ L s.heap (cellsL L cm cr ct cd cn cw co cp ++ tail)) (hap : Off L tail)
    (dm : cm.data = .cell (some (.ref ml))) (dr : cr.data = .cell (some (.ref rl))) (dt : ct.data = .cell (some vt)) (dd : cd.data = .cell v1) (dn : cn.data = .cell v2) (dw : cw.data = .cell v3) (do' : co.data = .cell v4) (dp' : cp.data = .cell v5)
    (hml : (ml, W.listOf mvs.toArray mk) ∈ tail) (hms : Each isN ms mvs) (hfl : (fl, W.listOf fvs.toArray fk) ∈ tail) (hfs : Each isN (ms.map shownN) fvs) (hrl : (rl, W.listOf rvs.toArray rk) ∈ tail) (hrs : Each isS (ms.map rowF) rvs) (ht : TreeIn tail vt (treeAt ms 0))
    (hm0 : 1 ≤ ms.length) (hm1 : ms.length ≤ 7) (p4 : Plain4 ms)
    (hq : ∀ h tk m' ct vt tl, Fr h₀ L h m' → m' (Str.ofString "script") = some (.ref sl) → m' (Str.ofString "found") = some (.ref fl) → News h₀ L h (cellsL L cm cr ct cd cn cw co cp ++ (tl ++ tail)) → ct.data = .cell (some vt) → Off L (tl ++ tail) →
      TreeIn (tl ++ tail) vt (treeAt ms (ms.length - 1)) → Q .next { s with heap := h, toks := tk }) :
    wpAny (model PySem.Challenge.rw_tx0013_01.row.prog w) (lawA L fa cdv) (exec for1 (lawEnv L fa cdv)) Q E s := by
  revert KX; k_fill; intro KX
  w_top off
  have F1 := fr_known (ps := [(Str.ofString "script", .ref sl), (Str.ofString "found", .ref fl)]) (by intro p hq; simp only [List.mem_cons, List.not_mem_nil, or_false] at hq; rcases hq with rfl | rfl <;> assumption) F
  clear F
  have hml2 := hms.length
  unfold lawA lawEnv lawScope PySem.Challenge.pw_tx0013_01 at hE
  unfold for1 lawBody PySem.Challenge.pw_tx0013_01
  unfold lawA lawEnv lawScope PySem.Challenge.pw_tx0013_01
  dsimp only [List.getElem?_cons_succ, List.getElem?_cons_zero, Option.getD_some] at hE ⊢
  refine m_for F1 ?_ (hE := hE)
  dsimp only [cellsL, List.cons_append, List.nil_append] at N
  k_steps
  refine Halt.out ?_
  refine len_led (by k_asm) (in8 hml) (by rw [List.size_toArray]; omega) ?_
  rw [List.size_toArray, hml2]
  dsimp only
  k_steps
  refine range_go (n := ms.length - 1) rfl (by assumption) (small_one (by decide) (by decide) (by omega) (by omega)) (by rw [rangeSize_nat]; omega) (by k_asm) (by k_asm)
    (fun i m' news' => m' (Str.ofString "script") = some (.ref sl) ∧ m' (Str.ofString "found") = some (.ref fl) ∧ ∃ ct vt tl, news' = cellsL L cm cr ct cd cn cw co cp ++ (tl ++ tail) ∧ ct.data = .cell (some vt) ∧ Off L (tl ++ tail) ∧ TreeIn (tl ++ tail) vt (treeAt ms i))
    ⟨by with_unfolding_all rfl, by with_unfolding_all rfl, ct, vt, [], rfl, dt, hap, ht⟩ ?turn ?done
  case turn =>
    rintro i tv m₁ news₁ h₁ tk₁ it oi hi hoi ⟨hsc, hfd, ct, vt, tl, rfl, dt, off, ht⟩ hap₁ F₁ N₁
    refine assign_local F₁ N₁ (by with_unfolding_all rfl) (by rfl) ?_
    intro h2 tk2 F2 N2
    have hil : i + 1 < ms.length := by omega
    obtain ⟨x, hx⟩ : ∃ x, ms[i + 1]? = some x := ⟨_, List.getElem?_eq_getElem hil⟩
    refine turn4 (ms := ms) (i := i) (x := x) (t := treeAt ms i) (rest := [(it, oi)] ++ (tl ++ tail)) (tki := tv) (sl := sl) (fl := fl) B KX T0 F2 (by simp) (by rw [← hsc]; with_unfolding_all rfl) (by rw [← hfd]; with_unfolding_all rfl) (fun p hp => N2 p (mem_own p hp)) (Off.own (q := []) (r' := tl ++ tail) hap₁ off)
      dm dr dt dd dn dw do' dp' (List.mem_append.mpr (.inr (List.mem_append.mpr (.inr hfl)))) hfs (List.mem_append.mpr (.inr (List.mem_append.mpr (.inr hrl)))) hrs (ht.mono fun _ h => List.mem_append.mpr (.inr h)) (p4.ok i (by omega)) (p4.size i (by omega)) hx hm1 (p4.low i _ (by omega)) (p4.num x) ?_
    intro h tk m' ct' vt' tl' F3 hsc' hfd' N3 dt' off' ht' hlt
    rw [← treeAt_succ hx] at ht'
    refine TurnEnd.go F3 N3 (fun p hp => List.mem_append.mpr (.inr (List.mem_append.mpr (.inr (List.mem_append.mpr (.inl hp)))))) (mem_drop (own := [(it, oi)])) ?_ ⟨hsc', hfd', ct', vt', tl' ++ tl, rfl, dt', off'.sub (mem_drop2 (own := [(it, oi)])), ht'.tuples (drop_it hoi)⟩
    have hap2 : Apart [(it, oi)] (cellsL L cm cr ct' cd cn cw co cp ++ (tl ++ tail)) := apart_new (q := []) hap₁
    intro p hp y hy
    rw [List.mem_singleton.mp hp]
    rcases List.mem_append.mp hy with hy | hy
    · exact hap2 _ (.head _) y (List.mem_append.mpr (.inl hy))
    · rw [List.append_assoc] at hy
      rcases List.mem_append.mp hy with hy | hy
      · exact Nat.ne_of_lt (hlt (it, oi) (.head _) y hy)
      · exact hap2 _ (.head _) y (List.mem_append.mpr (.inr hy))
  case done =>
    rintro h' tk' m' news' F' N' ⟨hsc, hfd, ct, vt, tl, rfl, dt, off, ht⟩
    k_steps
    exact hq _ _ _ ct vt tl F' hsc hfd N' dt off ht
end Mine
namespace Mine
theorem and_low (x : Nat) : x &&& 4095 = x % 4096 := Nat.and_two_pow_sub_one_eq_mod x 12
theorem and_all (x : Nat) : x &&& 65535 = x % 65536 := Nat.and_two_pow_sub_one_eq_mod x 16
theorem and_top (x : Nat) : x &&& 61440 = 4096 * (x / 4096 % 16) := by
  have h1 : (x &&& 61440) ^^^ (x &&& 4095) = x &&& 65535 := by
    rw [← Nat.and_xor_distrib_left]; rfl
  have h2 : (x &&& 61440) &&& (x &&& 4095) = 0 := by
    rw [show (x &&& 61440) &&& (x &&& 4095) = x &&& (61440 &&& 4095) by
      apply Nat.eq_of_testBit_eq; intro i; simp only [Nat.testBit_and]; cases x.testBit i <;> simp]
    rw [show 61440 &&& 4095 = 0 from rfl, Nat.and_zero]
  have h3 := xor_and_add (x &&& 61440) (x &&& 4095)
  rw [h1, h2, and_all, and_low] at h3
  omega
theorem item_row (x : Nat) : Txt.item (rowF x) 0 = ⟨#[charF x 0]⟩ := by rfl
theorem char_top (x : Nat) : charF x 0 = pickF x 0 [(40960, 108), (49152, 115), (32768, 45), (24576, 98), (16384, 100), (8192, 99), (4096, 112)] := rfl
theorem char_q (x : Nat) : charF x 0 = pickF (4096 * (x / 4096 % 16)) 0 [(40960, 108), (49152, 115), (32768, 45), (24576, 98), (16384, 100), (8192, 99), (4096, 112)] := by
  rw [char_top]
  have e : Builtin.bitAnd (x : Int) 61440 = Builtin.bitAnd ((4096 * (x / 4096 % 16) : Nat) : Int) 61440 := by
    rw [show (61440 : Int) = ((61440 : Nat) : Int) from rfl, andN, andN, and_top, and_top]
    omega
  simp only [pickF, hitF, e, if_true]
theorem top_cases (q : Nat) (h : q < 16) : (pickF (4096 * q) 0 [(40960, 108), (49152, 115), (32768, 45), (24576, 98), (16384, 100), (8192, 99), (4096, 112)] == 63) = !([1, 2, 4, 6, 8, 10, 12].contains q) := by
  have : ∀ q : Fin 16, (pickF (4096 * q.val) 0 [(40960, 108), (49152, 115), (32768, 45), (24576, 98), (16384, 100), (8192, 99), (4096, 112)] == 63) = !([1, 2, 4, 6, 8, 10, 12].contains q.val) := by decide +kernel
  exact this ⟨q, h⟩
theorem quest (x : Nat) : (Txt.item (rowF x) 0 == Str.ofString "?") = !([1, 2, 4, 6, 8, 10, 12].contains (x / 4096 % 16)) := by
  rw [item_row, char_q, ← top_cases _ (Nat.mod_lt _ (by decide))]
  generalize pickF _ _ _ = c
  rw [show Str.ofString "?" = (⟨#[63]⟩ : Str) from by rfl]
  cases h : (c == 63) with
  | true => rw [beq_iff_eq.mp h]; exact beq_self_eq_true _
  | false =>
    refine beq_eq_false_iff_ne.mpr fun e => beq_eq_false_iff_ne.mp h ?_
    have := congrArg PySem.Str.cps e
    simpa using this
theorem shown_of {x : Nat} : shownN x = if [1, 2, 4, 6, 8, 10, 12].contains (x / 4096 % 16) = true then x % 65536 else x % 4096 := by
  unfold shownN
  rw [show x % 65536 / 4096 = x / 4096 % 16 by omega, show x % 65536 % 4096 = x % 4096 by omega]
  simp only [List.contains_iff_mem]
theorem unk_val {x : Nat} (h : (Txt.item (rowF x) 0 == Str.ofString "?") = true) : Builtin.bitAnd (x : Int) 4095 + 0 = (shownN x : Int) := by
  rw [quest] at h
  rw [shown_of, if_neg (by simpa using h), show (4095 : Int) = ((4095 : Nat) : Int) from rfl, andN, and_low]; omega
theorem known_val {x : Nat} (h : (Txt.item (rowF x) 0 == Str.ofString "?") = false) : Builtin.bitAnd (x : Int) 4095 + Builtin.bitAnd (x : Int) 61440 = (shownN x : Int) := by
  rw [quest, Bool.not_eq_false'] at h
  rw [shown_of, if_pos h, show (4095 : Int) = ((4095 : Nat) : Int) from rfl, show (61440 : Int) = ((61440 : Nat) : Int) from rfl, andN, andN, and_low, and_top]
  omega
end Mine
namespace Mine
theorem Each.ofI : ∀ {zs : List Int} {vs : List Value}, IntsAre vs zs → Each isI zs vs
  | _, _, .nil => .nil
  | _, _, .cons _ t r => .cons ⟨t, rfl⟩ (Each.ofI r)
theorem mod18 (z : Int) : z.fmod 262144 = (((z % 262144).toNat : Nat) : Int) := by
  rw [Int.fmod_eq_emod_of_nonneg _ (by decide)]
  have := Int.emod_nonneg z (show (262144 : Int) ≠ 0 by decide)
  omega
/-- the modes that the law takes -/
def modesOf (zs : List Int) : List Nat := [35309, 33188, 17865, 12781] ++ (zs.take 3).map fun z => (z % 262144).toNat
theorem modesOf_ints (zs : List Int) : [35309, 33188, 17865, 12781] ++ ((zs.take 3).map fun z => (z % 262144).toNat).map Int.ofNat = (modesOf zs).map Int.ofNat := by
  unfold modesOf; rw [List.map_append]; rfl
theorem modesOf_len (zs : List Int) : 4 ≤ (modesOf zs).length ∧ (modesOf zs).length ≤ 7 := by
  unfold modesOf
  rw [List.length_append, List.length_map]
  have := List.length_take_le 3 zs
  simp only [List.length_cons, List.length_nil]
  omega
theorem modesOf_lt (zs : List Int) : ∀ x ∈ modesOf zs, x < 2 ^ 18 := by
  intro x hx
  unfold modesOf at hx
  rcases List.mem_append.mp hx with hx | hx
  · simp only [List.mem_cons, List.not_mem_nil, or_false] at hx
    rcases hx with rfl | rfl | rfl | rfl <;> decide
  · obtain ⟨z, _, rfl⟩ := List.mem_map.mp hx
    have := Int.emod_lt_of_pos z (show (0 : Int) < 262144 by decide)
    have := Int.emod_nonneg z (show (262144 : Int) ≠ 0 by decide)
    omega
end Mine
namespace Mine
theorem news_first {h₀ h : Heap} {L : Addr} {m x d l a b c e f g i j : Addr × Obj} (N : News h₀ L h [m, x, d, l, a, b, c, e, f, g, i, j]) : News h₀ L h [a, b, c, e, f, g, i, j, m] := fun p hp => N p (by
  simp only [List.mem_cons, List.not_mem_nil, or_false] at hp ⊢
  rcases hp with h | h | h | h | h | h | h | h | h <;> simp [h])
end Mine
namespace Mine
theorem at_nat {β : Type} {W : β → Value → Prop} {xs : List β} {vs : List Value} {j : Nat} {x : β} (h : Each W xs vs) (hx : xs[j]? = some x) : ∃ v, vs.toArray[((j : Nat) : Int).toNat]? = some v ∧ W x v := by
  obtain ⟨v, hv, hw⟩ := h.get hx
  exact ⟨v, by rw [Int.toNat_natCast]; simpa using hv, hw⟩
end Mine
namespace Mine
theorem range_getD {β : Type} (f : Nat → β) (l : List Nat) : (List.range l.length).map (fun j => f (l.getD j 0)) = l.map f := by
  apply List.ext_getElem?
  intro i
  rw [List.getElem?_map, List.getElem?_map]
  by_cases h : i < l.length
  · rw [List.getElem?_range h, List.getElem?_eq_getElem h]
    simp [List.getD_eq_getElem?_getD, List.getElem?_eq_getElem h]
  · rw [List.getElem?_eq_none (by simpa using h), List.getElem?_eq_none (by simpa using h)]; rfl
theorem getD_of {l : List Nat} {j x : Nat} (h : l[j]? = some x) : l.getD j 0 = x := by
  rw [List.getD_eq_getElem?_getD, h]; rfl
end Mine
namespace Mine
theorem news_tree {h₀ h : Heap} {L : Addr} {m x d l a b c e f g i j : Addr × Obj} (N : News h₀ L h [m, x, d, a, b, c, e, f, g, i, j, l]) : News h₀ L h ([a, b, c, e, f, g, i, j] ++ [m, x, d, l]) := fun p hp => N p (by
  simp only [List.mem_append, List.mem_cons, List.not_mem_nil, or_false] at hp ⊢
  rcases hp with (h | h | h | h | h | h | h | h) | h | h | h | h <;> simp [h])
end Mine
namespace Mine
local macro_rules | `(tactic| walk_at "ite") => `(tactic| (k_dflt (first | refine PySem.W.ite_neg (by decide) ?_ | refine PySem.W.ite_pos (by decide) ?_)))
local macro_rules | `(tactic| walk_at "m room") => `(tactic| first | exact Nat.le_of_ble_eq_true rfl | omega | (dsimp only; omega) | decide)
local macro_rules | `(tactic| walk_at "call builtin:len") => `(tactic| refine Halt.mk ?_)
local macro_rules | `(tactic| walk_at "subscriptTail") => `(tactic| ((with_reducible show wpAny _ _ (PySem.subscriptTail _ _ (Value.ref _) (Value.int _ _)) _ _ _); refine Halt.mk ?_))
local macro_rules | `(tactic| walk_at "subscriptTail Name Name ref int") => `(tactic| refine Halt.mk ?_)
local macro_rules | `(tactic| walk_at "call ref") => `(tactic| ((with_reducible show wpAny _ _ (PySem.call (Value.ref 82) _) _ _ _); k_dflt (refine pure_use (file_says _ _ _ _ _) (by k_asm) (by k_asm) (by k_asm) (by k_asm) (by k_asm) rfl ⟨_, rfl⟩ trivial (by walk_at "m room") (by walk_at "m room") ?_; rintro _ h9 tk9 F9 N9 ⟨t9, e9⟩; subst e9)))
local macro_rules | `(tactic| walk_at "call ref") => `(tactic| ((with_reducible show wpAny _ _ (PySem.call (Value.ref 35) _) _ _ _); k_dflt (refine pure_use (imode_says _ _ _ _ _) (by k_asm) (by k_asm) (by k_asm) (by k_asm) (by k_asm) rfl ⟨_, rfl⟩ trivial (by walk_at "m room") (by walk_at "m room") ?_; rintro _ h9 tk9 F9 N9 ⟨t9, e9⟩; subst e9)))
local macro_rules | `(tactic| walk_at "call ref") => `(tactic| ((with_reducible show wpAny _ _ (PySem.call (Value.ref 42) _) _ _ _); k_dflt (refine pure_use (ifmt_says _ _ _ _ _) (by k_asm) (by k_asm) (by k_asm) (by k_asm) (by k_asm) rfl ⟨_, rfl⟩ trivial (by walk_at "m room") (by walk_at "m room") ?_; rintro _ h9 tk9 F9 N9 ⟨t9, e9⟩; subst e9)))
local macro_rules | `(tactic| k_all) => `(tactic| first | exact Off.o1 (by assumption) | exact Off.o2 (by assumption) | exact Off.o3 (by assumption) | exact Off.o4 (by assumption) | exact Off.o5 (by assumption) | exact Off.o6 (by assumption) | exact Off.o7 (by assumption) | exact Off.o8 (by assumption))
local macro_rules | `(tactic| walk_at "eval ListComp") => `(tactic| refine Halt.mk ?_)
local macro_rules | `(tactic| walk_at "exec Assign cons ListComp") => `(tactic| ((with_reducible show wpAny _ _ (PySem.exec (Stmt.Assign [Expr.Name (Str.ofString "found") _] _ _) _) _ _ _); refine Halt.mk ?_))
local macro_rules | `(tactic| walk_at "CompSrc") => `(tactic| refine Halt.mk ?_)
local macro_rules | `(tactic| walk_at "ElEnd") => `(tactic| refine Halt.mk ?_)
local macro_rules | `(tactic| walk_at "exec For") => `(tactic| refine Halt.mk ?_)
local macro_rules | `(tactic| walk_at "exec For Name Call cons nil") => `(tactic| refine Halt.mk ?_)
set_option maxRecDepth 100000 in
set_option maxHeartbeats 8000000 in
theorem seg0 {w : World} {mean : ExcName → Option Value} {mg mb : Str → Option Value} {base h₀ : Heap} {L fa : Addr} {cdv : Value} {s : Shared} {m : Str → Option Value} {Q : Flow → Shared → Prop} {E : Value → Shared → Prop}
    {sl : Addr} {vs : List Value} {zs : List Int} {cm cr ct cd cn cw co cp : Obj} {v1 v2 v3 v4 v5 v6 v7 v8 : Option Value}
    (B : Below callerA base [] h₀) (KX : (hd.heap_39 w.params).In h₀) (T0 : Top hd.view_39 (looseW hd.view_39 [Str.ofString "_filemode_table"]) mean mg mb h₀)
    (hE : PassesOwn (model PySem.Challenge.rw_tx0013_01.row.prog w) (lawA L fa cdv) (lawEnv L fa cdv) E)
    (hL : h₀.IsList sl vs.toArray) (hI : IntsAre vs zs) (hn : zs.length ≤ 63)
    (F : Fr h₀ L s.heap m) (hp : m (Str.ofString "script") = some (.ref sl))
    (N : News h₀ L s.heap (cellsL L cm cr ct cd cn cw co cp))
    (dm : cm.data = .cell v6) (dr : cr.data = .cell v7) (dt : ct.data = .cell v8) (dd : cd.data = .cell v1) (dn : cn.data = .cell v2) (dw : cw.data = .cell v3) (do' : co.data = .cell v4) (dp' : cp.data = .cell v5)
    (p4 : Plain4 (modesOf zs)) (p5 : Plain5 (treeAt (modesOf zs) ((modesOf zs).length - 1)) (modesOf zs)) (p8 : ∀ md, md < 2 ^ 18 → Plain8 (treeAt (modesOf zs) ((modesOf zs).length - 1)) ((modesOf zs).map shownN) md)
    (hq : ∀ h tk m', Fr h₀ L h m' → Q (.ret (.bool true)) { s with heap := h, toks := tk }) :
    wpAny (model PySem.Challenge.rw_tx0013_01.row.prog w) (lawA L fa cdv) (execs lawBody (lawEnv L fa cdv)) Q E s := by
  revert KX; k_fill; intro KX
  w_top off
  have F1 := fr_known (ps := [(Str.ofString "script", .ref sl)]) (by intro p hq; rw [List.mem_singleton.mp hq]; exact hp) F
  clear F
  dsimp only [cellsL] at N
  unfold lawBody PySem.Challenge.pw_tx0013_01
  unfold lawA lawEnv lawScope PySem.Challenge.pw_tx0013_01
  dsimp only [List.getElem?_cons_succ, List.getElem?_cons_zero]
  k_steps
  refine Halt.out ?_
  refine LCg.ListComp_U (F₀ := by k_asm) (by with_unfolding_all rfl) (by decide) (by rfl) (by decide) (by rfl) ?_
  k_steps
  refine Halt.out ?_
  rename (IntsAre _ (List.take 3 zs)) => hI3
  have hl3 := hI3.length
  have hz3 : (List.take 3 zs).length ≤ 3 := List.length_take_le 3 zs
  refine LCg.CompSrc.ledger rfl (by k_asm) (by k_asm) (.head _) (by rw [List.size_toArray, sizeLine_eq, hl3]; omega) ?_
  intro g9
  refine rest_each (items := zs.take 3) (V := isI) (W := isN) (fun z => (z % 262144).toNat) (by rw [List.size_toArray, hl3]) (fun i v _ h => (Each.ofI hI3).at (by simpa using h)) (.inr ⟨_, .head _, rfl, _, rfl⟩) ?_ ?_
  · rintro i z v I oI C oC D ys m₂ h tk E' hi ⟨tv, rfl⟩ hC hx F N off ne
    k_unmd
    (try k_fold)
    k_steps
    refine Halt.out ?_
    refine ElEnd.go (by k_asm) (by k_asm) (fun _ h => h) ⟨_, congrArg (fun i => Value.int i _) (mod18 z)⟩
  intro xvs hxs Dx h tk F N off
  have hxI := hxs.ints
  simp only [LCg.Off1] at off
  dsimp only
  k_unmd
  (try k_fold)
  k_steps
  rename_i ml mvs hh9 hmI lm hh8 cm2 Fm Nm dm2
  have hms : Each isN (modesOf zs) mvs := Each.ofInts (by rw [← modesOf_ints]; exact hmI)
  have hlen := modesOf_len zs
  have hml2 := hms.length
  have N2 := news_first Nm
  have hap1 : Off L [(ml, W.listOf mvs.toArray 0)] := Off.cons lm.2.2.2.1 Off.nil
  clear Nm off hxI hxs lm
  refine Halt.out ?_
  refine LCg.ListComp_U (F₀ := by k_asm) (by with_unfolding_all rfl) (by decide) (by rfl) (by decide) (by rfl) ?_
  k_steps
  refine Halt.out ?_
  refine LCg.CompSrc.ledger rfl (by k_asm) (by k_asm) (in8 (.head _)) (by rw [List.size_toArray, sizeLine_eq]; omega) ?_
  intro g9
  refine rest_each (items := modesOf zs) (V := isN) (W := isS) rowF (by rw [List.size_toArray, hml2]) (fun i v _ h => hms.at (by simpa using h)) (.inr ⟨_, in8 (.head _), rfl, _, rfl⟩) ?_ ?_
  · rintro i n v I oI C oC D ys m₂ h tk E' hi ⟨tv, rfl⟩ hC hx F N off ne
    k_unmd
    (try k_fold)
    k_steps
    refine Halt.out ?_
    exact ElEnd.go (by k_asm) (by k_asm) (fun _ h => h) ⟨_, rfl⟩
  intro rvs hrs rl h tk F N off
  have hap2 : Off L [(rl, LCg.lst rvs), (ml, W.listOf mvs.toArray 0)] := Off.ofD (q := [(ml, W.listOf mvs.toArray 0)]) off hap1
  simp only [LCg.Off1] at off
  dsimp only
  k_unmd
  (try k_fold)
  k_steps
  refine Halt.out ?_
  refine LCg.Assign_ListComp_U (F₀ := by k_asm) (by rfl) (by with_unfolding_all rfl) (by with_unfolding_all rfl) (by decide) (by rfl) (by decide) (by rfl) (by rfl) (by rfl) ?_
  k_steps
  refine Halt.out ?_
  have hrs2 := hrs.length
  rw [List.length_map] at hrs2
  refine len_led (by k_asm) (.tail _ (in8 (.head _))) (by rw [List.size_toArray]; omega) ?_
  rw [List.size_toArray, hml2]
  dsimp only
  k_steps
  refine Halt.out ?_
  refine LCg.CompSrc.range (n := (modesOf zs).length) rfl (by k_asm) (by k_asm) (by assumption) (small_one (by decide) (by decide) (by omega) (by omega)) (by rw [rangeSize_nat]; omega) (by rw [sizeLine_eq]; omega) ?_
  intro g9
  refine rest_each (items := List.range (modesOf zs).length) (V := isN) (W := isN) (fun j => shownN ((modesOf zs).getD j 0)) (by rw [List.length_range]) (fun i v hi e => range_val hi e) trivial ?_ ?_
  · rintro i j v I oI C oC D ys m₂ h tk E' hi ⟨tv, rfl⟩ hC hx F N off ne
    have hj := range_lt hi
    obtain ⟨x, hx9⟩ : ∃ x, (modesOf zs)[j]? = some x := ⟨_, List.getElem?_eq_getElem hj⟩
    k_unmd
    (try k_fold)
    obtain ⟨_, hxv, tx, rfl⟩ := at_nat hms hx9
    obtain ⟨_, hrv, tr, rfl⟩ := at_nat hrs (show ((modesOf zs).map rowF)[j]? = some (rowF x) by rw [List.getElem?_map, hx9]; rfl)
    k_steps
    refine Halt.out ?_
    refine item_led (by k_asm) (.tail _ (.tail _ (.tail _ (.tail _ (in8 (.head _)))))) (by omega) (by omega) hxv ?_
    k_steps
    refine Halt.out ?_
    refine item_led (by k_asm) (.tail _ (.tail _ (.tail _ (.head _)))) (by omega) (by omega) hrv ?_
    have hr10 := rowF_len x
    dsimp only
    k_steps
    · refine Halt.out ?_
      exact ElEnd.go (by k_asm) (by k_asm) (fun _ h => h) (by rw [getD_of hx9]; exact ⟨_, congrArg (fun i => Value.int i _) (unk_val (by assumption))⟩)
    · refine Halt.out ?_
      refine item_led (by k_asm) (.tail _ (.tail _ (.tail _ (.tail _ (in8 (.head _)))))) (by omega) (by omega) hxv ?_
      k_steps
      refine Halt.out ?_
      exact ElEnd.go (by k_asm) (by k_asm) (fun _ h => h) (by rw [getD_of hx9]; exact ⟨_, congrArg (fun i => Value.int i _) (known_val (by first | assumption | simp_all))⟩)
  intro fvs hfs fl h tk F N off3
  rw [range_getD] at hfs
  have hap3 : Off L [(fl, LCg.lst fvs), (rl, LCg.lst rvs), (ml, W.listOf mvs.toArray 0)] := Off.ofD (q := [(ml, W.listOf mvs.toArray 0)]) (off3.2) hap2
  simp only [LCg.Off1] at off3
  dsimp only
  k_unmd
  (try k_fold)
  k_steps
  obtain ⟨x0, hx0⟩ : ∃ x, (modesOf zs)[0]? = some x := ⟨_, List.getElem?_eq_getElem (by omega)⟩
  obtain ⟨_, hfv, tf, rfl⟩ := at_nat hfs (show ((modesOf zs).map shownN)[0]? = some (shownN x0) by rw [List.getElem?_map, hx0]; rfl)
  refine item_led (by k_asm) (.head _) (by omega) (by omega) (by simpa using hfv) ?_
  dsimp only
  k_steps
  rename_i Dt hh7 lt7 hh6 ct2 F7 N7 dt2
  have hapT : Off L [(Dt, tupO [.int ((shownN x0 : Nat) : Int) tf] 0), (fl, LCg.lst fvs), (rl, LCg.lst rvs), (ml, W.listOf mvs.toArray 0)] := Off.cons lt7.2.2.1 hap3
  refine Halt.out ?_
  refine seg4 (ms := modesOf zs) (sl := sl) (fl := fl) (tail := [(Dt, tupO [.int ((shownN x0 : Nat) : Int) tf] 0), (fl, LCg.lst fvs), (rl, LCg.lst rvs), (ml, W.listOf mvs.toArray 0)]) B KX T0 hE F7 (by with_unfolding_all rfl) (by with_unfolding_all rfl) (news_tree N7) hapT
    (by assumption) (by assumption) dt2 dd dn dw do' dp' (.tail _ (.tail _ (.tail _ (.head _)))) hms (.tail _ (.head _)) hfs (.tail _ (.tail _ (.head _))) hrs ?tree (by omega) hlen.2 p4 ?_
  case tree =>
    rw [treeAt_zero, getD_of hx0]
    exact .leaf (.head _)
  intro h tk m' ct vt tl F' hsc hfd N' dt' off' ht'
  dsimp only
  refine seg5 (ms := modesOf zs) (sl := sl) (fl := fl) (tail := tl ++ [(Dt, tupO [.int ((shownN x0 : Nat) : Int) tf] 0), (fl, LCg.lst fvs), (rl, LCg.lst rvs), (ml, W.listOf mvs.toArray 0)]) B KX T0 hE hL hI hn F' hsc hfd N' off'
    (by assumption) (by assumption) dt' dd dn dw do' dp' (List.mem_append.mpr (.inr (.tail _ (.tail _ (.tail _ (.head _)))))) hms (List.mem_append.mpr (.inr (.tail _ (.head _)))) hfs (List.mem_append.mpr (.inr (.tail _ (.tail _ (.head _))))) hrs ht' (p4.ok _ (by omega)) (p4.size _ (by omega)) (List.ne_nil_of_length_pos (by omega)) hlen.2 (modesOf_lt zs) p5 p8 ?_
  intro h tk m' F'
  exact hq _ _ _ F'
end Mine
namespace Mine
theorem and_two (m j k : Nat) : (m &&& (2 ^ j ||| 2 ^ k) == (2 ^ j ||| 2 ^ k)) = (m.testBit j && m.testBit k) := by
  have key : (m &&& (2 ^ j ||| 2 ^ k) = (2 ^ j ||| 2 ^ k)) ↔ (m.testBit j = true ∧ m.testBit k = true) := by
    constructor
    · intro h
      have h1 := congrArg (fun x => x.testBit j) h
      have h2 := congrArg (fun x => x.testBit k) h
      simp [Nat.testBit_and, Nat.testBit_or, Nat.testBit_two_pow] at h1 h2
      exact ⟨h1, h2⟩
    · rintro ⟨h1, h2⟩
      apply Nat.eq_of_testBit_eq
      intro i
      rw [Nat.testBit_and, Nat.testBit_or, Nat.testBit_two_pow, Nat.testBit_two_pow]
      by_cases e1 : j = i
      · subst e1; simp [h1]
      · by_cases e2 : k = i
        · subst e2; simp [h2]
        · simp [e1, e2]
  cases h : (m &&& (2 ^ j ||| 2 ^ k) == (2 ^ j ||| 2 ^ k)) with
  | true =>
    have := key.mp (beq_iff_eq.mp h)
    rw [this.1, this.2]; rfl
  | false =>
    have := beq_eq_false_iff_ne.mp h
    cases h1 : m.testBit j <;> cases h2 : m.testBit k <;> simp_all
theorem hit_two {m i : Nat} (j k : Nat) (hi : i ≠ 0) : hitF m i ((2 ^ j ||| 2 ^ k : Nat) : Int) = (m.testBit j && m.testBit k) := by
  unfold hitF
  rw [if_neg hi, andN, pair_beq, and_two]
theorem hit_one {m i : Nat} (k : Nat) (hi : i ≠ 0) : hitF m i ((2 ^ k : Nat) : Int) = m.testBit k := by
  have := hit_two (m := m) (i := i) k k hi
  rw [Nat.or_self, Bool.and_self] at this
  exact this
theorem char_one {m i : Nat} (k c : Nat) (hi : i ≠ 0) (e : tabD.getD i [] = [(((2 ^ k : Nat) : Int), c)]) : charF m i = if m.testBit k then c else 45 := by
  unfold charF
  rw [e]
  simp only [pickF]
  rw [hit_one k hi, if_neg hi]
theorem char_three {m i : Nat} (j k c d e' : Nat) (hi : i ≠ 0) (e : tabD.getD i [] = [(((2 ^ j ||| 2 ^ k : Nat) : Int), c), (((2 ^ j : Nat) : Int), d), (((2 ^ k : Nat) : Int), e')]) :
    charF m i = if (m.testBit j && m.testBit k) then c else if m.testBit j then d else if m.testBit k then e' else 45 := by
  unfold charF
  rw [e]
  simp only [pickF]
  rw [hit_two j k hi, hit_one j hi, hit_one k hi, if_neg hi]
theorem item_at (m i : Nat) (h : i < 10) : Txt.item (rowF m) (i : Int) = ⟨#[charF m i]⟩ := by
  have : i = 0 ∨ i = 1 ∨ i = 2 ∨ i = 3 ∨ i = 4 ∨ i = 5 ∨ i = 6 ∨ i = 7 ∨ i = 8 ∨ i = 9 := by omega
  rcases this with rfl | rfl | rfl | rfl | rfl | rfl | rfl | rfl | rfl | rfl <;> rfl
def lowIn (c : Nat) : Bool := !(Builtin.Str.occurrences (Str.ofString "rwxst") ⟨#[c]⟩ 0 (Str.ofString "rwxst").length 1).isEmpty
def midIn (c : Nat) : Bool := !(Builtin.Str.occurrences (Str.ofString "sStT") ⟨#[c]⟩ 0 (Str.ofString "sStT").length 1).isEmpty
def topAt (c : Nat) : Int := Txt.find (Str.ofString "?pc?d?b?-?l?s") ⟨#[c]⟩
theorem low_all : lowIn 114 = true ∧ lowIn 119 = true ∧ lowIn 120 = true ∧ lowIn 115 = true ∧ lowIn 116 = true ∧ lowIn 45 = false ∧ lowIn 83 = false ∧ lowIn 84 = false := by decide +kernel
theorem mid_all : midIn 120 = false ∧ midIn 115 = true ∧ midIn 116 = true ∧ midIn 45 = false ∧ midIn 83 = true ∧ midIn 84 = true := by decide +kernel
theorem setF_low (m p : Nat) (h : p ≤ 8) : setF (rowF m) p = lowIn (charF m (9 - p)) := by
  unfold setF lowIn
  rw [if_neg (by omega), if_neg (by omega), show (9 : Int) - (p : Int) = ((9 - p : Nat) : Int) by omega, item_at m (9 - p) (by omega)]
theorem setF_mid (m p : Nat) (h : 8 < p) (h2 : p ≤ 11) : setF (rowF m) p = midIn (charF m (36 - 3 * p)) := by
  unfold setF midIn
  rw [if_neg (by omega), if_pos (by omega), show (36 : Int) - 3 * (p : Int) = ((36 - 3 * p : Nat) : Int) by omega, item_at m (36 - 3 * p) (by omega)]
theorem set_low (m p : Nat) (h : p ≤ 11) : setF (rowF m) p = m.testBit p := by
  have la := low_all
  have ma := mid_all
  have : p = 0 ∨ p = 1 ∨ p = 2 ∨ p = 3 ∨ p = 4 ∨ p = 5 ∨ p = 6 ∨ p = 7 ∨ p = 8 ∨ p = 9 ∨ p = 10 ∨ p = 11 := by omega
  rcases this with rfl | rfl | rfl | rfl | rfl | rfl | rfl | rfl | rfl | rfl | rfl | rfl
  · rw [setF_low m 0 (by decide), char_three 9 0 116 84 120 (by decide) rfl]
    cases m.testBit 9 <;> cases m.testBit 0 <;> simp [la]
  · rw [setF_low m 1 (by decide), char_one 1 119 (by decide) rfl]
    cases m.testBit 1 <;> simp [la]
  · rw [setF_low m 2 (by decide), char_one 2 114 (by decide) rfl]
    cases m.testBit 2 <;> simp [la]
  · rw [setF_low m 3 (by decide), char_three 10 3 115 83 120 (by decide) rfl]
    cases m.testBit 10 <;> cases m.testBit 3 <;> simp [la]
  · rw [setF_low m 4 (by decide), char_one 4 119 (by decide) rfl]
    cases m.testBit 4 <;> simp [la]
  · rw [setF_low m 5 (by decide), char_one 5 114 (by decide) rfl]
    cases m.testBit 5 <;> simp [la]
  · rw [setF_low m 6 (by decide), char_three 11 6 115 83 120 (by decide) rfl]
    cases m.testBit 11 <;> cases m.testBit 6 <;> simp [la]
  · rw [setF_low m 7 (by decide), char_one 7 119 (by decide) rfl]
    cases m.testBit 7 <;> simp [la]
  · rw [setF_low m 8 (by decide), char_one 8 114 (by decide) rfl]
    cases m.testBit 8 <;> simp [la]
  · rw [setF_mid m 9 (by decide) (by decide), char_three 9 0 116 84 120 (by decide) rfl]
    cases m.testBit 9 <;> cases m.testBit 0 <;> simp [ma]
  · rw [setF_mid m 10 (by decide) (by decide), char_three 10 3 115 83 120 (by decide) rfl]
    cases m.testBit 10 <;> cases m.testBit 3 <;> simp [ma]
  · rw [setF_mid m 11 (by decide) (by decide), char_three 11 6 115 83 120 (by decide) rfl]
    cases m.testBit 11 <;> cases m.testBit 6 <;> simp [ma]
theorem top_digit : ∀ q : Fin 16, ∀ k : Fin 4, (((topAt (pickF (4096 * q.val) 0 [(40960, 108), (49152, 115), (32768, 45), (24576, 98), (16384, 100), (8192, 99), (4096, 112)])).fdiv (2 ^ k.val)).fmod 2 == 1) = (if [1, 2, 4, 6, 8, 10, 12].contains q.val then q.val else 0).testBit k.val := by decide +kernel
theorem set_top (m p : Nat) (h : 12 ≤ p) (h2 : p < 16) : setF (rowF m) p = (if [1, 2, 4, 6, 8, 10, 12].contains (m / 4096 % 16) then m / 4096 % 16 else 0).testBit (p - 12) := by
  have e := top_digit ⟨m / 4096 % 16, Nat.mod_lt _ (by decide)⟩ ⟨p - 12, by omega⟩
  dsimp only at e
  rw [← char_q] at e
  rw [← e]
  unfold setF topAt
  rw [if_pos (by omega), show (0 : Int) = ((0 : Nat) : Int) from rfl, item_at m 0 (by decide)]
theorem shown_low (m p : Nat) (h : p ≤ 11) : (shownN m).testBit p = m.testBit p := by
  rw [shown_of]
  have e1 : m % 65536 = m % 2 ^ 16 := rfl
  have e2 : m % 4096 = m % 2 ^ 12 := rfl
  split
  · rw [e1, Nat.testBit_mod_two_pow]; simp; omega
  · rw [e2, Nat.testBit_mod_two_pow]; simp; omega
theorem shown_top (m p : Nat) (h : 12 ≤ p) : (shownN m).testBit p = (if [1, 2, 4, 6, 8, 10, 12].contains (m / 4096 % 16) then m / 4096 % 16 else 0).testBit (p - 12) := by
  have e : (if [1, 2, 4, 6, 8, 10, 12].contains (m / 4096 % 16) then m / 4096 % 16 else 0) = shownN m / 2 ^ 12 := by
    rw [shown_of]
    split
    · omega
    · omega
  rw [e, Nat.testBit_div_two_pow]
  congr 1; omega
/-- a row tells the shown number's digits -/
theorem set_row (m p : Nat) (h : p < 16) : setF (rowF m) p = (shownN m).testBit p := by
  by_cases hp : p ≤ 11
  · rw [set_low m p hp, shown_low m p hp]
  · rw [set_top m p (by omega) h, shown_top m p (by omega)]
theorem shown_lt (m : Nat) : shownN m < 65536 := by
  rw [shown_of]; split <;> omega
theorem shown_shown (m : Nat) : shownN (shownN m) = shownN m := by
  rw [shown_of (x := m)]
  split
  · rename_i h
    rw [shown_of, if_pos (by rw [show m % 65536 / 4096 % 16 = m / 4096 % 16 by omega]; exact h)]; omega
  · rw [shown_of, if_neg (by rw [show m % 4096 / 4096 % 16 = 0 by omega]; decide)]; omega
end Mine
namespace Mine
def bits (x : Nat) : Nat := if x = 0 then 0 else x.log2 + 1
theorem bits_half {x : Nat} (h : x ≠ 0) : bits x = bits (x / 2) + 1 := by
  unfold bits
  rw [if_neg h]
  by_cases h2 : 2 ≤ x
  · rw [if_neg (by omega), Nat.log2_def, if_pos h2]
  · have : x = 1 := by omega
    subst this; rfl
theorem xor_zero {a b : Nat} : a ^^^ b = 0 ↔ a = b := by
  constructor
  · intro h
    apply Nat.eq_of_testBit_eq
    intro i
    have := congrArg (fun x => x.testBit i) h
    simp only [Nat.testBit_xor, Nat.zero_testBit] at this
    cases h1 : a.testBit i <;> cases h2 : b.testBit i <;> simp_all
  · rintro rfl; exact Nat.xor_self a
theorem meet_bits_xor (a b : Nat) : meet a b = bits (a ^^^ b) := by
  induction a, b using meet.induct with
  | case1 a => rw [meet_eq, Nat.xor_self]; rfl
  | case2 a b h ih => rw [meet_ne h, ih, bits_half (fun e => h (xor_zero.mp e)), Nat.xor_div_two]
theorem meet_spec (a b : Nat) : a / 2 ^ meet a b = b / 2 ^ meet a b := by
  induction a, b using meet.induct with
  | case1 a => rfl
  | case2 a b h ih =>
    rw [meet_ne h, Nat.pow_succ', ← Nat.div_div_eq_div_mul, ← Nat.div_div_eq_div_mul]; exact ih
theorem meet_min : ∀ (k a b : Nat), a / 2 ^ k = b / 2 ^ k → meet a b ≤ k := by
  intro k
  induction k with
  | zero => intro a b h; rw [Nat.pow_zero, Nat.div_one, Nat.div_one] at h; rw [h, meet_eq]; exact Nat.le_refl _
  | succ k ih =>
    intro a b h
    by_cases e : a = b
    · rw [e, meet_eq]; omega
    · rw [meet_ne e]
      refine Nat.succ_le_succ (ih _ _ ?_)
      rw [Nat.div_div_eq_div_mul, Nat.div_div_eq_div_mul, ← Nat.pow_succ']; exact h
theorem div_mono {a b j k : Nat} (h : a / 2 ^ j = b / 2 ^ j) (hk : j ≤ k) : a / 2 ^ k = b / 2 ^ k := by
  obtain ⟨d, rfl⟩ := Nat.exists_eq_add_of_le hk
  rw [Nat.pow_add, ← Nat.div_div_eq_div_mul, ← Nat.div_div_eq_div_mul, h]
theorem bit_of_div {a b j : Nat} (h : a / 2 ^ j = b / 2 ^ j) {k : Nat} (hk : j ≤ k) : a.testBit k = b.testBit k := by
  have := div_mono h hk
  rw [Nat.testBit_eq_decide_div_mod_eq, Nat.testBit_eq_decide_div_mod_eq, this]
/-- where two numbers part first, from above -/
theorem part_top {n y : Nat} (h : n ^^^ y ≠ 0) : n / 2 ^ ((n ^^^ y).log2 + 1) = y / 2 ^ ((n ^^^ y).log2 + 1) ∧ n.testBit (n ^^^ y).log2 ≠ y.testBit (n ^^^ y).log2 := by
  constructor
  · have := meet_spec n y
    rw [meet_bits_xor, bits, if_neg h] at this
    exact this
  · have := Nat.testBit_log2 h
    rw [Nat.testBit_xor] at this
    intro e
    rw [e, Bool.xor_self] at this; cases this
def T.leaves : T → List Nat
  | .leaf n => [n]
  | .fork _ l r => l.leaves ++ r.leaves
def T.leadN (n : Nat) : T → Nat
  | .leaf y => y
  | .fork p l r => if n.testBit p then r.leadN n else l.leadN n
def T.ins (place n : Nat) : T → T
  | .leaf y => if n.testBit place then .fork place (.leaf y) (.leaf n) else .fork place (.leaf n) (.leaf y)
  | .fork p l r =>
    if place < p then (if n.testBit p then .fork p l (r.ins place n) else .fork p (l.ins place n) r)
    else if n.testBit place then .fork place (.fork p l r) (.leaf n) else .fork place (.leaf n) (.fork p l r)
def Crit : T → Prop
  | .leaf _ => True
  | .fork p l r => Crit l ∧ Crit r ∧ (∀ x ∈ l.leaves, x.testBit p = false) ∧ (∀ x ∈ r.leaves, x.testBit p = true) ∧ ∀ x ∈ l.leaves ++ r.leaves, ∀ y ∈ l.leaves ++ r.leaves, x / 2 ^ (p + 1) = y / 2 ^ (p + 1)
theorem lead_row {t : T} (h : t.ok) (m : Nat) : t.lead (rowF m) = t.leadN (shownN m) := by
  induction t with
  | leaf n => rfl
  | fork p l r ihl ihr =>
    simp only [T.lead, T.leadN]
    rw [set_row m p h.1, ihl h.2.1, ihr h.2.2]
theorem put_row {t : T} (h : t.ok) (m place : Nat) (hp : place < 16) : t.put place (rowF m) (shownN m) = t.ins place (shownN m) := by
  induction t with
  | leaf n => simp only [T.put, T.ins]; rw [set_row m place hp]
  | fork p l r ihl ihr =>
    simp only [T.put, T.ins]
    rw [set_row m p h.1, set_row m place hp, ihl h.2.1, ihr h.2.2]
theorem lead_mem (n : Nat) : ∀ t : T, t.leadN n ∈ t.leaves
  | .leaf y => by simp [T.leadN, T.leaves]
  | .fork p l r => by
    simp only [T.leadN, T.leaves, List.mem_append]
    split
    · exact .inr (lead_mem n r)
    · exact .inl (lead_mem n l)
theorem ins_ok {t : T} (h : t.ok) {place n : Nat} (hp : place < 16) : (t.ins place n).ok := by
  induction t with
  | leaf y =>
    simp only [T.ins]
    split <;> exact ⟨hp, trivial, trivial⟩
  | fork p l r ihl ihr =>
    simp only [T.ins]
    split
    · split
      · exact ⟨h.1, h.2.1, ihr h.2.2⟩
      · exact ⟨h.1, ihl h.2.1, h.2.2⟩
    · split
      · exact ⟨hp, h, trivial⟩
      · exact ⟨hp, trivial, h⟩
theorem ins_size (place n : Nat) : ∀ t : T, (t.ins place n).size = t.size + 1
  | .leaf y => by simp only [T.ins]; split <;> rfl
  | .fork p l r => by
    simp only [T.ins]
    have h1 := ins_size place n l
    have h2 := ins_size place n r
    split
    · split <;> simp only [T.size] <;> omega
    · split <;> simp only [T.size] <;> omega
theorem ins_leaves (place n : Nat) : ∀ (t : T) (x : Nat), x ∈ (t.ins place n).leaves ↔ x = n ∨ x ∈ t.leaves
  | .leaf y, x => by
    simp only [T.ins]
    split <;> simp [T.leaves, or_comm]
  | .fork p l r, x => by
    have h1 := ins_leaves place n l x
    have h2 := ins_leaves place n r x
    simp only [T.ins]
    split
    · split
      · simp only [T.leaves, List.mem_append, h2]
        constructor
        · rintro (h | h | h) <;> simp [h]
        · rintro (h | h | h) <;> simp [h]
      · simp only [T.leaves, List.mem_append, h1]
        constructor
        · rintro ((h | h) | h) <;> simp [h]
        · rintro (h | h | h) <;> simp [h]
    · split
      · simp only [T.leaves, List.mem_append, List.mem_singleton]
        constructor
        · rintro ((h | h) | h) <;> simp [h]
        · rintro (h | h | h) <;> simp [h]
      · simp only [T.leaves, List.mem_append, List.mem_singleton]
/-- a tree's leaves agree above its top place -/
theorem ins_crit {place n : Nat} : ∀ {t : T}, Crit t → n / 2 ^ (place + 1) = t.leadN n / 2 ^ (place + 1) → n.testBit place ≠ (t.leadN n).testBit place → Crit (t.ins place n)
  | .leaf y, _, hd, hb => by
    simp only [T.leadN] at hd hb
    simp only [T.ins]
    split
    · rename_i hn
      refine ⟨trivial, trivial, ?_, ?_, ?_⟩
      · intro x hx
        simp only [T.leaves, List.mem_singleton] at hx
        subst hx
        rw [hn] at hb
        cases h : x.testBit place <;> simp_all
      · intro x hx
        simp only [T.leaves, List.mem_singleton] at hx
        rw [hx]; exact hn
      · intro x hx z hz
        simp only [T.leaves, List.mem_append, List.mem_singleton] at hx hz
        rcases hx with rfl | rfl <;> rcases hz with rfl | rfl <;> simp_all
    · rename_i hn
      have hn' : n.testBit place = false := by simpa using hn
      refine ⟨trivial, trivial, ?_, ?_, ?_⟩
      · intro x hx
        simp only [T.leaves, List.mem_singleton] at hx
        rw [hx]; exact hn'
      · intro x hx
        simp only [T.leaves, List.mem_singleton] at hx
        subst hx
        rw [hn'] at hb
        cases h : x.testBit place <;> simp_all
      · intro x hx z hz
        simp only [T.leaves, List.mem_append, List.mem_singleton] at hx hz
        rcases hx with rfl | rfl <;> rcases hz with rfl | rfl <;> simp_all
  | .fork p l r, hc, hd, hb => by
    have hc' := hc
    obtain ⟨cl, cr, hl, hr, ha⟩ := hc
    have hm := lead_mem n (.fork p l r)
    have hpath : (T.leadN n (.fork p l r)).testBit p = n.testBit p := by
      simp only [T.leadN]
      split
      · rename_i h; rw [h]; exact hr _ (lead_mem n r)
      · rename_i h
        rw [hl _ (lead_mem n l)]; simpa using h
    have hne : place ≠ p := fun e => hb (e ▸ hpath.symm)
    simp only [T.ins]
    split
    · rename_i hlt
      have habove : n / 2 ^ (p + 1) = (T.leadN n (.fork p l r)) / 2 ^ (p + 1) := div_mono hd (by omega)
      split
      · rename_i hn
        rw [T.leadN, if_pos hn] at hd hb
        have ih := ins_crit cr hd hb
        refine ⟨cl, ih, hl, ?_, ?_⟩
        · intro x hx
          rcases (ins_leaves place n r x).mp hx with rfl | hx
          · exact hn
          · exact hr x hx
        · have g : ∀ x ∈ l.leaves ++ (r.ins place n).leaves, x / 2 ^ (p + 1) = (T.leadN n (.fork p l r)) / 2 ^ (p + 1) := by
            intro x hx
            rcases List.mem_append.mp hx with hx | hx
            · exact ha x (List.mem_append.mpr (.inl hx)) _ hm
            · rcases (ins_leaves place n r x).mp hx with rfl | hx
              · exact habove
              · exact ha x (List.mem_append.mpr (.inr hx)) _ hm
          exact fun x hx y hy => (g x hx).trans (g y hy).symm
      · rename_i hn
        rw [T.leadN, if_neg hn] at hd hb
        have ih := ins_crit cl hd hb
        refine ⟨ih, cr, ?_, hr, ?_⟩
        · intro x hx
          rcases (ins_leaves place n l x).mp hx with rfl | hx
          · simpa using hn
          · exact hl x hx
        · have g : ∀ x ∈ (l.ins place n).leaves ++ r.leaves, x / 2 ^ (p + 1) = (T.leadN n (.fork p l r)) / 2 ^ (p + 1) := by
            intro x hx
            rcases List.mem_append.mp hx with hx | hx
            · rcases (ins_leaves place n l x).mp hx with rfl | hx
              · exact habove
              · exact ha x (List.mem_append.mpr (.inl hx)) _ hm
            · exact ha x (List.mem_append.mpr (.inr hx)) _ hm
          exact fun x hx y hy => (g x hx).trans (g y hy).symm
    · rename_i hlt
      have hall : ∀ x ∈ (T.fork p l r).leaves, x.testBit place = (T.leadN n (.fork p l r)).testBit place ∧ x / 2 ^ (place + 1) = n / 2 ^ (place + 1) := by
        intro x hx
        have e := ha x hx _ hm
        exact ⟨bit_of_div e (by omega), (div_mono e (by omega)).trans hd.symm⟩
      split
      · rename_i hn
        refine ⟨hc', trivial, ?_, ?_, ?_⟩
        · intro x hx
          rw [(hall x hx).1]
          rw [hn] at hb
          cases h : (T.leadN n (.fork p l r)).testBit place <;> simp_all
        · intro x hx
          simp only [T.leaves, List.mem_singleton] at hx
          rw [hx]; exact hn
        · have g : ∀ x ∈ (T.fork p l r).leaves ++ (T.leaf n).leaves, x / 2 ^ (place + 1) = n / 2 ^ (place + 1) := by
            intro x hx
            rcases List.mem_append.mp hx with hx | hx
            · exact (hall x hx).2
            · simp only [T.leaves, List.mem_singleton] at hx; rw [hx]
          exact fun x hx y hy => (g x hx).trans (g y hy).symm
      · rename_i hn
        have hn' : n.testBit place = false := by simpa using hn
        refine ⟨trivial, hc', ?_, ?_, ?_⟩
        · intro x hx
          simp only [T.leaves, List.mem_singleton] at hx
          rw [hx]; exact hn'
        · intro x hx
          rw [(hall x hx).1]
          rw [hn'] at hb
          cases h : (T.leadN n (.fork p l r)).testBit place <;> simp_all
        · have g : ∀ x ∈ (T.leaf n).leaves ++ (T.fork p l r).leaves, x / 2 ^ (place + 1) = n / 2 ^ (place + 1) := by
            intro x hx
            rcases List.mem_append.mp hx with hx | hx
            · simp only [T.leaves, List.mem_singleton] at hx; rw [hx]
            · exact (hall x hx).2
          exact fun x hx y hy => (g x hx).trans (g y hy).symm
theorem lead_self : ∀ {t : T}, Crit t → ∀ x ∈ t.leaves, t.leadN x = x
  | .leaf y, _, x, hx => by simp only [T.leaves, List.mem_singleton] at hx; rw [hx]; rfl
  | .fork p l r, ⟨cl, cr, hl, hr, ha⟩, x, hx => by
    simp only [T.leadN]
    rcases List.mem_append.mp hx with hx | hx
    · rw [hl x hx]; exact lead_self cl x hx
    · rw [hr x hx]; exact lead_self cr x hx
theorem lead_near {n j : Nat} : ∀ {t : T}, Crit t → ∀ y ∈ t.leaves, n / 2 ^ j = y / 2 ^ j → n / 2 ^ j = t.leadN n / 2 ^ j
  | .leaf y, _, x, hx, h => by simp only [T.leaves, List.mem_singleton] at hx; subst hx; exact h
  | .fork p l r, ⟨cl, cr, hl, hr, ha⟩, y, hy, h => by
    have far : ∀ z ∈ l.leaves ++ r.leaves, n.testBit p ≠ y.testBit p → n / 2 ^ j = z / 2 ^ j := by
      intro z hz hb
      have hj : p + 1 ≤ j := by
        refine Nat.lt_of_not_le fun hle => hb ?_
        exact bit_of_div h hle
      exact h.trans (div_mono (ha y hy z hz) hj)
    simp only [T.leadN]
    split
    · rename_i hn
      rcases List.mem_append.mp hy with hy' | hy'
      · exact far _ (List.mem_append.mpr (.inr (lead_mem n r))) (by rw [hn, hl y hy']; decide)
      · exact lead_near cr y hy' h
    · rename_i hn
      rcases List.mem_append.mp hy with hy' | hy'
      · exact lead_near cl y hy' h
      · exact far _ (List.mem_append.mpr (.inl (lead_mem n l))) (by rw [hr y hy']; exact hn)
end Mine
namespace Mine
theorem leaf_some : ∀ t : T, ∃ x, x ∈ t.leaves := fun t => ⟨_, lead_mem 0 t⟩
theorem digit_bit (x p : Nat) : (x / 2 ^ p % 2 == 0) = !x.testBit p := by
  rw [Nat.testBit_eq_decide_div_mod_eq]
  rcases Nat.mod_two_eq_zero_or_one (x / 2 ^ p) with h | h <;> rw [h] <;> rfl
theorem digit_bit1 (x p : Nat) : (x / 2 ^ p % 2 == 1) = x.testBit p := by
  rw [Nat.testBit_eq_decide_div_mod_eq]
  rcases Nat.mod_two_eq_zero_or_one (x / 2 ^ p) with h | h <;> rw [h] <;> rfl
theorem bit_lt {x y p : Nat} (hx : x.testBit p = false) (hy : y.testBit p = true) (h : x / 2 ^ (p + 1) = y / 2 ^ (p + 1)) : x < y := by
  rw [Nat.testBit_eq_decide_div_mod_eq] at hx hy
  have hx' : x / 2 ^ p % 2 = 0 := by have := of_decide_eq_false hx; omega
  have hy' : y / 2 ^ p % 2 = 1 := of_decide_eq_true hy
  rw [Nat.pow_succ, ← Nat.div_div_eq_div_mul, ← Nat.div_div_eq_div_mul] at h
  have hlt : x / 2 ^ p < y / 2 ^ p := by omega
  refine Nat.lt_of_not_le fun hle => ?_
  have := Nat.div_le_div_right (c := 2 ^ p) hle
  omega
theorem head_min {ns : List Nat} (h : Rising ns) (hne : ns ≠ []) : ns.headD 0 ∈ ns ∧ ∀ x ∈ ns, ns.headD 0 ≤ x := by
  cases ns with
  | nil => exact absurd rfl hne
  | cons a r =>
    refine ⟨.head _, fun x hx => ?_⟩
    rcases List.mem_cons.mp hx with rfl | hx
    · exact Nat.le_refl _
    · exact Nat.le_of_lt ((List.pairwise_cons.mp h.1).1 x hx)
theorem last_max : ∀ {ns : List Nat}, ns.Pairwise (· < ·) → ∀ x ∈ ns, x ≤ ns.getLastD 0
  | [], _, _, hx => nomatch hx
  | [a], _, x, hx => by rw [List.mem_singleton.mp hx]; exact Nat.le_refl _
  | a :: b :: r, h, x, hx => by
    have ih := last_max (ns := b :: r) (List.pairwise_cons.mp h).2
    have e : (a :: b :: r).getLastD 0 = (b :: r).getLastD 0 := by simp [List.getLastD]
    rw [e]
    rcases List.mem_cons.mp hx with rfl | hx
    · exact Nat.le_trans (Nat.le_of_lt ((List.pairwise_cons.mp h).1 b (.head _))) (ih b (.head _))
    · exact ih x hx
/-- the told tree is the one tree that splits so -/
theorem tree_one {ns : List Nat} {t' : T} (h : TreeOf ns t') : ∀ {t : T}, Rising ns → Crit t → (∀ x, x ∈ ns ↔ x ∈ t.leaves) → t' = t := by
  induction h with
  | one x =>
    intro t hris hc hm
    cases t with
    | leaf y =>
      have := (hm y).mpr (by simp [T.leaves])
      rw [List.mem_singleton.mp this]
    | fork p l r =>
      obtain ⟨_, _, hl, hr, _⟩ := hc
      obtain ⟨a, ha⟩ := leaf_some l
      obtain ⟨b, hb⟩ := leaf_some r
      have h1 := List.mem_singleton.mp ((hm a).mpr (List.mem_append.mpr (.inl ha)))
      have h2 := List.mem_singleton.mp ((hm b).mpr (List.mem_append.mpr (.inr hb)))
      have h3 := hl a ha
      have h4 := hr b hb
      rw [h1] at h3; rw [h2, h3] at h4; cases h4
  | @two ns p l' r' hlen hmeet hl' hr' ihl ihr =>
    intro t hris hc hm
    cases t with
    | leaf y =>
      exfalso
      cases ns with
      | nil => simp at hlen
      | cons a ns =>
        cases ns with
        | nil => simp at hlen
        | cons b ns =>
          have h1 : a = y := by simpa [T.leaves] using (hm a).mp (.head _)
          have h2 : b = y := by simpa [T.leaves] using (hm b).mp (.tail _ (.head _))
          have := (List.pairwise_cons.mp hris.1).1 b (.head _)
          omega
    | fork q l r =>
      obtain ⟨cl, cr, hl, hr, ha⟩ := hc
      have hne : ns ≠ [] := by rintro rfl; simp at hlen
      obtain ⟨hh, hmin⟩ := head_min hris hne
      have hlm := last_mem hne
      have hmax := last_max hris.1
      obtain ⟨a, hal⟩ := leaf_some l
      obtain ⟨b, hbr⟩ := leaf_some r
      have hA : a ∈ l.leaves ++ r.leaves := List.mem_append.mpr (.inl hal)
      have hB : b ∈ l.leaves ++ r.leaves := List.mem_append.mpr (.inr hbr)
      have hhead : (ns.headD 0).testBit q = false := by
        rcases List.mem_append.mp ((hm _).mp hh) with h | h
        · exact hl _ h
        · exfalso
          have := bit_lt (hl a hal) (hr _ h) (ha a hA _ (List.mem_append.mpr (.inr h)))
          have := hmin a ((hm a).mpr hA)
          omega
      have hlast : (ns.getLastD 0).testBit q = true := by
        rcases List.mem_append.mp ((hm _).mp hlm) with h | h
        · exfalso
          have := bit_lt (hl _ h) (hr b hbr) (ha _ (List.mem_append.mpr (.inl h)) b hB)
          have := hmax b ((hm b).mpr hB)
          omega
        · exact hr _ h
      have heq := ha _ ((hm _).mp hh) _ ((hm _).mp hlm)
      have h1 := meet_min _ _ _ heq
      have h2 : ¬ meet (ns.headD 0) (ns.getLastD 0) ≤ q := by
        intro hle
        have := bit_of_div (meet_spec (ns.headD 0) (ns.getLastD 0)) hle
        rw [hhead, hlast] at this; cases this
      have hpq : p = q := by omega
      subst hpq
      have sub : ∀ f : Nat → Bool, Rising (ns.filter f) := fun f => ⟨hris.1.sublist List.filter_sublist, fun x hx => hris.2 x (List.mem_filter.mp hx).1⟩
      have e1 := ihl (sub _) cl (by
        intro x
        rw [List.mem_filter, digit_bit, hm x]
        constructor
        · rintro ⟨h, hb⟩
          rcases List.mem_append.mp h with h | h
          · exact h
          · rw [hr x h] at hb; cases hb
        · intro h
          exact ⟨List.mem_append.mpr (.inl h), by rw [hl x h]; rfl⟩)
      have e2 := ihr (sub _) cr (by
        intro x
        rw [List.mem_filter, digit_bit1, hm x]
        constructor
        · rintro ⟨h, hb⟩
          rcases List.mem_append.mp h with h | h
          · rw [hl x h] at hb; cases hb
          · exact h
        · intro h
          exact ⟨List.mem_append.mpr (.inr h), hr x h⟩)
      rw [e1, e2]
/-- m - 1 down to 0 -/
def down : Nat → List Nat
  | 0 => []
  | n + 1 => n :: down n
theorem down_lt : ∀ {n x : Nat}, x ∈ down n → x < n
  | n + 1, x, h => by
    rcases List.mem_cons.mp h with rfl | h
    · omega
    · have := down_lt h; omega
theorem places_down : places = down 16 := by decide
theorem down_split : ∀ (m a : Nat), a < 2 ^ m → a ≠ 0 → (down m).filter a.testBit = a.log2 :: (down m).filter (a ^^^ 2 ^ a.log2).testBit := by
  intro m
  induction m with
  | zero => intro a h h0; omega
  | succ m ih =>
    intro a h h0
    simp only [down, List.filter_cons]
    cases hb : a.testBit m with
    | true =>
      have hge : 2 ^ m ≤ a := Nat.ge_two_pow_of_testBit hb
      have hlog : a.log2 = m := by
        have h1 := (Nat.le_log2 h0).mpr hge
        have h2 := (Nat.log2_lt h0).mpr h
        omega
      have hx : (a ^^^ 2 ^ a.log2).testBit m = false := by
        rw [Nat.testBit_xor, hlog, Nat.testBit_two_pow, hb]; simp
      rw [hx, hlog]
      simp only [if_true, Bool.false_eq_true, if_false]
      congr 1
      refine List.filter_congr fun x hx => ?_
      have := down_lt hx
      have hmx : ¬ m = x := by omega
      rw [Nat.testBit_xor, Nat.testBit_two_pow, decide_eq_false hmx, Bool.xor_false]
    | false =>
      have hlt : a < 2 ^ m := by
        refine Nat.lt_of_not_le fun hge => ?_
        have h1 := (Nat.le_log2 h0).mpr hge
        have h2 := (Nat.log2_lt h0).mpr h
        have := Nat.testBit_log2 h0
        rw [show a.log2 = m by omega, hb] at this; cases this
      have hx : (a ^^^ 2 ^ a.log2).testBit m = false := by
        have h1 := (Nat.log2_lt h0).mpr hlt
        rw [Nat.testBit_xor, Nat.testBit_two_pow, hb]; simp; omega
      rw [hx]
      simp only [Bool.false_eq_true, if_false]
      exact ih a hlt h0
theorem single {a : Nat} (h : a ≠ 0) : (a &&& (a - 1) == 0) = decide (a ^^^ 2 ^ a.log2 = 0) := by
  have hle := log2_le_self' h
  by_cases e : a = 2 ^ a.log2
  · have h1 : a &&& (a - 1) = 0 := by
      rw [e, Nat.and_two_pow_sub_one_eq_mod, Nat.mod_self]
    rw [h1, ← e, Nat.xor_self]; rfl
  · have h2 : a ^^^ 2 ^ a.log2 ≠ 0 := fun q => e (xor_zero.mp q)
    rw [decide_eq_false h2]
    refine beq_eq_false_iff_ne.mpr fun q => ?_
    have h3 : a - 1 ≠ 0 := by have := Nat.two_pow_pos a.log2; omega
    have hlog : (a - 1).log2 = a.log2 := by
      have g1 := (Nat.le_log2 h3).mpr (show 2 ^ a.log2 ≤ a - 1 by omega)
      have g2 : a < 2 ^ (a.log2 + 1) := (Nat.log2_lt h).mp (Nat.lt_succ_self _)
      have g3 := (Nat.log2_lt h3).mpr (show a - 1 < 2 ^ (a.log2 + 1) by omega)
      omega
    have h4 := Nat.testBit_log2 h
    have h5 := Nat.testBit_log2 h3
    rw [hlog] at h5
    have := congrArg (fun x => x.testBit a.log2) q
    simp only [Nat.testBit_and, h4, h5, Nat.zero_testBit] at this
    cases this
/-- each of a list, and whether it is the last -/
def marked (l : List Nat) : List (Nat × Bool) := l.map fun p => (p, p == l.getLastD 0)
theorem marked_cons {k : Nat} {l : List Nat} (h : ∀ x ∈ l, x < k) : marked (k :: l) = (k, l.isEmpty) :: marked l := by
  unfold marked
  cases l with
  | nil => simp [List.getLastD]
  | cons b r =>
    have e : (k :: b :: r).getLastD 0 = (b :: r).getLastD 0 := by simp [List.getLastD]
    have hm : (b :: r).getLastD 0 ∈ b :: r := last_mem (by simp)
    have hlt := h _ hm
    rw [e, List.map_cons]
    congr 1
    have : (k == (b :: r).getLastD 0) = false := beq_eq_false_iff_ne.mpr (by omega)
    rw [this]; rfl
theorem down_nil : ∀ (m a : Nat), a < 2 ^ m → ((down m).filter a.testBit).isEmpty = decide (a = 0) := by
  intro m a h
  by_cases e : a = 0
  · subst e
    have : (down m).filter (Nat.testBit 0) = [] := by
      refine List.filter_eq_nil_iff.mpr fun x _ => ?_
      rw [Nat.zero_testBit]; decide
    rw [this]; rfl
  · rw [down_split m a h e, decide_eq_false e]; rfl
theorem taken_marked (m : Nat) : ∀ a, a < 2 ^ m → takenS a = marked ((down m).filter a.testBit) := by
  intro a
  induction a using Nat.strongRecOn with
  | ind a ih =>
    intro h
    by_cases e : a = 0
    · subst e
      have := down_nil m 0 h
      rw [List.isEmpty_iff.mp (this.trans (decide_eq_true rfl)), takenS_nil]; rfl
    · have hd := flip_dec e
      have hx : a ^^^ 2 ^ a.log2 < 2 ^ m := Nat.lt_trans hd h
      rw [takenS_cons e, ih _ hd hx, down_split m a h e, marked_cons, single e, down_nil m _ hx]
      intro x hx'
      have h1 := (List.mem_filter.mp hx').2
      refine Nat.lt_of_not_le fun hle => ?_
      have h2 := flip_lt e
      rw [Nat.testBit_lt_two_pow (Nat.lt_of_lt_of_le h2 (Nat.pow_le_pow_right (by decide) hle))] at h1
      cases h1
end Mine
namespace Mine
theorem firsts_in {ds : List Nat} : ∀ (j x : Nat), ds[j]? = some x → x ∈ firstsS ds := by
  intro j
  induction j using Nat.strongRecOn with
  | ind j ih =>
    intro x h
    have hj : j < ds.length := (List.getElem?_eq_some_iff.mp h).1
    by_cases hc : x ∈ ds.take j
    · obtain ⟨i, hi, e⟩ := List.mem_iff_getElem.mp hc
      have hij : i < j := by rw [List.length_take] at hi; omega
      refine ih i hij x ?_
      rw [List.getElem_take] at e
      rw [List.getElem?_eq_getElem (by omega), e]
    · refine List.mem_map.mpr ⟨j, List.mem_filter.mpr ⟨List.mem_range.mpr hj, ?_⟩, getD_of h⟩
      rw [getD_of h]
      simpa using hc
theorem firsts_mem {ds : List Nat} {x : Nat} : x ∈ firstsS ds ↔ x ∈ ds := by
  constructor
  · intro h
    obtain ⟨j, hj, rfl⟩ := List.mem_map.mp h
    have hj' := List.mem_range.mp (List.mem_filter.mp hj).1
    rw [List.getD_eq_getElem?_getD, List.getElem?_eq_getElem hj']
    exact List.getElem_mem hj'
  · intro h
    obtain ⟨j, hj, e⟩ := List.mem_iff_getElem.mp h
    exact firsts_in j x (by rw [List.getElem?_eq_getElem hj, e])
theorem firsts_nodup (ds : List Nat) : (firstsS ds).Pairwise (· ≠ ·) := by
  unfold firstsS
  rw [List.pairwise_map]
  refine List.Pairwise.imp_of_mem ?_ (List.Pairwise.sublist List.filter_sublist (List.pairwise_lt_range))
  intro i j hi hj hlt e
  have hi' := List.mem_range.mp (List.mem_filter.mp hi).1
  have hj' := List.mem_range.mp (List.mem_filter.mp hj).1
  have hn := (List.mem_filter.mp hj).2
  have hin : ds.getD i 0 ∈ ds.take j := by
    rw [List.getD_eq_getElem?_getD, List.getElem?_eq_getElem hi']
    refine List.mem_iff_getElem.mpr ⟨i, by rw [List.length_take]; omega, ?_⟩
    rw [List.getElem_take]; rfl
  rw [e] at hin
  have : (ds.take j).contains (ds.getD j 0) = true := by simpa using hin
  rw [this] at hn
  cases hn
theorem sorted_nats {fs : List Nat} {zs : List Int} (hp : zs.Perm (fs.map Int.ofNat)) (hs : zs.Pairwise (· ≤ ·)) (hn : fs.Pairwise (· ≠ ·)) :
    ∃ ns : List Nat, zs = ns.map Int.ofNat ∧ ns.Perm fs ∧ ns.Pairwise (· < ·) := by
  have hz : zs = (zs.map Int.toNat).map Int.ofNat := by
    rw [List.map_map]
    conv => lhs; rw [← List.map_id zs]
    refine List.map_congr_left fun z hz => ?_
    obtain ⟨n, _, rfl⟩ := List.mem_map.mp (hp.mem_iff.mp hz)
    rfl
  have hperm : (zs.map Int.toNat).Perm fs := by
    have := hp.map Int.toNat
    rw [List.map_map] at this
    have e : fs.map (Int.toNat ∘ Int.ofNat) = fs := by
      conv => rhs; rw [← List.map_id fs]
      exact List.map_congr_left fun n _ => rfl
    rwa [e] at this
  refine ⟨zs.map Int.toNat, hz, hperm, ?_⟩
  have h1 : (zs.map Int.toNat).Pairwise (· ≤ ·) := by
    rw [List.pairwise_map]
    exact hs.imp fun h => Int.toNat_le_toNat h
  have h2 : (zs.map Int.toNat).Pairwise (· ≠ ·) := (hperm.pairwise_iff (fun h => Ne.symm h)).mpr hn
  exact (h1.and h2).imp fun h => Nat.lt_of_le_of_ne h.1 h.2
theorem lead_in (row : Str) : ∀ t : T, t.lead row ∈ t.leaves
  | .leaf y => by simp [T.lead, T.leaves]
  | .fork p l r => by
    simp only [T.lead, T.leaves, List.mem_append]
    split
    · exact .inr (lead_in row r)
    · exact .inl (lead_in row l)
structure Inv (ms : List Nat) (i : Nat) : Prop where
  ok : (treeAt ms i).ok
  size : (treeAt ms i).size ≤ i
  crit : Crit (treeAt ms i)
  leaves : ∀ x, x ∈ (treeAt ms i).leaves ↔ x ∈ (ms.take (i + 1)).map shownN
theorem Inv.low {ms : List Nat} {i : Nat} (h : Inv ms i) : ∀ x ∈ (treeAt ms i).leaves, x < 65536 ∧ shownN x = x := by
  intro x hx
  obtain ⟨m, _, rfl⟩ := List.mem_map.mp ((h.leaves x).mp hx)
  exact ⟨shown_lt m, shown_shown m⟩
theorem inv_all (ms : List Nat) : ∀ i, i < ms.length → Inv ms i := by
  intro i
  induction i with
  | zero =>
    intro h
    have e : treeAt ms 0 = .leaf (shownN (ms.getD 0 0)) := treeAt_zero ms
    cases ms with
    | nil => cases h
    | cons a r =>
      refine ⟨by rw [e]; trivial, by rw [e]; exact Nat.le_refl _, by rw [e]; trivial, fun x => ?_⟩
      rw [e]
      simp [T.leaves]
  | succ i ih =>
    intro h
    have hi := ih (by omega)
    obtain ⟨x, hx⟩ : ∃ x, ms[i + 1]? = some x := ⟨_, List.getElem?_eq_getElem h⟩
    have ht := treeAt_succ hx
    have hlead := lead_row hi.ok x
    have hmem : ∀ z, z ∈ (ms.take (i + 1 + 1)).map shownN ↔ z ∈ (ms.take (i + 1)).map shownN ∨ z = shownN x := by
      intro z
      rw [List.take_add_one, hx, List.map_append, List.mem_append]
      simp
    by_cases ha : shownN x ^^^ (treeAt ms i).lead (rowF x) = 0
    · have e : treeAt ms (i + 1) = treeAt ms i := by rw [ht, growT, if_pos ha]
      refine ⟨by rw [e]; exact hi.ok, by rw [e]; exact Nat.le_succ_of_le hi.size, by rw [e]; exact hi.crit, fun z => ?_⟩
      rw [e, hmem, hi.leaves z]
      constructor
      · exact .inl
      · rintro (h | h)
        · exact h
        · rw [h, xor_zero.mp ha]
          exact (hi.leaves _).mp (lead_in _ _)
    · have hl := (hi.low _ (lead_in (rowF x) (treeAt ms i))).1
      have hlog : (shownN x ^^^ (treeAt ms i).lead (rowF x)).log2 < 16 := (Nat.log2_lt ha).mpr (xor_lt (k := 16) (shown_lt x) hl)
      have e : treeAt ms (i + 1) = (treeAt ms i).ins (shownN x ^^^ (treeAt ms i).lead (rowF x)).log2 (shownN x) := by
        rw [ht, growT, if_neg ha, put_row hi.ok x _ hlog]
      obtain ⟨p1, p2⟩ := part_top ha
      refine ⟨by rw [e]; exact ins_ok hi.ok hlog, by rw [e, ins_size]; exact Nat.succ_le_succ hi.size, ?_, fun z => ?_⟩
      · rw [e]
        exact ins_crit hi.crit (by rw [← hlead]; exact p1) (by rw [← hlead]; exact p2)
      · rw [e, ins_leaves, hmem, hi.leaves z]
        exact or_comm
theorem inv_last {ms : List Nat} (h : 0 < ms.length) : Inv ms (ms.length - 1) ∧ ∀ x, x ∈ (treeAt ms (ms.length - 1)).leaves ↔ x ∈ ms.map shownN := by
  have hi := inv_all ms (ms.length - 1) (by omega)
  refine ⟨hi, fun x => ?_⟩
  rw [hi.leaves x, show ms.length - 1 + 1 = ms.length by omega, List.take_length]
theorem plain4 {ms : List Nat} (h7 : ms.length ≤ 7) : Plain4 ms where
  ok := fun i h => (inv_all ms i h).ok
  size := fun i h => by have := (inv_all ms i h).size; omega
  low := fun i r h => ((inv_all ms i h).low _ (lead_in r _)).1
  num := shown_lt
theorem plain5 {ms : List Nat} (h0 : 0 < ms.length) (h7 : ms.length ≤ 7) : Plain5 (treeAt ms (ms.length - 1)) ms where
  lead := fun x hx => by
    obtain ⟨hi, hl⟩ := inv_last h0
    rw [lead_row hi.ok]
    exact lead_self hi.crit _ ((hl _).mpr (List.mem_map.mpr ⟨x, hx, rfl⟩))
  sort := fun zs hp hs => by
    obtain ⟨hi, hl⟩ := inv_last h0
    obtain ⟨ns, e, hperm, hlt⟩ := sorted_nats hp hs (firsts_nodup _)
    have hmem : ∀ x, x ∈ ns ↔ x ∈ ms.map shownN := fun x => hperm.mem_iff.trans firsts_mem
    have hris : Rising ns := ⟨hlt, fun x hx => by
      obtain ⟨m, _, rfl⟩ := List.mem_map.mp ((hmem x).mp hx)
      exact shown_lt m⟩
    refine ⟨ns, e, ?_, ?_, hris, fun t' ht => tree_one ht hris hi.crit fun x => (hmem x).trans (hl x).symm⟩
    · rintro rfl
      cases ms with
      | nil => cases h0
      | cons a r => exact absurd ((hmem (shownN a)).mpr (.head _)) (by simp)
    · have h1 := hperm.length_eq
      have h2 := firstsS_len (ms.map shownN)
      rw [List.length_map] at h2
      omega
theorem plain8 {ms : List Nat} (h0 : 0 < ms.length) (md : Nat) : Plain8 (treeAt ms (ms.length - 1)) (ms.map shownN) md := by
  obtain ⟨hi, hl⟩ := inv_last h0
  have hin := lead_in (rowF md) (treeAt ms (ms.length - 1))
  have hlow := hi.low _ hin
  have hlead := lead_row hi.ok md
  refine ⟨hlow.1, shown_lt md, ?_, ?_⟩
  · intro M hM hmin
    obtain ⟨y, hy, rfl⟩ := List.mem_map.mp hM
    have hbest : gap (shownN md) y ≤ gap (shownN md) ((treeAt ms (ms.length - 1)).lead (rowF md)) := hmin _ (List.mem_map.mpr ⟨_, (hl _).mp hin, rfl⟩)
    have hnear : meet ((treeAt ms (ms.length - 1)).lead (rowF md)) (shownN md) ≤ meet y (shownN md) := by
      refine meet_min _ _ _ ?_
      have := lead_near (n := shownN md) (j := meet y (shownN md)) hi.crit y ((hl y).mpr hy) (meet_spec y (shownN md)).symm
      rw [hlead, ← this]
    unfold gap at hbest ⊢
    have e : meet y (shownN md) = meet ((treeAt ms (ms.length - 1)).lead (rowF md)) (shownN md) := by omega
    rw [e, meet_bits_xor]
    congr 1
    generalize (treeAt ms (ms.length - 1)).lead (rowF md) ^^^ shownN md = a
    unfold bits
    by_cases ha : a = 0
    · subst ha; rfl
    · rw [if_neg ha, intBits_pos ha]
  · rw [taken_marked 16 _ (xor_lt (k := 16) hlow.1 (shown_lt md))]
    have e : partedS (rowF md) (rowF ((treeAt ms (ms.length - 1)).lead (rowF md))) = (down 16).filter ((treeAt ms (ms.length - 1)).lead (rowF md) ^^^ shownN md).testBit := by
      unfold partedS
      rw [places_down]
      refine List.filter_congr fun p hp => ?_
      have hp16 := down_lt hp
      rw [set_row _ p hp16, set_row _ p hp16, hlow.2, Nat.testBit_xor]
      cases (shownN md).testBit p <;> cases ((treeAt ms (ms.length - 1)).lead (rowF md)).testBit p <;> rfl
    rw [e]; rfl
theorem plain_all (zs : List Int) : Plain4 (modesOf zs) ∧ Plain5 (treeAt (modesOf zs) ((modesOf zs).length - 1)) (modesOf zs) ∧ ∀ md, md < 2 ^ 18 → Plain8 (treeAt (modesOf zs) ((modesOf zs).length - 1)) ((modesOf zs).map shownN) md :=
  have h := modesOf_len zs
  ⟨plain4 h.2, plain5 (by omega) h.2, fun md _ => plain8 (by omega) md⟩
end Mine
namespace Mine
set_option maxRecDepth 100000 in
set_option maxHeartbeats 8000000 in
theorem law_holds : PySem.Challenge.rw_tx0013_01.Holds := Mine.hd (by
  k_go0; (all_goals try k_fold)
  rename (IntsAre _ _) => hI
  rename (Heap.IsList _ _ _) => hL
  rename (Frag.In _ _) => KX
  rename (Fr _ _ _ _) => F0
  rename (News _ _ _ _) => N0
  rename (Top _ _ _ _ _ _) => T0
  rename (Below _ _ _ _) => B0
  rename (¬ _ < _) => hn
  refine seg0 B0 KX T0 ?hE hL hI (by omega) F0 (by with_unfolding_all rfl) N0 (by assumption) (by assumption) (by assumption) (by assumption) (by assumption) (by assumption) (by assumption) (by assumption) (plain_all _).1 (plain_all _).2.1 (plain_all _).2.2 ?_
  case hE => passes_own
  intro h tk m' F'
  dsimp only
  k_unfold
  (try dsimp only)
  wrow_close)
end Mine
theorem PySem.Challenge.cw_tx0013_01_holds : PySem.Challenge.rw_tx0013_01.Holds :=
  Mine.law_holds
