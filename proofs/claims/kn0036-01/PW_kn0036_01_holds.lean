import PyProof.Rows.All
import Wide.All
import OpenK.AllK
import Wide.FinOn
import PySem.Challenge.RW_kn0036_01
open PySem PySem.W PySem.Calls PySem.Spec PyProof.Rows
set_option Elab.async false
namespace Kn

/-! part KnHead -/
set_option maxRecDepth 100000 in
set_option maxHeartbeats 8000000 in
open_top hd for PySem.Challenge.rw_kn0036_01

/-! part KnCol -/
/-- one step of the column -/
def colStep (size : Int) (col : Int) (c : Nat) : Int := if c = 9 then col + (size - col.fmod size) else col + 1
def colZ (l : List Nat) (size : Int) : Int := l.foldl (colStep size) 0

theorem tab_is : PySem.Str.ofString "\t" = ⟨#[9]⟩ := by decide +kernel
theorem one_sign (c d : Nat) : ((⟨#[c]⟩ : PySem.Str) == ⟨#[d]⟩) = decide (c = d) := by
  by_cases h : c = d
  · subst h; simp
  · rw [decide_eq_false h]
    refine beq_eq_false_iff_ne.mpr fun e => h ?_
    have := congrArg PySem.Str.cps e
    simpa using this
theorem col_fold (size : Int) : ∀ (l : List Nat) (a : Int),
    (List.foldl (fun (σ : Int × Unit) (k : PySem.Str) => if (k == Str.ofString "\t") = true then (σ.fst + (size - σ.fst.fmod size), ()) else (σ.fst + 1, ())) (a, ()) (l.map fun c => (⟨#[c]⟩ : PySem.Str))).fst = l.foldl (colStep size) a := by
  intro l
  induction l with
  | nil => intro a; rfl
  | cons c r ih =>
    intro a
    rw [List.map_cons, List.foldl_cons, List.foldl_cons, tab_is, one_sign]
    unfold colStep
    by_cases h : c = 9
    · simp only [h, decide_true, if_true]
      rw [← tab_is]; exact ih _
    · simp only [h, decide_false, if_false, Bool.false_eq_true]
      rw [← tab_is]; exact ih _

def ColTells : Prop := ∀ (w : World) (mean : ExcName → Option Value) (mg mb : PySem.Str → Option Value) (lead : PySem.Str) (t1 : Tok) (size : Int) (t2 : Tok) (news : List (Addr × Obj)),
  CbClaim PySem.Challenge.rw_kn0036_01.row.prog w (hd.heap_39 w.params) hd.view_39 (looseW hd.view_39 [Str.ofString "Whitespace"]) mean mg mb 94 news [] (0 < size ∧ lead.length ≤ 1000) [.str lead t1, .int size t2] (fun t => .int (colZ lead.cps.toList size) t)

set_option maxRecDepth 100000 in
set_option maxHeartbeats 8000000 in
theorem colTells : ColTells := by
  unfold ColTells
  k_fill
  intro w mean mg mb lead t1 size t2 news
  w_on
  w_top on
  dsimp only [CbClaim, CbLists, CbRet]
  intro dp un gd cn cs a ccd cl outer A₀ base h₀ L m s Q E B F X N T hk hpre hdp hun hret
  refine wpAny_call ?_
  k_dflt cell_enter
  k_steps
  refine cb_retI (Q := Q) hret ?e1 ?e2 ?e3
  case e2 => k_asm
  case e3 => k_asm
  exact col_fold _ _ _

/-! part KnLoop -/
/-- the end of a turn of a loop over a text, the ledger may have grown -/
def TurnEnd {σ : Type} (h₀ : Heap) (L : Addr) (base own : List (Addr × Obj)) (Grow : σ → List (Addr × Obj)) (x : PySem.Str) (ps : σ → List (PySem.Str × Value)) (stored : List PySem.Str) (m₀ : PySem.Str → Option Value) (P : σ → Prop) (s₁ s₂ : Shared) : Prop :=
  ∃ (c : σ) (h' : Heap) (tk : Nat) (m' : PySem.Str → Option Value) (news' : List (Addr × Obj)), s₂ = { s₁ with heap := h', toks := tk } ∧ Fr h₀ L h' m' ∧ News h₀ L h' news' ∧ (∀ p ∈ Grow c ++ base, p ∈ news') ∧ (∀ p ∈ own, p ∈ news') ∧
    (∀ p ∈ Grow c, ∀ q ∈ own, q.1 ≠ p.1) ∧ (∀ p ∈ ps c, m' p.1 = some p.2) ∧ (∀ z, z ≠ x → (∀ p ∈ ps c, z ≠ p.1) → stored.contains z = false → m' z = m₀ z) ∧ P c
def TurnPost {σ : Type} (h₀ : Heap) (L : Addr) (base own : List (Addr × Obj)) (Grow : σ → List (Addr × Obj)) (x : PySem.Str) (ps : σ → List (PySem.Str × Value)) (stored : List PySem.Str) (m₀ : PySem.Str → Option Value) (P : σ → Prop) (s₁ : Shared) (Q : Flow → Shared → Prop) (f : Flow) (s₂ : Shared) : Prop :=
  match f with
  | .ret v => Q (.ret v) s₂
  | .brk => Q .next s₂
  | _ => TurnEnd h₀ L base own Grow x ps stored m₀ P s₁ s₂

section
variable {prog : Program} {w : World} {A : Around} {E : Value → Shared → Prop} {s : Shared} {env : Env} {h₀ : Heap} {x : PySem.Str} {body : List Stmt} {Q : Flow → Shared → Prop}

theorem iter_text0 {σ : Type} {xt : PySem.Str} {m₀ : PySem.Str → Option Value} (base : List (Addr × Obj)) (Grow : σ → List (Addr × Obj)) (ps : σ → List (PySem.Str × Value)) (stored : List PySem.Str) (P : List Nat → σ → Prop) (c₀ : σ)
    (o : Obj) (St : Nat → Heap → Prop) (W : Walks prog w A s.heap.objs.size [s.heap.objs.size] [s.heap.objs.size] xt.cps.size (SignAt xt) St) (hst : St 0 (s.heap.push o)) (hlive : ∀ i h, St i h → ∃ o', h.get? s.heap.objs.size = some o')
    (F : Fr h₀ env.locals s.heap m₀) (N : News h₀ env.locals s.heap (Grow c₀ ++ base)) (hk : ∀ p ∈ ps c₀, m₀ p.1 = some p.2) (hp : P [] c₀)
    (turn : ∀ (c : σ) (pre post : List Nat) (n : Nat) t (u : PySem.Str → Option Value) h tk own, xt.cps.toList = pre ++ n :: post → OwnOff own ((Grow c ++ base).map (·.1)) → P pre c →
      Fr h₀ env.locals h (fun y => if y = x then some (.str ⟨#[n]⟩ t) else kstB (fun z => if stored.contains z then u z else m₀ z) (ps c) y) → News h₀ env.locals h ((Grow c ++ base) ++ own) →
      wpAny (model prog w) A (execs body env) (TurnPost h₀ env.locals base own Grow x ps stored m₀ (P (pre ++ [n])) { s with heap := h, toks := tk } Q) E { s with heap := h, toks := tk })
    (done : ∀ (c : σ) (u : PySem.Str → Option Value) h tk, P xt.cps.toList c → Fr h₀ env.locals h (fun y => if y = x then u y else kstB (fun z => if stored.contains z then u z else m₀ z) (ps c) y) → News h₀ env.locals h (Grow c ++ base) → Q .next { s with heap := h, toks := tk }) :
    LoopAtV prog w A h₀ env x body Q E (.ref s.heap.objs.size) { s with heap := s.heap.push o } := by
  let J : Nat → (PySem.Str → Option Value) → List (Addr × Obj) → Prop := fun i m nx =>
    ∃ c, nx = Grow c ++ base ∧ (∀ p ∈ ps c, m p.1 = some p.2) ∧ (∀ z, z ≠ x → (∀ p ∈ ps c, z ≠ p.1) → stored.contains z = false → m z = m₀ z) ∧ P (xt.cps.toList.take i) c
  have hI : ∀ p ∈ Grow c₀ ++ base, p.1 ∉ [s.heap.objs.size] := fun p hp hq =>
    absurd (Heap.lt_size (N p hp).1) ((List.mem_singleton.mp hq) ▸ Nat.lt_irrefl _)
  have hnone : h₀.get? s.heap.objs.size = none := next_is_new F
  have hLne : env.locals ≠ s.heap.objs.size := fun e => absurd F.ns.lt (e ▸ Nat.lt_irrefl _)
  refine ⟨_, _, _, _, _, _, m₀, Grow c₀ ++ base, J, rfl, W, ?_, ?_, hI, hst, F.push _, (fun p hp => ⟨Heap.get?_push_of_some _ (N p hp).1, (N p hp).2⟩), ⟨c₀, rfl, hk, fun _ _ _ _ => rfl, by simpa using hp⟩, ?_, ?_⟩
  · intro hm
    exact hLne (List.mem_singleton.mp hm)
  · intro b hb
    rw [List.mem_singleton.mp hb]
    exact hnone
  · rintro i v m₁ news₁ s₁ own ⟨hh', tk', rfl⟩ hin ⟨n, t, hn, rfl⟩ ⟨c, rfl, h1, h2, hP⟩ hoff hown hget hall hst₁ F₁ N₁
    obtain ⟨oI, hoI⟩ := hlive _ _ hst₁
    have hIown : (s.heap.objs.size, oI) ∈ own := hall _ (List.mem_singleton.mpr rfl) hnone oI hoI
    have hn' : xt.cps.toList[i]? = some n := by rw [Array.getElem?_toList]; exact hn
    have hs : xt.cps.toList.take (i + 1) = xt.cps.toList.take i ++ [n] := by simp [List.take_add_one, hn]
    have e : xt.cps.toList = xt.cps.toList.take i ++ n :: xt.cps.toList.drop (i + 1) := by
      have ht := List.take_append_drop (i + 1) xt.cps.toList
      rw [hs, List.append_assoc] at ht
      exact ht.symm
    have N₂ : News h₀ env.locals hh' ((Grow c ++ base) ++ own) := fun p hp => N₁ p ((List.mem_append.mp hp).elim (fun h => List.mem_append.mpr (.inr h)) fun h => List.mem_append.mpr (.inl h))
    have hsep : OwnOff own ((Grow c ++ base).map (·.1)) := by
      intro p hp b hb e
      obtain ⟨q, hq, rfl⟩ := List.mem_map.mp hb
      exact hoff q hq (e ▸ hown p hp)
    refine wpAny_mono (turn c _ _ n t m₁ hh' tk' own e hsep hP (kst_fr h1 h2 F₁) N₂) (fun f s₂ p => ?_) fun _ _ e => e
    have fin : TurnEnd h₀ env.locals base own Grow x ps stored m₀ (P (xt.cps.toList.take i ++ [n])) { s with heap := hh', toks := tk' } s₂ → LoopStepU h₀ env.locals [s.heap.objs.size] own (J (i + 1)) { s with heap := hh', toks := tk' } .next s₂ := by
      rintro ⟨c', h', tk, m', news', e, F', N', hn, ho, ha, hk', hr, hP'⟩
      refine ⟨rfl, h', tk, m', Grow c' ++ base, e, F', fun p hp => N' p ((List.mem_append.mp hp).elim (ho p) (hn p)), fun p hp hq => ?_, c', rfl, hk', hr, hs ▸ hP'⟩
      rcases List.mem_append.mp hp with hp | hp
      · exact ha p hp _ hIown (List.mem_singleton.mp hq).symm
      · exact hoff p (List.mem_append_right _ hp) hq
    cases f with
    | ret v => exact .ret p
    | brk => exact .brk p
    | next => exact .next (fin p)
    | cont => exact .cont (fin p)
  · rintro h' tk m' news' F' N' hw ⟨c, rfl, h1, h2, hP⟩
    have e : xt.cps.toList.take xt.cps.size = xt.cps.toList := by
      rw [← Array.length_toList]; exact List.take_length
    rw [e] at hP
    exact done c m' h' tk hP (kst_frOut h1 h2 F') N'

theorem iter_text {σ : Type} {xt : PySem.Str} {tx : Tok} {m₀ : PySem.Str → Option Value} (base : List (Addr × Obj)) (Grow : σ → List (Addr × Obj)) (ps : σ → List (PySem.Str × Value)) (stored : List PySem.Str) (P : List Nat → σ → Prop) (c₀ : σ)
    (hh : A.handled = none) (F : Fr h₀ env.locals s.heap m₀) (N : News h₀ env.locals s.heap (Grow c₀ ++ base)) (hk : ∀ p ∈ ps c₀, m₀ p.1 = some p.2) (hp : P [] c₀)
    (turn : ∀ (c : σ) (pre post : List Nat) (n : Nat) t (u : PySem.Str → Option Value) h tk own, xt.cps.toList = pre ++ n :: post → OwnOff own ((Grow c ++ base).map (·.1)) → P pre c →
      Fr h₀ env.locals h (fun y => if y = x then some (.str ⟨#[n]⟩ t) else kstB (fun z => if stored.contains z then u z else m₀ z) (ps c) y) → News h₀ env.locals h ((Grow c ++ base) ++ own) →
      wpAny (model prog w) A (execs body env) (TurnPost h₀ env.locals base own Grow x ps stored m₀ (P (pre ++ [n])) { s with heap := h, toks := tk } Q) E { s with heap := h, toks := tk })
    (done : ∀ (c : σ) (u : PySem.Str → Option Value) h tk, P xt.cps.toList c → Fr h₀ env.locals h (fun y => if y = x then u y else kstB (fun z => if stored.contains z then u z else m₀ z) (ps c) y) → News h₀ env.locals h (Grow c ++ base) → Q .next { s with heap := h, toks := tk }) :
    wpAny (model prog w) A (pyIter (.str xt tx)) (fun it s₂ => LoopAtV prog w A h₀ env x body Q E it s₂) E s := by
  cases ha : xt.cps.all (· < 128)
  · exact wpAny_pyIter_wide ha (iter_text0 base Grow ps stored P c₀ _ _ (Walks.strWide hh _ xt tx) ⟨_, Heap.get?_push_size _ rfl, rfl, rfl⟩ (fun i h ⟨o, ho, _⟩ => ⟨o, ho⟩) F N hk hp turn done)
  · exact wpAny_pyIter_ascii ha (iter_text0 base Grow ps stored P c₀ _ _ (Walks.strAscii hh _ xt tx) ⟨_, Heap.get?_push_size _ rfl, rfl, rfl⟩ (fun i h ⟨o, ho, _⟩ => ⟨o, ho⟩) F N hk hp turn done)
end

theorem TurnEnd.intro {σ : Type} {h₀ : Heap} {L : Addr} {base own : List (Addr × Obj)} {Grow : σ → List (Addr × Obj)} {x : PySem.Str} {ps : σ → List (PySem.Str × Value)} {stored : List PySem.Str} {m₀ : PySem.Str → Option Value} {P : σ → Prop} {s₁ : Shared} (c : σ) {h' : Heap} {tk : Nat} {m' : PySem.Str → Option Value} {news' : List (Addr × Obj)}
    (F : Fr h₀ L h' m') (N : News h₀ L h' news') (hn : ∀ p ∈ Grow c ++ base, p ∈ news') (ho : ∀ p ∈ own, p ∈ news') (ha : ∀ p ∈ Grow c, ∀ q ∈ own, q.1 ≠ p.1) (hk : ∀ p ∈ ps c, m' p.1 = some p.2) (hr : ∀ z, z ≠ x → (∀ p ∈ ps c, z ≠ p.1) → stored.contains z = false → m' z = m₀ z) (hP : P c) :
    TurnEnd h₀ L base own Grow x ps stored m₀ P s₁ { s₁ with heap := h', toks := tk } := ⟨c, h', tk, m', news', rfl, F, N, hn, ho, ha, hk, hr, hP⟩

/-! part KnWS -/
structure WS where
  cs : List Int
  b : Int
  n : Int
  nt : Int
def wsExt (cs : List Int) (b : Int) : List Int := if (cs.length : Int) ≤ b then cs ++ List.replicate (b - cs.length + 1).toNat 0 else cs
def wsBump (cs : List Int) (b : Int) : List Int := cs.set b.toNat (cs.getD b.toNat 0 + 1)
def wsStep (s : WS) (c : Nat) : WS := if c = 32 then ⟨s.cs, s.b + 1, s.n + 1, s.nt⟩ else ⟨wsBump (wsExt s.cs s.b) s.b, 0, s.n + 1, s.nt + 1⟩
def ws0 : WS := ⟨[], 0, 0, 0⟩

/-- bounds of what a scan of k signs has made -/
structure WSOk (k : Nat) (s : WS) : Prop where
  b0 : 0 ≤ s.b
  bk : s.b ≤ k
  n0 : s.n = k
  nt0 : 0 ≤ s.nt
  ntk : s.nt ≤ k
  len : s.cs.length ≤ k
  pos : ∀ i ∈ s.cs, 0 ≤ i ∧ i ≤ k
theorem wsOk0 : WSOk 0 ws0 := ⟨by decide, by decide, by decide, by decide, by decide, by decide, by intro i hi; cases hi⟩
theorem mem_set {l : List Int} {i : Nat} {v x : Int} (h : x ∈ l.set i v) : x ∈ l ∨ x = v := List.mem_or_eq_of_mem_set h
theorem wsExt_len {cs : List Int} {b : Int} (_h0 : 0 ≤ b) : b < (wsExt cs b).length := by
  unfold wsExt
  split
  · rename_i h
    rw [List.length_append, List.length_replicate]
    omega
  · rename_i h
    omega
theorem wsStep_ok {k : Nat} {s : WS} (h : WSOk k s) (c : Nat) : WSOk (k + 1) (wsStep s c) := by
  have hb0 := h.b0
  have hbk := h.bk
  have hn0 := h.n0
  have hnt0 := h.nt0
  have hntk := h.ntk
  have hlen := h.len
  have hpos := h.pos
  unfold wsStep
  split
  · exact ⟨by show 0 ≤ s.b + 1; omega, by show s.b + 1 ≤ _; omega, by show s.n + 1 = _; omega, hnt0, by show s.nt ≤ _; omega, by show s.cs.length ≤ _; omega, fun i hi => by have := hpos i hi; omega⟩
  · have hel : (wsExt s.cs s.b).length ≤ k + 1 := by
      unfold wsExt
      split
      · rw [List.length_append, List.length_replicate]; omega
      · omega
    have hep : ∀ i ∈ wsExt s.cs s.b, 0 ≤ i ∧ i ≤ k := by
      intro i hi
      unfold wsExt at hi
      split at hi
      · rcases List.mem_append.mp hi with q | q
        · exact hpos i q
        · have := List.eq_of_mem_replicate q; omega
      · exact hpos i hi
    have hl := wsExt_len (cs := s.cs) hb0
    refine ⟨by show (0 : Int) ≤ 0; omega, by show (0 : Int) ≤ _; omega, by show s.n + 1 = _; omega, by show 0 ≤ s.nt + 1; omega, by show s.nt + 1 ≤ _; omega, ?_, ?_⟩
    · show (wsBump _ _).length ≤ _
      unfold wsBump
      rw [List.length_set]; exact hel
    · intro i hi
      have hi' : i ∈ wsBump (wsExt s.cs s.b) s.b := hi
      unfold wsBump at hi'
      rcases mem_set hi' with q | q
      · have := hep i q; omega
      · have hlt : s.b.toNat < (wsExt s.cs s.b).length := by omega
        have := hep ((wsExt s.cs s.b)[s.b.toNat]) (List.getElem_mem hlt)
        rw [List.getD_eq_getElem?_getD, List.getElem?_eq_getElem hlt, Option.getD_some] at q
        omega
theorem ws_ok (pre : List Nat) : WSOk pre.length (pre.foldl wsStep ws0) := by
  have gen : ∀ (l : List Nat) (k : Nat) (s : WS), WSOk k s → WSOk (k + l.length) (l.foldl wsStep s) := by
    intro l
    induction l with
    | nil => intro k s h; exact h
    | cons c r ih =>
      intro k s h
      have := ih (k + 1) _ (wsStep_ok h c)
      rw [List.foldl_cons, List.length_cons]
      have e : k + (r.length + 1) = k + 1 + r.length := by omega
      rw [e]; exact this
  have := gen pre 0 ws0 wsOk0
  rw [Nat.zero_add] at this; exact this

structure CI where
  lc : Addr
  us : List Value
  cap : Nat
  ws : WS
  tb : Tok
  tn : Tok
  tnt : Tok
def ciGrow (c : CI) : List (Addr × Obj) := [(c.lc, W.listOf c.us.toArray c.cap)]
def ciPs (c : CI) : List (PySem.Str × Value) := [(Str.ofString "count", .ref c.lc), (Str.ofString "b", .int c.ws.b c.tb), (Str.ofString "n", .int c.ws.n c.tn), (Str.ofString "nt", .int c.ws.nt c.tnt)]
def ciP (D x d : Addr) (news : List (Addr × Obj)) (pre : List Nat) (c : CI) : Prop :=
  IntsAre c.us c.ws.cs ∧ c.ws = pre.foldl wsStep ws0 ∧ (∀ k ∈ pre, k = 32 ∨ k = 9) ∧ @LT.lt Nat _ D c.lc ∧ @LT.lt Nat _ x c.lc ∧ @LT.lt Nat _ d c.lc ∧ AllLt c.lc news
def Blanks (l : List Nat) : Prop := ∀ k ∈ l, k = 32 ∨ k = 9

def InitEnd (h₀ : Heap) (L : Addr) (base own : List (Addr × Obj)) (m₀ : PySem.Str → Option Value) (D x' d' : Addr) (news : List (Addr × Obj)) (pre : List Nat) (s₁ s₂ : Shared) : Prop :=
  TurnEnd h₀ L base own ciGrow (Str.ofString "ch") ciPs [] m₀ (ciP D x' d' news pre) s₁ s₂
def InitPost (h₀ : Heap) (L : Addr) (base own : List (Addr × Obj)) (m₀ : PySem.Str → Option Value) (D x' d' : Addr) (news : List (Addr × Obj)) (pre : List Nat) (s₁ : Shared) (Q : Flow → Shared → Prop) (f : Flow) (s₂ : Shared) : Prop :=
  match f with
  | .ret v => Q (.ret v) s₂
  | .brk => Q .next s₂
  | _ => InitEnd h₀ L base own m₀ D x' d' news pre s₁ s₂

section
variable {prog : Program} {w : World} {A : Around} {E : Value → Shared → Prop} {s : Shared} {env : Env} {h₀ : Heap} {body : List Stmt} {Q : Flow → Shared → Prop}
theorem init_loop {xt : PySem.Str} {tx : Tok} {m₀ : PySem.Str → Option Value} {lc D x' d' : Addr} {oD ox od : Obj} {news : List (Addr × Obj)} {tb tn tnt : Tok}
    (hh : A.handled = none) (F : Fr h₀ env.locals s.heap m₀) (N : News h₀ env.locals s.heap ((lc, W.listOf #[] 0) :: (D, oD) :: (x', ox) :: (d', od) :: news)) (hl : @LT.lt Nat _ D lc ∧ @LT.lt Nat _ x' lc ∧ @LT.lt Nat _ d' lc ∧ AllLt lc news)
    (e1 : m₀ (Str.ofString "count") = some (.ref lc)) (e2 : m₀ (Str.ofString "b") = some (.int 0 tb)) (e3 : m₀ (Str.ofString "n") = some (.int 0 tn)) (e4 : m₀ (Str.ofString "nt") = some (.int 0 tnt))
    (turn : ∀ lc us cap cs b n nt tb tn tnt (pre post : List Nat) (c : Nat) t h tk own, xt.cps.toList = pre ++ c :: post → OwnOff own (lc :: D :: x' :: d' :: news.map (·.1)) → IntsAre us cs → WS.mk cs b n nt = pre.foldl wsStep ws0 → Blanks pre → @LT.lt Nat _ D lc → @LT.lt Nat _ x' lc → @LT.lt Nat _ d' lc → AllLt lc news →
      Fr h₀ env.locals h (fun y => if y = Str.ofString "ch" then some (.str ⟨#[c]⟩ t) else if y = Str.ofString "count" then some (.ref lc) else if y = Str.ofString "b" then some (.int b tb) else if y = Str.ofString "n" then some (.int n tn) else if y = Str.ofString "nt" then some (.int nt tnt) else m₀ y) →
      News h₀ env.locals h ((lc, W.listOf us.toArray cap) :: (D, oD) :: (x', ox) :: (d', od) :: (news ++ own)) →
      wpAny (model prog w) A (execs body env) (InitPost h₀ env.locals ((D, oD) :: (x', ox) :: (d', od) :: news) own m₀ D x' d' news (pre ++ [c]) { s with heap := h, toks := tk } Q) E { s with heap := h, toks := tk })
    (done : ∀ lc us cap cs b n nt tb tn tnt (u : PySem.Str → Option Value) h tk, IntsAre us cs → WS.mk cs b n nt = xt.cps.toList.foldl wsStep ws0 → Blanks xt.cps.toList → @LT.lt Nat _ D lc → @LT.lt Nat _ x' lc → @LT.lt Nat _ d' lc → AllLt lc news →
      Fr h₀ env.locals h (fun y => if y = Str.ofString "ch" then u y else if y = Str.ofString "count" then some (.ref lc) else if y = Str.ofString "b" then some (.int b tb) else if y = Str.ofString "n" then some (.int n tn) else if y = Str.ofString "nt" then some (.int nt tnt) else m₀ y) →
      News h₀ env.locals h ((lc, W.listOf us.toArray cap) :: (D, oD) :: (x', ox) :: (d', od) :: news) → Q .next { s with heap := h, toks := tk }) :
    wpAny (model prog w) A (pyIter (.str xt tx)) (fun it s₂ => LoopAtV prog w A h₀ env (Str.ofString "ch") body Q E it s₂) E s := by
  have em : ∀ u : PySem.Str → Option Value, (fun z => if ([] : List PySem.Str).contains z = true then u z else m₀ z) = m₀ := fun u => by funext z; simp
  refine iter_text ((D, oD) :: (x', ox) :: (d', od) :: news) ciGrow ciPs [] (ciP D x' d' news) ⟨lc, [], 0, ws0, tb, tn, tnt⟩ hh F N ?_ ⟨.nil, rfl, (fun k hk => by cases hk), hl.1, hl.2.1, hl.2.2.1, hl.2.2.2⟩ ?_ ?_
  · intro p hp
    simp only [ciPs, List.mem_cons, List.not_mem_nil, or_false] at hp
    rcases hp with rfl | rfl | rfl | rfl
    · exact e1
    · exact e2
    · exact e3
    · exact e4
  · rintro ⟨lc, us, cap, ⟨cs, b, n, nt⟩, tb, tn, tnt⟩ pre post c t u h tk own e hoff ⟨hi, hw, hb, q1, q2, q3, q4⟩ F₁ N₁
    rw [em] at F₁
    exact turn lc us cap cs b n nt tb tn tnt pre post c t h tk own e hoff hi hw hb q1 q2 q3 q4 F₁ N₁
  · rintro ⟨lc, us, cap, ⟨cs, b, n, nt⟩, tb, tn, tnt⟩ u h tk ⟨hi, hw, hb, q1, q2, q3, q4⟩ F₁ N₁
    rw [em] at F₁
    exact done lc us cap cs b n nt tb tn tnt u h tk hi hw hb q1 q2 q3 q4 F₁ N₁

theorem init_end {L : Addr} {own : List (Addr × Obj)} {m₀ : PySem.Str → Option Value} {D x' d' : Addr} {oD ox od : Obj} {news : List (Addr × Obj)} {pre : List Nat} {s₁ : Shared}
    {lc : Addr} {us : List Value} {cap : Nat} {cs : List Int} {b n nt : Int} {tb tn tnt : Tok} {h' : Heap} {tk : Nat} {m' : PySem.Str → Option Value} {news' : List (Addr × Obj)}
    (F : Fr h₀ L h' m') (N : News h₀ L h' news') (e1 : m' (Str.ofString "count") = some (.ref lc)) (e2 : m' (Str.ofString "b") = some (.int b tb)) (e3 : m' (Str.ofString "n") = some (.int n tn)) (e4 : m' (Str.ofString "nt") = some (.int nt tnt))
    (hm : (lc, W.listOf us.toArray cap) ∈ news') (hn : ∀ p ∈ (D, oD) :: (x', ox) :: (d', od) :: news, p ∈ news') (ho : ∀ p ∈ own, p ∈ news') (ha : ∀ q ∈ own, q.1 ≠ lc)
    (hr : ∀ z, z ≠ Str.ofString "ch" → z ≠ Str.ofString "count" → z ≠ Str.ofString "b" → z ≠ Str.ofString "n" → z ≠ Str.ofString "nt" → m' z = m₀ z)
    (hi : IntsAre us cs) (hw : WS.mk cs b n nt = pre.foldl wsStep ws0) (hb : Blanks pre) (q1 : @LT.lt Nat _ D lc) (q2 : @LT.lt Nat _ x' lc) (q3 : @LT.lt Nat _ d' lc) (q4 : AllLt lc news) :
    InitEnd h₀ L ((D, oD) :: (x', ox) :: (d', od) :: news) own m₀ D x' d' news pre s₁ { s₁ with heap := h', toks := tk } := by
  refine TurnEnd.intro ⟨lc, us, cap, ⟨cs, b, n, nt⟩, tb, tn, tnt⟩ F N ?_ ho ?_ ?_ ?_ ⟨hi, hw, hb, q1, q2, q3, q4⟩
  · intro p hp
    rcases List.mem_cons.mp hp with rfl | hp
    · exact hm
    · exact hn p hp
  · intro p hp q hq
    have e := List.mem_singleton.mp hp
    rw [e]; exact ha q hq
  · intro p hp
    simp only [ciPs, List.mem_cons, List.not_mem_nil, or_false] at hp
    rcases hp with rfl | rfl | rfl | rfl
    · exact e1
    · exact e2
    · exact e3
    · exact e4
  · intro z hz hps _
    exact hr z hz (hps _ (.head _)) (hps _ (.tail _ (.head _))) (hps _ (.tail _ (.tail _ (.head _)))) (hps _ (.tail _ (.tail _ (.tail _ (.head _)))))
end

/-! part KnInit -/
theorem done_bounds {raw : PySem.Str} {cs : List Int} {b n nt : Int} (hw : WS.mk cs b n nt = raw.cps.toList.foldl wsStep ws0) (hpre : raw.length ≤ 1000) :
    0 ≤ b ∧ b ≤ 1000 ∧ 0 ≤ n ∧ n ≤ 1000 ∧ 0 ≤ nt ∧ nt ≤ 1000 ∧ cs.length ≤ 1000 := by
  have hok := ws_ok raw.cps.toList
  rw [← hw] at hok
  have hl : raw.cps.toList.length ≤ 1000 := by rw [Array.length_toList]; exact hpre
  have h1 := hok.b0; have h2 := hok.bk; have h3 := hok.n0; have h4 := hok.nt0; have h5 := hok.ntk; have h6 := hok.len
  dsimp only at h1 h2 h3 h4 h5 h6
  refine ⟨?_, ?_, ?_, ?_, ?_, ?_, ?_⟩ <;> omega
theorem turn_bounds {raw : PySem.Str} {cs : List Int} {b n nt : Int} {pre post : List Nat} {c : Nat} (hw : WS.mk cs b n nt = pre.foldl wsStep ws0) (e : raw.cps.toList = pre ++ c :: post) (hpre : raw.length ≤ 1000) :
    0 ≤ b ∧ b ≤ 1000 ∧ 0 ≤ n ∧ n ≤ 1000 ∧ 0 ≤ nt ∧ nt ≤ 1000 ∧ cs.length ≤ 1000 := by
  have hok := ws_ok pre
  rw [← hw] at hok
  have hl : raw.cps.toList.length ≤ 1000 := by rw [Array.length_toList]; exact hpre
  rw [e, List.length_append, List.length_cons] at hl
  have h1 := hok.b0; have h2 := hok.bk; have h3 := hok.n0; have h4 := hok.nt0; have h5 := hok.ntk; have h6 := hok.len
  dsimp only at h1 h2 h3 h4 h5 h6
  refine ⟨?_, ?_, ?_, ?_, ?_, ?_, ?_⟩ <;> omega

section
variable {prog : Program} {w : World} {A : Around} {E : Value → Shared → Prop} {s : Shared} {h₀ : Heap} {L : Addr} {m : PySem.Str → Option Value} {Q : Value → Shared → Prop}
theorem tuple_of {l : Addr} {us : List Value} {cap : Nat} {ns : List Int} {news : List (Addr × Obj)} (Fh : Fr h₀ L s.heap m) (N : News h₀ L s.heap news) (hm : (l, W.listOf us.toArray cap) ∈ news) (hi : IntsAre us ns) (hsz : ns.length ≤ 1000000)
    (hQ : ∀ (D : Addr) h', Fr h₀ L h' m → News h₀ L h' ((D, { cls := .type "tuple", data := .seq us.toArray }) :: news) → (∀ p ∈ news, p.1 < D) → Q (.ref D) { s with heap := h' }) :
    wpAny (model prog w) A (call (.type "tuple") [.ref l]) Q E s := by
  refine call_tuple_list (News.isList N hm) (fun h' hk => ?_) (by rw [List.size_toArray, hi.length, sizeLine_eq]; omega)
  have F' : Fr h₀ L h' m := Fh.keeps hk
  have N' : News h₀ L h' news := fun p hp => ⟨hk _ _ (N p hp).1, (N p hp).2⟩
  exact hQ _ _ (F'.push _) (N'.push F' _) (fun p hp => Heap.lt_size (N' p hp).1)
end
local macro_rules | `(tactic| walk_at "call type:tuple") => `(tactic| (k_here; (with_reducible show wpAny _ _ (call (Value.type _) [Value.ref _]) _ _ _); k_dflt (refine' tuple_of ?k1 ?k2 ?k3 ?k4 ?k5 ?_; (case k1 => k_asm); (case k2 => k_asm); (case k3 => k_mem); (case k4 => with_reducible assumption); (case k5 => omega); k_whole); intro D' h' F' N' l1; (try k_lt l1); (try k_sweep)))


/-- the blank lead of a text -/
def isBlank (c : Nat) : Bool := c == 32 || c == 9
def leadOf (l : List Nat) : List Nat := l.takeWhile isBlank
theorem blank_iff {c : Nat} : isBlank c = true ↔ (c = 32 ∨ c = 9) := by unfold isBlank; simp
theorem leadOf_blanks {l : List Nat} (h : Blanks l) : leadOf l = l := by
  unfold leadOf
  induction l with
  | nil => rfl
  | cons c r ih =>
    rw [List.takeWhile_cons_of_pos (blank_iff.mpr (h c (.head _))), ih fun k hk => h k (.tail _ hk)]
theorem leadOf_stop {pre post : List Nat} {c : Nat} (h : Blanks pre) (hc : isBlank c = false) : leadOf (pre ++ c :: post) = pre := by
  unfold leadOf
  induction pre with
  | nil => rw [List.nil_append, List.takeWhile_cons_of_neg (by rw [hc]; decide)]
  | cons d r ih =>
    rw [List.cons_append, List.takeWhile_cons_of_pos (blank_iff.mpr (h d (.head _))), ih fun k hk => h k (.tail _ hk)]
/-- what a scan of a text makes -/
def wsOf (l : List Nat) : WS := (leadOf l).foldl wsStep ws0

theorem space_is : PySem.Str.ofString " " = ⟨#[32]⟩ := by decide +kernel
theorem tabs_is : PySem.Str.ofString "\t" = ⟨#[9]⟩ := by decide +kernel
theorem sign_eq (c d : Nat) : ((⟨#[c]⟩ : PySem.Str) == ⟨#[d]⟩) = decide (c = d) := by
  by_cases h : c = d
  · subst h; simp
  · rw [decide_eq_false h]
    refine beq_eq_false_iff_ne.mpr fun e => h ?_
    have := congrArg PySem.Str.cps e
    simpa using this
theorem is_space {c : Nat} (h : ((⟨#[c]⟩ : PySem.Str) == Str.ofString " ") = true) : c = 32 := by
  rw [space_is, sign_eq] at h; exact of_decide_eq_true h
theorem no_space {c : Nat} (h : ((⟨#[c]⟩ : PySem.Str) == Str.ofString " ") = false) : c ≠ 32 := by
  rw [space_is, sign_eq] at h; exact of_decide_eq_false h
theorem is_tab {c : Nat} (h : ((⟨#[c]⟩ : PySem.Str) == Str.ofString "\t") = true) : c = 9 := by
  rw [tabs_is, sign_eq] at h; exact of_decide_eq_true h
theorem no_tab {c : Nat} (h : ((⟨#[c]⟩ : PySem.Str) == Str.ofString "\t") = false) : c ≠ 9 := by
  rw [tabs_is, sign_eq] at h; exact of_decide_eq_false h
theorem blanks_snoc {pre : List Nat} {c : Nat} (h : Blanks pre) (hc : c = 32 ∨ c = 9) : Blanks (pre ++ [c]) := by
  intro k hk
  rcases List.mem_append.mp hk with q | q
  · exact h k q
  · rw [List.mem_singleton.mp q]; exact hc
theorem flat_one (k : Nat) : (List.replicate k [(0 : Int)]).flatten = List.replicate k 0 := by
  induction k with
  | zero => rfl
  | succ k ih => rw [List.replicate_succ, List.flatten_cons, ih, List.replicate_succ]; rfl
section
variable {cs : List Int} {b n nt : Int} {pre : List Nat} {c : Nat}
theorem step_space (hw : WS.mk cs b n nt = pre.foldl wsStep ws0) (h : c = 32) : WS.mk cs (b + 1) (n + 1) nt = (pre ++ [c]).foldl wsStep ws0 := by
  rw [List.foldl_append, ← hw, List.foldl_cons, List.foldl_nil]
  unfold wsStep
  rw [if_pos h]
theorem step_grow (hw : WS.mk cs b n nt = pre.foldl wsStep ws0) (h : c ≠ 32) (hb : (cs.length : Int) ≤ b) :
    WS.mk ((cs ++ (List.replicate (b - cs.length + 1).toNat [0]).flatten).set b.toNat ((cs ++ (List.replicate (b - cs.length + 1).toNat [0]).flatten).getD b.toNat 0 + 1)) 0 (n + 1) (nt + 1) = (pre ++ [c]).foldl wsStep ws0 := by
  rw [List.foldl_append, ← hw, List.foldl_cons, List.foldl_nil]
  unfold wsStep
  rw [if_neg h]
  unfold wsBump wsExt
  rw [if_pos hb, flat_one]
theorem step_tab (hw : WS.mk cs b n nt = pre.foldl wsStep ws0) (h : c ≠ 32) (hb : ¬ (cs.length : Int) ≤ b) :
    WS.mk (cs.set b.toNat (cs.getD b.toNat 0 + 1)) 0 (n + 1) (nt + 1) = (pre ++ [c]).foldl wsStep ws0 := by
  rw [List.foldl_append, ← hw, List.foldl_cons, List.foldl_nil]
  unfold wsStep
  rw [if_neg h]
  unfold wsBump wsExt
  rw [if_neg hb]
end
theorem allLt_left {d : Addr} : ∀ {l r : List (Addr × Obj)}, AllLt d (l ++ r) → AllLt d l
  | [], _, _ => trivial
  | _ :: _, _, h => ⟨h.1, allLt_left h.2⟩
theorem init_end' {h₀ : Heap} {L : Addr} {own : List (Addr × Obj)} {m₀ : PySem.Str → Option Value} {D x' d' : Addr} {oD ox od : Obj} {news : List (Addr × Obj)} {pre : List Nat} {s₁ : Shared}
    {lc : Addr} {us : List Value} {cap : Nat} {cs : List Int} {b n nt : Int} {tb tn tnt : Tok} {h' : Heap} {tk : Nat} {m' : PySem.Str → Option Value} (front : List (Addr × Obj))
    (F : Fr h₀ L h' m') (N : News h₀ L h' (front ++ ((D, oD) :: (x', ox) :: (d', od) :: (news ++ own)))) (e1 : m' (Str.ofString "count") = some (.ref lc)) (e2 : m' (Str.ofString "b") = some (.int b tb)) (e3 : m' (Str.ofString "n") = some (.int n tn)) (e4 : m' (Str.ofString "nt") = some (.int nt tnt))
    (hm : (lc, W.listOf us.toArray cap) ∈ front) (ha : ∀ q ∈ own, q.1 ≠ lc)
    (hr : ∀ z, z ≠ Str.ofString "ch" → z ≠ Str.ofString "count" → z ≠ Str.ofString "b" → z ≠ Str.ofString "n" → z ≠ Str.ofString "nt" → m' z = m₀ z)
    (hi : IntsAre us cs) (hw : WS.mk cs b n nt = pre.foldl wsStep ws0) (hb : Blanks pre) (q1 : @LT.lt Nat _ D lc) (q2 : @LT.lt Nat _ x' lc) (q3 : @LT.lt Nat _ d' lc) (q4 : AllLt lc news) :
    InitEnd h₀ L ((D, oD) :: (x', ox) :: (d', od) :: news) own m₀ D x' d' news pre s₁ { s₁ with heap := h', toks := tk } := by
  refine init_end F N e1 e2 e3 e4 (List.mem_append_left _ hm) (fun p hp => List.mem_append_right _ ?_) (fun p hp => List.mem_append_right _ ?_) ha hr hi hw hb q1 q2 q3 q4
  · have e : (D, oD) :: (x', ox) :: (d', od) :: (news ++ own) = ((D, oD) :: (x', ox) :: (d', od) :: news) ++ own := rfl
    rw [e]; exact List.mem_append_left _ hp
  · exact .tail _ (.tail _ (.tail _ (List.mem_append_right _ hp)))

/-- the dict of an object of the class -/
def wsDict (P : Params) (raw : PySem.Str) (t1 : Tok) (n nt : Int) (nm : Addr) (sm : Bool) (k1 k2 k3 k4 k5 tn tnt : Tok) : Obj :=
  dictOf [{ hash := PyData.keyHash P (Str.ofString "raw"), key := .str (Str.ofString "raw") k1, val := .str raw t1 },
    { hash := PyData.keyHash P (Str.ofString "n"), key := .str (Str.ofString "n") k2, val := .int n tn },
    { hash := PyData.keyHash P (Str.ofString "nt"), key := .str (Str.ofString "nt") k3, val := .int nt tnt },
    { hash := PyData.keyHash P (Str.ofString "norm"), key := .str (Str.ofString "norm") k4, val := .ref nm },
    { hash := PyData.keyHash P (Str.ofString "is_simple"), key := .str (Str.ofString "is_simple") k5, val := .bool sm }] 5

abbrev MakeRet (w : World) (h₀ : Heap) (L : Addr) (m : PySem.Str → Option Value) (news : List (Addr × Obj)) (raw : PySem.Str) (t1 : Tok) (s : Shared) (Q : Value → Shared → Prop) : Prop :=
  ∀ (x d nm ct : Addr) (us : List Value) (cs : List Int) (b n nt : Int) (sm : Bool) (k1 k2 k3 k4 k5 tn tnt tb : Tok) (h' : Heap) (tk' : Nat),
    IntsAre us cs → WS.mk cs b n nt = wsOf raw.cps.toList → sm = decide ((cs.length : Int) ≤ 1) → @LT.lt Nat _ d x → @LT.lt Nat _ x ct → @LT.lt Nat _ ct nm → AllLt d news → Fr h₀ L h' m →
    News h₀ L h' ((nm, { cls := .type "tuple", data := .seq #[.ref ct, .int b tb] }) :: (ct, { cls := .type "tuple", data := .seq us.toArray }) :: (x, instObj 83 d) :: (d, wsDict w.params raw t1 n nt nm sm k1 k2 k3 k4 k5 tn tnt) :: news) →
    Q (.ref x) { s with heap := h', toks := tk' }

theorem make_news {h₀ h : Heap} {L : Addr} {a1 a2 a3 a4 a5 a6 : Addr × Obj} {news : List (Addr × Obj)} (N : News h₀ L h (a1 :: a2 :: a3 :: a4 :: a5 :: a6 :: news)) : News h₀ L h (a1 :: a2 :: a5 :: a6 :: news) := by
  intro p hp
  refine N p ?_
  simp only [List.mem_cons] at hp ⊢
  rcases hp with h | h | h | h | h
  · exact .inl h
  · exact .inr (.inl h)
  · exact .inr (.inr (.inr (.inr (.inl h))))
  · exact .inr (.inr (.inr (.inr (.inr (.inl h)))))
  · exact .inr (.inr (.inr (.inr (.inr (.inr h)))))
theorem make_newsO {h₀ h : Heap} {L : Addr} {a1 a2 a3 a4 a5 a6 : Addr × Obj} {news own : List (Addr × Obj)} (N : News h₀ L h (a1 :: a2 :: a3 :: a4 :: a5 :: a6 :: (news ++ own))) : News h₀ L h (a1 :: a2 :: a5 :: a6 :: news) := by
  refine make_news (a3 := a3) (a4 := a4) fun p hp => N p ?_
  have e : a1 :: a2 :: a3 :: a4 :: a5 :: a6 :: (news ++ own) = (a1 :: a2 :: a3 :: a4 :: a5 :: a6 :: news) ++ own := rfl
  rw [e]; exact List.mem_append_left _ hp

def MakeTells : Prop := ∀ (w : World) (mean : ExcName → Option Value) (mg mb : PySem.Str → Option Value) (raw : PySem.Str) (t1 : Tok) (news : List (Addr × Obj))
  (dp un : Nat) (gd : Option (List Code)) (cn : PySem.Str) (cs : Scope) (a : Addr) (ccd : Value) (cl : List (PySem.Str × Addr)) (outer : List Env) (A₀ : Around) (base h₀ : Heap) (L : Addr) (m : PySem.Str → Option Value) (s : Shared) (Q E : Value → Shared → Prop),
    Below A₀ base outer h₀ → Fr h₀ L s.heap m → (hd.heap_39 w.params).In h₀ → News h₀ L s.heap news → Top hd.view_39 (looseW hd.view_39 [Str.ofString "Whitespace"]) mean mg mb h₀ → cs.kind = .function →
    raw.length ≤ 1000 → dp + 1 < recursionLimit → un + 8 < cLine → MakeRet w h₀ L m news raw t1 s Q →
      wpAny (model PySem.Challenge.rw_kn0036_01.row.prog w) (ktrTop dp un gd cn cs L a ccd cl outer) (call (.ref 83) [.str raw t1]) Q E s

set_option maxRecDepth 100000 in
set_option maxHeartbeats 8000000 in
theorem makeTells : MakeTells := by
  unfold MakeTells
  k_fill
  intro w mean mg mb raw t1 news dp un gd cn cs a ccd cl outer A₀ base h₀ L m s Q E B F X N T hk hpre hdp hun hret
  w_on
  w_top on
  k_dflt (refine' call_cls ?k1 ?k2 ?k3 ?k4 ?k5 ?k6 ?_)
  case k1 => k_asm
  case k2 => k_asm
  case k3 => k_asm
  case k4 => k_is
  case k5 => k_is
  case k6 => k_is
  intro x' d' h' F' N' l1 l2
  have l0 : AllLt d' news := allLt_of l1
  k_lt2 l2
  k_dflt cell_enter
  k_steps
  rename Fr _ _ _ _ => F2
  rename News _ _ _ _ => N2
  rename _ ∧ _ ∧ _ ∧ AllLt _ _ => l3
  with_unfolding_all refine' init_loop (by rfl) F2 N2 l3 (by rfl) (by rfl) (by rfl) (by rfl) ?_ ?_
  · intro lc us cap cs b n nt tb tn tnt pre post c t h tk own e hoff hi hw hb q1 q2 q3 q4 F3 N3
    clear F2 N2
    dsimp only [envOf] at F3 N3
    have mk : KstMark := kstMark
    obtain ⟨p1, p2, p3, p4, p5, p6, p7⟩ := turn_bounds hw e hpre
    try k_fold
    k_steps
    all_goals (try dsimp only)
    · dsimp only [InitPost, envOf]
      rename ((_ : PySem.Str) == Str.ofString " ") = true => c1
      refine init_end' [_] (by k_asm) (by assumption) rfl rfl rfl rfl (.head _) (fun q hq => hoff q hq _ (.head _)) ?_ hi (step_space hw (is_space c1)) (blanks_snoc hb (.inl (is_space c1))) q1 q2 q3 q4
      intro z h1 h2 h3 h4 h5
      simp only [h1, h2, h3, h4, h5, if_false]
    · dsimp only [InitPost, envOf]
      rename ((_ : PySem.Str) == Str.ofString " ") = false => c1
      rename ((_ : PySem.Str) == Str.ofString "\t") = true => c2
      rename (_ : Int) ≤ b => c3
      rename _ ∧ _ ∧ _ ∧ _ ∧ _ ∧ _ ∧ AllLt _ _ => lz
      refine init_end' [_, _, _, _] (by k_asm) (by assumption) rfl rfl rfl rfl (.head _) (by k_all) ?_ (by assumption) (step_grow hw (no_space c1) c3) (blanks_snoc hb (.inr (is_tab c2))) (by omega) (by omega) (by omega) (allLt_left lz.2.2.2.2.2.2)
      intro z h1 h2 h3 h4 h5
      simp only [h1, h2, h3, h4, h5, if_false]
    · dsimp only [InitPost, envOf]
      rename ((_ : PySem.Str) == Str.ofString " ") = false => c1
      rename ((_ : PySem.Str) == Str.ofString "\t") = true => c2
      refine init_end' [_] (by k_asm) (by assumption) rfl rfl rfl rfl (.head _) (fun q hq => hoff q hq _ (.head _)) ?_ (by assumption) (step_tab hw (no_space c1) (by omega)) (blanks_snoc hb (.inr (is_tab c2))) q1 q2 q3 q4
      intro z h1 h2 h3 h4 h5
      simp only [h1, h2, h3, h4, h5, if_false]
    · dsimp only [InitPost]
      rename ((_ : PySem.Str) == Str.ofString " ") = false => c1
      rename ((_ : PySem.Str) == Str.ofString "\t") = false => c2
      have hW : WS.mk cs b n nt = wsOf raw.cps.toList := by
        unfold wsOf
        have hc : isBlank c = false := by
          cases hq : isBlank c with
          | false => rfl
          | true => exact absurd (blank_iff.mp hq) (fun o => o.elim (no_space c1) (no_tab c2))
        rw [e, leadOf_stop hb hc]; exact hw
      k_steps
      rename _ ∧ _ ∧ _ ∧ _ ∧ _ ∧ AllLt _ _ => lz
      rename _ ∧ _ ∧ _ ∧ _ ∧ AllLt _ _ => ly
      refine hret x' d' _ _ us cs b n nt _ _ _ _ _ _ _ _ _ _ _ hi hW rfl l2 ?_ ?_ l0 (by k_asm) (make_newsO (by assumption))
      · exact ly.2.2.1
      · exact lz.1
  · intro lc us cap cs b n nt tb tn tnt u h tk hi hw hb q1 q2 q3 q4 F3 N3
    clear F2 N2
    dsimp only [envOf] at F3 N3
    have mk : KstMark := kstMark
    obtain ⟨p1, p2, p3, p4, p5, p6, p7⟩ := done_bounds hw hpre
    have hW : WS.mk cs b n nt = wsOf raw.cps.toList := by unfold wsOf; rw [leadOf_blanks hb]; exact hw
    k_steps
    rename _ ∧ _ ∧ _ ∧ _ ∧ _ ∧ AllLt _ _ => lz
    rename _ ∧ _ ∧ _ ∧ _ ∧ AllLt _ _ => ly
    refine hret x' d' _ _ us cs b n nt _ _ _ _ _ _ _ _ _ _ _ hi hW rfl l2 ?_ ?_ l0 (by k_asm) (make_news (by assumption))
    · exact ly.2.2.1
    · exact lz.1

/-! part KnMeth -/
/-- the ledger bears an object of the class at x -/
structure HasWS (P : Params) (news : List (Addr × Obj)) (x : Addr) (W : WS) : Prop where
  ok : ∃ (d nm ct : Addr) (us : List Value) (raw : PySem.Str) (t1 : Tok) (k1 k2 k3 k4 k5 tn tnt tb : Tok),
    (nm, ({ cls := .type "tuple", data := .seq #[.ref ct, .int W.b tb] } : Obj)) ∈ news ∧ (ct, ({ cls := .type "tuple", data := .seq us.toArray } : Obj)) ∈ news ∧ (x, instObj 83 d) ∈ news ∧
    (d, wsDict P raw t1 W.n W.nt nm (decide ((W.cs.length : Int) ≤ 1)) k1 k2 k3 k4 k5 tn tnt) ∈ news ∧ IntsAre us W.cs
  b0 : 0 ≤ W.b
  b1 : W.b ≤ 1000
  n0 : 0 ≤ W.n
  n1 : W.n ≤ 1000
  nt0 : 0 ≤ W.nt
  nt1 : W.nt ≤ 1000
  len : W.cs.length ≤ 1000
  items : ∀ i ∈ W.cs, 0 ≤ i ∧ i ≤ 1000
theorem HasWS.mono {P : Params} {news news' : List (Addr × Obj)} {x : Addr} {W : WS} (h : HasWS P news x W) (hs : ∀ p ∈ news, p ∈ news') : HasWS P news' x W := by
  obtain ⟨⟨d, nm, ct, us, raw, t1, k1, k2, k3, k4, k5, tn, tnt, tb, m1, m2, m3, m4, hi⟩, r1, r2, r3, r4, r5, r6, r7, r8⟩ := h
  exact ⟨⟨d, nm, ct, us, raw, t1, k1, k2, k3, k4, k5, tn, tnt, tb, hs _ m1, hs _ m2, hs _ m3, hs _ m4, hi⟩, r1, r2, r3, r4, r5, r6, r7, r8⟩
theorem news_four {h₀ h : Heap} {L : Addr} {a b c d : Addr × Obj} {news : List (Addr × Obj)} (N : News h₀ L h news) (ha : a ∈ news) (hb : b ∈ news) (hc : c ∈ news) (hd : d ∈ news) : News h₀ L h (a :: b :: c :: d :: news) := by
  intro p hp
  refine N p ?_
  simp only [List.mem_cons] at hp
  rcases hp with rfl | rfl | rfl | rfl | h
  · exact ha
  · exact hb
  · exact hc
  · exact hd
  · exact h
theorem news_back {h₀ h : Heap} {L : Addr} {news news' : List (Addr × Obj)} (N : News h₀ L h news') (hs : ∀ p ∈ news, p ∈ news') : News h₀ L h news := fun p hp => N p (hs p hp)

section
variable {prog : Program} {w : World} {A : Around} {E : Value → Shared → Prop} {s : Shared} {h₀ : Heap} {L : Addr} {Q : Value → Shared → Prop} {D : Addr} {us : List Value} {n : Nat} {ns : List Int} {news : List (Addr × Obj)}
theorem len_tup (N : News h₀ L s.heap news) (hm : (D, ({ cls := .type "tuple", data := .seq us.toArray n } : Obj)) ∈ news) (hi : IntsAre us ns) (hl : ns.length ≤ 1000000)
    (h : Q (.int (ns.length : Nat) (s.toks + 1)) { s with toks := s.toks + 1 + 1 }) : wpAny (model prog w) A (call (.builtin "len") [.ref D]) Q E s := by
  have e : us.toArray.size = ns.length := by simp [hi.length]
  refine PyProof.Rows.len_tuple (News.isTup N hm) (by omega) ?_
  rw [e]
  exact h
theorem tup_item {value slice : PySem.Expr} {k : Int} {u : Tok} (N : News h₀ L s.heap news) (hm : (D, ({ cls := .type "tuple", data := .seq us.toArray n } : Obj)) ∈ news) (hi : IntsAre us ns) (hb : ∀ i ∈ ns, 0 ≤ i ∧ i ≤ 1000) (h0 : 0 ≤ k) (h1 : k < ns.length) (hfit : ns.length ≤ 1000000)
    (h : ∀ t, 0 ≤ ns.getD k.toNat 0 → ns.getD k.toNat 0 ≤ 1000 → Q (.int (ns.getD k.toNat 0) t) s)
    (hs : subscripted slice false (.ref D) (.int k u) = operate [.ref D, .int k u] (getItem (.ref D) (.int k u)) := by with_unfolding_all rfl) :
    wpAny (model prog w) A (subscriptTail value slice (.ref D) (.int k u)) Q E s := by
  obtain ⟨t, hx⟩ := hi.get k.toNat _ (ints_getD h0 h1)
  have hl := hi.length
  have hlt : k.toNat < ns.length := by omega
  have hv := hb ns[k.toNat] (List.getElem_mem hlt)
  have hg : ns.getD k.toNat 0 = ns[k.toNat] := by rw [List.getD_eq_getElem?_getD, List.getElem?_eq_getElem hlt, Option.getD_some]
  refine tail_any (News.isTup N hm).typeIs slot_tuple_getitem.lookup (PyProof.Rows.getItem_tuple (j := k.toNat) (News.isTup N hm) (by omega) (by omega) ?_ (by simpa using hx) (h t (by rw [hg]; exact hv.1) (by rw [hg]; exact hv.2))) hs
  unfold seqIndex?
  have e : us.toArray.size = ns.length := by simp [hi.length]
  rw [e]
  have : ¬ k < 0 := by omega
  simp [this]
  omega
end
local macro_rules | `(tactic| walk_at "call builtin:len") => `(tactic| (k_here; (with_reducible show wpAny _ _ (call (Value.builtin "len") [Value.ref _]) _ _ _); k_dflt (refine' len_tup ?k1 ?k2 ?k3 ?k4 ?_; (case k1 => k_asm); (case k2 => k_mem); (case k3 => with_reducible assumption); (case k4 => omega); k_whole)))
local macro_rules | `(tactic| walk_at "subscriptTail") => `(tactic| (k_here; (with_reducible show wpAny _ _ (subscriptTail _ _ (Value.ref _) (Value.int _ _)) _ _ _); k_dflt (refine' tup_item ?k1 ?k2 ?k3 ?k4 ?k5 ?k6 ?k7 ?_ ?k8; (case k1 => k_asm); (case k2 => k_mem); (case k3 => with_reducible assumption); (case k4 => with_reducible assumption); (case k5 => omega); (case k6 => omega); (case k7 => omega); (case k8 => with_unfolding_all rfl); k_whole); intro _ ti1 ti2))

def LongTells : Prop := ∀ (w : World) (mean : ExcName → Option Value) (mg mb : PySem.Str → Option Value) (x : Addr) (W : WS) (news : List (Addr × Obj)),
  CbClaim PySem.Challenge.rw_kn0036_01.row.prog w (hd.heap_39 w.params) hd.view_39 (looseW hd.view_39 [Str.ofString "Whitespace"]) mean mg mb 45 news [] (HasWS w.params news x W) [.ref x] (fun t => .int (max ((W.cs.length : Int) - 1) W.b) t)

set_option maxRecDepth 100000 in
set_option maxHeartbeats 8000000 in
theorem longTells : LongTells := by
  unfold LongTells
  k_fill
  intro w mean mg mb x W news
  w_on
  w_top on
  dsimp only [CbClaim, CbLists, CbRet]
  intro dp un gd cn cs a ccd cl outer A₀ base h₀ L m s Q E B F X N0 T hk hpre hdp hun hret
  obtain ⟨cs9, b, n, nt⟩ := W
  obtain ⟨⟨d, nm, ct, us, raw, t1, k1, k2, k3, k4, k5, tn, tnt, tb, m1, m2, m3, m4, hi⟩, b0, b1, n0, n1, nt0, nt1, len, items⟩ := hpre
  dsimp only [wsDict] at m1 m2 m3 m4 hi b0 b1 n0 n1 nt0 nt1 len items hret
  have N := news_four N0 m1 m2 m3 m4
  clear N0 m1 m2 m3 m4
  refine wpAny_call ?_
  k_dflt cell_enter
  k_steps
  refine cb_retI (Q := Q) hret ?e1 ?e2 ?e3
  case e2 => k_asm
  case e3 => exact news_back (by assumption) (fun p hp => .tail _ (.tail _ (.tail _ (.tail _ hp))))
  rw [Int.max_def]
  split <;> split <;> omega

def ilZ (ts : Int) (cs : List Int) (l : List Int) : Int := l.foldl (fun a i => a + i.fdiv ts * cs.getD i.toNat 0) 0
theorem ilZ_nil (ts : Int) (cs : List Int) : ilZ ts cs [] = 0 := rfl
theorem ilZ_snoc (ts : Int) (cs l : List Int) (k : Int) : ilZ ts cs (l ++ [k]) = ilZ ts cs l + k.fdiv ts * cs.getD k.toNat 0 := by
  unfold ilZ
  rw [List.foldl_append]
  rfl
theorem ilZ_turn {ts : Int} {cs l : List Int} {k a : Int} (h : a = ilZ ts cs l) : a + k.fdiv ts * cs.getD k.toNat 0 = ilZ ts cs (l ++ [k]) := by
  rw [ilZ_snoc, h]
def indZ (W : WS) (ts : Int) : Int := W.b + ts * (ilZ ts W.cs (rangeKs ts ((W.cs.length : Int) - ts).toNat) + W.nt)

def IndentTells : Prop := ∀ (w : World) (mean : ExcName → Option Value) (mg mb : PySem.Str → Option Value) (x : Addr) (W : WS) (ts : Int) (tt : Tok) (news : List (Addr × Obj)),
  CbClaim PySem.Challenge.rw_kn0036_01.row.prog w (hd.heap_39 w.params) hd.view_39 (looseW hd.view_39 [Str.ofString "Whitespace"]) mean mg mb 52 news [] (HasWS w.params news x W ∧ 1 ≤ ts ∧ ts ≤ 1001) [.ref x, .int ts tt] (fun t => .int (indZ W ts) t)

set_option maxRecDepth 100000 in
set_option maxHeartbeats 8000000 in
theorem indentTells : IndentTells := by
  unfold IndentTells
  k_fill
  intro w mean mg mb x W ts tt news
  w_on
  w_top on
  dsimp only [CbClaim, CbLists, CbRet]
  intro dp un gd cn cs a ccd cl outer A₀ base h₀ L m s Q E B F X N0 T hk hpre hdp hun hret
  obtain ⟨cs9, b, n, nt⟩ := W
  obtain ⟨⟨⟨d, nm, ct, us, raw, t1, k1, k2, k3, k4, k5, tn, tnt, tb, m1, m2, m3, m4, hi⟩, b0, b1, n0, n1, nt0, nt1, len, items⟩, ts1, ts2⟩ := hpre
  dsimp only [wsDict] at m1 m2 m3 m4 hi b0 b1 n0 n1 nt0 nt1 len items hret
  have N := news_four N0 m1 m2 m3 m4
  clear N0 m1 m2 m3 m4
  refine wpAny_call ?_
  k_dflt cell_enter
  k_with_none
  k_with "state" => (first | exact (ilZ_nil _ _).symm | exact ilZ_turn (by assumption))
  k_with "pyIter ref" => k_state (fun pre il => il = ilZ ts cs9 pre) "il"
  k_steps
  k_with_none
  refine cb_retI (Q := Q) hret ?e1 ?e2 ?e3
  case e2 => k_asm
  case e3 => exact news_back (by assumption) (fun p hp => .tail _ (.tail _ (.tail _ (.tail _ hp))))
  rename _ = ilZ _ _ (rangeKs _ _) => hI
  rw [hI]; rfl

/-! part KnLess -/
section
variable {w : World} {mean : ExcName → Option Value} {mg mb : PySem.Str → Option Value} {x : Addr} {W : WS} {news0 news : List (Addr × Obj)}
  {dp un : Nat} {gd : Option (List Code)} {cn : PySem.Str} {cs : Scope} {a : Addr} {ccd : Value} {cl : List (PySem.Str × Addr)} {outer : List Env} {A₀ : Around} {base h₀ : Heap} {L : Addr} {m : PySem.Str → Option Value} {s : Shared} {Q E : Value → Shared → Prop}
theorem long_use (B : Below A₀ base outer h₀) (F : Fr h₀ L s.heap m) (X : (hd.heap_39 w.params).In h₀) (N : News h₀ L s.heap news) (T : Top hd.view_39 (looseW hd.view_39 [Str.ofString "Whitespace"]) mean mg mb h₀) (hk : cs.kind = .function)
    (hW : HasWS w.params news0 x W) (hs : ∀ p ∈ news0, p ∈ news) (hd' : dp + 1 < recursionLimit) (hu : un + 8 < cLine)
    (ret : ∀ t h' tk', Fr h₀ L h' m → News h₀ L h' news → Q (.int (max ((W.cs.length : Int) - 1) W.b) t) { s with heap := h', toks := tk' }) :
    wpAny (model PySem.Challenge.rw_kn0036_01.row.prog w) (ktrTop dp un gd cn cs L a ccd cl outer) (call (.ref 45) [.ref x]) Q E s :=
  longTells w mean mg mb x W news dp un gd cn cs a ccd cl outer A₀ base h₀ L m s Q E B F X N T hk (hW.mono hs) hd' hu ret
theorem indent_use {ts : Int} {tt : Tok} (B : Below A₀ base outer h₀) (F : Fr h₀ L s.heap m) (X : (hd.heap_39 w.params).In h₀) (N : News h₀ L s.heap news) (T : Top hd.view_39 (looseW hd.view_39 [Str.ofString "Whitespace"]) mean mg mb h₀) (hk : cs.kind = .function)
    (hW : HasWS w.params news0 x W) (hs : ∀ p ∈ news0, p ∈ news) (h1 : 1 ≤ ts) (h2 : ts ≤ 1001) (hd' : dp + 1 < recursionLimit) (hu : un + 8 < cLine)
    (ret : ∀ t h' tk', Fr h₀ L h' m → News h₀ L h' news → Q (.int (indZ W ts) t) { s with heap := h', toks := tk' }) :
    wpAny (model PySem.Challenge.rw_kn0036_01.row.prog w) (ktrTop dp un gd cn cs L a ccd cl outer) (call (.ref 52) [.ref x, .int ts tt]) Q E s :=
  indentTells w mean mg mb x W ts tt news dp un gd cn cs a ccd cl outer A₀ base h₀ L m s Q E B F X N T hk ⟨hW.mono hs, h1, h2⟩ hd' hu ret
end
local macro_rules | `(tactic| walk_at "call ref") => `(tactic| (k_here; (with_reducible show wpAny _ _ (call (Value.ref 45) _) _ _ _); k_dflt (refine' long_use ?k1 ?k2 ?k3 ?k4 ?k5 ?k6 ?k7 ?k8 ?k9 ?k10 ?_; (case k1 => k_asm); (case k2 => k_asm); (case k3 => k_asm); (case k4 => k_asm); (case k5 => k_asm); (case k6 => first | exact rfl | assumption); (case k7 => assumption); (case k8 => (intro p hp; repeat (first | exact hp | exact List.mem_append_left _ hp | apply List.Mem.tail))); (case k9 => ktr_room); (case k10 => ktr_units); k_whole); intro t' h' tk' F' N'; (try dsimp only); (try k_fold)))
local macro_rules | `(tactic| walk_at "call ref") => `(tactic| (k_here; (with_reducible show wpAny _ _ (call (Value.ref 52) _) _ _ _); k_dflt (refine' indent_use ?k1 ?k2 ?k3 ?k4 ?k5 ?k6 ?k7 ?k8 ?kA ?kB ?k9 ?k10 ?_; (case k1 => k_asm); (case k2 => k_asm); (case k3 => k_asm); (case k4 => k_asm); (case k5 => k_asm); (case k6 => first | exact rfl | assumption); (case k7 => assumption); (case k8 => (intro p hp; repeat (first | exact hp | exact List.mem_append_left _ hp | apply List.Mem.tail))); (case kA => omega); (case kB => first | omega | ((rename _ < Int.toNat _ => zLt); split at zLt <;> omega)); (case k9 => ktr_room); (case k10 => ktr_units); k_whole); intro t' h' tk' F' N'; (try dsimp only); (try k_fold)))

def longZ (W : WS) : Int := max ((W.cs.length : Int) - 1) W.b
def lessTop (W V : WS) : Int := if longZ V > longZ W then longZ V else longZ W
def lessZ (W V : WS) : Bool :=
  if V.n ≤ W.n then false
  else if (W.cs.length : Int) ≤ 1 ∧ (V.cs.length : Int) ≤ 1 then decide (W.nt ≤ V.nt)
  else (rangeKs 2 (lessTop W V + 1 + 1 - 2).toNat).all fun t => decide (indZ W t < indZ V t)
theorem less_no {W V : WS} (h : V.n ≤ W.n) : false = lessZ W V := by
  unfold lessZ; rw [if_pos h]
theorem less_simple {W V : WS} (h : ¬ V.n ≤ W.n) (a : (W.cs.length : Int) ≤ 1) (b : (V.cs.length : Int) ≤ 1) : decide (W.nt ≤ V.nt) = lessZ W V := by
  unfold lessZ; rw [if_neg h, if_pos ⟨a, b⟩]
theorem less_yes {W V : WS} (h : ¬ V.n ≤ W.n) (a : ¬ ((W.cs.length : Int) ≤ 1 ∧ (V.cs.length : Int) ≤ 1)) (b : ∀ t, t ∈ rangeKs 2 (lessTop W V + 1 + 1 - 2).toNat → indZ W t < indZ V t) : true = lessZ W V := by
  unfold lessZ
  rw [if_neg h, if_neg a]
  exact (List.all_eq_true.mpr fun t ht => decide_eq_true (b t ht)).symm
theorem less_fall {W V : WS} {k : Int} {l : List Int} (h : ¬ V.n ≤ W.n) (a : ¬ ((W.cs.length : Int) ≤ 1 ∧ (V.cs.length : Int) ≤ 1)) (hk : k = 2 + (l.length : Int)) (hl : l.length < (lessTop W V + 1 + 1 - 2).toNat) (b : indZ V k ≤ indZ W k) : false = lessZ W V := by
  unfold lessZ
  rw [if_neg h, if_neg a]
  symm
  rw [List.all_eq_false]
  refine ⟨k, ?_, ?_⟩
  · unfold rangeKs
    rw [List.mem_map]
    exact ⟨l.length, List.mem_range.mpr hl, by rw [hk]⟩
  · simp only [decide_eq_true_eq]
    omega
theorem less_ret {h₀ h' : Heap} {L : Addr} {m : PySem.Str → Option Value} {news : List (Addr × Obj)} {s : Shared} {Q : Value → Shared → Prop} {tk' : Nat} {x y : Bool}
    (hret : ∀ h' tk', Fr h₀ L h' m → News h₀ L h' news → Q (.bool x) { s with heap := h', toks := tk' }) (e : y = x) (F : Fr h₀ L h' m) (N : News h₀ L h' news) : Q (.bool y) { s with heap := h', toks := tk' } := by
  subst e
  exact hret h' tk' F N

def LessTells : Prop := ∀ (w : World) (mean : ExcName → Option Value) (mg mb : PySem.Str → Option Value) (x y : Addr) (W V : WS) (news : List (Addr × Obj))
  (dp un : Nat) (gd : Option (List Code)) (cn : PySem.Str) (cs : Scope) (a : Addr) (ccd : Value) (cl : List (PySem.Str × Addr)) (outer : List Env) (A₀ : Around) (base h₀ : Heap) (L : Addr) (m : PySem.Str → Option Value) (s : Shared) (Q E : Value → Shared → Prop),
    Below A₀ base outer h₀ → Fr h₀ L s.heap m → (hd.heap_39 w.params).In h₀ → News h₀ L s.heap news → Top hd.view_39 (looseW hd.view_39 [Str.ofString "Whitespace"]) mean mg mb h₀ → cs.kind = .function →
    HasWS w.params news x W → HasWS w.params news y V → dp + 2 < recursionLimit → un + 16 < cLine →
    (∀ h' tk', Fr h₀ L h' m → News h₀ L h' news → Q (.bool (lessZ W V)) { s with heap := h', toks := tk' }) →
      wpAny (model PySem.Challenge.rw_kn0036_01.row.prog w) (ktrTop dp un gd cn cs L a ccd cl outer) (call (.ref 73) [.ref x, .ref y]) Q E s

set_option maxRecDepth 100000 in
set_option maxHeartbeats 8000000 in
theorem lessTells : LessTells := by
  unfold LessTells
  k_fill
  intro w mean mg mb x y W V news dp un gd cn cs a ccd cl outer A₀ base h₀ L m s Q E B F X N0 T hk hW hV hdp hun hret
  w_on
  w_top on
  obtain ⟨⟨d, nm, ct, us, raw, t1, k1, k2, k3, k4, k5, tn, tnt, tb, m1, m2, m3, m4, hi⟩, b0, b1, n0, n1, nt0, nt1, len, items⟩ := id hW
  obtain ⟨⟨d', nm', ct', us', raw', t1', k1', k2', k3', k4', k5', tn', tnt', tb', m1', m2', m3', m4', hi'⟩, b0', b1', n0', n1', nt0', nt1', len', items'⟩ := id hV
  dsimp only [wsDict] at m1 m2 m3 m4 m1' m2' m3' m4'
  have N := news_four (news_four N0 m1 m2 m3 m4) (.tail _ (.tail _ (.tail _ (.tail _ m1')))) (.tail _ (.tail _ (.tail _ (.tail _ m2')))) (.tail _ (.tail _ (.tail _ (.tail _ m3')))) (.tail _ (.tail _ (.tail _ (.tail _ m4'))))
  clear N0 m1 m2 m3 m4 m1' m2' m3' m4'
  refine wpAny_call ?_
  k_dflt cell_enter
  k_with_none
  k_with "pyIter ref" => k_search (fun pre => ∀ t ∈ pre, indZ W t < indZ V t)
  k_steps
  k_with_none
  all_goals refine less_ret hret ?_ (by k_asm) (news_back (by assumption) (by (intro p hp; repeat (first | exact hp | exact List.mem_append_left _ hp | apply List.Mem.tail))))
  · exact less_no (by assumption)
  · exact less_simple (by assumption) (by assumption) (by assumption)
  · exact less_fall (by assumption) (by omega) (by assumption) (by assumption) (by assumption)
  · exact less_yes (by assumption) (by omega) (by assumption)
  · exact less_fall (by assumption) (by omega) (by assumption) (by assumption) (by assumption)
  · exact less_yes (by assumption) (by omega) (by assumption)

/-! part KnMath -/
/-- a sum below n -/
def sm (f : Nat → Int) : Nat → Int
  | 0 => 0
  | n + 1 => sm f n + f n
theorem sm_congr {f g : Nat → Int} : ∀ {n : Nat}, (∀ j, j < n → f j = g j) → sm f n = sm g n
  | 0, _ => rfl
  | n + 1, h => by
    unfold sm
    rw [sm_congr fun j hj => h j (Nat.lt_succ_of_lt hj), h n (Nat.lt_succ_self n)]
theorem sm_zero {f : Nat → Int} : ∀ {n : Nat}, (∀ j, j < n → f j = 0) → sm f n = 0
  | 0, _ => rfl
  | n + 1, h => by
    unfold sm
    rw [sm_zero fun j hj => h j (Nat.lt_succ_of_lt hj), h n (Nat.lt_succ_self n)]
    rfl
theorem sm_add (f : Nat → Int) (m : Nat) : ∀ n : Nat, sm f (m + n) = sm f m + sm (fun j => f (m + j)) n
  | 0 => by rw [Nat.add_zero]; show _ = sm f m + 0; omega
  | n + 1 => by
    show sm f (m + n) + f (m + n) = sm f m + (sm (fun j => f (m + j)) n + f (m + n))
    rw [sm_add f m n]; omega
theorem sm_bump {f g : Nat → Int} {k : Nat} {d : Int} (h1 : ∀ j, j ≠ k → g j = f j) (h2 : g k = f k + d) : ∀ n : Nat, k < n → sm g n = sm f n + d
  | 0, h => absurd h (Nat.not_lt_zero _)
  | n + 1, h => by
    unfold sm
    by_cases e : n = k
    · rw [e, h2, sm_congr (g := f) fun j hj => h1 j (Nat.ne_of_lt hj)]; omega
    · rw [sm_bump h1 h2 n (by omega), h1 n e]; omega

/-- one run's part of the column -/
def tm (T : Nat) (cs : List Int) (i : Nat) : Int := (i : Int).fdiv (T : Int) * cs.getD i 0
theorem fdiv_small {i T : Nat} (h : i < T) : (i : Int).fdiv (T : Int) = 0 := by
  rw [Int.fdiv_eq_ediv_of_nonneg _ (by omega)]
  exact Int.ediv_eq_zero_of_lt (by omega) (by omega)
theorem tm_small {T : Nat} {cs : List Int} {i : Nat} (h : i < T) : tm T cs i = 0 := by
  unfold tm; rw [fdiv_small h, Int.zero_mul]
theorem tm_out {T : Nat} {cs : List Int} {i : Nat} (h : cs.length ≤ i) : tm T cs i = 0 := by
  unfold tm
  rw [List.getD_eq_getElem?_getD, List.getElem?_eq_none h]
  show _ * (0 : Int) = 0
  exact Int.mul_zero _
def G (T : Nat) (cs : List Int) : Int := sm (tm T cs) cs.length
theorem G_ext {T : Nat} {cs : List Int} {N : Nat} (h : cs.length ≤ N) : sm (tm T cs) N = G T cs := by
  obtain ⟨d, rfl⟩ := Nat.exists_eq_add_of_le h
  rw [sm_add, sm_zero (f := fun j => tm T cs (cs.length + j)) fun j _ => tm_out (Nat.le_add_right _ _)]
  unfold G; omega
theorem G_zero {T : Nat} {cs : List Int} (h : cs.length ≤ T) : G T cs = 0 := sm_zero fun j hj => tm_small (by omega)
theorem rangeKs_snoc (a : Int) (n : Nat) : rangeKs a (n + 1) = rangeKs a n ++ [a + (n : Int)] := by
  unfold rangeKs
  rw [List.range_succ, List.map_append]; rfl
theorem il_sm (T : Nat) (cs : List Int) : ∀ n : Nat, ilZ (T : Int) cs (rangeKs (T : Int) n) = sm (fun j => tm T cs (T + j)) n
  | 0 => rfl
  | n + 1 => by
    rw [rangeKs_snoc, ilZ_snoc, il_sm T cs n]
    have e : ((T : Int) + (n : Int)) = ((T + n : Nat) : Int) := by omega
    rw [e]
    show _ = sm (fun j => tm T cs (T + j)) n + tm T cs (T + n)
    unfold tm
    rw [Int.toNat_natCast]
theorem il_G (T : Nat) (cs : List Int) : ilZ (T : Int) cs (rangeKs (T : Int) ((cs.length : Int) - (T : Int)).toNat) = G T cs := by
  rw [il_sm]
  by_cases h : cs.length ≤ T
  · have e : ((cs.length : Int) - (T : Int)).toNat = 0 := by omega
    rw [e, G_zero h]; rfl
  · have e : ((cs.length : Int) - (T : Int)).toNat = cs.length - T := by omega
    rw [e]
    unfold G
    have e2 : cs.length = T + (cs.length - T) := by omega
    have := sm_add (tm T cs) T (cs.length - T)
    rw [← e2] at this
    rw [this, sm_zero (f := tm T cs) (n := T) fun j hj => tm_small hj]
    omega
theorem ind_eq (W : WS) (T : Nat) : indZ W (T : Int) = W.b + (T : Int) * (G T W.cs + W.nt) := by
  unfold indZ; rw [il_G]

/-! a scan and its column -/
theorem ext_getD (cs : List Int) (b : Int) (i : Nat) : (wsExt cs b).getD i 0 = cs.getD i 0 := by
  unfold wsExt
  split
  · simp only [List.getD_eq_getElem?_getD, List.getElem?_append]
    split
    · rfl
    · rename_i h
      rw [List.getElem?_eq_none (by omega : cs.length ≤ i)]
      rw [List.getElem?_replicate]
      split <;> rfl
  · rfl
theorem G_bump {T : Nat} {cs : List Int} {b : Int} (h0 : 0 ≤ b) : G T (wsBump (wsExt cs b) b) = G T cs + b.fdiv (T : Int) := by
  have hl := wsExt_len (cs := cs) (b := b) h0
  have hlen : (wsBump (wsExt cs b) b).length = (wsExt cs b).length := by unfold wsBump; rw [List.length_set]
  have hk : b.toNat < (wsExt cs b).length := by omega
  have hge : cs.length ≤ (wsExt cs b).length := by
    unfold wsExt
    split
    · rw [List.length_append]; omega
    · omega
  have e1 : G T (wsBump (wsExt cs b) b) = sm (tm T (wsBump (wsExt cs b) b)) (wsExt cs b).length := by
    rw [← hlen]; rfl
  rw [e1, ← G_ext (T := T) hge]
  have hb : ((b.toNat : Nat) : Int) = b := Int.toNat_of_nonneg h0
  refine sm_bump (k := b.toNat) (fun j hj => ?_) ?_ _ hk
  · unfold tm wsBump
    rw [List.getD_eq_getElem?_getD, List.getElem?_set_ne (Ne.symm hj), ← List.getD_eq_getElem?_getD, ext_getD]
  · unfold tm wsBump
    rw [List.getD_eq_getElem?_getD (l := List.set _ _ _), List.getElem?_set_self hk, Option.getD_some, ext_getD, hb, Int.mul_add, Int.mul_one]
theorem fmod_of {T K b : Int} (hT : 0 < T) : (b + T * K).fmod T = b.fmod T := by
  rw [Int.fmod_eq_emod_of_nonneg _ (by omega), Int.fmod_eq_emod_of_nonneg _ (by omega)]
  exact Int.add_mul_emod_self_left b T K
theorem fdm {b T : Int} : T * b.fdiv T + b.fmod T = b := Int.mul_fdiv_add_fmod b T
theorem col_step {T : Nat} (hT : 0 < T) {W : WS} {col : Int} (h0 : 0 ≤ W.b) (h : col = W.b + (T : Int) * (G T W.cs + W.nt)) {c : Nat} (hc : c = 32 ∨ c = 9) :
    colStep (T : Int) col c = (wsStep W c).b + (T : Int) * (G T (wsStep W c).cs + (wsStep W c).nt) := by
  unfold colStep wsStep
  rcases hc with rfl | rfl
  · rw [if_neg (by decide), if_pos rfl]
    show col + 1 = W.b + 1 + (T : Int) * (G T W.cs + W.nt)
    omega
  · rw [if_pos rfl, if_neg (by decide)]
    show col + ((T : Int) - col.fmod T) = 0 + (T : Int) * (G T (wsBump (wsExt W.cs W.b) W.b) + (W.nt + 1))
    rw [G_bump h0, h, fmod_of (by omega)]
    have := fdm (b := W.b) (T := (T : Int))
    have e : (T : Int) * (G T W.cs + W.b.fdiv T + (W.nt + 1)) = (T : Int) * (G T W.cs + W.nt) + (T : Int) * W.b.fdiv T + T := by
      rw [show G T W.cs + W.b.fdiv T + (W.nt + 1) = (G T W.cs + W.nt) + W.b.fdiv T + 1 from by omega, Int.mul_add, Int.mul_add, Int.mul_one]
    rw [e]; omega
theorem col_ws {T : Nat} (hT : 0 < T) (l : List Nat) (hl : Blanks l) : colZ l (T : Int) = indZ (l.foldl wsStep ws0) (T : Int) := by
  have gen : ∀ (l : List Nat) (k : Nat) (W : WS) (col : Int), Blanks l → WSOk k W → col = W.b + (T : Int) * (G T W.cs + W.nt) →
      l.foldl (colStep (T : Int)) col = (l.foldl wsStep W).b + (T : Int) * (G T (l.foldl wsStep W).cs + (l.foldl wsStep W).nt) := by
    intro l
    induction l with
    | nil => intro k W col _ _ h; exact h
    | cons c r ih =>
      intro k W col hb hok h
      rw [List.foldl_cons, List.foldl_cons]
      exact ih (k + 1) _ _ (fun x hx => hb x (.tail _ hx)) (wsStep_ok hok c) (col_step hT hok.b0 h (hb c (.head _)))
  rw [ind_eq]
  refine gen l 0 ws0 0 hl wsOk0 ?_
  show (0 : Int) = 0 + (T : Int) * 0
  rw [Int.mul_zero]; rfl
theorem col_one (l : List Nat) : colZ l 1 = l.length := by
  have gen : ∀ (l : List Nat) (a : Int), l.foldl (colStep 1) a = a + l.length := by
    intro l
    induction l with
    | nil => intro a; show a = a + ((0 : Nat) : Int); omega
    | cons c r ih =>
      intro a
      rw [List.foldl_cons, ih, List.length_cons]
      unfold colStep
      split
      · rw [Int.fmod_one]; omega
      · omega
  have := gen l 0
  unfold colZ
  rw [this]; omega

/-! the law -/
def wsB (x : PySem.Str) : WS := x.cps.toList.foldl wsStep ws0
def upZ (one two : PySem.Str) (l : List Int) : Bool := l.all fun t => decide (colZ one.cps.toList t < colZ two.cps.toList t)
theorem mem_range {a t : Int} {n : Nat} : t ∈ rangeKs a n ↔ a ≤ t ∧ t < a + n := by
  unfold rangeKs
  rw [List.mem_map]
  constructor
  · rintro ⟨i, hi, rfl⟩
    have := List.mem_range.mp hi
    omega
  · rintro ⟨h1, h2⟩
    exact ⟨(t - a).toNat, List.mem_range.mpr (by omega), by omega⟩
theorem all_bool {l : List Int} {f : Int → Bool} {b : Bool} (h : (∀ t ∈ l, f t = true) ↔ b = true) : l.all f = b := by
  rw [Bool.eq_iff_iff, List.all_eq_true]; exact h
theorem mul_ge {t d : Int} (ht : 1 ≤ t) (hd : 0 ≤ d) : d ≤ t * d := by
  have := Int.mul_le_mul_of_nonneg_right ht hd
  rw [Int.one_mul] at this; exact this
theorem mul_mono {s t d : Int} (h : s ≤ t) (hd : 0 ≤ d) : s * d ≤ t * d := Int.mul_le_mul_of_nonneg_right h hd

theorem plain_law {one two : PySem.Str} (h1 : Blanks one.cps.toList) (h2 : Blanks two.cps.toList) {N : Nat} (n1 : one.length ≤ N) (n2 : two.length ≤ N) :
    lessZ (wsB one) (wsB two) = upZ one two (rangeKs 1 (N + 1)) := by
  have hA := ws_ok one.cps.toList
  have hB := ws_ok two.cps.toList
  have eA : ∀ T : Nat, 0 < T → colZ one.cps.toList (T : Int) = (wsB one).b + (T : Int) * (G T (wsB one).cs + (wsB one).nt) := fun T hT => (col_ws hT _ h1).trans (ind_eq _ _)
  have eB : ∀ T : Nat, 0 < T → colZ two.cps.toList (T : Int) = (wsB two).b + (T : Int) * (G T (wsB two).cs + (wsB two).nt) := fun T hT => (col_ws hT _ h2).trans (ind_eq _ _)
  have iA : ∀ t : Int, 0 < t → indZ (wsB one) t = colZ one.cps.toList t := fun t ht => by
    have := (col_ws (T := t.toNat) (by omega) _ h1).symm
    rw [Int.toNat_of_nonneg (by omega)] at this
    exact this
  have iB : ∀ t : Int, 0 < t → indZ (wsB two) t = colZ two.cps.toList t := fun t ht => by
    have := (col_ws (T := t.toNat) (by omega) _ h2).symm
    rw [Int.toNat_of_nonneg (by omega)] at this
    exact this
  have oA := col_one one.cps.toList
  have oB := col_one two.cps.toList
  have lA : one.cps.toList.length = one.length := Array.length_toList
  have lB : two.cps.toList.length = two.length := Array.length_toList
  change WSOk one.cps.toList.length (wsB one) at hA
  change WSOk two.cps.toList.length (wsB two) at hB
  generalize hW : wsB one = W at *
  generalize hV : wsB two = V at *
  have a1 := hA.b0; have a2 := hA.bk; have a3 := hA.n0; have a4 := hA.len
  have b1 := hB.b0; have b2 := hB.bk; have b3 := hB.n0; have b4 := hB.len
  rw [lA] at a2 a3 a4 oA
  rw [lB] at b2 b3 b4 oB
  unfold lessZ upZ
  symm
  by_cases c1 : V.n ≤ W.n
  · rw [if_pos c1]
    rw [List.all_eq_false]
    refine ⟨1, mem_range.mpr ⟨by omega, by omega⟩, ?_⟩
    rw [decide_eq_true_eq, oA, oB]; omega
  · rw [if_neg c1]
    by_cases c2 : (W.cs.length : Int) ≤ 1 ∧ (V.cs.length : Int) ≤ 1
    · rw [if_pos c2]
      have gA : ∀ T : Nat, 0 < T → G T W.cs = 0 := fun T hT => G_zero (by omega)
      have gB : ∀ T : Nat, 0 < T → G T V.cs = 0 := fun T hT => G_zero (by omega)
      have x1 := eA 1 (by decide)
      have y1 := eB 1 (by decide)
      rw [gA 1 (by decide)] at x1
      rw [gB 1 (by decide)] at y1
      rw [show ((1 : Nat) : Int) = 1 from rfl, oA] at x1
      rw [show ((1 : Nat) : Int) = 1 from rfl, oB] at y1
      refine all_bool ?_
      rw [decide_eq_true_eq]
      constructor
      · intro h
        have hN := h ((N + 1 : Nat) : Int) (mem_range.mpr ⟨by omega, by omega⟩)
        rw [decide_eq_true_eq, eA _ (by omega), eB _ (by omega), gA _ (by omega), gB _ (by omega)] at hN
        by_cases c3 : W.nt ≤ V.nt
        · exact c3
        · exfalso
          have := mul_mono (s := ((N + 1 : Nat) : Int) * 1) (t := ((N + 1 : Nat) : Int) * 1) (d := 1) (Int.le_refl _) (by decide)
          have m := mul_ge (t := W.nt - V.nt) (d := ((N + 1 : Nat) : Int)) (by omega) (by omega)
          rw [Int.sub_mul, Int.mul_comm W.nt, Int.mul_comm V.nt] at m
          rw [Int.zero_add, Int.zero_add] at hN
          omega
      · intro c3 t ht
        have htr := mem_range.mp ht
        have et : ((t.toNat : Nat) : Int) = t := Int.toNat_of_nonneg (by omega)
        rw [decide_eq_true_eq, ← et, eA _ (by omega), eB _ (by omega), gA _ (by omega), gB _ (by omega), et]
        have m := mul_ge (t := t) (d := V.nt - W.nt) (by omega) (by omega)
        rw [Int.mul_sub] at m
        rw [Int.zero_add, Int.zero_add]
        omega
    · rw [if_neg c2]
      rw [Bool.eq_iff_iff, List.all_eq_true, List.all_eq_true]
      have hlA : longZ W = max ((W.cs.length : Int) - 1) W.b := rfl
      have hlB : longZ V = max ((V.cs.length : Int) - 1) V.b := rfl
      have htop : lessTop W V = max (longZ W) (longZ V) := by unfold lessTop; split <;> omega
      generalize hK : lessTop W V = K at *
      constructor
      · intro h t ht
        have htr := mem_range.mp ht
        rw [decide_eq_true_eq, iA t (by omega), iB t (by omega)]
        have := h t (mem_range.mpr ⟨by omega, by omega⟩)
        rwa [decide_eq_true_eq] at this
      · intro h t ht
        have htr := mem_range.mp ht
        rw [decide_eq_true_eq]
        by_cases t1 : t = 1
        · rw [t1, oA, oB]; omega
        · by_cases t2 : t ≤ K + 1
          · have := h t (mem_range.mpr ⟨by omega, by omega⟩)
            rwa [decide_eq_true_eq, iA t (by omega), iB t (by omega)] at this
          · have hK1 := h (K + 1) (mem_range.mpr ⟨by omega, by omega⟩)
            have eK : (((K + 1).toNat : Nat) : Int) = K + 1 := Int.toNat_of_nonneg (by omega)
            have et : ((t.toNat : Nat) : Int) = t := Int.toNat_of_nonneg (by omega)
            rw [decide_eq_true_eq, iA _ (by omega), iB _ (by omega), ← eK, eA _ (by omega), eB _ (by omega), G_zero (by omega), G_zero (by omega), eK, Int.zero_add, Int.zero_add] at hK1
            rw [← et, eA _ (by omega), eB _ (by omega), G_zero (by omega), G_zero (by omega), et, Int.zero_add, Int.zero_add]
            have c3 : W.nt ≤ V.nt := by
              by_cases c3 : W.nt ≤ V.nt
              · exact c3
              · exfalso
                have m := mul_ge (t := W.nt - V.nt) (d := K + 1) (by omega) (by omega)
                rw [Int.sub_mul, Int.mul_comm W.nt, Int.mul_comm V.nt] at m
                omega
            have m := mul_mono (s := K + 1) (t := t) (d := V.nt - W.nt) (by omega) (by omega)
            rw [Int.mul_sub, Int.mul_sub] at m
            omega
theorem top_is (a b : Nat) : ((if (b : Int) > (a : Int) then (b : Int) else (a : Int)) + 2 - 1).toNat = max a b + 1 := by
  split <;> omega
theorem up_is {one two : PySem.Str} (h1 : Blanks one.cps.toList) (h2 : Blanks two.cps.toList) :
    lessZ (wsB one) (wsB two) = upZ one two (rangeKs 1 ((if (two.length : Int) > (one.length : Int) then (two.length : Int) else (one.length : Int)) + 2 - 1).toNat) := by
  rw [top_is]
  exact plain_law h1 h2 (Nat.le_max_left _ _) (Nat.le_max_right _ _)
theorem down_is {one two : PySem.Str} (h1 : Blanks one.cps.toList) (h2 : Blanks two.cps.toList) :
    lessZ (wsB two) (wsB one) = upZ two one (rangeKs 1 ((if (two.length : Int) > (one.length : Int) then (two.length : Int) else (one.length : Int)) + 2 - 1).toNat) := by
  rw [top_is]
  exact plain_law h2 h1 (Nat.le_max_right _ _) (Nat.le_max_left _ _)
theorem less_self (W : WS) : lessZ W W = false := (less_no (Int.le_refl _)).symm

/-! part KnLaw -/
def Piece (x : PySem.Str) : Prop := Blanks x.cps.toList ∧ x.length ≤ 2
def Behind (x : PySem.Str) : Prop := leadOf x.cps.toList = [] ∧ x.length ≤ 5
theorem pieces_are : ∀ x ∈ [Str.ofString "", Str.ofString " ", Str.ofString "\t", Str.ofString "  ", Str.ofString " \t"], Piece x := by
  have h : ([Str.ofString "", Str.ofString " ", Str.ofString "\t", Str.ofString "  ", Str.ofString " \t"].all fun x => x.cps.toList.all (fun c => c == 32 || c == 9) && decide (x.length ≤ 2)) = true := by decide +kernel
  intro x hx
  have := List.all_eq_true.mp h x hx
  rw [Bool.and_eq_true] at this
  refine ⟨fun k hk => ?_, of_decide_eq_true this.2⟩
  have := List.all_eq_true.mp this.1 k hk
  simpa using this
theorem behinds_are : ∀ x ∈ [Str.ofString "", Str.ofString "x = 1", Str.ofString "\n\t ", Str.ofString "# \t", Str.ofString "\x0c "], Behind x := by
  have h : ([Str.ofString "", Str.ofString "x = 1", Str.ofString "\n\t ", Str.ofString "# \t", Str.ofString "\x0c "].all fun x => decide (leadOf x.cps.toList = []) && decide (x.length ≤ 5)) = true := by decide +kernel
  intro x hx
  have := List.all_eq_true.mp h x hx
  rw [Bool.and_eq_true] at this
  exact ⟨of_decide_eq_true this.1, of_decide_eq_true this.2⟩
section
variable {prog : Program} {w : World} {A : Around} {E : Value → Shared → Prop} {s : Shared} {value slice : PySem.Expr} {l : Addr} {vs : List Value} {ws : List PySem.Str} {i : Int} {u : Tok} {Q : Value → Shared → Prop}
theorem menu (p : PySem.Str → Prop) (hl : s.heap.IsList l vs.toArray) (hw : StrsAre vs ws) (hp : ∀ x ∈ ws, p x) (h0 : 0 ≤ i) (h1 : i < (ws.length : Int)) (hfit : i < 2 ^ 63) (h : ∀ t' x, p x → Q (.str x t') s)
    (hs : subscripted slice false (.ref l) (.int i u) = operate [.ref l, .int i u] (getItem (.ref l) (.int i u)) := by with_unfolding_all rfl) :
    wpAny (model prog w) A (subscriptTail value slice (.ref l) (.int i u)) Q E s := by
  refine KTb.item_list hl hw h0 h1 hfit (fun t' hlt => h t' _ (hp _ ?_)) hs
  rw [List.getD_eq_getElem?_getD, List.getElem?_eq_getElem hlt]
  exact List.getElem_mem hlt
theorem fmod5 (a : Int) : 0 ≤ a.fmod 5 ∧ a.fmod 5 < 5 := by
  have := Int.fmod_nonneg_of_pos a (b := 5) (by decide)
  have := Int.fmod_lt_of_pos a (b := 5) (by decide)
  omega
end
local macro_rules | `(tactic| walk_at "subscriptTail") => `(tactic| (k_here; (with_reducible show wpAny _ _ (subscriptTail (PySem.Expr.Name (Str.ofString "pieces") _) _ (Value.ref _) (Value.int _ _)) _ _ _); k_dflt (refine' menu Piece ?k1 ?k2 ?k3 ?k4 ?k5 ?k6 ?_ ?k8; (case k1 => exact News.isList (by k_asm) (by k_mem)); (case k2 => repeat constructor); (case k3 => exact pieces_are); (case k4 => exact (fmod5 _).1); (case k5 => exact (fmod5 _).2); (case k6 => exact Int.lt_trans (fmod5 _).2 (by decide)); (case k8 => with_unfolding_all rfl); k_whole); intro t' x' hx'))
local macro_rules | `(tactic| walk_at "subscriptTail") => `(tactic| (k_here; (with_reducible show wpAny _ _ (subscriptTail (PySem.Expr.Name (Str.ofString "behind") _) _ (Value.ref _) (Value.int _ _)) _ _ _); k_dflt (refine' menu Behind ?k1 ?k2 ?k3 ?k4 ?k5 ?k6 ?_ ?k8; (case k1 => exact News.isList (by k_asm) (by k_mem)); (case k2 => repeat constructor); (case k3 => exact behinds_are); (case k4 => exact (fmod5 _).1); (case k5 => exact (fmod5 _).2); (case k6 => exact Int.lt_trans (fmod5 _).2 (by decide)); (case k8 => with_unfolding_all rfl); k_whole); intro t' x' hx'))


def LawInv (pre : List Int) (one two : PySem.Str) : Prop := Blanks one.cps.toList ∧ Blanks two.cps.toList ∧ one.length ≤ 2 * pre.length ∧ two.length ≤ 2 * pre.length
theorem lawInv0 : LawInv [] (Str.ofString "") (Str.ofString "") := by
  have e : (Str.ofString "").cps.toList = [] := by decide +kernel
  have e2 : (Str.ofString "").length = 0 := by decide +kernel
  unfold LawInv
  rw [e, e2]
  exact ⟨(fun _ hk => nomatch hk), (fun _ hk => nomatch hk), Nat.zero_le _, Nat.zero_le _⟩
theorem blanks_app {a b : PySem.Str} (ha : Blanks a.cps.toList) (hb : Blanks b.cps.toList) : Blanks (a ++ b).cps.toList := by
  intro k hk
  rw [PySem.Str.cps_append, Array.toList_append] at hk
  exact (List.mem_append.mp hk).elim (ha k) (hb k)
theorem lawInv1 {pre : List Int} {k : Int} {one two a b : PySem.Str} (h : LawInv pre one two) (ha : Piece a) (hb : Piece b) : LawInv (pre ++ [k]) (one ++ a) (two ++ b) := by
  obtain ⟨h1, h2, h3, h4⟩ := h
  have := ha.2
  have := hb.2
  refine ⟨blanks_app h1 ha.1, blanks_app h2 hb.1, ?_, ?_⟩
  · rw [PySem.Str.length_append, List.length_append, List.length_singleton]; omega
  · rw [PySem.Str.length_append, List.length_append, List.length_singleton]; omega
theorem room1 {ns pre post : List Int} {k : Int} {one two a : PySem.Str} (e : List.take 10 ns = pre ++ k :: post) (h : LawInv pre one two) (ha : Piece a) : one.length + a.length ≤ sizeLine := by
  have h3 := h.2.2.1
  have := ha.2
  have hl := congrArg List.length e
  rw [List.length_take, List.length_append, List.length_cons] at hl
  rw [sizeLine_eq]; omega
theorem room2 {ns pre post : List Int} {k : Int} {one two a : PySem.Str} (e : List.take 10 ns = pre ++ k :: post) (h : LawInv pre one two) (ha : Piece a) : two.length + a.length ≤ sizeLine := by
  have h3 := h.2.2.2
  have := ha.2
  have hl := congrArg List.length e
  rw [List.length_take, List.length_append, List.length_cons] at hl
  rw [sizeLine_eq]; omega
theorem room3 {ns : List Int} {one two a : PySem.Str} (h : LawInv (List.take 10 ns) one two) (ha : Behind a) : one.length + a.length ≤ sizeLine := by
  have h3 := h.2.2.1
  have := ha.2
  rw [List.length_take] at h3
  rw [sizeLine_eq]; omega
theorem room4 {ns : List Int} {one two a : PySem.Str} (h : LawInv (List.take 10 ns) one two) (ha : Behind a) : two.length + a.length ≤ sizeLine := by
  have h3 := h.2.2.2
  have := ha.2
  rw [List.length_take] at h3
  rw [sizeLine_eq]; omega
local macro_rules | `(tactic| walk_at "inplaceOp Add str str") => `(tactic| (k_here; (with_reducible show wpAny _ _ (inplaceOp Operator.Add (Value.str _ _) (Value.str _ _)) _ _ _); k_dflt (refine' PyProof.Rows.iadd_str ?_ ?z; (case z => first | exact room1 (by assumption) (by assumption) (by assumption) | exact room2 (by assumption) (by assumption) (by assumption)); k_whole); intro t' tk'))
local macro_rules | `(tactic| walk_at "binaryOp Add str str") => `(tactic| (k_here; (with_reducible show wpAny _ _ (binaryOp Operator.Add (Value.str _ _) (Value.str _ _)) _ _ _); k_dflt (refine' PyProof.Rows.add_str ?_ ?z; (case z => first | exact room3 (by assumption) (by assumption) | exact room4 (by assumption) (by assumption)); k_whole); intro t' tk'))


theorem leadOf_app {l r : List Nat} (h : Blanks l) (hr : leadOf r = []) : leadOf (l ++ r) = l := by
  cases r with
  | nil => rw [List.append_nil]; exact leadOf_blanks h
  | cons c r =>
    refine leadOf_stop h ?_
    cases hc : isBlank c with
    | false => rfl
    | true =>
      unfold leadOf at hr
      rw [List.takeWhile_cons_of_pos hc] at hr
      cases hr
theorem lead1 {ns : List Int} {one two : PySem.Str} (h : LawInv (List.take 10 ns) one two) : Blanks one.cps.toList ∧ one.length ≤ 20 := by
  have h3 := h.2.2.1
  rw [List.length_take] at h3
  exact ⟨h.1, by omega⟩
theorem lead2 {ns : List Int} {one two : PySem.Str} (h : LawInv (List.take 10 ns) one two) : Blanks two.cps.toList ∧ two.length ≤ 20 := by
  have h3 := h.2.2.2
  rw [List.length_take] at h3
  exact ⟨h.2.1, by omega⟩

section
variable {w : World} {mean : ExcName → Option Value} {mg mb : PySem.Str → Option Value} {news : List (Addr × Obj)}
  {dp un : Nat} {gd : Option (List Code)} {cn : PySem.Str} {cs : Scope} {a : Addr} {ccd : Value} {cl : List (PySem.Str × Addr)} {outer : List Env} {A₀ : Around} {base h₀ : Heap} {L : Addr} {m : PySem.Str → Option Value} {s : Shared} {Q E : Value → Shared → Prop}
theorem make_use {lead x : PySem.Str} {t1 : Tok} (B : Below A₀ base outer h₀) (F : Fr h₀ L s.heap m) (X : (hd.heap_39 w.params).In h₀) (N : News h₀ L s.heap news) (T : Top hd.view_39 (looseW hd.view_39 [Str.ofString "Whitespace"]) mean mg mb h₀) (hk : cs.kind = .function)
    (hl : Blanks lead.cps.toList ∧ lead.length ≤ 20) (hx : Behind x) (hd' : dp + 1 < recursionLimit) (hu : un + 8 < cLine)
    (ret : ∀ (x d nm ct : Addr) (onm oct : Obj) (raw : PySem.Str) (n nt : Int) (sm : Bool) (t1 k1 k2 k3 k4 k5 tn tnt : Tok) h' tk', HasWS w.params [(nm, onm), (ct, oct), (x, instObj 83 d), (d, dictOf [{ hash := PyData.keyHash w.params (Str.ofString "raw"), key := .str (Str.ofString "raw") k1, val := .str raw t1 },
    { hash := PyData.keyHash w.params (Str.ofString "n"), key := .str (Str.ofString "n") k2, val := .int n tn },
    { hash := PyData.keyHash w.params (Str.ofString "nt"), key := .str (Str.ofString "nt") k3, val := .int nt tnt },
    { hash := PyData.keyHash w.params (Str.ofString "norm"), key := .str (Str.ofString "norm") k4, val := .ref nm },
    { hash := PyData.keyHash w.params (Str.ofString "is_simple"), key := .str (Str.ofString "is_simple") k5, val := .bool sm }] 5)] x (wsB lead) → Fr h₀ L h' m → News h₀ L h' ((nm, onm) :: (ct, oct) :: (x, instObj 83 d) :: (d, dictOf [{ hash := PyData.keyHash w.params (Str.ofString "raw"), key := .str (Str.ofString "raw") k1, val := .str raw t1 },
    { hash := PyData.keyHash w.params (Str.ofString "n"), key := .str (Str.ofString "n") k2, val := .int n tn },
    { hash := PyData.keyHash w.params (Str.ofString "nt"), key := .str (Str.ofString "nt") k3, val := .int nt tnt },
    { hash := PyData.keyHash w.params (Str.ofString "norm"), key := .str (Str.ofString "norm") k4, val := .ref nm },
    { hash := PyData.keyHash w.params (Str.ofString "is_simple"), key := .str (Str.ofString "is_simple") k5, val := .bool sm }] 5) :: news) → Q (.ref x) { s with heap := h', toks := tk' }) :
    wpAny (model PySem.Challenge.rw_kn0036_01.row.prog w) (ktrTop dp un gd cn cs L a ccd cl outer) (call (.ref 83) [.str (lead ++ x) t1]) Q E s := by
  refine makeTells w mean mg mb (lead ++ x) t1 news dp un gd cn cs a ccd cl outer A₀ base h₀ L m s Q E B F X N T hk ?_ hd' hu ?_
  · rw [PySem.Str.length_append]
    have := hx.2
    omega
  · intro x' d nm ct us cs' b n nt sm k1 k2 k3 k4 k5 tn tnt tb h' tk' hi hw hsm l1 l2 l3 l4 F' N'
    have e : wsOf (lead ++ x).cps.toList = wsB lead := by
      unfold wsOf wsB
      rw [PySem.Str.cps_append, Array.toList_append, leadOf_app hl.1 hx.1]
    rw [e] at hw
    have hok := ws_ok lead.cps.toList
    have hlen : lead.cps.toList.length ≤ 20 := by rw [Array.length_toList]; exact hl.2
    have hwb : wsB lead = lead.cps.toList.foldl wsStep ws0 := rfl
    rw [← hwb, ← hw] at hok
    have o1 := hok.b0; have o2 := hok.bk; have o3 := hok.n0; have o4 := hok.nt0; have o5 := hok.ntk; have o6 := hok.len; have o7 := hok.pos
    dsimp only at o1 o2 o3 o4 o5 o6 o7
    subst hsm
    refine ret x' d nm ct _ _ (lead ++ x) n nt _ t1 k1 k2 k3 k4 k5 tn tnt h' tk' ?_ F' N'
    rw [← hw]
    refine ⟨⟨d, nm, ct, us, lead ++ x, t1, k1, k2, k3, k4, k5, tn, tnt, tb, .head _, .tail _ (.head _), .tail _ (.tail _ (.head _)), .tail _ (.tail _ (.tail _ (.head _))), hi⟩, ?_, ?_, ?_, ?_, ?_, ?_, ?_, ?_⟩
    all_goals dsimp only
    · exact o1
    · omega
    · omega
    · omega
    · exact o4
    · omega
    · omega
    · intro i hi'
      have := o7 i hi'
      omega
theorem col_use {lead : PySem.Str} {t1 : Tok} {size : Int} {t2 : Tok} (B : Below A₀ base outer h₀) (F : Fr h₀ L s.heap m) (X : (hd.heap_39 w.params).In h₀) (N : News h₀ L s.heap news) (T : Top hd.view_39 (looseW hd.view_39 [Str.ofString "Whitespace"]) mean mg mb h₀) (hk : cs.kind = .function)
    (hl : Blanks lead.cps.toList ∧ lead.length ≤ 20) (hs : 0 < size) (hd' : dp + 1 < recursionLimit) (hu : un + 8 < cLine)
    (ret : ∀ t h' tk', Fr h₀ L h' m → News h₀ L h' news → Q (.int (colZ lead.cps.toList size) t) { s with heap := h', toks := tk' }) :
    wpAny (model PySem.Challenge.rw_kn0036_01.row.prog w) (ktrTop dp un gd cn cs L a ccd cl outer) (call (.ref 94) [.str lead t1, .int size t2]) Q E s :=
  colTells w mean mg mb lead t1 size t2 news dp un gd cn cs a ccd cl outer A₀ base h₀ L m s Q E B F X N T hk ⟨hs, Nat.le_trans hl.2 (by decide)⟩ hd' hu ret
theorem less_use {x y : Addr} {W V : WS} {na nb : List (Addr × Obj)} (B : Below A₀ base outer h₀) (F : Fr h₀ L s.heap m) (X : (hd.heap_39 w.params).In h₀) (N : News h₀ L s.heap news) (T : Top hd.view_39 (looseW hd.view_39 [Str.ofString "Whitespace"]) mean mg mb h₀) (hk : cs.kind = .function)
    (hW : HasWS w.params na x W) (hV : HasWS w.params nb y V) (ha : ∀ p ∈ na, p ∈ news) (hb : ∀ p ∈ nb, p ∈ news) (hd' : dp + 2 < recursionLimit) (hu : un + 16 < cLine) {r : Bool} (e : lessZ W V = r)
    (ret : ∀ h' tk', Fr h₀ L h' m → News h₀ L h' news → Q (.bool r) { s with heap := h', toks := tk' }) :
    wpAny (model PySem.Challenge.rw_kn0036_01.row.prog w) (ktrTop dp un gd cn cs L a ccd cl outer) (call (.ref 73) [.ref x, .ref y]) Q E s :=
  lessTells w mean mg mb x y W V news dp un gd cn cs a ccd cl outer A₀ base h₀ L m s Q E B F X N T hk (hW.mono ha) (hV.mono hb) hd' hu (by rw [e]; exact ret)
end
theorem len_lead {prog : Program} {w : World} {A : Around} {E : Value → Shared → Prop} {s : Shared} {Q : Value → Shared → Prop} {x : PySem.Str} {t : Tok} (hl : Blanks x.cps.toList ∧ x.length ≤ 20) (h : ∀ tk k, x.length ≤ 20 → Q (.int (x.length : Int) tk) { s with toks := k }) :
    wpAny (model prog w) A (call (.builtin "len") [.str x t]) Q E s :=
  len_writK _ rfl (by have := hl.2; omega) (h _ _ hl.2)
local macro_rules | `(tactic| walk_at "call builtin:len") => `(tactic| (k_here; (with_reducible show wpAny _ _ (call (Value.builtin "len") [Value.str _ _]) _ _ _); k_dflt (refine' len_lead ?k1 ?_; (case k1 => first | exact lead1 (by assumption) | exact lead2 (by assumption)); k_whole); intro t' tk' hlen'))
/-- the flags of the law's second loop -/
def UpInv (one two : PySem.Str) (pre : List Int) (up down : Bool) : Prop := up = upZ one two pre ∧ down = upZ two one pre
theorem upInv0 {one two : PySem.Str} : UpInv one two [] true true := ⟨rfl, rfl⟩
theorem upZ_snoc {one two : PySem.Str} {pre : List Int} {k : Int} : upZ one two (pre ++ [k]) = (upZ one two pre && decide (colZ one.cps.toList k < colZ two.cps.toList k)) := by
  unfold upZ
  rw [List.all_append]
  simp
theorem upInv1 {one two : PySem.Str} {pre : List Int} {k : Int} {up down u d : Bool} (h : UpInv one two pre up down) (hu : u = (up && decide (colZ one.cps.toList k < colZ two.cps.toList k))) (hd : d = (down && decide (colZ two.cps.toList k < colZ one.cps.toList k))) : UpInv one two (pre ++ [k]) u d := by
  refine ⟨?_, ?_⟩
  · rw [upZ_snoc, hu, h.1]
  · rw [upZ_snoc, hd, h.2]

theorem end_up {ns : List Int} {one two : PySem.Str} {up down : Bool} (hl : LawInv (List.take 10 ns) one two)
    (hi : UpInv one two (rangeKs 1 ((if (two.length : Int) > (one.length : Int) then (two.length : Int) else (one.length : Int)) + 2 - 1).toNat) up down) :
    lessZ (wsB one) (wsB two) = up := by
  rw [up_is hl.1 hl.2.1, ← hi.1]
theorem end_down {ns : List Int} {one two : PySem.Str} {up down : Bool} (hl : LawInv (List.take 10 ns) one two)
    (hi : UpInv one two (rangeKs 1 ((if (two.length : Int) > (one.length : Int) then (two.length : Int) else (one.length : Int)) + 2 - 1).toNat) up down) :
    lessZ (wsB two) (wsB one) = down := by
  rw [down_is hl.1 hl.2.1, ← hi.2]
theorem isnot_same {prog : Program} {w : World} {A : Around} {E : Value → Shared → Prop} {s : Shared} {Q : Value → Shared → Prop} {b : Bool} (h : Q (.bool false) s) : wpAny (model prog w) A (compareOp .IsNot (.bool b) (.bool b)) Q E s :=
  isnot_bool (by rw [bne_self_eq_false]; exact h)
theorem is_same {prog : Program} {w : World} {A : Around} {E : Value → Shared → Prop} {s : Shared} {Q : Value → Shared → Prop} {b : Bool} (h : Q (.bool true) s) : wpAny (model prog w) A (compareOp .Is (.bool b) (.bool b)) Q E s :=
  is_bool (by rw [beq_self_eq_true]; exact h)
local macro_rules | `(tactic| walk_at "compareOp IsNot bool bool") => `(tactic| (k_here; with_reducible refine isnot_same ?_))
local macro_rules | `(tactic| walk_at "compareOp Is bool bool") => `(tactic| (k_here; with_reducible refine is_same ?_))

local macro_rules | `(tactic| walk_at "call ref") => `(tactic| (k_here; (with_reducible show wpAny _ _ (call (Value.ref 83) _) _ _ _); k_dflt (refine' make_use ?k1 ?k2 ?k3 ?k4 ?k5 ?k6 ?k7 ?k8 ?k9 ?k10 ?_; (case k1 => k_asm); (case k2 => k_asm); (case k3 => k_asm); (case k4 => k_asm); (case k5 => k_asm); (case k6 => first | exact rfl | assumption); (case k7 => first | exact lead1 (by assumption) | exact lead2 (by assumption)); (case k8 => assumption); (case k9 => ktr_room); (case k10 => ktr_units); k_whole); intro x' d' nm' ct' onm' oct' raw' n' nt' sm' t1' k1' k2' k3' k4' k5' tn' tnt' h' tk' hw' F' N'; (try dsimp only); (try k_fold)))
local macro_rules | `(tactic| walk_at "call ref") => `(tactic| (k_here; (with_reducible show wpAny _ _ (call (Value.ref 94) _) _ _ _); k_dflt (refine' col_use ?k1 ?k2 ?k3 ?k4 ?k5 ?k6 ?k7 ?k8 ?k9 ?k10 ?_; (case k1 => k_asm); (case k2 => k_asm); (case k3 => k_asm); (case k4 => k_asm); (case k5 => k_asm); (case k6 => first | exact rfl | assumption); (case k7 => first | exact lead1 (by assumption) | exact lead2 (by assumption)); (case k8 => omega); (case k9 => ktr_room); (case k10 => ktr_units); k_whole); intro t' h' tk' F' N'; (try dsimp only); (try k_fold)))
local macro_rules | `(tactic| walk_at "call ref") => `(tactic| (k_here; (with_reducible show wpAny _ _ (call (Value.ref 73) _) _ _ _); k_dflt (refine' less_use ?k1 ?k2 ?k3 ?k4 ?k5 ?k6 ?k7 ?k8 ?kA ?kB ?k9 ?k10 ?kE ?_; (case k1 => k_asm); (case k2 => k_asm); (case k3 => k_asm); (case k4 => k_asm); (case k5 => k_asm); (case k6 => first | exact rfl | assumption); (case k7 => assumption); (case k8 => assumption); (case kA => k_allIn); (case kB => k_allIn); (case k9 => ktr_room); (case k10 => ktr_units); (case kE => first | exact less_self _ | exact end_up (by assumption) (by assumption) | exact end_down (by assumption) (by assumption)); k_whole); intro h' tk' F' N'; (try dsimp only); (try k_fold)))

theorem up_keep {a b : Int} {up : Bool} (h : ¬ b ≤ a) : up = (up && decide (a < b)) := by
  rw [decide_eq_true (by omega), Bool.and_true]
theorem up_drop {a b : Int} {up : Bool} (h : b ≤ a) : false = (up && decide (a < b)) := by
  rw [decide_eq_false (by omega), Bool.and_false]

set_option maxRecDepth 100000 in
set_option maxHeartbeats 8000000 in
theorem law : PySem.Challenge.rw_kn0036_01.Holds := Kn.hd (by
  w_strict (
    k_go0
    (all_goals try k_fold)
    k_with_none
    k_with "state" => (first | exact lawInv0 | exact lawInv1 (by assumption) (by assumption) (by assumption) | exact upInv0 | exact upInv1 (by assumption) (by first | exact up_keep (by omega) | exact up_drop (by omega)) (by first | exact up_keep (by omega) | exact up_drop (by omega)))
    k_with "pyIter ref" => (k_of "x" => k_state (fun pre one two (_ : Int) => LawInv pre one two) "one" "two" "pick")
    k_with "pyIter ref" => (k_of "size" => k_state_given ["one", "two"] (fun one two pre up down => UpInv one two pre up down) "up" "down")
    k_steps
    k_with_none))

end Kn

theorem PySem.Challenge.cw_kn0036_01_holds : PySem.Challenge.rw_kn0036_01.Holds :=
  Kn.law
