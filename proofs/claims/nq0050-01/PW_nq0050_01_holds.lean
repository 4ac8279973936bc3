import PyProof.Rows.All
import Wide.All
import OpenK.AllK
import Wide.FinOn
import PySem.Challenge.RW_nq0050_01
open PySem PySem.W PyProof.Rows PySem.Calls
set_option Elab.async false
set_option maxRecDepth 100000
set_option maxHeartbeats 80000000
section
theorem Mine.freshHd : True := by
  w_top off
  trivial
open PySem PySem.W PyProof.Rows
namespace Mine
open_top hd for PySem.Challenge.rw_nq0050_01
end Mine

end
section
theorem Mine.freshS0 : True := by
  w_top off
  trivial
open PySem PySem.W PyProof.Rows PySem.Calls
namespace Mine

/-- what a call of the def at f gives back, whatever frame calls it: k frames, u units of room; R says the value and the ledger behind it -/
abbrev Spc (w : World) (mean : ExcName → Option Value) (mg mb : Str → Option Value) (f : Addr) (news : List (Addr × Obj)) (vs : List Value) (k u : Nat)
    (R : Value → List (Addr × Obj) → Prop) : Prop :=
  ∀ (dp un : Nat) (gd : Option (List Code)) (cn : Str) (cs : Scope) (a : Addr) (ccd : Value) (cl : List (Str × Addr)) (outer : List Env) (A₀ : Around) (base h₀ : Heap) (L : Addr) (m : Str → Option Value) (s : Shared) (Q E : Value → Shared → Prop),
    Below A₀ base outer h₀ → Fr h₀ L s.heap m → (hd.heap_39 w.params).In h₀ → News h₀ L s.heap news → Top hd.view_39 (looseW hd.view_39 []) mean mg mb h₀ → cs.kind = .function →
    dp + k < recursionLimit → un + u < cLine →
    (∀ v news' h' tk', R v news' → Fr h₀ L h' m → News h₀ L h' news' → Q v { s with heap := h', toks := tk' }) →
    wpAny (model PySem.Challenge.rw_nq0050_01.row.prog w) (ktrTop dp un gd cn cs L a ccd cl outer) (call (.ref f) vs) Q E s

end Mine

end
section
theorem Mine.freshS1 : True := by
  w_top off
  trivial
open PySem PySem.W PyProof.Rows PySem.Calls
namespace Mine

def subCost (a b : Str) : Int := bif a == b then 0 else bif Txt.lower a == Txt.lower b then 1 else 2

theorem sub_spec (w : World) (mean) (mg mb) (news) (a b : Str) (ta tb : Tok) (ha : a.length = 1) (hb : b.length = 1) :
   Spc w mean mg mb 21 news [.str a ta, .str b tb] 1 8 (fun v news' => news' = news ∧ ∃ t, v = .int (subCost a b) t) := by
  unfold Spc
  k_fill
  intro dp un gd cn cs a₁ ccd cl outer A₀ base h₀ L m s Q E B F X N T hk hdp hun hret
  refine wpAny_call ?_
  (k_dflt cell_enter)
  k_steps
  all_goals (refine hret _ _ _ _ ⟨rfl, _, congrArg (fun z => Value.int z _) ?_⟩ (by k_asm) (by k_asm))
  · rw [subCost, ‹(a == b) = true›]; rfl
  · rw [subCost, ‹(a == b) = false›, ‹(Txt.lower a == Txt.lower b) = true›]; rfl
  · rw [subCost, ‹(a == b) = false›, ‹(Txt.lower a == Txt.lower b) = false›]; rfl
end Mine

end
section
theorem Mine.freshG0 : True := by
  w_top off
  trivial
open PySem PySem.W PyProof.Rows PySem.Calls
namespace Mine

/-- the names of ps hold what ps says -/
def Has (m : Str → Option Value) (ps : List (Str × Value)) : Prop := ∀ p ∈ ps, m p.1 = some p.2

theorem kstB_has {m : Str → Option Value} {ps : List (Str × Value)} (h : Has m ps) : kstB m ps = m := funext fun _ => kstB_eq h fun _ => rfl

/-- a frame's map cut down to the names that are told -/
theorem clean {G : Prop} {h₀ h : Heap} {L : Addr} {M : Str → Option Value} (ps : List (Str × Value)) (F : Fr h₀ L h M) (hk : Has M ps) (k : ∀ u, Fr h₀ L h (kstB u ps) → G) : G :=
  k M (by rw [kstB_has hk]; exact F)

theorem has_nil {m : Str → Option Value} : Has m [] := fun _ h => nomatch h
theorem has_cons {m : Str → Option Value} {x : Str} {v : Value} {ps : List (Str × Value)} (h : m x = some v) (hs : Has m ps) : Has m ((x, v) :: ps) := fun p hp => by
  rcases List.mem_cons.mp hp with rfl | hp
  · exact h
  · exact hs p hp

/-- a while's turn has ended: the state goes on -/
def WEnd {σ : Type} (h₀ : Heap) (L : Addr) (s : Shared) (Led : σ → List (Addr × Obj)) (ps : σ → List (Str × Value)) (P : σ → Prop) (μ : σ → Nat) (c : σ) (s₂ : Shared) : Prop :=
  ∃ (c' : σ) (h' : Heap) (tk : Nat) (m' : Str → Option Value) (news' : List (Addr × Obj)), s₂ = { s with heap := h', toks := tk } ∧ Fr h₀ L h' m' ∧ News h₀ L h' news' ∧ (∀ p ∈ Led c', p ∈ news') ∧ Has m' (ps c') ∧ P c' ∧ μ c' < μ c
/-- a while is left -/
def WExit {σ : Type} (h₀ : Heap) (L : Addr) (s : Shared) (Led : σ → List (Addr × Obj)) (ps : σ → List (Str × Value)) (X : σ → Prop) (s₂ : Shared) : Prop :=
  ∃ (c' : σ) (h' : Heap) (tk : Nat) (m' : Str → Option Value) (news' : List (Addr × Obj)), s₂ = { s with heap := h', toks := tk } ∧ Fr h₀ L h' m' ∧ News h₀ L h' news' ∧ (∀ p ∈ Led c', p ∈ news') ∧ Has m' (ps c') ∧ X c'
def WPost {σ : Type} (h₀ : Heap) (L : Addr) (s : Shared) (Led : σ → List (Addr × Obj)) (ps : σ → List (Str × Value)) (P X : σ → Prop) (μ : σ → Nat) (c : σ) (Q : Flow → Shared → Prop) (f : Flow) (s₂ : Shared) : Prop :=
  match f with
  | .ret v => Q (.ret v) s₂
  | .brk => WExit h₀ L s Led ps X s₂
  | _ => WEnd h₀ L s Led ps P μ c s₂

section
variable {prog : Program} {w : World} {A : Around} {E : Value → Shared → Prop} {Q : Flow → Shared → Prop} {s : Shared} {env : Env} {h₀ : Heap} {L : Addr}
theorem wh {σ : Type} {test : PySem.Expr} {body : List Stmt} {pos : Pos} {m₀ : Str → Option Value} (Led : σ → List (Addr × Obj)) (ps : σ → List (Str × Value)) (P X : σ → Prop) (μ : σ → Nat) (c₀ : σ)
    (F : Fr h₀ L s.heap m₀) (N : News h₀ L s.heap (Led c₀)) (hk : Has m₀ (ps c₀)) (hp : P c₀)
    (turn : ∀ (c : σ) (u : Str → Option Value) h tk, P c → Fr h₀ L h (kstB u (ps c)) → News h₀ L h (Led c) →
      wpAny (model prog w) A (isTrue test env (eval test env)) (fun b s₂ =>
        if b = true then wpAny (model prog w) A (execs body env) (WPost h₀ L s Led ps P X μ c Q) E s₂ else WExit h₀ L s Led ps X s₂) E { s with heap := h, toks := tk })
    (done : ∀ (c : σ) (u : Str → Option Value) h tk, X c → Fr h₀ L h (kstB u (ps c)) → News h₀ L h (Led c) → Q .next { s with heap := h, toks := tk })
    (hE : PassesOwn (model prog w) A env E) :
    wpAny (model prog w) A (exec (.While test body [] pos) env) Q E s := by
  have out : ∀ s₂, WExit h₀ L s Led ps X s₂ → Q .next s₂ := by
    rintro s₂ ⟨c', h', tk, m', news', rfl, F', N', hn, hk', hx⟩
    exact done c' m' h' tk hx (by rw [kstB_has hk']; exact F') fun p hp => N' p (hn p hp)
  refine While_inv2 (fun n m nx => ∃ c : σ, nx = Led c ∧ μ c = n ∧ Has m (ps c) ∧ P c) F N ⟨c₀, rfl, rfl, hk, hp⟩ ?_ hE
  rintro n m₁ nx h tk F₁ N₁ ⟨c, rfl, rfl, hk₁, hp₁⟩
  refine wpAny_mono (turn c m₁ h tk hp₁ (by rw [kstB_has hk₁]; exact F₁) N₁) (fun b s₂ p => ?_) fun _ _ x => x
  cases b with
  | false =>
    simp only [Bool.false_eq_true, if_false] at p ⊢
    exact out s₂ p
  | true =>
    simp only [if_true] at p ⊢
    refine wpAny_mono p (fun f s₃ q => ?_) fun _ _ x => x
    cases f with
    | ret v => exact q
    | brk => exact out s₃ q
    | next =>
      obtain ⟨c', h', tk', m', news', rfl, F', N', hn, hk', hp', hm⟩ := q
      exact ⟨h', tk', m', Led c', μ c', rfl, F', fun p hp => N' p (hn p hp), hm, c', rfl, rfl, hk', hp'⟩
    | cont =>
      obtain ⟨c', h', tk', m', news', rfl, F', N', hn, hk', hp', hm⟩ := q
      exact ⟨h', tk', m', Led c', μ c', rfl, F', fun p hp => N' p (hn p hp), hm, c', rfl, rfl, hk', hp'⟩
end

/-- a for's turn has ended -/
def FEnd {σ : Type} (h₀ : Heap) (L : Addr) (s : Shared) (Led : σ → List (Addr × Obj)) (ps : σ → List (Str × Value)) (P : σ → Prop) (own : List (Addr × Obj)) (s₂ : Shared) : Prop :=
  ∃ (c' : σ) (h' : Heap) (tk : Nat) (m' : Str → Option Value) (news' : List (Addr × Obj)), s₂ = { s with heap := h', toks := tk } ∧ Fr h₀ L h' m' ∧ News h₀ L h' news' ∧ (∀ p ∈ Led c', p ∈ news') ∧ (∀ p ∈ own, p ∈ news') ∧ Has m' (ps c') ∧ P c'
def FPost {σ : Type} (h₀ : Heap) (L : Addr) (s : Shared) (Led : σ → List (Addr × Obj)) (ps : σ → List (Str × Value)) (P : σ → Prop) (own : List (Addr × Obj)) (Q : Flow → Shared → Prop) (f : Flow) (s₂ : Shared) : Prop :=
  match f with
  | .ret v => Q (.ret v) s₂
  | .brk => Q .next s₂
  | _ => FEnd h₀ L s Led ps P own s₂

section
variable {prog : Program} {w : World} {A : Around} {E : Value → Shared → Prop} {Q : Flow → Shared → Prop} {s : Shared} {env : Env} {h₀ : Heap} {x : Str} {body : List Stmt}
theorem fo {σ : Type} {r : Addr} {a₀ b₀ : Int} {t₀ u₀ v₀ : Tok} {n : Nat} {m₀ : Str → Option Value} (adr : List Addr) (Led : σ → List (Addr × Obj)) (ps : σ → List (Str × Value)) (P : Nat → σ → Prop) (c₀ : σ)
    (hadr : ∀ c, (Led c).map (·.1) = adr)
    (hh : A.handled = none) (hr : IsRange s.heap r a₀ b₀ 1 t₀ u₀ v₀) (hsmall : Builtin.Range.small a₀ b₀ 1 = true) (hn : Builtin.Range.rangeSize a₀ b₀ 1 = (n : Int))
    (F : Fr h₀ env.locals s.heap m₀) (N : News h₀ env.locals s.heap (Led c₀)) (hk : Has m₀ (ps c₀)) (hp : P 0 c₀)
    (turn : ∀ (i : Nat) (c : σ) t (u : Str → Option Value) h tk own, i < n → OwnOff own adr → P i c →
      Fr h₀ env.locals h (kstB u ((x, .int (a₀ + i) t) :: ps c)) → News h₀ env.locals h (Led c ++ own) →
      wpAny (model prog w) A (execs body env) (FPost h₀ env.locals { s with heap := h, toks := tk } Led ps (P (i + 1)) own Q) E { s with heap := h, toks := tk })
    (done : ∀ (c : σ) (u : Str → Option Value) h tk, P n c → Fr h₀ env.locals h (kstB u (ps c)) → News h₀ env.locals h (Led c) → Q .next { s with heap := h, toks := tk }) :
    wpAny (model prog w) A (pyIter (.ref r)) (fun it s₂ => LoopAtV prog w A h₀ env x body Q E it s₂) E s := by
  refine wpAny_pyIter_range hr hsmall ?_
  have W : Walks prog w A s.heap.objs.size [s.heap.objs.size] [s.heap.objs.size] n (fun i v => i < n ∧ ∃ t, v = .int (a₀ + i * 1) t)
      (fun i h => IsRangeIter h s.heap.objs.size (a₀ + (i : Nat) * 1) ((n : Int) - (i : Nat)) 1) := (Walks.range hh _ a₀ 1 n).bound
  have off : ∀ p ∈ Led c₀, p.1 ∉ [s.heap.objs.size] := fun p hp hI => absurd (Heap.lt_size (N p hp).1) ((List.mem_singleton.mp hI) ▸ Nat.lt_irrefl _)
  refine loop_invN (fun i m nx => ∃ c, nx = Led c ∧ Has m (ps c) ∧ P i c) W
    (fun hm => absurd F.ns.lt ((List.mem_singleton.mp hm) ▸ Nat.lt_irrefl _))
    (fun b hb => by rw [List.mem_singleton.mp hb]; exact next_is_new F) off off
    (by show IsRangeIter _ _ _ _ _; rw [hn]; simpa using Heap.get?_push_size _ rfl) (F.push _)
    (fun p hp => ⟨Heap.get?_push_of_some _ (N p hp).1, (N p hp).2⟩) ⟨c₀, rfl, hk, hp⟩ ?_ ?_
  · rintro i v m₁ nx h tk own hi ⟨_, t, rfl⟩ _ hoff ⟨c, rfl, hk₁, hp₁⟩ F₁ N₁
    have e1 : a₀ + (i : Int) * 1 = a₀ + (i : Int) := by omega
    rw [e1] at F₁
    rw [hadr] at hoff
    refine wpAny_mono (turn i c t m₁ h tk own hi hoff hp₁ (by
      have e : kstB m₁ ((x, .int (a₀ + i) t) :: ps c) = fun y => if y = x then some (.int (a₀ + i) t) else m₁ y := by
        funext y
        show (if y = x then some _ else kstB m₁ (ps c) y) = _
        rw [kstB_has hk₁]
      rw [e]; exact F₁) N₁) (fun f s₂ q => ?_) fun _ _ x => x
    have fin : FEnd h₀ env.locals { s with heap := h, toks := tk } Led ps (P (i + 1)) own s₂ →
        InvEndN h₀ env.locals (fun m nx => ∃ c, nx = Led c ∧ Has m (ps c) ∧ P (i + 1) c) own ((Led c₀).map (·.1)) { s with heap := h, toks := tk } s₂ := by
      rintro ⟨c', h', tk', m', news', e, F', N', hn', ho', hk', hp'⟩
      exact ⟨h', tk', m', news', Led c', e, F', N', hn', ho', by rw [hadr, hadr], c', rfl, hk', hp'⟩
    cases f with
    | ret v => exact q
    | brk => exact q
    | next => exact fin q
    | cont => exact fin q
  · rintro m₁ nx h tk ⟨c, rfl, hk₁, hp₁⟩ F₁ N₁
    exact done c m₁ h tk hp₁ (by rw [kstB_has hk₁]; exact F₁) N₁
end
section
variable {σ : Type} {h₀ : Heap} {L : Addr} {s : Shared} {Led : σ → List (Addr × Obj)} {ps : σ → List (Str × Value)} {P X : σ → Prop} {μ : σ → Nat} {c : σ} {Q : Flow → Shared → Prop} {h' : Heap} {tk : Nat} {m' : Str → Option Value} {news' own : List (Addr × Obj)}
theorem WPost.next (c' : σ) (F : Fr h₀ L h' m') (N : News h₀ L h' news') (hn : ∀ p ∈ Led c', p ∈ news') (hk : Has m' (ps c')) (hp : P c') (hm : μ c' < μ c) :
    WPost h₀ L s Led ps P X μ c Q .next { s with heap := h', toks := tk } := ⟨c', h', tk, m', news', rfl, F, N, hn, hk, hp, hm⟩
theorem WPost.cont (c' : σ) (F : Fr h₀ L h' m') (N : News h₀ L h' news') (hn : ∀ p ∈ Led c', p ∈ news') (hk : Has m' (ps c')) (hp : P c') (hm : μ c' < μ c) :
    WPost h₀ L s Led ps P X μ c Q .cont { s with heap := h', toks := tk } := ⟨c', h', tk, m', news', rfl, F, N, hn, hk, hp, hm⟩
theorem WExit.out (c' : σ) (F : Fr h₀ L h' m') (N : News h₀ L h' news') (hn : ∀ p ∈ Led c', p ∈ news') (hk : Has m' (ps c')) (hp : X c') :
    WExit h₀ L s Led ps X { s with heap := h', toks := tk } := ⟨c', h', tk, m', news', rfl, F, N, hn, hk, hp⟩
theorem WPost.brk (c' : σ) (F : Fr h₀ L h' m') (N : News h₀ L h' news') (hn : ∀ p ∈ Led c', p ∈ news') (hk : Has m' (ps c')) (hp : X c') :
    WPost h₀ L s Led ps P X μ c Q .brk { s with heap := h', toks := tk } := ⟨c', h', tk, m', news', rfl, F, N, hn, hk, hp⟩
theorem FPost.next (c' : σ) (F : Fr h₀ L h' m') (N : News h₀ L h' news') (hn : ∀ p ∈ Led c', p ∈ news') (ho : ∀ p ∈ own, p ∈ news') (hk : Has m' (ps c')) (hp : P c') :
    FPost h₀ L s Led ps P own Q .next { s with heap := h', toks := tk } := ⟨c', h', tk, m', news', rfl, F, N, hn, ho, hk, hp⟩
end
end Mine
namespace Mine
/-- a def of the text, as the top left it -/
noncomputable def fnAt (f : Addr) (P : Params) : FuncData := match (hd.heap_39 P).lookup f with
  | some ⟨_, _, .func d, _⟩ => d
  | _ => default
def bodyOf (d : FuncData) : List Stmt := match d.body with
  | .stmts b => b
  | _ => []
abbrev envD (d : FuncData) (f L : Addr) : Env := envOf d.qualname d.scope L f d.code

/-- the rest of a def's body, from its k-th statement on, ends by a return that R tells -/
abbrev Stg (w : World) (mean : ExcName → Option Value) (mg mb : Str → Option Value) (f : Addr) (k k1 u1 : Nat) (news : List (Addr × Obj)) (ps : List (Str × Value)) (R : Value → List (Addr × Obj) → Prop) : Prop :=
  ∀ (dp un : Nat) (gd : Option (List Code)) (cn : Str) (cs : Scope) (L0 a : Addr) (ccd : Value) (cl : List (Str × Addr)) (outer : List Env) (base g : Heap) (L : Addr) (u : Str → Option Value) (s : Shared) (Q : Flow → Shared → Prop),
    Below (ktrTop dp un gd cn cs L0 a ccd cl outer) base (envX cn cs L0 a ccd cl :: outer) g → (hd.heap_39 w.params).In g → Top hd.view_39 (looseW hd.view_39 []) mean mg mb g → cs.kind = .function →
    dp + k1 < recursionLimit → un + u1 < cLine → Fr g L s.heap (kstB u ps) → News g L s.heap news →
    (∀ v news' h' tk' m', R v news' → Fr g L h' m' → News g L h' news' → Q (.ret v) { s with heap := h', toks := tk' }) →
    wpAny (model PySem.Challenge.rw_nq0050_01.row.prog w) ((ktrTop dp un gd cn cs L0 a ccd cl outer).deeper (envD (fnAt f w.params) f L)) (execs ((bodyOf (fnAt f w.params)).drop k) (envD (fnAt f w.params) f L)) Q (fun _ _ => False) s
end Mine
namespace Mine
theorem spc_use {w : World} {mean : ExcName → Option Value} {mg mb : Str → Option Value} {f : Addr} {news : List (Addr × Obj)} {vs : List Value} {k u : Nat} {R : Value → List (Addr × Obj) → Prop} (S : Spc w mean mg mb f news vs k u R)
    {dp un : Nat} {gd : Option (List Code)} {cn : Str} {cs : Scope} {a : Addr} {ccd : Value} {cl : List (Str × Addr)} {outer : List Env} {A₀ : Around} {base h₀ : Heap} {L : Addr} {m : Str → Option Value} {s : Shared} {Q E : Value → Shared → Prop}
    (B : Below A₀ base outer h₀) (F : Fr h₀ L s.heap m) (X : (hd.heap_39 w.params).In h₀) (N : News h₀ L s.heap news) (T : Top hd.view_39 (looseW hd.view_39 []) mean mg mb h₀) (hk : cs.kind = .function) (hd : dp + k < recursionLimit) (hu : un + u < cLine)
    (hret : ∀ v news' h' tk', R v news' → Fr h₀ L h' m → News h₀ L h' news' → Q v { s with heap := h', toks := tk' }) :
    wpAny (model PySem.Challenge.rw_nq0050_01.row.prog w) (ktrTop dp un gd cn cs L a ccd cl outer) (call (.ref f) vs) Q E s :=
  S _ _ _ _ _ _ _ _ _ _ _ _ _ _ _ _ _ B F X N T hk hd hu hret
end Mine

end
section
theorem Mine.freshL1 : True := by
  w_top off
  trivial
open PySem PySem.W PyProof.Rows PySem.Calls
namespace Mine

/-- a text by the list of its signs -/
abbrev tx (l : List Nat) : Str := ⟨l.toArray⟩
theorem tx_len (l : List Nat) : (tx l).length = l.length := by simp [Str.length]
theorem tx_item {l : List Nat} {i : Int} (h0 : 0 ≤ i) (h1 : i < l.length) : Txt.item (tx l) i = tx [l.getD i.toNat 0] := by
  have h : i.toNat < l.length := by omega
  refine PyProof.Rows.item_meets (n := l.getD i.toNat 0) h0 ?_
  simp [h]
theorem tx_item_neg {l : List Nat} {i : Int} (h0 : i < 0) (h1 : -(l.length : Int) ≤ i) : Txt.item (tx l) i = tx [l.getD (i + l.length).toNat 0] := by
  have h := beq_iff_eq.mp (item_closes_neg (x := tx l) (i := i) (j := i + l.length) h0 (by rw [tx_len]; exact h1) (by rw [tx_len]))
  rw [h]
  simp
theorem tx_from {l : List Nat} {i : Int} (h0 : 0 ≤ i) (h1 : i ≤ l.length) : Txt.slice (tx l) (some i) none = tx (l.drop i.toNat) := by
  rw [slice_from_eq (b := (tx l).length) h0 (by rw [tx_len]; exact h1) rfl]
  rw [tx_len]
  show tx _ = tx _
  congr 1
  rw [List.take_of_length_le]
  simp
  omega
theorem tx_to {l : List Nat} {j : Int} (h0 : 0 ≤ j) (h1 : j ≤ l.length) : Txt.slice (tx l) none (some j) = tx (l.take j.toNat) := by
  rw [beq_iff_eq.mp (slice_closes_toL (x := tx l) h0 (by rw [tx_len]; exact h1))]
  simp
theorem tx_to_neg {l : List Nat} {j : Int} (h0 : j < 0) (h1 : -(l.length : Int) ≤ j) : Txt.slice (tx l) none (some j) = tx (l.take (j + l.length).toNat) := by
  rw [← tx_to (by omega) (by omega)]
  unfold Txt.slice
  rw [tx_len]
  have e : Builtin.Str.strSliceIndices none (some j) 1 l.length = Builtin.Str.strSliceIndices none (some (j + l.length)) 1 l.length := by
    have h2 : (1 : Int) > 0 := by decide
    have h3 : ¬ (j + (l.length : Int)) < 0 := by omega
    simp only [Builtin.Str.strSliceIndices, h0, h3, h2, if_false, if_true]
  rw [e]
theorem tx_all {l : List Nat} : Txt.slice (tx l) none none = tx l := by
  have h := tx_to (l := l) (j := l.length) (by omega) (by omega)
  have e : Txt.slice (tx l) none none = Txt.slice (tx l) none (some (l.length : Int)) := by
    unfold Txt.slice
    rw [tx_len]
    have e : Builtin.Str.strSliceIndices none none 1 l.length = Builtin.Str.strSliceIndices none (some (l.length : Int)) 1 l.length := by
      have h2 : (1 : Int) > 0 := by decide
      have h3 : ¬ (l.length : Int) < 0 := by omega
      simp [Builtin.Str.strSliceIndices, h3]
    rw [e]
  rw [e, h]
  simp
end Mine

end
section
theorem Mine.freshLM : True := by
  w_top off
  trivial
open PySem PySem.W PyProof.Rows PySem.Calls
namespace Mine
/-- in how many places two lists differ, up to k -/
def hamTo (xs ys : List Nat) : Nat → Nat
  | 0 => 0
  | k + 1 => hamTo xs ys k + (if xs.getD k 0 = ys.getD k 0 then 0 else 1)
/-- the cost between the first i of the one and the first j of the other -/
def dis (xs ys : List Nat) (i j : Nat) : Int := ((hamTo xs ys (min i j) : Nat) : Int) + 2 * ((max i j - min i j : Nat) : Int)
def Twin (xs ys : List Nat) : Prop := xs.length = ys.length ∧ ∀ i j, i < xs.length → j < xs.length →
  subCost (tx [ys.getD j 0]) (tx [xs.getD i 0]) = if i = j then (if xs.getD i 0 = ys.getD j 0 then 0 else 1) else 2

theorem dis_zero (xs ys : List Nat) (j : Nat) : dis xs ys 0 j = 2 * (j : Int) := by simp [dis, hamTo]
theorem dis_zero' (xs ys : List Nat) (j : Nat) : dis xs ys j 0 = 2 * (j : Int) := by simp [dis, hamTo]
theorem ham_le (xs ys : List Nat) (k : Nat) : hamTo xs ys k ≤ k := by
  induction k with
  | zero => exact Nat.le_refl _
  | succ k ih => unfold hamTo; split <;> omega

theorem dis_lo (xs ys : List Nat) (i d : Nat) : dis xs ys i (i + d) = (hamTo xs ys i : Int) + 2 * (d : Int) := by
  unfold dis; rw [Nat.min_eq_left (Nat.le_add_right i d), Nat.max_eq_right (Nat.le_add_right i d), Nat.add_sub_cancel_left]
theorem dis_hi (xs ys : List Nat) (i d : Nat) : dis xs ys (i + d) i = (hamTo xs ys i : Int) + 2 * (d : Int) := by
  unfold dis; rw [Nat.min_eq_right (Nat.le_add_right i d), Nat.max_eq_left (Nat.le_add_right i d), Nat.add_sub_cancel_left]
theorem ham_up (xs ys : List Nat) (i : Nat) : ∃ c : Int, 0 ≤ c ∧ c ≤ 1 ∧ (if xs.getD i 0 = ys.getD i 0 then (0 : Int) else 1) = c ∧ (hamTo xs ys (i + 1) : Int) = (hamTo xs ys i : Int) + c := by
  by_cases h : xs.getD i 0 = ys.getD i 0
  · refine ⟨0, Int.le_refl _, by decide, if_pos h, ?_⟩
    show ((hamTo xs ys i + (if xs.getD i 0 = ys.getD i 0 then 0 else 1) : Nat) : Int) = _
    rw [if_pos h]; rfl
  · refine ⟨1, by decide, Int.le_refl _, if_neg h, ?_⟩
    show ((hamTo xs ys i + (if xs.getD i 0 = ys.getD i 0 then 0 else 1) : Nat) : Int) = _
    rw [if_neg h]; rfl
theorem dis_lt {a c d r x : Int} (h0 : 0 ≤ c) (h1 : c ≤ 1) (hr : a + 2 * d + 2 ≤ r) (hx : x = a + c + 2 * d) : min (min r x + 2) (a + 2 * d + 2 + 2) = a + c + 2 * d + 2 := by
  subst hx
  rw [Int.min_eq_right (show a + c + 2 * d ≤ r by omega), Int.min_eq_left (by omega)]
theorem dis_eq {a c r : Int} (h1 : c ≤ 1) (hr : a ≤ r) : min (min r (a + 2) + 2) (a + c) = a + c := by
  have h : a ≤ min r (a + 2) := Int.le_min.2 ⟨hr, by omega⟩
  revert h
  generalize min r (a + 2) = y
  intro h
  exact Int.min_eq_right (by omega)
theorem dis_gt {a c d : Int} (h0 : 0 ≤ c) (h1 : c ≤ 1) : min (min (a + c + 2 * d) (a + 2 * d + 4) + 2) (a + 2 * d + 2 + 2) = a + c + 2 * d + 2 := by
  rw [Int.min_eq_left (show a + c + 2 * d ≤ a + 2 * d + 4 by omega), Int.min_eq_left (by omega)]

theorem dis_step {xs ys : List Nat} (T : Twin xs ys) {i j : Nat} (hi : i < xs.length) (hj : j < xs.length) {r : Int} (hr : r = if i = 0 then 2 * (j : Int) else dis xs ys i (j + 1)) :
    min (min r (dis xs ys (i + 1) j) + 2) (dis xs ys i j + subCost (tx [ys.getD j 0]) (tx [xs.getD i 0])) = dis xs ys (i + 1) (j + 1) := by
  rw [T.2 i j hi hj]
  have hz : i = 0 → (hamTo xs ys i : Int) = 0 := by rintro rfl; rfl
  rcases Nat.lt_trichotomy i j with h | h | h
  · obtain ⟨d, rfl⟩ := Nat.exists_eq_add_of_le (show i + 1 ≤ j from h)
    obtain ⟨c, h0, h1, -, hs⟩ := ham_up xs ys i
    rw [if_neg (show ¬ i = i + 1 + d from Nat.ne_of_lt h)]
    have a1 : dis xs ys i (i + 1 + d + 1) = (hamTo xs ys i : Int) + 2 * ((d + 2 : Nat) : Int) := dis_lo xs ys i (d + 2) ▸ congrArg _ (by omega)
    have a2 : dis xs ys (i + 1) (i + 1 + d) = (hamTo xs ys i : Int) + c + 2 * (d : Int) := by rw [dis_lo, hs]
    have a3 : dis xs ys i (i + 1 + d) = (hamTo xs ys i : Int) + 2 * ((d + 1 : Nat) : Int) := dis_lo xs ys i (d + 1) ▸ congrArg _ (by omega)
    have a4 : dis xs ys (i + 1) (i + 1 + d + 1) = (hamTo xs ys i : Int) + c + 2 * ((d + 1 : Nat) : Int) := by rw [← hs]; exact dis_lo xs ys (i + 1) (d + 1)
    have hr' : (hamTo xs ys i : Int) + 2 * (d : Int) + 2 ≤ r := by
      rw [hr, a1]
      by_cases e : i = 0
      · rw [if_pos e, hz e, e]; omega
      · rw [if_neg e]; omega
    have q := dis_lt h0 h1 hr' (x := dis xs ys (i + 1) (i + 1 + d)) a2
    rw [a3, a4, show (hamTo xs ys i : Int) + 2 * ((d + 1 : Nat) : Int) = (hamTo xs ys i : Int) + 2 * (d : Int) + 2 by omega, q]; omega
  · subst h
    obtain ⟨c, h0, h1, hc, hs⟩ := ham_up xs ys i
    rw [if_pos rfl, hc]
    have a1 : dis xs ys i (i + 1) = (hamTo xs ys i : Int) + 2 := dis_lo xs ys i 1
    have a2 : dis xs ys (i + 1) i = (hamTo xs ys i : Int) + 2 := dis_hi xs ys i 1
    have a3 : dis xs ys i i = (hamTo xs ys i : Int) := (dis_lo xs ys i 0).trans (Int.add_zero _)
    have a4 : dis xs ys (i + 1) (i + 1) = (hamTo xs ys i : Int) + c := ((dis_lo xs ys (i + 1) 0).trans (Int.add_zero _)).trans hs
    have hr' : (hamTo xs ys i : Int) ≤ r := by
      rw [hr, a1]
      by_cases e : i = 0
      · rw [if_pos e, hz e, e]; exact Int.le_refl _
      · rw [if_neg e]; omega
    rw [a2, a3, a4]
    exact dis_eq h1 hr'
  · obtain ⟨d, rfl⟩ := Nat.exists_eq_add_of_le (show j + 1 ≤ i from h)
    obtain ⟨c, h0, h1, -, hs⟩ := ham_up xs ys j
    rw [if_neg (show ¬ j + 1 + d = j from Nat.ne_of_gt h)]
    rw [if_neg (show ¬ j + 1 + d = 0 by omega)] at hr
    have a1 : dis xs ys (j + 1 + d) (j + 1) = (hamTo xs ys j : Int) + c + 2 * (d : Int) := by rw [dis_hi, hs]
    have a2 : dis xs ys (j + 1 + d + 1) j = (hamTo xs ys j : Int) + 2 * (d : Int) + 4 := by
      rw [show j + 1 + d + 1 = j + (d + 2) by omega, dis_hi]; omega
    have a3 : dis xs ys (j + 1 + d) j = (hamTo xs ys j : Int) + 2 * (d : Int) + 2 := by
      rw [show j + 1 + d = j + (d + 1) by omega, dis_hi]; omega
    have a4 : dis xs ys (j + 1 + d + 1) (j + 1) = (hamTo xs ys j : Int) + c + 2 * (d : Int) + 2 := by
      rw [show j + 1 + d + 1 = j + 1 + (d + 1) by omega, dis_hi, hs]; omega
    rw [hr, a1, a2, a3, a4]
    exact dis_gt h0 h1
theorem dis_diag (xs ys : List Nat) (k : Nat) : dis xs ys k k = (hamTo xs ys k : Nat) := by simp [dis]

theorem getD_drop (l : List Nat) (k i : Nat) : (l.drop k).getD i 0 = l.getD (k + i) 0 := by simp
theorem getD_take {l : List Nat} {k i : Nat} (h : i < k) : (l.take k).getD i 0 = l.getD i 0 := by simp [h]
theorem twin_drop {xs ys : List Nat} (T : Twin xs ys) (k : Nat) : Twin (xs.drop k) (ys.drop k) := by
  refine ⟨by simp [T.1], fun i j hi hj => ?_⟩
  rw [List.length_drop] at hi hj
  rw [getD_drop, getD_drop, T.2 (k + i) (k + j) (by omega) (by omega)]
  by_cases e : i = j <;> simp [e]
theorem twin_take {xs ys : List Nat} (T : Twin xs ys) (k : Nat) : Twin (xs.take k) (ys.take k) := by
  refine ⟨by simp [T.1], fun i j hi hj => ?_⟩
  rw [List.length_take] at hi hj
  rw [getD_take (by omega), getD_take (by omega), T.2 i j (by omega) (by omega)]
/-- the first k are alike -/
def Like (xs ys : List Nat) (a b : Nat) : Prop := ∀ i, a ≤ i → i < b → xs.getD i 0 = ys.getD i 0
theorem ham_cut {xs ys : List Nat} {k : Nat} (h : Like xs ys 0 k) : ∀ n, hamTo xs ys (k + n) = hamTo (xs.drop k) (ys.drop k) n := by
  have h0 : ∀ j, j ≤ k → hamTo xs ys j = 0 := by
    intro j
    induction j with
    | zero => intro _; rfl
    | succ j ih => intro hj; unfold hamTo; rw [ih (by omega), if_pos (h j (by omega) (by omega))]
  intro n
  induction n with
  | zero => exact h0 k (Nat.le_refl _)
  | succ n ih => rw [← Nat.add_assoc]; unfold hamTo; rw [ih, getD_drop, getD_drop]
theorem ham_keep {xs ys : List Nat} {a b : Nat} (hab : a ≤ b) (h : Like xs ys a b) : hamTo xs ys b = hamTo xs ys a := by
  obtain ⟨d, rfl⟩ := Nat.exists_eq_add_of_le hab
  induction d with
  | zero => rfl
  | succ d ih =>
    show hamTo xs ys (a + d) + (if xs.getD (a + d) 0 = ys.getD (a + d) 0 then 0 else 1) = _
    rw [ih (by omega) (fun i h1 h2 => h i h1 (by omega)), if_pos (h _ (by omega) (by omega))]; rfl
theorem ham_take {xs ys : List Nat} {k : Nat} : ∀ n, n ≤ k → hamTo (xs.take k) (ys.take k) n = hamTo xs ys n := by
  intro n
  induction n with
  | zero => intro _; rfl
  | succ n ih => intro h; unfold hamTo; rw [ih (by omega), getD_take (by omega), getD_take (by omega)]
end Mine

end
section
theorem Mine.freshL4 : True := by
  w_top off
  trivial
open PySem PySem.W PyProof.Rows PySem.Calls
namespace Mine

local macro_rules | `(tactic| k_steps) => `(tactic| repeat' (first
  | ((fail_if_success (with_reducible show wpAny _ _ (exec (Stmt.While _ _ _ _) _) _ _ _)); (fail_if_success (with_reducible show wpAny _ _ (pyIter _) _ _ _)); first
    | (k_unfold; (try dsimp only)) | (k_end; wrow_close) | (dsimp only; walk1) | walk1 | (leave1; walk_say "STEP leave1"; try dsimp only)) | fail "no step"))
local macro_rules | `(tactic| k_all) => `(tactic| assumption)
theorem min2 {prog : Program} {w : World} {A : Around} {E : Value → Shared → Prop} {s : Shared} {h₀ : Heap} {L : Addr} {m : Str → Option Value} {news : List (Addr × Obj)} {a b : Int} {t u : Tok} {Q : Value → Shared → Prop} (hh : A.handled = none) (F : Fr h₀ L s.heap m) (N : News h₀ L s.heap news)
    (h : ∀ r t' h' tk, r = min a b → Fr h₀ L h' m → News h₀ L h' news → Q (.int r t') { s with heap := h', toks := tk }) :
    wpAny (model prog w) A (call (.builtin "min") [.int a t, .int b u]) Q E s :=
  min_two_N hh F N fun h' tk F' N' => h _ _ h' tk (by split <;> omega) F' N'
local macro_rules | `(tactic| walk_at "call builtin:min") => `(tactic| ((with_reducible show wpAny _ _ (call (Value.builtin _) [Value.int _ _, Value.int _ _]) _ _ _); (rename News _ _ _ _ => N'); (rename Fr _ _ _ _ => F'); (with_unfolding_all refine min2 rfl F' N' ?_); clear F' N'; intro r' t' h' tk' hr' F' N'))
local macro_rules | `(tactic| walk_at "call ref") => `(tactic| (k_here; (with_reducible show wpAny _ _ (call (Value.ref 21) [Value.str _ _, Value.str _ _]) _ _ _); (with_unfolding_all refine' spc_use (sub_spec _ _ _ _ _ _ _ _ _ ?ha ?hb) ?B ?F ?X ?N ?T ?hk ?hd ?hu ?_); (case ha => exact tx_len _); (case hb => exact tx_len _); (case B => k_asm); (case F => k_asm); (case X => k_asm); (case N => k_asm); (case T => k_asm); (case hk => first | exact rfl | assumption); (case hd => (simp only [depth_deeper] at *; omega)); (case hu => (simp only [units_deeper] at *; omega)); rintro _ _ _ _ ⟨h1', _, h2'⟩ F' N'; subst h1'; subst h2'))

theorem row_set (A B : Nat → Int) (n i : Nat) : ((List.range n).map fun q => if q < i then A q else B q).set i (A i) = (List.range n).map fun q => if q < i + 1 then A q else B q := by
  apply List.ext_getElem
  · simp
  · intro k h1 h2
    simp only [List.getElem_set, List.getElem_map, List.getElem_range]
    by_cases e : i = k
    · subst e; simp
    · rw [if_neg e]
      by_cases e2 : k < i
      · rw [if_pos e2, if_pos (by omega)]
      · rw [if_neg e2, if_neg (by omega)]
theorem step_val {xs ys : List Nat} (T : Twin xs ys) {i j : Nat} (hi : i < xs.length) (hj : j < xs.length) {res dist g r1 r2 : Int} {yj xi : Str} (hres : res = if i = 0 then 2 * (j : Int) else dis xs ys i (j + 1)) (hd : dist = dis xs ys i j) (hg : g = dis xs ys (i + 1) j)
    (hx : xi = tx [xs.getD i 0]) (hy : yj = tx [ys.getD j 0]) (h1 : r1 = min res g) (h2 : r2 = min (r1 + 2) (dist + subCost yj xi)) : r2 = dis xs ys (i + 1) (j + 1) := by
  rw [h2, h1, hd, hg, hx, hy]
  exact dis_step T hi hj hres

theorem fhas {h₀ h : Heap} {L : Addr} {m' : Str → Option Value} (_ : Fr h₀ L h m') {ps : List (Str × Value)} (h : Has m' ps) : Has m' ps := h
theorem sub_led {l : Addr} {o : Obj} {news own own2 : List (Addr × Obj)} : ∀ p ∈ (l, o) :: (news ++ own), p ∈ (l, o) :: (news ++ own ++ own2) := by
  intro p hp
  rcases List.mem_cons.mp hp with rfl | hp
  · exact .head _
  · exact .tail _ (List.mem_append_left _ hp)
theorem lev_st15 (w : World) (mean) (mg mb) (news) (l : Addr) (vs : List Value) (kk : Nat) (hne : ∀ p ∈ news, p.1 ≠ l) (xs ys : List Nat) (ta tb tc tr : Tok) (n : Int) (hx : xs.length ≤ 8) (h0 : 0 < xs.length) (hT : Twin xs ys) (hn : (xs.length : Int) ≤ n)
   (hI : IntsAre vs ((List.range xs.length).map fun (i : Nat) => 2 + i * 2)) :
   Stg w mean mg mb 28 15 2 20 ((l, listOf vs.toArray kk) :: news) [("a", .str (tx xs) ta), ("b", .str (tx ys) tb), ("max_cost", .int n tc), ("row", .ref l), ("result", .int 0 tr)] (fun v news' => news' = news ∧ ∃ t, v = .int (hamTo xs ys xs.length : Nat) t) := by
  unfold Stg
  k_fill
  intro dp un gd cn cs L0 a₁ ccd cl outer base g1 L1 u s Q B1 X1 T1 hk hdp hun F1 N1 hret
  obtain ⟨d, hd0⟩ : ∃ d, fnAt 28 w.params = d := ⟨_, rfl⟩
  have hd1 := hd0
  conv at hd1 => lhs; whnf
  rw [hd0, ← hd1]
  clear hd0 hd1 d
  dsimp only [bodyOf, envD, List.drop]
  have lx := tx_len xs
  have ly := tx_len ys
  have hxy := hT.1
  k_steps
  rename IsRange _ _ _ _ _ _ _ _ => R2
  rename Fr g1 L1 _ _ => F2
  rename News g1 L1 _ _ => N2
  refine fo (σ := List Value × Nat × Int × Tok) (n := xs.length) (l :: news.map (·.1)) (fun c => (l, listOf c.1.toArray c.2.1) :: news)
    (fun c => [("a", .str (tx xs) ta), ("b", .str (tx ys) tb), ("max_cost", .int n tc), ("row", .ref l), ("result", .int c.2.2.1 c.2.2.2)])
    (fun j c => IntsAre c.1 ((List.range xs.length).map fun (q : Nat) => dis xs ys (q + 1) j) ∧ c.2.2.1 = if j = 0 then 0 else dis xs ys xs.length j)
    (vs, kk, 0, tr) (fun _ => rfl) rfl R2 (small_one (by omega) (by omega) (by omega) (by omega)) (by rw [rangeSize_one]; omega) F2 N2 (has_cons rfl (has_cons rfl (has_cons rfl (has_cons rfl (has_cons rfl has_nil))))) ⟨?_, rfl⟩ ?_ ?_
  · dsimp only
    have e : (List.range xs.length).map (fun (q : Nat) => dis xs ys (q + 1) 0) = (List.range xs.length).map fun (i : Nat) => 2 + (i : Int) * 2 := by
      refine List.map_congr_left fun q _ => ?_
      rw [dis_zero']; omega
    rw [e]; exact hI
  · clear R2 F2 N2 hI
    rintro j ⟨vs, kk, res, tr⟩ tj u h tk own hj hoff ⟨hI, hres⟩ F2 N2
    dsimp only at hI hres F2 N2
    rw [List.cons_append] at N2
    have hall : ∀ p ∈ news ++ own, p.1 ≠ l := by
      intro p hp
      rcases List.mem_append.mp hp with q | q
      · exact hne p q
      · exact hoff p q l (.head _)
    have hyj : Txt.item (tx ys) (0 + (j : Int)) = tx [ys.getD j 0] := by
      have := tx_item (l := ys) (i := 0 + (j : Int)) (by omega) (by omega)
      rw [this]; congr 3; omega
    k_steps
    rename IsRange _ _ _ _ _ _ _ _ => R2
    rename Fr g1 L1 _ _ => F2
    rename News g1 L1 _ _ => N2
    refine fo (σ := List Value × Nat × Int × Tok × Int × Tok × Int × Tok × Tok) (n := xs.length) (l :: (news ++ own).map (·.1)) (fun c => (l, listOf c.1.toArray c.2.1) :: (news ++ own))
      (fun c => [("a", .str (tx xs) ta), ("b", .str (tx ys) tb), ("max_cost", .int n tc), ("row", .ref l), ("bchar", .str (tx [ys.getD j 0]) c.2.2.2.2.2.2.2.2), ("result", .int c.2.2.1 c.2.2.2.1), ("distance", .int c.2.2.2.2.1 c.2.2.2.2.2.1), ("minimum", .int c.2.2.2.2.2.2.1 c.2.2.2.2.2.2.2.1)])
      (fun i c => IntsAre c.1 ((List.range xs.length).map fun (q : Nat) => if q < i then dis xs ys (q + 1) (j + 1) else dis xs ys (q + 1) j) ∧ (c.2.2.1 = if i = 0 then 2 * (j : Int) else dis xs ys i (j + 1)) ∧ c.2.2.2.2.1 = dis xs ys i j ∧ ∀ q, q < i → c.2.2.2.2.2.2.1 ≤ dis xs ys (q + 1) (j + 1))
      (vs, kk, (0 + (j : Int)) * 2, _, (0 + (j : Int)) * 2, _, 9223372036854775807, _, _) (fun _ => rfl) rfl R2 (small_one (by omega) (by omega) (by omega) (by omega)) (by rw [rangeSize_one]; omega) F2 N2
      (has_cons rfl (has_cons rfl (has_cons rfl (has_cons rfl (has_cons (congrArg (fun z => some (Value.str z _)) hyj) (has_cons rfl (has_cons rfl (has_cons rfl has_nil)))))))) ⟨?_, ?_, ?_, ?_⟩ ?_ ?_
    · simpa using hI
    · dsimp only; rw [if_pos rfl]; omega
    · dsimp only; rw [dis_zero]; omega
    · intro q hq; exact absurd hq (Nat.not_lt_zero _)
    · clear R2 F2 N2 hI hres
      rintro i ⟨vs, kk, res, tr, dist, td, mn, tm, tcj⟩ ti u h tk own2 hi hoff2 ⟨hI, hres, hdist, hmn⟩ F2 N2
      dsimp only at hI hres hdist hmn F2 N2
      rw [List.cons_append] at N2
      have hall2 : ∀ p ∈ news ++ own ++ own2, p.1 ≠ l := by
        intro p hp
        rcases List.mem_append.mp hp with q | q
        · exact hall p q
        · exact hoff2 p q l (.head _)
      have hlen : ((List.range xs.length).map fun (q : Nat) => if q < i then dis xs ys (q + 1) (j + 1) else dis xs ys (q + 1) j).length = xs.length := by simp
      have hget : ((List.range xs.length).map fun (q : Nat) => if q < i then dis xs ys (q + 1) (j + 1) else dis xs ys (q + 1) j).getD (0 + (i : Int)).toNat 0 = dis xs ys (i + 1) j := by
        rw [show (0 + (i : Int)).toNat = i by omega]
        simp [hi]
      generalize hns : ((List.range xs.length).map fun (q : Nat) => if q < i then dis xs ys (q + 1) (j + 1) else dis xs ys (q + 1) j) = ns at hI hlen hget
      have hxi : Txt.item (tx xs) (0 + (i : Int)) = tx [xs.getD i 0] := by
        have := tx_item (l := xs) (i := 0 + (i : Int)) (by omega) (by omega)
        rw [this]; congr 3; omega
      k_steps
      all_goals (rename Fr g1 L1 _ _ => F3; rename News g1 L1 _ _ => N3; rename IntsAre (vs.set _ _) _ => hI3; rename _ = min (_ + _) _ => h2; rename _ = min res _ => h1; have hR := step_val hT hi hj hres hdist hget hxi rfl h1 h2)
      · have hs := fhas F3 (has_cons (x := "a") (v := .str _ _) rfl (has_cons (x := "b") (v := .str _ _) rfl (has_cons (x := "max_cost") (v := .int _ _) rfl (has_cons (x := "row") (v := .ref _) rfl (has_cons (x := "bchar") (v := .str _ _) rfl (has_cons (x := "result") (v := .int _ _) rfl (has_cons (x := "distance") (v := .int _ _) rfl (has_cons (x := "minimum") (v := .int _ _) rfl has_nil))))))))
        refine FPost.next (vs.set (0 + (i : Int)).toNat (.int _ _), kk, _, _, _, _, _, _, tcj) F3 N3 sub_led (fun p hp => .tail _ (List.mem_append_right _ hp)) hs ?_
        dsimp only
        refine ⟨?_, by rw [if_neg (Nat.succ_ne_zero i)]; exact hR, hget, fun q hq => ?_⟩
        · rw [← hns, hR, show (0 + (i : Int)).toNat = i by omega, row_set (fun q => dis xs ys (q + 1) (j + 1)) (fun q => dis xs ys (q + 1) j)] at hI3
          rw [hR, show (0 + (i : Int)).toNat = i by omega]
          exact hI3
        · by_cases e : q = i
          · subst e; exact Int.le_of_eq hR
          · have h1 := hmn q (by omega)
            rename (_ : Int) < mn => hlt
            omega
      · have hs := fhas F3 (has_cons (x := "a") (v := .str _ _) rfl (has_cons (x := "b") (v := .str _ _) rfl (has_cons (x := "max_cost") (v := .int _ _) rfl (has_cons (x := "row") (v := .ref _) rfl (has_cons (x := "bchar") (v := .str _ _) rfl (has_cons (x := "result") (v := .int _ _) rfl (has_cons (x := "distance") (v := .int _ _) rfl (has_cons (x := "minimum") (v := .int _ _) rfl has_nil))))))))
        refine FPost.next (vs.set (0 + (i : Int)).toNat (.int _ _), kk, _, _, _, _, _, _, tcj) F3 N3 sub_led (fun p hp => .tail _ (List.mem_append_right _ hp)) hs ?_
        dsimp only
        refine ⟨?_, by rw [if_neg (Nat.succ_ne_zero i)]; exact hR, hget, fun q hq => ?_⟩
        · rw [← hns, hR, show (0 + (i : Int)).toNat = i by omega, row_set (fun q => dis xs ys (q + 1) (j + 1)) (fun q => dis xs ys (q + 1) j)] at hI3
          rw [hR, show (0 + (i : Int)).toNat = i by omega]
          exact hI3
        · by_cases e : q = i
          · subst e
            rename ¬ (_ : Int) < mn => hlt
            omega
          · exact hmn q (by omega)
    · clear R2 F2 N2 hI hres
      rintro ⟨vs, kk, res, tr, dist, td, mn, tm, tcj⟩ u h tk ⟨hI, hres, hdist, hmn⟩ F2 N2
      dsimp only at hI hres hdist hmn F2 N2
      dsimp only
      have hmn' : mn ≤ n := by
        have h1 := hmn j hj
        rw [dis_diag] at h1
        have h2 := ham_le xs ys (j + 1)
        omega
      k_steps
      rename Fr g1 L1 _ _ => F3
      rename News g1 L1 _ _ => N3
      refine FPost.next (vs, kk, res, tr) F3 N3 ?_ (fun p hp => .tail _ (List.mem_append_right _ hp)) (has_cons rfl (has_cons rfl (has_cons rfl (has_cons rfl (has_cons rfl has_nil))))) ⟨?_, ?_⟩
      · intro p hp
        rcases List.mem_cons.mp hp with rfl | hp
        · exact .head _
        · exact .tail _ (List.mem_append_left _ hp)
      · dsimp only
        have e : ((List.range xs.length).map fun (q : Nat) => if q < xs.length then dis xs ys (q + 1) (j + 1) else dis xs ys (q + 1) j) = (List.range xs.length).map fun (q : Nat) => dis xs ys (q + 1) (j + 1) :=
          List.map_congr_left fun q hq => if_pos (List.mem_range.mp hq)
        rw [← e]; exact hI
      · dsimp only
        rw [if_neg (Nat.succ_ne_zero j), hres, if_neg (by omega)]
  · clear R2 F2 N2 hI
    rintro ⟨vs, kk, res, tr⟩ u h tk ⟨hI, hres⟩ F2 N2
    dsimp only at hI hres F2 N2
    dsimp only
    k_steps
    refine hret _ news _ _ _ ⟨rfl, _, congrArg (fun z => Value.int z _) ?_⟩ (by assumption) (fun p hp => N2 p (.tail _ hp))
    rw [hres, if_neg (by omega), dis_diag]
end Mine

end
section
theorem Mine.freshL3 : True := by
  w_top off
  trivial
open PySem PySem.W PyProof.Rows PySem.Calls
namespace Mine

theorem list_rng {prog : Program} {w : World} {A : Around} {E : Value → Shared → Prop} {s : Shared} {h₀ : Heap} {L : Addr} {m : Str → Option Value} {Q : Value → Shared → Prop} {r : Addr} {a b c : Int} {t u v : Tok} {n : Nat} {news : List (Addr × Obj)}
    (hh : A.handled = none) (F : Fr h₀ L s.heap m) (N : News h₀ L s.heap news) (hr : IsRange s.heap r a b c t u v) (hsmall : Builtin.Range.small a b c = true) (hn : Builtin.Range.rangeSize a b c = (n : Int)) (hlen : n ≤ 2 ^ 24)
    (hQ : ∀ l h' tk (ys : List Value) k, Fr h₀ L h' m → News h₀ L h' ((l, listOf ys.toArray k) :: news) → (∀ p ∈ news, p.1 ≠ l) → IntsAre ys ((List.range n).map fun (i : Nat) => a + i * c) → Q (.ref l) { s with heap := h', toks := tk }) :
    wpAny (model prog w) A (call (.type "list") [.ref r]) Q E s := by
  refine list_rangeD hh F N hr hsmall hn hlen fun h' tk ys F' N' _ hnew _ hP hC => ?_
  have hne := hP.ne_locals F'
  obtain ⟨⟨k, e⟩, hoff⟩ := hP
  refine hQ _ h' tk ys k F' (List.forall_mem_cons.mpr ⟨⟨e, hne, hnew⟩, N'⟩) hoff ?_
  exact IntsAre.ofCarried hC

local macro_rules | `(tactic| k_steps) => `(tactic| repeat' (first
  | ((fail_if_success (with_reducible show wpAny _ _ (exec (Stmt.While _ _ _ _) _) _ _ _)); (fail_if_success (with_reducible show wpAny _ _ (pyIter _) _ _ _)); (fail_if_success (with_reducible show wpAny _ _ (execs (Stmt.For _ _ _ _ _ :: _) _) _ _ _)); first
    | (k_unfold; (try dsimp only)) | (k_end; wrow_close) | (dsimp only; walk1) | walk1 | (leave1; walk_say "STEP leave1"; try dsimp only)) | fail "no step"))
local macro_rules | `(tactic| k_all) => `(tactic| assumption)

theorem lev_st9 (w : World) (mean) (mg mb) (news) (xs ys : List Nat) (ta tb tc : Tok) (n : Int) (hx : xs.length ≤ 8) (hT : Twin xs ys) (hn : (xs.length : Int) ≤ n) :
   Stg w mean mg mb 28 9 2 20 news [("a", .str (tx xs) ta), ("b", .str (tx ys) tb), ("max_cost", .int n tc)] (fun v news' => news' = news ∧ ∃ t, v = .int (hamTo xs ys xs.length : Nat) t) := by
  unfold Stg
  k_fill
  intro dp un gd cn cs L0 a₁ ccd cl outer base g1 L1 u s Q B1 X1 T1 hk hdp hun F1 N1 hret
  obtain ⟨d, hd0⟩ : ∃ d, fnAt 28 w.params = d := ⟨_, rfl⟩
  have hd1 := hd0
  conv at hd1 => lhs; whnf
  rw [hd0, ← hd1]
  clear hd0 hd1
  dsimp only [bodyOf, envD, List.drop]
  have lx := tx_len xs
  have ly := tx_len ys
  have hxy := hT.1
  k_steps
  rotate_left
  · refine hret _ _ _ _ _ ⟨rfl, _, congrArg (fun z => Value.int z _) ?_⟩ (by assumption) (by assumption)
    exfalso; omega
  · refine hret _ _ _ _ _ ⟨rfl, _, congrArg (fun z => Value.int z _) ?_⟩ (by assumption) (by assumption)
    have e : xs.length = 0 := by omega
    rw [e]
    simp only [hamTo]; omega
  rename IsRange _ _ _ _ _ _ _ _ => R2
  rename Fr g1 L1 _ _ => F2
  rename News g1 L1 _ _ => N2
  have hsm : ∀ k : Nat, k ≤ 8 → Builtin.Range.small 2 (2 * ((k : Int) + 1)) 2 = true ∧ Builtin.Range.rangeSize 2 (2 * ((k : Int) + 1)) 2 = (k : Int) := by decide
  rw [lx] at R2
  refine list_rng (n := xs.length) rfl F2 N2 R2 (hsm _ hx).1 (hsm _ hx).2 (by omega) ?_
  clear R2 F2 N2
  intro l h2 tk2 vs kk F2 N2 hne hI
  k_steps
  rename Fr g1 L1 _ _ => F3
  rename News g1 L1 _ _ => N3
  refine clean [("a", .str (tx xs) ta), ("b", .str (tx ys) tb), ("max_cost", .int n tc), ("row", .ref l), ("result", .int 0 _)] F3 (has_cons rfl (has_cons rfl (has_cons rfl (has_cons rfl (has_cons rfl has_nil))))) ?_
  intro u F4
  exact lev_st15 w mean mg mb news l vs kk hne xs ys ta tb tc _ n hx (by omega) hT hn hI dp un gd cn cs L0 a₁ ccd cl outer base g1 L1 u _ Q B1 X1 T1 hk hdp hun F4 N3 hret
end Mine

end
section
theorem Mine.freshL2 : True := by
  w_top off
  trivial
open PySem PySem.W PyProof.Rows PySem.Calls
namespace Mine

local macro_rules | `(tactic| k_steps) => `(tactic| repeat' (first
  | ((fail_if_success (with_reducible show wpAny _ _ (exec (Stmt.While _ _ _ _) _) _ _ _)); (fail_if_success (with_reducible show wpAny _ _ (pyIter _) _ _ _)); (fail_if_success (with_reducible show wpAny _ _ (execs (Stmt.If (Expr.BoolOp _ _ _) _ _ _ :: _) _) _ _ _)); first
    | (k_unfold; (try dsimp only)) | (k_end; wrow_close) | (dsimp only; walk1) | walk1 | (leave1; walk_say "STEP leave1"; try dsimp only)) | fail "no step"))
local macro_rules | `(tactic| walk_at "subscriptTail Name Slice str ref") => `(tactic| ((with_reducible show wpAny _ _ (subscriptTail _ (Expr.Slice none (some _) none _) _ _) _ _ _); (with_reducible rename Fr _ _ _ _ => F'); (with_reducible rename News _ _ _ _ => N'); (refine slice_strN_nn_len (hsz := ?hsz) (s := ⟨_, _, _, _, _⟩) F' N' ?_); (case hsz => size_fits); intro _ _ _ _ _ _))

theorem like_down {xs ys : List Nat} {j : Int} (hl : xs.length = ys.length) (h0 : j ≤ 0) (h1 : 0 < j + xs.length) (he : (Txt.item (tx xs) (j - 1) == Txt.item (tx ys) (j - 1)) = true) (hj : Like xs ys (j + xs.length).toNat xs.length) :
    Like xs ys (j - 1 + xs.length).toNat xs.length := by
  rw [tx_item_neg (by omega) (by omega), tx_item_neg (by omega) (by omega), ← hl] at he
  intro i h2 h3
  by_cases e : i = (j - 1 + xs.length).toNat
  · subst e; simpa [tx] using he
  · exact hj i (by omega) h3

theorem lev_st (w : World) (mean) (mg mb) (news) (xs1 ys1 : List Nat) (ta tb tc tp : Tok) (n : Int) (hx : xs1.length ≤ 8) (hT : Twin xs1 ys1) (hn : (xs1.length : Int) ≤ n) :
   Stg w mean mg mb 28 6 2 20 news [("a", .str (tx xs1) ta), ("b", .str (tx ys1) tb), ("max_cost", .int n tc), ("post", .int 0 tp)] (fun v news' => news' = news ∧ ∃ t, v = .int (hamTo xs1 ys1 xs1.length : Nat) t) := by
  unfold Stg
  k_fill
  intro dp un gd cn cs L0 a₁ ccd cl outer base g1 L1 u s Q B1 X1 T1 hk hdp hun F1 N1 hret
  obtain ⟨d, hd0⟩ : ∃ d, fnAt 28 w.params = d := ⟨_, rfl⟩
  have hd1 := hd0
  conv at hd1 => lhs; whnf
  rw [hd0, ← hd1]
  clear hd0 hd1
  dsimp only [bodyOf, envD, List.drop]
  have lx1 := tx_len xs1
  have ly1 := tx_len ys1
  have hxy := hT.1
  k_steps
  rename Fr g1 L1 _ _ => F2
  rename News g1 L1 _ _ => N2
  refine wh (σ := Int × Tok) (fun _ => news) (fun c => [("a", .str (tx xs1) ta), ("b", .str (tx ys1) tb), ("max_cost", .int n tc), ("post", .int c.1 c.2)])
    (fun c => -(xs1.length : Int) ≤ c.1 ∧ c.1 ≤ 0 ∧ Like xs1 ys1 (c.1 + xs1.length).toNat xs1.length) (fun c => -(xs1.length : Int) ≤ c.1 ∧ c.1 ≤ 0 ∧ Like xs1 ys1 (c.1 + xs1.length).toNat xs1.length) (fun c => (c.1 + xs1.length).toNat) (0, _) F2 N2
    (has_cons rfl (has_cons rfl (has_cons rfl (has_cons rfl has_nil)))) ⟨by dsimp only; omega, by simp, fun i h1 h2 => absurd h1 (by dsimp only; omega)⟩ ?_ ?_ PassesOwn.never
  · clear F2 N2
    rintro ⟨j, tj⟩ u h tk₁ ⟨hj0, hj1, hj2⟩ F2 N2
    dsimp only at hj0 hj1 hj2 F2
    have hla := tx_all (l := xs1)
    have hlb := tx_all (l := ys1)
    by_cases hj : j = 0
    · subst hj
      have hz1 : (Txt.slice (tx xs1) none none).length = xs1.length := by rw [hla, lx1]
      have hz2 : (Txt.slice (tx ys1) none none).length = ys1.length := by rw [hlb, ly1]
      k_steps
      · exact WPost.next (0 - 1, _) (by assumption) (by assumption) (fun p hp => hp) (has_cons rfl (has_cons rfl (has_cons rfl (has_cons rfl has_nil)))) ⟨by dsimp only; omega, by dsimp only; omega, like_down hxy (by omega) (by omega) (by assumption) hj2⟩ (by dsimp only; omega)
      all_goals exact WExit.out (0, _) (by assumption) (by assumption) (fun p hp => hp) (has_cons rfl (has_cons rfl (has_cons rfl (has_cons rfl has_nil)))) ⟨hj0, hj1, hj2⟩
    · have hz1 : (Txt.slice (tx xs1) none (some j)).length = (j + xs1.length).toNat := by rw [tx_to_neg (by omega) hj0, tx_len, List.length_take]; omega
      have hz2 : (Txt.slice (tx ys1) none (some j)).length = (j + xs1.length).toNat := by rw [tx_to_neg (by omega) (by omega), tx_len, List.length_take]; omega
      k_steps
      all_goals try (exfalso; omega)
      · exact WPost.next (j - 1, _) (by assumption) (by assumption) (fun p hp => hp) (has_cons rfl (has_cons rfl (has_cons rfl (has_cons rfl has_nil)))) ⟨by dsimp only; omega, by dsimp only; omega, like_down hxy (by omega) (by omega) (by assumption) hj2⟩ (by dsimp only; omega)
      all_goals exact WExit.out (j, _) (by assumption) (by assumption) (fun p hp => hp) (has_cons rfl (has_cons rfl (has_cons rfl (has_cons rfl has_nil)))) ⟨hj0, hj1, hj2⟩
  · clear F2 N2
    rintro ⟨j, tj⟩ u h tk₁ ⟨hj0, hj1, hj2⟩ F2 N2
    dsimp only at hj0 hj1 hj2 F2
    dsimp only
    have hkeep := ham_keep (by omega) hj2
    have htk := ham_take (xs := xs1) (ys := ys1) (k := (j + xs1.length).toNat) _ (Nat.le_refl _)
    have htl : (xs1.take (j + xs1.length).toNat).length = (j + xs1.length).toNat := by rw [List.length_take]; omega
    rw [hkeep, ← htk] at hret
    by_cases hj : j = 0
    · subst hj
      have hla := tx_all (l := xs1)
      have hlb := tx_all (l := ys1)
      k_steps
      rename Fr g1 L1 _ _ => F3
      rename News g1 L1 _ _ => N3
      have e1 : Txt.slice (tx xs1) none none = tx (xs1.take (0 + (xs1.length : Int)).toNat) := by rw [hla, List.take_of_length_le (by omega)]
      have e2 : Txt.slice (tx ys1) none none = tx (ys1.take (0 + (xs1.length : Int)).toNat) := by rw [hlb, List.take_of_length_le (by omega)]
      refine clean [("a", .str (tx (xs1.take (0 + (xs1.length : Int)).toNat)) _), ("b", .str (tx (ys1.take (0 + (xs1.length : Int)).toNat)) _), ("max_cost", .int n tc)] F3 (has_cons (congrArg (fun z => some (Value.str z _)) e1) (has_cons (congrArg (fun z => some (Value.str z _)) e2) (has_cons rfl has_nil))) ?_
      intro u F4
      exact lev_st9 w mean mg mb news _ _ _ _ tc n (by omega) (twin_take hT _) (by omega) dp un gd cn cs L0 a₁ ccd cl outer base g1 L1 u _ Q B1 X1 T1 hk hdp hun F4 N3 (by rw [htl]; exact hret)
    · k_steps
      all_goals try (exfalso; omega)
      rename Fr g1 L1 _ _ => F3
      rename News g1 L1 _ _ => N3
      have e1 := tx_to_neg (l := xs1) (j := j) (by omega) (by omega)
      have e2 := tx_to_neg (l := ys1) (j := j) (by omega) (by omega)
      rw [← hxy] at e2
      refine clean [("a", .str (tx (xs1.take (j + (xs1.length : Int)).toNat)) _), ("b", .str (tx (ys1.take (j + (xs1.length : Int)).toNat)) _), ("max_cost", .int n tc)] F3 (has_cons (congrArg (fun z => some (Value.str z _)) e1) (has_cons (congrArg (fun z => some (Value.str z _)) e2) (has_cons rfl has_nil))) ?_
      intro u F4
      exact lev_st9 w mean mg mb news _ _ _ _ tc n (by omega) (twin_take hT _) (by omega) dp un gd cn cs L0 a₁ ccd cl outer base g1 L1 u _ Q B1 X1 T1 hk hdp hun F4 N3 (by rw [htl]; exact hret)
end Mine

end
section
theorem Mine.freshL5 : True := by
  w_top off
  trivial
open PySem PySem.W PyProof.Rows PySem.Calls
namespace Mine

local macro_rules | `(tactic| k_steps) => `(tactic| repeat' (first
  | ((fail_if_success (with_reducible show wpAny _ _ (exec (Stmt.While _ _ _ _) _) _ _ _)); (fail_if_success (with_reducible show wpAny _ _ (pyIter _) _ _ _)); (fail_if_success (with_reducible show wpAny _ _ (execs (Stmt.While _ _ _ _ :: _) _) _ _ _)); first
    | (k_unfold; (try dsimp only)) | (k_end; wrow_close) | (dsimp only; walk1) | walk1 | (leave1; walk_say "STEP leave1"; try dsimp only)) | fail "no step"))

theorem lev_spec (w : World) (mean) (mg mb) (news) (xs ys : List Nat) (ta tb tc : Tok) (n : Int) (hx : xs.length ≤ 8) (hT : Twin xs ys) (hn : n = xs.length) :
   Spc w mean mg mb 28 news [.str (tx xs) ta, .str (tx ys) tb, .int n tc] 2 20 (fun v news' => news' = news ∧ ∃ t, v = .int (hamTo xs ys xs.length : Nat) t) := by
  unfold Spc
  k_fill
  intro dp un gd cn cs a₁ ccd cl outer A₀ base h₀ L m s Q E B F X N T hk hdp hun hret
  refine wpAny_call ?_
  (k_dflt cell_enter)
  refine wpAny_mono (E := fun _ _ => False) ?_ (fun _ _ x => x) (fun _ _ x => x.elim)
  rename_i g1 L1 h1 FG F1 N1 B1 X1 T1
  have lx := tx_len xs
  have ly := tx_len ys
  have hxy := hT.1
  refine clean [("a", .str (tx xs) ta), ("b", .str (tx ys) tb), ("max_cost", .int n tc)] F1 (has_cons rfl (has_cons rfl (has_cons rfl has_nil))) ?_
  clear F1
  intro u F1
  k_steps
  · refine hret _ _ _ _ ⟨rfl, _, congrArg (fun z => Value.int z _) ?_⟩ (by k_asm) (by k_asm)
    have e : xs = ys := by have := beq_iff_eq.mp ‹(tx xs == tx ys) = true›; simpa [tx] using this
    have h := ham_keep (xs := xs) (ys := ys) (Nat.zero_le xs.length) (fun i _ _ => by rw [e])
    rw [h]; rfl
  walk1
  (first | (with_reducible show wpAny _ _ (exec _ _) _ _ _) | walk1)
  rename (tx xs == tx ys) = false => hne
  clear hne
  rename Fr g1 L1 _ _ => F2
  rename News g1 L1 _ _ => N2
  refine wh (σ := Int × Tok) (fun _ => news) (fun c => [("a", .str (tx xs) ta), ("b", .str (tx ys) tb), ("max_cost", .int n tc), ("pre", .int c.1 c.2)])
    (fun c => 0 ≤ c.1 ∧ c.1 ≤ xs.length ∧ Like xs ys 0 c.1.toNat) (fun c => 0 ≤ c.1 ∧ c.1 ≤ xs.length ∧ Like xs ys 0 c.1.toNat) (fun c => xs.length - c.1.toNat) (0, _) F2 N2
    (has_cons rfl (has_cons rfl (has_cons rfl (has_cons rfl has_nil)))) ⟨by simp, by simp, fun i _ hi => absurd hi (by simp)⟩ ?_ ?_ PassesOwn.never
  · clear F2 N2
    rintro ⟨k, tk⟩ u h tk₁ ⟨hk0, hk1, hk2⟩ F2 N2
    dsimp only at hk0 hk1 hk2
    k_steps
    · have hlt : k < xs.length := by omega
      refine WPost.next (k + 1, _) (by assumption) (by assumption) (fun p hp => hp) (has_cons rfl (has_cons rfl (has_cons rfl (has_cons rfl has_nil)))) ⟨by dsimp only; omega, by dsimp only; omega, ?_⟩ (by dsimp only; omega)
      rename (Txt.item (tx xs) k == Txt.item (tx ys) k) = true => he
      rw [tx_item hk0 hlt, tx_item hk0 (by omega)] at he
      intro i _ hi
      dsimp only at hi
      by_cases e : i = k.toNat
      · subst e; simpa [tx] using he
      · exact hk2 i (Nat.zero_le _) (by omega)
    all_goals exact WExit.out (k, _) (by assumption) (by assumption) (fun p hp => hp) (has_cons rfl (has_cons rfl (has_cons rfl (has_cons rfl has_nil)))) ⟨hk0, hk1, hk2⟩
  · clear F2 N2
    rintro ⟨k, tk⟩ u h tk₁ ⟨hk0, hk1, hk2⟩ F2 N2
    dsimp only at hk0 hk1 hk2
    dsimp only
    have hcut := ham_cut hk2 (xs.length - k.toNat)
    rw [show k.toNat + (xs.length - k.toNat) = xs.length by omega] at hcut
    have hl1 : (xs.drop k.toNat).length = xs.length - k.toNat := by simp
    rw [hcut, ← hl1] at hret
    have e1 := tx_from (l := xs) hk0 hk1
    have e2 := tx_from (l := ys) hk0 (by omega)
    k_steps
    rename Fr g1 L1 _ _ => F3
    rename News g1 L1 _ _ => N3
    refine clean [("a", .str (tx (xs.drop k.toNat)) _), ("b", .str (tx (ys.drop k.toNat)) _), ("max_cost", .int n tc), ("post", .int 0 _)] F3 (has_cons (congrArg (fun z => some (Value.str z _)) e1) (has_cons (congrArg (fun z => some (Value.str z _)) e2) (has_cons rfl (has_cons rfl has_nil)))) ?_
    intro u F4
    refine lev_st w mean mg mb news _ _ _ _ tc _ n (by omega) (twin_drop hT _) (by omega) dp un gd cn cs L a₁ ccd cl outer base g1 L1 u _ _ B1 X1 T1 hk hdp hun F4 N3 ?_
    intro v news' h' tk' m' hR F5 N5
    k_steps
    exact hret _ _ _ _ hR (by k_asm) (by k_asm)
end Mine

end
section
theorem Mine.freshH0 : True := by
  w_top off
  trivial
open PySem PySem.W PyProof.Rows PySem.Calls
namespace Mine

/-- the pair of a text and a place, as a tuple of the heap -/
abbrev tupO (x : Str) (t : Tok) (i : Int) (u : Tok) (n : Nat) : Obj := { cls := .type "tuple", data := .seq #[.str x t, .int i u] n }
/-- (x, i) < (y, j) -/
def ltP (x : Str) (i : Int) (y : Str) (j : Int) : Bool := if x = y then decide (i < j) else decide (x.cps.toList < y.cps.toList)

section
variable {prog : Program} {w : World} {A : Around} {E : Value → Shared → Prop} {s : Shared}
theorem tup_type {a : Addr} {x : Str} {t : Tok} {i : Int} {u : Tok} {n : Nat} (h : s.heap.get? a = some (tupO x t i u n)) : s.TypeIs (.ref a) "tuple" := ⟨_, h, rfl⟩
theorem tup_lt_tree {a b : Addr} {x y : Str} {t1 t2 : Tok} {i j : Int} {u1 u2 : Tok} {n1 n2 : Nat} {P : Fin → Shared → Prop} (ha : s.heap.get? a = some (tupO x t1 i u1 n1)) (hb : s.heap.get? b = some (tupO y t2 j u2 n2))
    (h : P (.done (.ret (.bool (ltP x i y j)))) s) : wpAny (model prog w) A (Builtin.«tuple.__lt__» ⟨[.ref a, .ref b], []⟩) P E s := by
  show wpAny _ _ (isInstance (.ref b) (.type "tuple") >>= _) _ _ s
  refine wpAny_bind (wpAny_isInstance (tup_type hb) isSubtype_tuple_tuple ?_)
  simp only [Bool.not_true, Bool.false_eq_true, if_false]
  refine wpAny_bind (wpAny_tupleItemsOf ha rfl ?_)
  refine wpAny_bind (wpAny_tupleItemsOf hb rfl ?_)
  refine wpAny_bind ?_
  simp only [List.zip_cons_cons, List.zip_nil_left, List.forIn_cons, List.forIn_nil]
  refine wpAny_bind (wpAny_bind (wpAny_eqBool_str ?_))
  unfold ltP at h
  by_cases e : x = y
  · rw [decide_eq_true e]
    rw [if_pos e] at h
    simp only [Bool.not_true, Bool.false_eq_true, if_false]
    refine wpAny_pure ?_
    refine wpAny_bind (wpAny_bind (wpAny_eqBool_int ?_))
    by_cases e2 : i = j
    · rw [show (i == j) = true from by simpa using e2]
      simp only [Bool.not_true, Bool.false_eq_true, if_false]
      refine wpAny_pure (wpAny_pure (wpAny_pure ?_))
      rw [decide_eq_false (by omega)] at h
      exact h
    · rw [show (i == j) = false from by simpa using e2]
      simp only [Bool.not_false, if_true]
      refine wpAny_bind (wpAny_rule (wpAny_bind ?_))
      exact wpAny_lt_int (wpAny_bind (wpAny_pure (wpAny_pure (wpAny_pure (wpAny_pure h)))))
  · rw [decide_eq_false e]
    rw [if_neg e] at h
    simp only [Bool.not_false, if_true]
    refine wpAny_bind (wpAny_rule (wpAny_bind ?_))
    exact PyProof.Rows.lt_str (wpAny_bind (wpAny_pure (wpAny_pure (wpAny_pure (wpAny_pure h)))))
theorem tup_lt {a b : Addr} {x y : Str} {t1 t2 : Tok} {i j : Int} {u1 u2 : Tok} {n1 n2 : Nat} {Q : Value → Shared → Prop} (ha : s.heap.get? a = some (tupO x t1 i u1 n1)) (hb : s.heap.get? b = some (tupO y t2 j u2 n2)) (hu : A.units < cLine)
    (h : Q (.bool (ltP x i y j)) s) : wpAny (model prog w) A (compareOp .Lt (.ref a) (.ref b)) Q E s := by
  show wpAny _ _ (richCompare .Lt (.ref a) (.ref b)) Q E s
  exact wpAny_richCompare_same_room (op := .Lt) (tup_type ha) (tup_type hb) F.slot_tuple_lt
    (wpAny_call_entry F.slot_tuple_lt (tup_type ha) F.entry_tuple_lt (tup_lt_tree ha hb ⟨_, rfl, (fun e => nomatch e), h⟩) (F.args_tuple_lt_2 _ _)) hu
end
end Mine

end
section
theorem Mine.freshH1 : True := by
  w_top off
  trivial
open PySem PySem.W PyProof.Rows PySem.Calls
namespace Mine

/-- vs are the pairs (T p, p) for p of ps -/
def TA (news : List (Addr × Obj)) (T : Int → Str) (vs : List Value) (ps : List Int) : Prop :=
  vs.length = ps.length ∧ ∀ i, i < ps.length → ∃ r t u n, vs[i]? = some (.ref r) ∧ (r, tupO (T (ps.getD i 0)) t (ps.getD i 0) u n) ∈ news

theorem TA.set {news : List (Addr × Obj)} {T : Int → Str} {vs : List Value} {ps : List Int} (h : TA news T vs ps) {r : Addr} {p : Int} {t u : Tok} {n : Nat} (hm : (r, tupO (T p) t p u n) ∈ news) (k : Nat) : TA news T (vs.set k (.ref r)) (ps.set k p) := by
  refine ⟨by simp [h.1], fun i hi => ?_⟩
  rw [List.length_set] at hi
  by_cases e : k = i
  · subst e
    refine ⟨r, t, u, n, by rw [List.getElem?_set_self (by rw [h.1]; exact hi)], ?_⟩
    rw [List.getD_eq_getElem?_getD, List.getElem?_set_self hi]
    exact hm
  · obtain ⟨r', t', u', n', h1, h2⟩ := h.2 i hi
    refine ⟨r', t', u', n', by rw [List.getElem?_set_ne e]; exact h1, ?_⟩
    rw [List.getD_eq_getElem?_getD, List.getElem?_set_ne e, ← List.getD_eq_getElem?_getD]
    exact h2

section
variable {prog : Program} {w : World} {A : Around} {E : Value → Shared → Prop} {s : Shared} {h₀ : Heap} {L ha : Addr} {m : Str → Option Value} {news tl : List (Addr × Obj)} {T : Int → Str} {vs : List Value} {ps : List Int} {n : Nat} {k : Int} {t u : Tok}
theorem get_tup {value slice : PySem.Expr} {Q : Value → Shared → Prop} (N : News h₀ L s.heap ((ha, listOf vs.toArray n) :: news)) (hA : TA tl T vs ps) (h0 : 0 ≤ k) (h1 : k < ps.length) (hfit : ps.length ≤ 8)
    (h : ∀ r t u n', (r, tupO (T (ps.getD k.toNat 0)) t (ps.getD k.toNat 0) u n') ∈ tl → vs[k.toNat]? = some (.ref r) → Q (.ref r) s)
    (hs : subscripted slice false (.ref ha) (.int k u) = operate [.ref ha, .int k u] (getItem (.ref ha) (.int k u)) := by with_unfolding_all rfl) :
    wpAny (model prog w) A (subscriptTail value slice (.ref ha) (.int k u)) Q E s := by
  obtain ⟨r, t, u', n', h2, h3⟩ := hA.2 k.toNat (by omega)
  exact item_litK (PySem.IsL.isList (n := n) (N _ (.head _)).1) h0 (by omega) h2 (h r t u' n' h3 h2) hs
theorem set_tup {r : Addr} {p : Int} {t' u' : Tok} {n' : Nat} {Q : Unit → Shared → Prop} (F : Fr h₀ L s.heap m) (N : News h₀ L s.heap ((ha, listOf vs.toArray n) :: news)) (hne : ∀ p ∈ news, p.1 ≠ ha) (hA : TA tl T vs ps) (hm : (r, tupO (T p) t' p u' n') ∈ tl) (h0 : 0 ≤ k) (h1 : k < ps.length) (hfit : ps.length ≤ 8)
    (h : ∀ h', Fr h₀ L h' m → News h₀ L h' ((ha, listOf (vs.set k.toNat (.ref r)).toArray n) :: news) → TA tl T (vs.set k.toNat (.ref r)) (ps.set k.toNat p) → Q () { s with heap := h' }) :
    wpAny (model prog w) A (setItem (.ref ha) (.int k t) (.ref r)) Q E s := by
  have z := N (ha, listOf vs.toArray n) (.head _)
  have hl := hA.1
  refine ki_setAt z.1 h0 (by omega) (by rw [List.size_toArray]; omega) (h _ (F.change (Heap.SameBut.update ..) z.2.1 z.2.2) (ki_turn (pre := []) _ N (fun _ h => nomatch h) hne ?_ ?_) (hA.set hm _))
  · show vs.toArray.setIfInBounds k.toNat (.ref r) = (vs.set k.toNat (.ref r)).toArray
    apply Array.toList_inj.mp
    simp
  · simp
theorem lt_tup {o : Obj} {r1 r2 : Addr} {x y : Str} {t1 t2 : Tok} {i j : Int} {u1 u2 : Tok} {n1 n2 : Nat} {Q : Value → Shared → Prop} (N : News h₀ L s.heap ((ha, o) :: news)) (hsub : ∀ p ∈ tl, p ∈ news) (h1 : (r1, tupO x t1 i u1 n1) ∈ tl) (h2 : (r2, tupO y t2 j u2 n2) ∈ tl) (hu : A.units < cLine)
    (h : Q (.bool (ltP x i y j)) s) : wpAny (model prog w) A (compareOp .Lt (.ref r1) (.ref r2)) Q E s :=
  tup_lt (N _ (.tail _ (hsub _ h1))).1 (N _ (.tail _ (hsub _ h2))).1 hu h
end

/-- _siftdown's loop on places -/
def sdF (lt : Int → Int → Bool) : Nat → List Int → Int → Nat → List Int
  | 0, xs, new, pos => xs.set pos new
  | f + 1, xs, new, pos => if pos = 0 then xs.set pos new else
    if lt new (xs.getD ((pos - 1) / 2) 0) = true then sdF lt f (xs.set pos (xs.getD ((pos - 1) / 2) 0)) new ((pos - 1) / 2) else xs.set pos new

local macro_rules | `(tactic| k_steps) => `(tactic| repeat' (first
  | ((fail_if_success (with_reducible show wpAny _ _ (exec (Stmt.While _ _ _ _) _) _ _ _)); (fail_if_success (with_reducible show wpAny _ _ (pyIter _) _ _ _)); first
    | (k_unfold; (try dsimp only)) | (k_end; wrow_close) | (dsimp only; walk1) | walk1 | (leave1; walk_say "STEP leave1"; try dsimp only)) | fail "no step"))
local macro_rules | `(tactic| walk_at "subscriptTail") => `(tactic| (k_here; (with_reducible show wpAny _ _ (subscriptTail _ _ (Value.ref _) (Value.int _ _)) _ _ _); (rename News _ _ _ _ => N'); (with_unfolding_all refine' get_tup N' ?k1 ?k2 ?k3 ?k4 ?_ ?k5; (case k1 => assumption); (case k2 => omega); (case k3 => omega); (case k4 => omega); (case k5 => with_unfolding_all rfl)); intro r' t' u' n' hm' hr'))
local macro_rules | `(tactic| walk_at "setItem ref int") => `(tactic| (k_here; (with_reducible show wpAny _ _ (setItem (Value.ref _) (Value.int _ _) (Value.ref _)) _ _ _); (rename News _ _ _ _ => N'); (rename Fr _ _ _ _ => F'); (with_unfolding_all refine' set_tup F' N' ?k1 ?k2 ?k3 ?k4 ?k5 ?k6 ?_; (case k1 => assumption); (case k2 => assumption); (case k3 => assumption); (case k4 => omega); (case k5 => omega); (case k6 => omega)); clear F' N'; intro h' F' N' hA'))
local macro_rules | `(tactic| walk_at "compareOp Lt ref") => `(tactic| (k_here; (with_reducible show wpAny _ _ (compareOp CmpOp.Lt (Value.ref _) (Value.ref _)) _ _ _); (rename News _ _ _ _ => N'); (with_unfolding_all refine' lt_tup N' ?k0 ?k1 ?k2 ?k3 ?_; (case k0 => assumption); (case k1 => assumption); (case k2 => assumption); (case k3 => (simp only [units_deeper] at *; omega)))))

theorem sd_spec (w : World) (mean) (mg mb) (news tl) (hsub : ∀ p ∈ tl, p ∈ news) (T : Int → Str) (ha : Addr) (hne : ∀ p ∈ news, p.1 ≠ ha) (vs : List Value) (n : Nat) (ps : List Int) (pos : Int) (ts tp : Tok) (hA : TA tl T vs ps) (h8 : ps.length ≤ 8) (h0 : 0 ≤ pos) (h1 : pos < ps.length) :
   Spc w mean mg mb 49 ((ha, listOf vs.toArray n) :: news) [.ref ha, .int 0 ts, .int pos tp] 1 12 (fun v news' => v = .none ∧ ∃ vs', news' = (ha, listOf vs'.toArray n) :: news ∧ TA tl T vs' (sdF (fun p q => ltP (T p) p (T q) q) pos.toNat ps (ps.getD pos.toNat 0) pos.toNat)) := by
  unfold Spc
  k_fill
  intro dp un gd cn cs a₁ ccd cl outer A₀ base h₀ L m s Q E B F X N T1 hk hdp hun hret
  refine wpAny_call ?_
  (k_dflt cell_enter)
  refine wpAny_mono (E := fun _ _ => False) ?_ (fun _ _ x => x) (fun _ _ x => x.elim)
  rename_i g1 L1 h1 FG F1 N1 B1 X1 T1
  refine clean [("heap", .ref ha), ("startpos", .int 0 ts), ("pos", .int pos tp)] F1 (has_cons rfl (has_cons rfl (has_cons rfl has_nil))) ?_
  clear F1
  intro u F1
  k_steps
  rename_i r0 t0 u0 n0 hm0 hr0 _ _ _
  rename Fr g1 L1 _ _ => F2
  rename News g1 L1 _ _ => N2
  refine wh (σ := List Value × List Int × Int × Tok) (fun c => (ha, listOf c.1.toArray n) :: news) (fun c => [("heap", .ref ha), ("startpos", .int 0 ts), ("pos", .int c.2.2.1 c.2.2.2), ("newitem", .ref r0)])
    (fun c => TA tl T c.1 c.2.1 ∧ c.2.1.length ≤ 8 ∧ 0 ≤ c.2.2.1 ∧ c.2.2.1 < c.2.1.length ∧ ∃ f, c.2.2.1.toNat ≤ f ∧ sdF (fun p q => ltP (T p) p (T q) q) f c.2.1 (ps.getD pos.toNat 0) c.2.2.1.toNat = sdF (fun p q => ltP (T p) p (T q) q) pos.toNat ps (ps.getD pos.toNat 0) pos.toNat)
    (fun c => TA tl T c.1 c.2.1 ∧ c.2.1.length ≤ 8 ∧ 0 ≤ c.2.2.1 ∧ c.2.2.1 < c.2.1.length ∧ c.2.1.set c.2.2.1.toNat (ps.getD pos.toNat 0) = sdF (fun p q => ltP (T p) p (T q) q) pos.toNat ps (ps.getD pos.toNat 0) pos.toNat)
    (fun c => c.2.2.1.toNat) (vs, ps, pos, tp) F2 N2 (has_cons rfl (has_cons rfl (has_cons rfl (has_cons rfl has_nil)))) ⟨hA, h8, h0, by assumption, pos.toNat, Nat.le_refl _, rfl⟩ ?_ ?_ PassesOwn.never
  · clear F2 N2
    rintro ⟨vs1, ps1, pos1, tp1⟩ u h tk₁ ⟨hA1, h81, hp0, hp1, f, hf, hres⟩ F2 N2
    dsimp only at hA1 h81 hp0 hp1 hf hres F2 N2
    have hpar : (pos1 - 1).fdiv (2 ^ Int.toNat 1) = (pos1 - 1) / 2 := Int.fdiv_eq_ediv_of_nonneg _ (by decide)
    k_steps
    · dsimp only
      rename TA tl T (vs1.set _ _) _ => hA2
      rename ltP _ _ _ _ = true => hlt
      refine WPost.cont (_, _, (pos1 - 1).fdiv (2 ^ Int.toNat 1), _) (by assumption) (by assumption) (fun p hp => hp) (has_cons rfl (has_cons rfl (has_cons rfl (has_cons rfl has_nil)))) ⟨hA2, ?_, ?_, ?_, f - 1, ?_, ?_⟩ ?_
      · rw [List.length_set]; exact h81
      · dsimp only; omega
      · dsimp only; rw [List.length_set]; omega
      · dsimp only; omega
      · dsimp only
        rw [← hres]
        obtain ⟨f', rfl⟩ : ∃ f', f = f' + 1 := ⟨f - 1, by omega⟩
        have e : ((pos1 - 1).fdiv (2 ^ Int.toNat 1)).toNat = (pos1.toNat - 1) / 2 := by omega
        rw [e] at hlt ⊢
        conv => rhs; unfold sdF
        rw [if_neg (by omega), if_pos hlt]
        rfl
      · dsimp only; omega
    · dsimp only
      rename ltP _ _ _ _ = false => hlt
      refine WPost.brk (vs1, ps1, pos1, tp1) (by assumption) (by assumption) (fun p hp => hp) (has_cons rfl (has_cons rfl (has_cons rfl (has_cons rfl has_nil)))) ⟨hA1, h81, hp0, hp1, ?_⟩
      dsimp only
      rw [← hres]
      obtain ⟨f', rfl⟩ : ∃ f', f = f' + 1 := ⟨f - 1, by omega⟩
      have e : ((pos1 - 1).fdiv (2 ^ Int.toNat 1)).toNat = (pos1.toNat - 1) / 2 := by omega
      rw [e] at hlt
      conv => rhs; unfold sdF
      rw [if_neg (by omega), if_neg (by rw [hlt]; decide)]
    · refine WExit.out (vs1, ps1, pos1, tp1) (by assumption) (by assumption) (fun p hp => hp) (has_cons rfl (has_cons rfl (has_cons rfl (has_cons rfl has_nil)))) ⟨hA1, h81, hp0, hp1, ?_⟩
      dsimp only
      rw [← hres]
      have e : pos1.toNat = 0 := by omega
      rw [e]
      cases f with
      | zero => rfl
      | succ f => unfold sdF; rw [if_pos rfl]
  · clear F2 N2
    rintro ⟨vs1, ps1, pos1, tp1⟩ u h tk₁ ⟨hA1, h81, hp0, hp1, hres⟩ F2 N2
    dsimp only at hA1 h81 hp0 hp1 hres F2 N2
    dsimp only
    k_steps
    refine hret _ _ _ _ ⟨rfl, _, rfl, ?_⟩ (by k_asm) (by k_asm)
    rw [← hres]
    assumption
end Mine

end
section
theorem Mine.freshH2 : True := by
  w_top off
  trivial
open PySem PySem.W PyProof.Rows PySem.Calls
namespace Mine

/-- _siftup's loop on places -/
def suF (lt : Int → Int → Bool) : Nat → List Int → Nat → List Int × Nat
  | 0, xs, pos => (xs, pos)
  | f + 1, xs, pos => if 2 * pos + 1 < xs.length then
      if 2 * pos + 2 < xs.length ∧ lt (xs.getD (2 * pos + 1) 0) (xs.getD (2 * pos + 2) 0) = false then suF lt f (xs.set pos (xs.getD (2 * pos + 2) 0)) (2 * pos + 2)
      else suF lt f (xs.set pos (xs.getD (2 * pos + 1) 0)) (2 * pos + 1)
    else (xs, pos)
def upF (lt : Int → Int → Bool) (ps : List Int) : List Int :=
  sdF lt (suF lt ps.length ps 0).2 ((suF lt ps.length ps 0).1.set (suF lt ps.length ps 0).2 (ps.getD 0 0)) (ps.getD 0 0) (suF lt ps.length ps 0).2

theorem suF_left {lt : Int → Int → Bool} {f : Nat} {xs : List Int} {pos : Nat} (h1 : 2 * pos + 1 < xs.length) (h2 : ¬ (2 * pos + 2 < xs.length ∧ lt (xs.getD (2 * pos + 1) 0) (xs.getD (2 * pos + 2) 0) = false)) :
    suF lt (f + 1) xs pos = suF lt f (xs.set pos (xs.getD (2 * pos + 1) 0)) (2 * pos + 1) := by
  conv => lhs; unfold suF
  rw [if_pos h1, if_neg h2]
theorem suF_right {lt : Int → Int → Bool} {f : Nat} {xs : List Int} {pos : Nat} (h1 : 2 * pos + 1 < xs.length) (h2 : 2 * pos + 2 < xs.length) (h3 : lt (xs.getD (2 * pos + 1) 0) (xs.getD (2 * pos + 2) 0) = false) :
    suF lt (f + 1) xs pos = suF lt f (xs.set pos (xs.getD (2 * pos + 2) 0)) (2 * pos + 2) := by
  conv => lhs; unfold suF
  rw [if_pos h1, if_pos ⟨h2, h3⟩]
theorem suF_stop {lt : Int → Int → Bool} {f : Nat} {xs : List Int} {pos : Nat} (h1 : ¬ 2 * pos + 1 < xs.length) : suF lt f xs pos = (xs, pos) := by
  cases f with
  | zero => rfl
  | succ f => unfold suF; rw [if_neg h1]

theorem len_tup {prog : Program} {w : World} {A : Around} {E : Value → Shared → Prop} {s : Shared} {h₀ : Heap} {L ha : Addr} {news tl : List (Addr × Obj)} {T : Int → Str} {vs : List Value} {ps : List Int} {n : Nat} {Q : Value → Shared → Prop}
    (N : News h₀ L s.heap ((ha, listOf vs.toArray n) :: news)) (hA : TA tl T vs ps) (h8 : ps.length ≤ 8) (h : Q (.int (ps.length : Int) (s.toks + 1)) { s with toks := s.toks + 1 + 1 }) : wpAny (model prog w) A (call (.builtin "len") [.ref ha]) Q E s :=
  kst_len N (.head _) hA.1 (by omega) h

local macro_rules | `(tactic| k_steps) => `(tactic| repeat' (first
  | ((fail_if_success (with_reducible show wpAny _ _ (exec (Stmt.While _ _ _ _) _) _ _ _)); (fail_if_success (with_reducible show wpAny _ _ (pyIter _) _ _ _)); first
    | (k_unfold; (try dsimp only)) | (k_end; wrow_close) | (dsimp only; walk1) | walk1 | (leave1; walk_say "STEP leave1"; try dsimp only)) | fail "no step"))
local macro_rules | `(tactic| walk_at "subscriptTail") => `(tactic| (k_here; (with_reducible show wpAny _ _ (subscriptTail _ _ (Value.ref _) (Value.int _ _)) _ _ _); (rename News _ _ _ _ => N'); (with_unfolding_all refine' get_tup N' ?k1 ?k2 ?k3 ?k4 ?_ ?k5; (case k1 => assumption); (case k2 => omega); (case k3 => omega); (case k4 => omega); (case k5 => with_unfolding_all rfl)); intro r' t' u' n' hm' hr'))
local macro_rules | `(tactic| walk_at "setItem ref int") => `(tactic| (k_here; (with_reducible show wpAny _ _ (setItem (Value.ref _) (Value.int _ _) (Value.ref _)) _ _ _); (rename News _ _ _ _ => N'); (rename Fr _ _ _ _ => F'); (with_unfolding_all refine' set_tup F' N' ?k1 ?k2 ?k3 ?k4 ?k5 ?k6 ?_; (case k1 => assumption); (case k2 => assumption); (case k3 => assumption); (case k4 => omega); (case k5 => omega); (case k6 => omega)); clear F' N'; intro h' F' N' hA'))
local macro_rules | `(tactic| walk_at "compareOp Lt ref") => `(tactic| (k_here; (with_reducible show wpAny _ _ (compareOp CmpOp.Lt (Value.ref _) (Value.ref _)) _ _ _); (rename News _ _ _ _ => N'); (with_unfolding_all refine' lt_tup N' ?k0 ?k1 ?k2 ?k3 ?_; (case k0 => assumption); (case k1 => assumption); (case k2 => assumption); (case k3 => (simp only [units_deeper] at *; omega)))))
local macro_rules | `(tactic| walk_at "call ref") => `(tactic| (k_here; (with_reducible show wpAny _ _ (call (Value.ref 49) [Value.ref _, Value.int _ _, Value.int _ _]) _ _ _); (rename News _ _ _ _ => N'); (with_unfolding_all refine' spc_use (sd_spec _ _ _ _ _ _ ?hsub _ _ ?hne _ _ _ _ _ _ ?hA ?h8 ?h0 ?h1) ?B ?F ?X N' ?T ?hk ?hd ?hu ?_); (case hsub => assumption); (case hne => assumption); (case hA => assumption); (case h8 => (simp only [List.length_set]; omega)); (case h0 => omega); (case h1 => (simp only [List.length_set]; omega)); (case B => k_asm); (case F => k_asm); (case X => k_asm); (case T => k_asm); (case hk => first | exact rfl | assumption); (case hd => (simp only [depth_deeper] at *; omega)); (case hu => (simp only [units_deeper] at *; omega)); clear N'; rintro _ _ _ _ ⟨h1', vs', h2', hA'⟩ F' N'; subst h1'; subst h2'))

local macro_rules | `(tactic| walk_at "call builtin:len") => `(tactic| (k_here; (with_reducible show wpAny _ _ (call (Value.builtin "len") [Value.ref _]) _ _ _); (rename News _ _ _ _ => N'); (with_unfolding_all refine' len_tup N' ?k1 ?k2 ?_; (case k1 => assumption); (case k2 => omega))))

theorem su_spec (w : World) (mean) (mg mb) (news tl) (hsub : ∀ p ∈ tl, p ∈ news) (T : Int → Str) (ha : Addr) (hne : ∀ p ∈ news, p.1 ≠ ha) (vs : List Value) (n : Nat) (ps : List Int) (tp : Tok) (hA : TA tl T vs ps) (h8 : ps.length ≤ 8) (h1 : 0 < ps.length) :
   Spc w mean mg mb 56 ((ha, listOf vs.toArray n) :: news) [.ref ha, .int 0 tp] 2 24 (fun v news' => v = .none ∧ ∃ vs', news' = (ha, listOf vs'.toArray n) :: news ∧ TA tl T vs' (upF (fun p q => ltP (T p) p (T q) q) ps)) := by
  unfold Spc
  k_fill
  intro dp un gd cn cs a₁ ccd cl outer A₀ base h₀ L m s Q E B F X N T1 hk hdp hun hret
  refine wpAny_call ?_
  (k_dflt cell_enter)
  refine wpAny_mono (E := fun _ _ => False) ?_ (fun _ _ x => x) (fun _ _ x => x.elim)
  rename_i g1 L1 h1 FG F1 N1 B1 X1 T1
  refine clean [("heap", .ref ha), ("pos", .int 0 tp)] F1 (has_cons rfl (has_cons rfl has_nil)) ?_
  clear F1
  intro u F1
  k_steps
  rename_i r0 t0 u0 n0 hm0 hr0 _ _ _ _ _
  rename Fr g1 L1 _ _ => F2
  rename News g1 L1 _ _ => N2
  refine wh (σ := List Value × List Int × Int × Tok × Tok × Tok) (fun c => (ha, listOf c.1.toArray n) :: news) (fun c => [("heap", .ref ha), ("endpos", .int ps.length c.2.2.2.2.2), ("startpos", .int 0 tp), ("newitem", .ref r0), ("pos", .int c.2.2.1 c.2.2.2.1), ("childpos", .int (2 * c.2.2.1 + 1) c.2.2.2.2.1)])
    (fun c => TA tl T c.1 c.2.1 ∧ c.2.1.length = ps.length ∧ 0 ≤ c.2.2.1 ∧ c.2.2.1 < ps.length ∧ ∃ f, ps.length - c.2.2.1.toNat ≤ f ∧ suF (fun p q => ltP (T p) p (T q) q) f c.2.1 c.2.2.1.toNat = suF (fun p q => ltP (T p) p (T q) q) ps.length ps 0)
    (fun c => TA tl T c.1 c.2.1 ∧ c.2.1.length = ps.length ∧ 0 ≤ c.2.2.1 ∧ c.2.2.1 < ps.length ∧ (c.2.1, c.2.2.1.toNat) = suF (fun p q => ltP (T p) p (T q) q) ps.length ps 0)
    (fun c => ps.length - c.2.2.1.toNat) (vs, ps, 0, _, _, _) F2 N2 (has_cons rfl (has_cons rfl (has_cons rfl (has_cons rfl (has_cons rfl (has_cons rfl has_nil)))))) ⟨hA, rfl, Int.le_refl _, by dsimp only; omega, ps.length, Nat.sub_le _ _, rfl⟩ ?_ ?_ PassesOwn.never
  · clear F2 N2
    rintro ⟨vs1, ps1, pos1, t1, t2, te⟩ u h tk₁ ⟨hA1, hl1, hp0, hp1, f, hf, hres⟩ F2 N2
    dsimp only at hA1 hl1 hp0 hp1 hf hres F2 N2
    k_steps
    · rename TA tl T (vs1.set _ _) _ => hA2
      rename ltP _ _ _ _ = true => hlt
      rw [show (2 * pos1 + 1).toNat = 2 * pos1.toNat + 1 by omega, show (2 * pos1 + 1 + 1).toNat = 2 * pos1.toNat + 2 by omega] at hlt
      refine WPost.next (_, _, 2 * pos1 + 1, _, _, _) (by assumption) (by assumption) (fun p hp => hp) (has_cons rfl (has_cons rfl (has_cons rfl (has_cons rfl (has_cons rfl (has_cons rfl has_nil)))))) ⟨hA2, by rw [List.length_set]; exact hl1, by dsimp only; omega, by dsimp only; omega, f - 1, by dsimp only; omega, ?_⟩ (by dsimp only; omega)
      dsimp only
      rw [← hres]
      obtain ⟨f', rfl⟩ : ∃ f', f = f' + 1 := ⟨f - 1, by omega⟩
      rw [suF_left (by omega) ?_, show (2 * pos1 + 1).toNat = 2 * pos1.toNat + 1 by omega]
      · rfl
      · rintro ⟨_, hq⟩; rw [hlt] at hq; cases hq
    · rename TA tl T (vs1.set _ _) _ => hA2
      rename ltP _ _ _ _ = false => hlt
      rw [show (2 * pos1 + 1).toNat = 2 * pos1.toNat + 1 by omega, show (2 * pos1 + 1 + 1).toNat = 2 * pos1.toNat + 2 by omega] at hlt
      refine WPost.next (_, _, 2 * pos1 + 1 + 1, _, _, _) (by assumption) (by assumption) (fun p hp => hp) (has_cons rfl (has_cons rfl (has_cons rfl (has_cons rfl (has_cons rfl (has_cons rfl has_nil)))))) ⟨hA2, by rw [List.length_set]; exact hl1, by dsimp only; omega, by dsimp only; omega, f - 1, by dsimp only; omega, ?_⟩ (by dsimp only; omega)
      dsimp only
      rw [← hres]
      obtain ⟨f', rfl⟩ : ∃ f', f = f' + 1 := ⟨f - 1, by omega⟩
      rw [suF_right (by omega) (by omega) hlt, show (2 * pos1 + 1 + 1).toNat = 2 * pos1.toNat + 2 by omega]
      rfl
    · rename TA tl T (vs1.set _ _) _ => hA2
      refine WPost.next (_, _, 2 * pos1 + 1, _, _, _) (by assumption) (by assumption) (fun p hp => hp) (has_cons rfl (has_cons rfl (has_cons rfl (has_cons rfl (has_cons rfl (has_cons rfl has_nil)))))) ⟨hA2, by rw [List.length_set]; exact hl1, by dsimp only; omega, by dsimp only; omega, f - 1, by dsimp only; omega, ?_⟩ (by dsimp only; omega)
      dsimp only
      rw [← hres]
      obtain ⟨f', rfl⟩ : ∃ f', f = f' + 1 := ⟨f - 1, by omega⟩
      rw [suF_left (by omega) ?_, show (2 * pos1 + 1).toNat = 2 * pos1.toNat + 1 by omega]
      · rfl
      · rintro ⟨hq, _⟩; omega
    · refine WExit.out (vs1, ps1, pos1, t1, t2, te) (by assumption) (by assumption) (fun p hp => hp) (has_cons rfl (has_cons rfl (has_cons rfl (has_cons rfl (has_cons rfl (has_cons rfl has_nil)))))) ⟨hA1, hl1, hp0, hp1, ?_⟩
      dsimp only
      rw [← hres, suF_stop (by omega)]
  · clear F2 N2
    rintro ⟨vs1, ps1, pos1, t1, t2, te⟩ u h tk₁ ⟨hA1, hl1, hp0, hp1, hres⟩ F2 N2
    dsimp only at hA1 hl1 hp0 hp1 hres F2 N2
    dsimp only
    k_steps
    refine hret _ _ _ _ ⟨rfl, _, rfl, ?_⟩ (by k_asm) (by k_asm)
    rename TA tl T _ (sdF _ _ _ _ _) => hA3
    unfold upF
    rw [← hres]
    dsimp only
    have e : (ps1.set pos1.toNat (ps.getD (Int.toNat 0) 0)).getD pos1.toNat 0 = ps.getD 0 0 := by
      rw [List.getD_eq_getElem?_getD, List.getElem?_set_self (by omega)]
      rfl
    rw [e] at hA3
    exact hA3
end Mine

end
section
theorem Mine.freshH3 : True := by
  w_top off
  trivial
open PySem PySem.W PyProof.Rows PySem.Calls
namespace Mine

/-- heappush, heappop on places -/
def pushF (lt : Int → Int → Bool) (ps : List Int) (p : Int) : List Int := sdF lt ps.length (ps ++ [p]) p ps.length
def popF (lt : Int → Int → Bool) (ps : List Int) : Int × List Int :=
  if ps.length = 1 then (ps.getD 0 0, []) else (ps.getD 0 0, upF lt (ps.dropLast.set 0 (ps.getD (ps.length - 1) 0)))

theorem TA.push {news : List (Addr × Obj)} {T : Int → Str} {vs : List Value} {ps : List Int} (h : TA news T vs ps) {r : Addr} {p : Int} {t u : Tok} {n : Nat} (hm : (r, tupO (T p) t p u n) ∈ news) : TA news T (vs ++ [.ref r]) (ps ++ [p]) := by
  refine ⟨by simp [h.1], fun i hi => ?_⟩
  rw [List.length_append, List.length_singleton] at hi
  by_cases e : i < ps.length
  · obtain ⟨r', t', u', n', h1, h2⟩ := h.2 i e
    refine ⟨r', t', u', n', by rw [List.getElem?_append_left (by rw [h.1]; exact e)]; exact h1, ?_⟩
    rw [List.getD_eq_getElem?_getD, List.getElem?_append_left e, ← List.getD_eq_getElem?_getD]
    exact h2
  · have e' : i = ps.length := by omega
    subst e'
    refine ⟨r, t, u, n, by rw [← h.1]; simp, ?_⟩
    have e2 : (ps ++ [p]).getD ps.length 0 = p := by simp
    rw [e2]; exact hm
theorem TA.drop {news : List (Addr × Obj)} {T : Int → Str} {vs : List Value} {ps : List Int} (h : TA news T vs ps) : TA news T vs.dropLast ps.dropLast := by
  refine ⟨by simp [h.1], fun i hi => ?_⟩
  rw [List.length_dropLast] at hi
  obtain ⟨r', t', u', n', h1, h2⟩ := h.2 i (by omega)
  refine ⟨r', t', u', n', ?_, ?_⟩
  · rw [List.getElem?_dropLast, if_pos (by rw [h.1]; exact hi)]; exact h1
  · rw [List.getD_eq_getElem?_getD, List.getElem?_dropLast, if_pos hi, ← List.getD_eq_getElem?_getD]; exact h2

section
variable {prog : Program} {w : World} {A : Around} {E : Value → Shared → Prop} {s : Shared} {h₀ : Heap} {L ha : Addr} {m : Str → Option Value} {news tl : List (Addr × Obj)} {T : Int → Str} {vs : List Value} {ps : List Int} {n : Nat} {t u : Tok}
theorem app_tup {r : Addr} {p : Int} {t' u' : Tok} {n' : Nat} {Q : Value → Shared → Prop} (F : Fr h₀ L s.heap m) (N : News h₀ L s.heap ((ha, listOf vs.toArray n) :: news)) (hne : ∀ p ∈ news, p.1 ≠ ha) (hA : TA tl T vs ps) (hm : (r, tupO (T p) t' p u' n') ∈ tl) (h8 : ps.length ≤ 8)
    (h : ∀ h', Fr h₀ L h' m → News h₀ L h' ((ha, listOf (vs ++ [Value.ref r]).toArray (n + 1)) :: news) → TA tl T (vs ++ [Value.ref r]) (ps ++ [p]) → Q .none { s with heap := h' }) :
    wpAny (model prog w) A (call (.builtin "list.append") [.ref ha, .ref r]) Q E s := by
  exact append_K (its := vs.toArray) (x := .ref r) F N (Upd.head hne) (fun h' F' N' => h h' F' (by rw [List.push_toArray] at N'; exact N') (hA.push hm)) (by rw [List.size_toArray, hA.1, sizeLine_eq]; omega)
theorem pop_tup {Q : Value → Shared → Prop} (F : Fr h₀ L s.heap m) (N : News h₀ L s.heap ((ha, listOf vs.toArray n) :: news)) (hne : ∀ p ∈ news, p.1 ≠ ha) (hA : TA tl T vs ps) (h8 : ps.length ≤ 8) (h0 : 0 < ps.length)
    (h : ∀ h' r t u n', (r, tupO (T (ps.getD (ps.length - 1) 0)) t (ps.getD (ps.length - 1) 0) u n') ∈ tl → Fr h₀ L h' m → News h₀ L h' ((ha, listOf vs.dropLast.toArray (n + 1)) :: news) → TA tl T vs.dropLast ps.dropLast → Q (.ref r) { s with heap := h' }) :
    wpAny (model prog w) A (call (.builtin "list.pop") [.ref ha]) Q E s := by
  obtain ⟨r, t, u, n', h1, h2⟩ := hA.2 (ps.length - 1) (by omega)
  have hl := hA.1
  have e : vs = vs.dropLast ++ [.ref r] := by
    have hne' : vs ≠ [] := by intro e; rw [e] at hl; simp at hl; omega
    have := List.dropLast_concat_getLast hne'
    rw [List.getLast_eq_getElem hne'] at this
    rw [← hl] at h1
    rw [List.getElem?_eq_getElem (by omega)] at h1
    rw [Option.some.inj h1] at this
    exact this.symm
  refine kl_pop F N (p := vs.dropLast) (y := .ref r) ?_ (Upd.head hne) (by simp only; rw [hl, sizeLine_eq]; omega) fun h' F' N' => h h' r t u n' h2 F' N' hA.drop
  have := kpa_last (.ref r) vs.dropLast
  rw [← e] at this
  simpa using this
theorem truthy_tup {Q : Bool → Shared → Prop} (N : News h₀ L s.heap ((ha, listOf vs.toArray n) :: news)) (hA : TA tl T vs ps) (h8 : ps.length ≤ 8) (h : Q (decide (0 < ps.length)) { s with toks := s.toks + 1 + 1 }) : wpAny (model prog w) A (truthy (.ref ha)) Q E s := by
  have hl := hA.1
  refine wpAny_truthy_list (PySem.IsL.isList (n := n) (N _ (.head _)).1) (by rw [List.size_toArray]; omega) ?_
  have e : (!vs.toArray.isEmpty) = decide (0 < ps.length) := by
    rw [List.isEmpty_toArray]
    cases vs with
    | nil => simp at hl; simp [← hl]
    | cons a b => simp at hl; simp; omega
  rw [e]; exact h
end

local macro_rules | `(tactic| k_steps) => `(tactic| repeat' (first
  | ((fail_if_success (with_reducible show wpAny _ _ (exec (Stmt.While _ _ _ _) _) _ _ _)); (fail_if_success (with_reducible show wpAny _ _ (pyIter _) _ _ _)); first
    | (k_unfold; (try dsimp only)) | (k_end; wrow_close) | (dsimp only; walk1) | walk1 | (leave1; walk_say "STEP leave1"; try dsimp only)) | fail "no step"))
local macro_rules | `(tactic| walk_at "subscriptTail") => `(tactic| (k_here; (with_reducible show wpAny _ _ (subscriptTail _ _ (Value.ref _) (Value.int _ _)) _ _ _); (rename News _ _ _ _ => N'); (with_unfolding_all refine' get_tup N' ?k1 ?k2 ?k3 ?k4 ?_ ?k5; (case k1 => assumption); (case k2 => omega); (case k3 => omega); (case k4 => omega); (case k5 => with_unfolding_all rfl)); intro r' t' u' n' hm' hr'))
local macro_rules | `(tactic| walk_at "setItem ref int") => `(tactic| (k_here; (with_reducible show wpAny _ _ (setItem (Value.ref _) (Value.int _ _) (Value.ref _)) _ _ _); (rename News _ _ _ _ => N'); (rename Fr _ _ _ _ => F'); (with_unfolding_all refine' set_tup F' N' ?k1 ?k2 ?k3 ?k4 ?k5 ?k6 ?_; (case k1 => assumption); (case k2 => assumption); (case k3 => assumption); (case k4 => omega); (case k5 => omega); (case k6 => omega)); clear F' N'; intro h' F' N' hA'))
local macro_rules | `(tactic| walk_at "call ref") => `(tactic| (k_here; (with_reducible show wpAny _ _ (call (Value.ref 49) [Value.ref _, Value.int _ _, Value.int _ _]) _ _ _); (rename News _ _ _ _ => N'); (with_unfolding_all refine' spc_use (sd_spec _ _ _ _ _ _ ?hsub _ _ ?hne _ _ _ _ _ _ ?hA ?h8 ?h0 ?h1) ?B ?F ?X N' ?T ?hk ?hd ?hu ?_); (case hsub => assumption); (case hne => assumption); (case hA => assumption); (case h8 => omega); (case h0 => omega); (case h1 => omega); (case B => k_asm); (case F => k_asm); (case X => k_asm); (case T => k_asm); (case hk => first | exact rfl | assumption); (case hd => (simp only [depth_deeper] at *; omega)); (case hu => (simp only [units_deeper] at *; omega)); clear N'; rintro _ _ _ _ ⟨h1', vs', h2', hA'⟩ F' N'; subst h1'; subst h2'))
local macro_rules | `(tactic| walk_at "call ref") => `(tactic| (k_here; (with_reducible show wpAny _ _ (call (Value.ref 56) [Value.ref _, Value.int _ _]) _ _ _); (rename News _ _ _ _ => N'); (with_unfolding_all refine' spc_use (su_spec _ _ _ _ _ _ ?hsub _ _ ?hne _ _ _ _ ?hA ?h8 ?h1) ?B ?F ?X N' ?T ?hk ?hd ?hu ?_); (case hsub => assumption); (case hne => assumption); (case hA => assumption); (case h8 => (simp only [List.length_set]; omega)); (case h1 => (simp only [List.length_set]; omega)); (case B => k_asm); (case F => k_asm); (case X => k_asm); (case T => k_asm); (case hk => first | exact rfl | assumption); (case hd => (simp only [depth_deeper] at *; omega)); (case hu => (simp only [units_deeper] at *; omega)); clear N'; rintro _ _ _ _ ⟨h1', vs', h2', hA'⟩ F' N'; subst h1'; subst h2'))
local macro_rules | `(tactic| walk_at "call builtin:len") => `(tactic| (k_here; (with_reducible show wpAny _ _ (call (Value.builtin "len") [Value.ref _]) _ _ _); (rename News _ _ _ _ => N'); (with_unfolding_all refine' len_tup N' ?k1 ?k2 ?_; (case k1 => assumption); (case k2 => omega))))
local macro_rules | `(tactic| walk_at "call builtin:list.append") => `(tactic| (k_here; (with_reducible show wpAny _ _ (call (Value.builtin _) [Value.ref _, Value.ref _]) _ _ _); (rename News _ _ _ _ => N'); (rename Fr _ _ _ _ => F'); (with_unfolding_all refine' app_tup F' N' ?k1 ?k2 ?k3 ?k4 ?_; (case k1 => assumption); (case k2 => assumption); (case k3 => assumption); (case k4 => omega)); clear F' N'; intro h' F' N' hA'))
local macro_rules | `(tactic| walk_at "call builtin:list.pop") => `(tactic| (k_here; (with_reducible show wpAny _ _ (call (Value.builtin _) [Value.ref _]) _ _ _); (rename News _ _ _ _ => N'); (rename Fr _ _ _ _ => F'); (with_unfolding_all refine' pop_tup F' N' ?k1 ?k2 ?k3 ?k4 ?_; (case k1 => assumption); (case k2 => assumption); (case k3 => omega); (case k4 => omega)); clear F' N'; intro h' r' t' u' n' hm' F' N' hA'))
local macro_rules | `(tactic| walk_at "truthy ref") => `(tactic| (k_here; (with_reducible show wpAny _ _ (truthy (Value.ref _)) _ _ _); (rename News _ _ _ _ => N'); (with_unfolding_all refine' truthy_tup N' ?k1 ?k2 ?_; (case k1 => assumption); (case k2 => omega))))

theorem push_spec (w : World) (mean) (mg mb) (news tl) (hsub : ∀ p ∈ tl, p ∈ news) (T : Int → Str) (ha : Addr) (hne : ∀ p ∈ news, p.1 ≠ ha) (vs : List Value) (n : Nat) (ps : List Int) (r : Addr) (p : Int) (t u : Tok) (n' : Nat) (hA : TA tl T vs ps) (h8 : ps.length < 8) (hm : (r, tupO (T p) t p u n') ∈ tl) :
   Spc w mean mg mb 35 ((ha, listOf vs.toArray n) :: news) [.ref ha, .ref r] 2 24 (fun v news' => v = .none ∧ ∃ vs', news' = (ha, listOf vs'.toArray (n + 1)) :: news ∧ TA tl T vs' (pushF (fun p q => ltP (T p) p (T q) q) ps p)) := by
  unfold Spc
  k_fill
  intro dp un gd cn cs a₁ ccd cl outer A₀ base h₀ L m s Q E B F X N T1 hk hdp hun hret
  refine wpAny_call ?_
  (k_dflt cell_enter)
  refine wpAny_mono (E := fun _ _ => False) ?_ (fun _ _ x => x) (fun _ _ x => x.elim)
  rename_i g1 L1 h1 FG F1 N1 B1 X1 T1
  have hap : (ps ++ [p]).length = ps.length + 1 := by simp
  refine clean [("heap", .ref ha), ("item", .ref r)] F1 (has_cons rfl (has_cons rfl has_nil)) ?_
  clear F1
  intro u' F1
  k_steps
  refine hret _ _ _ _ ⟨rfl, _, rfl, ?_⟩ (by k_asm) (by k_asm)
  rename TA tl T _ (sdF _ _ _ _ _) => hA3
  have e1 : (((ps ++ [p]).length : Int) - 1).toNat = ps.length := by omega
  have e2 : (ps ++ [p]).getD ps.length 0 = p := by simp
  rw [e1, e2] at hA3
  exact hA3

theorem pop_spec (w : World) (mean) (mg mb) (news tl) (hsub : ∀ p ∈ tl, p ∈ news) (T : Int → Str) (ha : Addr) (hne : ∀ p ∈ news, p.1 ≠ ha) (vs : List Value) (n : Nat) (ps : List Int) (hA : TA tl T vs ps) (h8 : ps.length ≤ 8) (h1 : 0 < ps.length) :
   Spc w mean mg mb 42 ((ha, listOf vs.toArray n) :: news) [.ref ha] 3 36 (fun v news' => ∃ r t u n', v = .ref r ∧ (r, tupO (T (popF (fun p q => ltP (T p) p (T q) q) ps).1) t (popF (fun p q => ltP (T p) p (T q) q) ps).1 u n') ∈ tl ∧ ∃ vs', news' = (ha, listOf vs'.toArray (n + 1)) :: news ∧ TA tl T vs' (popF (fun p q => ltP (T p) p (T q) q) ps).2) := by
  unfold Spc
  k_fill
  intro dp un gd cn cs a₁ ccd cl outer A₀ base h₀ L m s Q E B F X N T1 hk hdp hun hret
  refine wpAny_call ?_
  (k_dflt cell_enter)
  refine wpAny_mono (E := fun _ _ => False) ?_ (fun _ _ x => x) (fun _ _ x => x.elim)
  rename_i g1 L1 h1 FG F1 N1 B1 X1 T1
  have hdl : ps.dropLast.length = ps.length - 1 := List.length_dropLast
  refine clean [("heap", .ref ha)] F1 (has_cons rfl has_nil) ?_
  clear F1
  intro u' F1
  k_steps
  · rename TA tl T _ (upF _ _) => hA3
    rename 0 < ps.dropLast.length => hpos
    rename (_, tupO (T (ps.dropLast.getD (Int.toNat 0) 0)) _ _ _ _) ∈ tl => hm3
    have e0 : ps.dropLast.getD (Int.toNat 0) 0 = ps.getD 0 0 := by
      show ps.dropLast.getD 0 0 = _
      rw [List.getD_eq_getElem?_getD, List.getElem?_dropLast, if_pos (by omega), ← List.getD_eq_getElem?_getD]
    rw [e0] at hm3
    have e1 : popF (fun p q => ltP (T p) p (T q) q) ps = (ps.getD 0 0, upF (fun p q => ltP (T p) p (T q) q) (ps.dropLast.set 0 (ps.getD (ps.length - 1) 0))) := by
      unfold popF; rw [if_neg (by omega)]
    rw [e1] at hret
    exact hret _ _ _ _ ⟨_, _, _, _, rfl, hm3, _, rfl, hA3⟩ (by k_asm) (by k_asm)
  · rename ¬ 0 < ps.dropLast.length => hpos
    rename (_, tupO (T (ps.getD (ps.length - 1) 0)) _ _ _ _) ∈ tl => hm3
    rename TA tl T vs.dropLast ps.dropLast => hA3
    have e0 : ps.length = 1 := by omega
    have e2 : ps.dropLast = [] := List.length_eq_zero_iff.mp (by omega)
    have e1 : popF (fun p q => ltP (T p) p (T q) q) ps = (ps.getD 0 0, []) := by unfold popF; rw [if_pos e0]
    rw [e0] at hm3
    rw [e2] at hA3
    rw [e1] at hret
    exact hret _ _ _ _ ⟨_, _, _, _, rfl, hm3, _, rfl, hA3⟩ (by k_asm) (by k_asm)
end Mine

end
section
theorem Mine.freshX1 : True := by
  w_top off
  trivial
open PySem PySem.W PyProof.Rows PySem.Calls
namespace Mine

/-- the k-th sign of the text at a place -/
def sgn (cs : List Int) (place k : Nat) : Nat := (if cs.getD ((place + k) % cs.length) 0 % 2 = 1 then 97 else 65) + (3 * k + (cs.getD k 0 / 2).toNat)
def txt (cs : List Int) (place : Nat) : List Nat := (List.range cs.length).map (sgn cs place)

local macro_rules | `(tactic| k_steps) => `(tactic| repeat' (first
  | ((fail_if_success (with_reducible show wpAny _ _ (exec (Stmt.While _ _ _ _) _) _ _ _)); (fail_if_success (with_reducible show wpAny _ _ (pyIter _) _ _ _)); first
    | (k_unfold; (try dsimp only)) | (k_end; wrow_close) | (dsimp only; walk1) | walk1 | (leave1; walk_say "STEP leave1"; try dsimp only)) | fail "no step"))

theorem low_item : ∀ i : Nat, i < 24 → Txt.item (Str.ofString "abcdefghijklmnopqrstuvwx") (i : Int) = tx [97 + i] := by decide +kernel
theorem up_item : ∀ i : Nat, i < 24 → Txt.item (Str.ofString "ABCDEFGHIJKLMNOPQRSTUVWX") (i : Int) = tx [65 + i] := by decide +kernel
theorem low_len : (Str.ofString "abcdefghijklmnopqrstuvwx").length = 24 := by decide +kernel
theorem up_len : (Str.ofString "ABCDEFGHIJKLMNOPQRSTUVWX").length = 24 := by decide +kernel
theorem tx_app (l : List Nat) (c : Nat) : tx l ++ tx [c] = tx (l ++ [c]) := by
  show Str.append _ _ = _
  simp [Str.append]
local macro_rules | `(tactic| walk_at "subscriptTail") => `(tactic| (k_here; (with_reducible show wpAny _ _ (subscriptTail _ _ (Value.str (Str.ofString _) _) (Value.int _ _)) _ _ _); (with_unfolding_all refine' KXi.item (n := 24) ?k1 ?k2 ?k3 ?k4 ?_ ?k5 ?k6; (case k1 => first | exact low_len | exact up_len); (case k2 => omega); (case k3 => omega); (case k4 => decide); (case k5 => with_unfolding_all rfl); (case k6 => (intro _; with_unfolding_all rfl))); intro hlen'))

theorem idx_mod (a b n : Nat) : (((a : Int) + (0 + (b : Int))).fmod (n : Int)).toNat = (a + b) % n := by
  rw [Int.fmod_eq_emod_of_nonneg _ (by omega), show (a : Int) + (0 + (b : Int)) = ((a + b : Nat) : Int) by omega]
  exact (congrArg Int.toNat (Int.natCast_emod (a + b) n).symm).trans (Int.toNat_natCast _)

theorem txt_spec (w : World) (mean) (mg mb) (news) (ca : Addr) (vs : List Value) (n : Nat) (cs : List Int) (hI : IntsAre vs cs) (h8 : cs.length ≤ 8) (h6 : ∀ i, i < cs.length → 0 ≤ cs.getD i 0 ∧ cs.getD i 0 < 6) (place : Nat) (tp : Tok) (hp : place < cs.length) :
   Spc w mean mg mb 63 ((ca, listOf vs.toArray n) :: news) [.ref ca, .int place tp] 1 12 (fun v news' => news' = (ca, listOf vs.toArray n) :: news ∧ ∃ t, v = .str (tx (txt cs place)) t) := by
  unfold Spc
  k_fill
  intro dp un gd cn cs₀ a₁ ccd cl outer A₀ base h₀ L m s Q E B F X N T1 hk hdp hun hret
  refine wpAny_call ?_
  (k_dflt cell_enter)
  refine wpAny_mono (E := fun _ _ => False) ?_ (fun _ _ x => x) (fun _ _ x => x.elim)
  rename_i g1 L1 h1 FG F1 N1 B1 X1 T1
  refine clean [("codes", .ref ca), ("place", .int place tp)] F1 (has_cons rfl (has_cons rfl has_nil)) ?_
  clear F1
  intro u F1
  have hlen := hI.length
  k_steps
  rename IsRange _ _ _ _ _ _ _ _ => R2
  rename Fr g1 L1 _ _ => F2
  rename News g1 L1 _ _ => N2
  refine fo (σ := List Nat × Tok) (n := cs.length) (ca :: news.map (·.1)) (fun c => (ca, listOf vs.toArray n) :: news)
    (fun c => [("codes", .ref ca), ("place", .int place tp), ("text", .str (tx c.1) c.2)])
    (fun i c => c.1 = (List.range i).map (sgn cs place))
    ([], _) (fun _ => rfl) rfl R2 (small_one (by omega) (by omega) (by omega) (by omega)) (by rw [rangeSize_one]; omega) F2 N2 (has_cons rfl (has_cons rfl (has_cons (congrArg (fun z => some (Value.str z _)) (show Str.ofString "" = tx [] by decide +kernel)) has_nil))) rfl ?_ ?_
  · clear R2 F2 N2
    rintro k ⟨l, tl⟩ tj u h tk own hj hoff hl F2 N2
    dsimp only at hl F2 N2
    rw [List.cons_append] at N2
    have hll : (tx l).length = k := by rw [tx_len, hl]; simp
    have hck := h6 k hj
    have hm := h6 ((place + k) % cs.length) (Nat.mod_lt _ (by omega))
    have hfd : (cs.getD (0 + (k : Int)).toNat 0).fdiv 2 = cs.getD k 0 / 2 := by
      rw [show (0 + (k : Int)).toNat = k by omega]; exact Int.fdiv_eq_ediv_of_nonneg _ (by decide)
    k_steps
    all_goals ((first | rename (Int.fmod _ 2 = 1) => hb | rename (¬ Int.fmod _ 2 = 1) => hb); rw [idx_mod, Int.fmod_eq_emod_of_nonneg _ (by decide)] at hb)
    · have e : tx l ++ Txt.item (Str.ofString "abcdefghijklmnopqrstuvwx") (3 * (0 + (k : Int)) + (cs.getD (0 + (k : Int)).toNat 0).fdiv 2) = tx (l ++ [sgn cs place k]) := by
        rw [hfd, show 3 * (0 + (k : Int)) + cs.getD k 0 / 2 = ((3 * k + (cs.getD k 0 / 2).toNat : Nat) : Int) by omega, low_item _ (by omega), tx_app]
        unfold sgn
        rw [if_pos hb]
      refine FPost.next (l ++ [sgn cs place k], _) (by assumption) (by assumption) ?_ (fun p hp => .tail _ (List.mem_append_right _ hp)) (has_cons rfl (has_cons rfl (has_cons (congrArg (fun z => some (Value.str z _)) e) has_nil))) ?_
      · intro p hp
        rcases List.mem_cons.mp hp with rfl | hp
        · exact .head _
        · exact .tail _ (List.mem_append_left _ hp)
      · dsimp only
        rw [hl, List.range_succ, List.map_append]
        rfl
    · have e : tx l ++ Txt.item (Str.ofString "ABCDEFGHIJKLMNOPQRSTUVWX") (3 * (0 + (k : Int)) + (cs.getD (0 + (k : Int)).toNat 0).fdiv 2) = tx (l ++ [sgn cs place k]) := by
        rw [hfd, show 3 * (0 + (k : Int)) + cs.getD k 0 / 2 = ((3 * k + (cs.getD k 0 / 2).toNat : Nat) : Int) by omega, up_item _ (by omega), tx_app]
        unfold sgn
        rw [if_neg hb]
      refine FPost.next (l ++ [sgn cs place k], _) (by assumption) (by assumption) ?_ (fun p hp => .tail _ (List.mem_append_right _ hp)) (has_cons rfl (has_cons rfl (has_cons (congrArg (fun z => some (Value.str z _)) e) has_nil))) ?_
      · intro p hp
        rcases List.mem_cons.mp hp with rfl | hp
        · exact .head _
        · exact .tail _ (List.mem_append_left _ hp)
      · dsimp only
        rw [hl, List.range_succ, List.map_append]
        rfl
  · clear R2 F2 N2
    rintro ⟨l, tl⟩ u h tk hl F2 N2
    dsimp only at hl F2 N2
    dsimp only
    k_steps
    exact hret _ _ _ _ ⟨rfl, _, congrArg (fun z => Value.str (tx z) _) hl⟩ (by k_asm) (by k_asm)
end Mine

end
section
theorem Mine.freshG1 : True := by
  w_top off
  trivial
open PySem PySem.W PyProof.Rows PySem.Calls
namespace Mine

/-- a turn of a for over a range has ended; the ledger may have grown -/
def GEnd {σ : Type} (h₀ : Heap) (L : Addr) (s : Shared) (Led : σ → List (Addr × Obj)) (ps : σ → List (Str × Value)) (P : σ → Prop) (I : Addr) (o : Obj) (s₂ : Shared) : Prop :=
  ∃ (c' : σ) (h' : Heap) (tk : Nat) (m' : Str → Option Value) (news' : List (Addr × Obj)), s₂ = { s with heap := h', toks := tk } ∧ Fr h₀ L h' m' ∧ News h₀ L h' news' ∧ (∀ p ∈ Led c', p ∈ news') ∧ (I, o) ∈ news' ∧ (∀ p ∈ Led c', p.1 ≠ I) ∧ Has m' (ps c') ∧ P c'
def GPost {σ : Type} (h₀ : Heap) (L : Addr) (s : Shared) (Led : σ → List (Addr × Obj)) (ps : σ → List (Str × Value)) (P : σ → Prop) (I : Addr) (o : Obj) (Q : Flow → Shared → Prop) (f : Flow) (s₂ : Shared) : Prop :=
  match f with
  | .ret v => Q (.ret v) s₂
  | .brk => Q .next s₂
  | _ => GEnd h₀ L s Led ps P I o s₂
theorem GPost.next {σ : Type} {h₀ : Heap} {L : Addr} {s : Shared} {Led : σ → List (Addr × Obj)} {ps : σ → List (Str × Value)} {P : σ → Prop} {I : Addr} {o : Obj} {Q : Flow → Shared → Prop} {h' : Heap} {tk : Nat} {m' : Str → Option Value} {news' : List (Addr × Obj)} (c' : σ)
    (F : Fr h₀ L h' m') (N : News h₀ L h' news') (hn : ∀ p ∈ Led c', p ∈ news') (ho : (I, o) ∈ news') (hi : ∀ p ∈ Led c', p.1 ≠ I) (hk : Has m' (ps c')) (hp : P c') :
    GPost h₀ L s Led ps P I o Q .next { s with heap := h', toks := tk } := ⟨c', h', tk, m', news', rfl, F, N, hn, ho, hi, hk, hp⟩

theorem fr_but {h₀ h h' : Heap} {L I : Addr} {m : Str → Option Value} (F : Fr h₀ L h m) (hI : h₀.get? I = none) (hL : L ≠ I) (hk : ∀ b o, b ∉ [I] → h.get? b = some o → h'.get? b = some o) : Fr h₀ L h' m := by
  obtain ⟨oL, es, ep, hL', r⟩ := F.ns
  refine ⟨⟨oL, es, ep, hk _ _ (by simpa using hL) hL', r⟩, fun b o e => hk b o ?_ (F.keep b o e), F.above⟩
  intro hb
  rw [List.mem_singleton.mp hb, hI] at e
  cases e
theorem news_but {h₀ h h' : Heap} {L I : Addr} {news : List (Addr × Obj)} (N : News h₀ L h news) (hn : ∀ p ∈ news, p.1 ≠ I) (hk : ∀ b o, b ∉ [I] → h.get? b = some o → h'.get? b = some o) : News h₀ L h' news :=
  fun p hp => ⟨hk _ _ (by simpa using hn p hp) (N p hp).1, (N p hp).2⟩

section
variable {prog : Program} {w : World} {A : Around} {Q : Flow → Shared → Prop} {s : Shared} {env : Env} {h₀ : Heap} {L : Addr} {body : List Stmt} {target : PySem.Expr} {E Z : Value → Shared → Prop}
theorem foG {σ : Type} {r : Addr} {a₀ b₀ : Int} {t₀ u₀ v₀ : Tok} {n : Nat} {m₀ : Str → Option Value} (Led : σ → List (Addr × Obj)) (ps : σ → List (Str × Value)) (P : Nat → σ → Prop) (c₀ : σ)
    (hh : A.handled = none) (hr : IsRange s.heap r a₀ b₀ 1 t₀ u₀ v₀) (hsmall : Builtin.Range.small a₀ b₀ 1 = true) (hn : Builtin.Range.rangeSize a₀ b₀ 1 = (n : Int))
    (F : Fr h₀ L s.heap m₀) (N : News h₀ L s.heap (Led c₀)) (hk : Has m₀ (ps c₀)) (hp : P 0 c₀)
    (turn : ∀ (i : Nat) (c : σ) t (u : Str → Option Value) h tk I o, i < n → o.cls = .type "range_iterator" → (∀ p ∈ Led c, p.1 ≠ I) → P i c → Fr h₀ L h (kstB u (ps c)) → News h₀ L h ((I, o) :: Led c) →
      wpAny (model prog w) A (assign target env (.int (a₀ + i) t)) (fun _ s₂ => wpAny (model prog w) A (execs body env) (GPost h₀ L s Led ps (P (i + 1)) I o Q) (fun _ _ => False) s₂) (fun _ _ => False) { s with heap := h, toks := tk })
    (done : ∀ (c : σ) (u : Str → Option Value) h tk, P n c → Fr h₀ L h (kstB u (ps c)) → News h₀ L h (Led c) → Q .next { s with heap := h, toks := tk })
    (ht : ∀ it v, letOwnedTupleGo target it v = pure () := by intro _ _; rfl) :
    wpAny (model prog w) A (pyIter (.ref r)) (fun it s₂ => codeAny (model prog w) A (.forLoop target it body [] env) (fun r s' => match r with | .ok f => Q f s' | .error e => Z e s') s₂) E s := by
  refine wpAny_pyIter_range hr hsmall ?_
  have W : Walks prog w A s.heap.objs.size [s.heap.objs.size] [s.heap.objs.size] n (fun i v => i < n ∧ ∃ t, v = .int (a₀ + i * 1) t)
      (fun i h => IsRangeIter h s.heap.objs.size (a₀ + (i : Nat) * 1) ((n : Int) - (i : Nat)) 1) := (Walks.range hh _ a₀ 1 n).bound
  have hI : h₀.get? s.heap.objs.size = none := next_is_new F
  have hL : L ≠ s.heap.objs.size := fun e => absurd F.ns.lt (e ▸ Nat.lt_irrefl _)
  generalize hIs : s.heap.objs.size = I at *
  refine codeAny_forLoop (fun k s' => ∃ i c h tk m, s' = { s with heap := h, toks := tk } ∧ i ≤ n ∧ k = n - i ∧ IsRangeIter h I (a₀ + (i : Nat) * 1) ((n : Int) - (i : Nat)) 1 ∧ Fr h₀ L h m ∧ News h₀ L h (Led c) ∧ (∀ p ∈ Led c, p.1 ≠ I) ∧ Has m (ps c) ∧ P i c)
    ?_ n ⟨0, c₀, _, _, m₀, rfl, Nat.zero_le _, rfl, ?_, F.push _, ?_, ?_, hk, hp⟩ (ht _)
  · rintro k s' ⟨i, c, h, tk, m, rfl, hin, rfl, hit, F₁, N₁, hoff, hk₁, hp₁⟩
    rcases Nat.lt_or_ge i n with hlt | hge
    · refine W.item i _ _ _ hlt hit ?_
      rintro v h' tk' ⟨_, t, rfl⟩ hit' hk'
      have e1 : a₀ + (i : Int) * 1 = a₀ + (i : Int) := by omega
      rw [e1]
      have F₂ := fr_but F₁ hI hL hk'
      have N₂ := news_but N₁ hoff hk'
      obtain ⟨o, ho, hoc⟩ : ∃ o, h'.get? I = some o ∧ o.cls = .type "range_iterator" := ⟨_, hit', rfl⟩
      have N₃ : News h₀ L h' ((I, o) :: Led c) := fun p hp => by
        rcases List.mem_cons.mp hp with rfl | hp
        · exact ⟨ho, fun e => hL e.symm, hI⟩
        · exact N₂ p hp
      refine wpAny_mono (turn i c t m h' tk' I o hlt hoc hoff hp₁ (by rw [kstB_has hk₁]; exact F₂) N₃) (fun _ s₂ q => ?_) fun _ _ x => x.elim
      refine wpAny_mono q (fun f s₃ q => ?_) fun _ _ x => x.elim
      have fin : GEnd h₀ L s Led ps (P (i + 1)) I o s₃ → ∃ m, m < n - i ∧ ∃ i c h tk m', s₃ = { s with heap := h, toks := tk } ∧ i ≤ n ∧ m = n - i ∧ IsRangeIter h I (a₀ + (i : Nat) * 1) ((n : Int) - (i : Nat)) 1 ∧ Fr h₀ L h m' ∧ News h₀ L h (Led c) ∧ (∀ p ∈ Led c, p.1 ≠ I) ∧ Has m' (ps c) ∧ P i c := by
        rintro ⟨c', h'', tk'', m', news', rfl, F₄, N₄, hn₄, ho₄, hi₄, hk₄, hp₄⟩
        refine ⟨n - (i + 1), by omega, i + 1, c', h'', tk'', m', rfl, hlt, rfl, ?_, F₄, fun p hp => N₄ p (hn₄ p hp), hi₄, hk₄, hp₄⟩
        have e2 := (N₄ _ ho₄).1
        have e3 : h'.get? I = h''.get? I := ho.trans e2.symm
        exact e3.symm.trans hit'
      cases f with
      | ret v => exact q
      | brk => exact q
      | next => exact fin q
      | cont => exact fin q
    · have hin' : i = n := by omega
      subst hin'
      refine W.done _ _ _ hit fun h' tk' hk' => wpAny_execs_nil ?_
      exact done c m h' tk' hp₁ (by rw [kstB_has hk₁]; exact fr_but F₁ hI hL hk') (news_but N₁ hoff hk')
  · subst hIs; show IsRangeIter _ _ _ _ _; rw [hn]; simpa using Heap.get?_push_size _ rfl
  · exact fun p hp => ⟨Heap.get?_push_of_some _ (N p hp).1, (N p hp).2⟩
  · intro p hp e
    exact absurd (Heap.lt_size (N p hp).1) (by rw [e, hIs]; exact Nat.lt_irrefl _)
end
end Mine

end
section
theorem Mine.freshB1 : True := by
  w_top off
  trivial
open PySem PySem.W PyProof.Rows PySem.Calls
namespace Mine
/-- how many ones the stretch of that size from a place on has -/
def cnt (cs : List Int) (size place : Nat) : Int := ((List.range size).map fun k => cs.getD ((place + k) % cs.length) 0 % 2).sum
def balF (cs : List Int) : Bool := (List.range (cs.length - 1)).all fun j => (List.range cs.length).all fun p => (List.range cs.length).all fun q => decide (cnt cs (j + 1) p - cnt cs (j + 1) q ≤ 1)

theorem cnt_fold (cs : List Int) (p j : Nat) : ((rangeKs 0 (1 + (j : Int) - 0).toNat).map fun k' => (cs.getD ((0 + (p : Int) + k').fmod (cs.length : Int)).toNat 0).fmod 2).sum = cnt cs (j + 1) p := by
  unfold cnt rangeKs
  rw [List.map_map, show (1 + (j : Int) - 0).toNat = j + 1 by omega]
  congr 1
  refine List.map_congr_left fun k _ => ?_
  show (cs.getD ((0 + (p : Int) + (0 + (k : Int))).fmod (cs.length : Int)).toNat 0).fmod 2 = _
  rw [Int.fmod_eq_emod_of_nonneg _ (by decide), show (0 + (p : Int) + (0 + (k : Int))) = ((p + k : Nat) : Int) by omega, Int.fmod_eq_emod_of_nonneg _ (by omega)]
  rw [(congrArg Int.toNat (Int.natCast_emod (p + k) cs.length).symm).trans (Int.toNat_natCast _)]
theorem ints_snoc {x : Int} {u : Tok} : ∀ {vs : List Value} {ns : List Int}, IntsAre vs ns → IntsAre (vs ++ [.int x u]) (ns ++ [x])
  | _, _, .nil => .cons x u .nil
  | _, _, .cons i t h => .cons i t (ints_snoc h)
theorem balF_false {cs : List Int} {j p q : Nat} (hj : j < cs.length - 1) (hp : p < cs.length) (hq : q < cs.length) (h : 1 < cnt cs (j + 1) p - cnt cs (j + 1) q) : balF cs = false := by
  cases e : balF cs with
  | false => rfl
  | true =>
    unfold balF at e
    have e1 := List.all_eq_true.mp e j (List.mem_range.mpr hj)
    have e2 := List.all_eq_true.mp e1 p (List.mem_range.mpr hp)
    have e3 := List.all_eq_true.mp e2 q (List.mem_range.mpr hq)
    have e4 := of_decide_eq_true e3
    omega
theorem balF_true {cs : List Int} (h : ∀ j, j < cs.length - 1 → ∀ p q, p < cs.length → q < cs.length → cnt cs (j + 1) p - cnt cs (j + 1) q ≤ 1) : balF cs = true := by
  unfold balF
  refine List.all_eq_true.mpr fun j hj => List.all_eq_true.mpr fun p hp => List.all_eq_true.mpr fun q hq => decide_eq_true (h j (List.mem_range.mp hj) p q (List.mem_range.mp hp) (List.mem_range.mp hq))

local macro_rules | `(tactic| k_steps) => `(tactic| repeat' (first
  | ((fail_if_success (with_reducible show wpAny _ _ (exec (Stmt.While _ _ _ _) _) _ _ _)); (fail_if_success (with_reducible show wpAny _ _ (exec (Stmt.For _ _ _ _ _) _) _ _ _)); (fail_if_success (with_reducible show wpAny _ _ (pyIter _) _ _ _)); first
    | (k_unfold; (try dsimp only)) | (k_end; wrow_close) | (dsimp only; walk1) | walk1 | (leave1; walk_say "STEP leave1"; try dsimp only)) | fail "no step"))

local macro_rules | `(tactic| k_all) => `(tactic| assumption)

local macro_rules | `(tactic| walk_at "storeName") => `(tactic| (k_here; (rename News _ _ _ _ => N'); (rename Fr _ _ _ _ => F'); (with_unfolding_all refine' storeX_C F' N' ?c ?U ?d ?_ ?k ?x; (case c => rfl); (case k => rfl); (case x => rfl); (case U => (repeat' (first | (refine' UpdF.head ?a; (case a => k_all); done) | (refine' UpdF.tail ?a ?_; (case a => k_ne))))); (case d => assumption)); clear F' N'; intro h' o' F' N' hd'))

local macro_rules | `(tactic| walk_at "call builtin:list.append") => `(tactic| (k_here; (with_reducible show wpAny _ _ (call (Value.builtin _) [Value.ref _, _]) _ _ _); (rename News _ _ _ _ => N'); (rename Fr _ _ _ _ => F'); (with_unfolding_all refine' append_K F' N' ?U ?_ ?z; (case U => k_upd); (case z => assumption)); clear F' N'; intro h' F' N'))

theorem bal_spec (w : World) (mean) (mg mb) (news) (ca : Addr) (vs : List Value) (n : Nat) (cs : List Int) (hI : IntsAre vs cs) (h8 : cs.length ≤ 1000) (h1 : 1 < cs.length) (h6 : ∀ i, i < cs.length → 0 ≤ cs.getD i 0 ∧ cs.getD i 0 < 6) :
   Spc w mean mg mb 68 ((ca, listOf vs.toArray n) :: news) [.ref ca] 1 12 (fun v news' => news' = (ca, listOf vs.toArray n) :: news ∧ v = .bool (balF cs)) := by
  unfold Spc
  k_fill
  intro dp un gd cn cs₀ a₁ ccd cl outer A₀ base h₀ L m s Q E B F X N T1 hk hdp hun hret
  refine wpAny_call ?_
  k_dflt (refine' code_defC ?k1 ?k2 ?k3 ?k4 ?k5 ?kA ?kF ?kK ?k6 ?k7 ?k8 ?k9 ?kB ?kD ?_ ?c2 ?c3 ?c4; (case kA => exact rfl); (case kF => exact rfl); (case kK => assumption); (case k1 => k_asm); (case k2 => k_asm); (case k3 => k_asm); (case k4 => k_asm); (case k5 => k_asm); (case k6 => k_is); (case k7 => k_is); (case k8 => ktr_room); (case k9 => exact BindsTo.of_eq rfl); (case kB => exact rfl); (case kD => decide +kernel); (case c2 => exact rfl); (case c3 => exact rfl); (case c4 => exact rfl); k_whole; intro g1 L1 h1' tk1 cells' FG F1 N1 Y' B1 X1 T1' l1; (try k_lt l1); k_cells Y'; (try simp only [List.cons_append, List.nil_append] at N1); (try dsimp only); (try k_lift B1); (try k_fold))
  rename_i op oc hop hoc
  replace hop : op.data = .cell none := hop
  replace hoc : oc.data = .cell (some (.ref ca)) := hoc
  refine wpAny_mono (E := fun _ _ => False) ?_ (fun _ _ x => x) (fun _ _ x => x.elim)
  have hlen := hI.length
  refine clean [] F1 has_nil ?_
  clear F1
  intro u F1
  k_steps
  refine wpAny_For ?_ (fun _ => rfl)
  k_steps
  rename IsRange _ _ _ _ _ _ _ _ => R2
  rename Fr g1 L1 _ _ => F2
  rename News g1 L1 _ _ => N2
  refine foG (σ := Obj) (n := cs.length - 1) (fun c => (L1 + 1 + 1, c) :: (L1 + 1, oc) :: (ca, listOf vs.toArray n) :: news) (fun _ => [])
    (fun i c => (∃ v₀, c.data = .cell v₀) ∧ ∀ j, j < i → ∀ p q, p < cs.length → q < cs.length → cnt cs (j + 1) p - cnt cs (j + 1) q ≤ 1)
    op rfl R2 (small_one (by omega) (by omega) (by omega) (by omega)) (by rw [rangeSize_one]; omega) F2 N2 has_nil ⟨⟨_, hop⟩, fun j hj => absurd hj (Nat.not_lt_zero _)⟩ ?_ ?_
  · clear R2 F2 N2 hop
    rintro j op ts u h tk I oI hj _ hoffI ⟨⟨v₀, hop⟩, hbal⟩ F2 N2
    k_steps
    rename_i _ _ lc _ hlc _ _ _
    refine wpAny_For ?_ (fun _ => rfl)
    k_steps
    rename IsRange _ _ _ _ _ _ _ _ => R2
    rename Fr g1 L1 _ _ => F2
    rename News g1 L1 _ _ => N2
    refine foG (σ := Obj × List Value × Nat) (n := cs.length) (fun c => (lc, listOf c.2.1.toArray c.2.2) :: (I, oI) :: (L1 + 1 + 1, c.1) :: (L1 + 1, oc) :: (ca, listOf vs.toArray n) :: news) (fun _ => [("counts", .ref lc), ("size", .int (1 + (j : Int)) ts)])
      (fun i c => (∃ v₀, c.1.data = .cell v₀) ∧ IntsAre c.2.1 ((List.range i).map (cnt cs (j + 1))))
      (op, [], 0) rfl R2 (small_one (by omega) (by omega) (by omega) (by omega)) (by rw [rangeSize_one]; omega) F2 N2 (has_cons rfl (has_cons rfl has_nil)) ⟨⟨_, hop⟩, .nil⟩ ?_ ?_
    · clear R2 F2 N2 hop
      rintro p ⟨op, vc, kc⟩ tp u h tk I2 oI2 hp _ hoffI2 ⟨⟨v₀, hop⟩, hIc⟩ F2 N2
      dsimp only at hoffI2 F2 N2 hop hIc
      have hnP : ∀ q ∈ news, q.1 ≠ L1 + 1 + 1 := fun q hq => Nat.ne_of_lt (Nat.lt_trans (kst_ltOf l1.2 q hq) (by omega))
      have hnC : ∀ q ∈ news, q.1 ≠ lc := fun q hq => Nat.ne_of_lt (Nat.lt_trans (kst_ltOf l1.2 q hq) (by omega))
      have hvl : vc.length = p := by rw [hIc.length]; simp
      have hvz : vc.toArray.size ≤ sizeLine := by rw [List.size_toArray, hvl, sizeLine_eq]; omega
      have hi1 := neN (a := lc) (b := I2) (hoffI2 _ (.head _))
      have hi2 := neN (a := I) (b := I2) (hoffI2 _ (.tail _ (.head _)))
      have hi3 := neN (a := L1 + 1 + 1) (b := I2) (hoffI2 _ (.tail _ (.tail _ (.head _))))
      have hi4 := neN (a := L1 + 1) (b := I2) (hoffI2 _ (.tail _ (.tail _ (.tail _ (.head _)))))
      have hi5 := neN (a := L1 + 1 + 1) (b := I) (hoffI _ (.head _))
      have hi6 := neN (a := L1 + 1) (b := I) (hoffI _ (.tail _ (.head _)))
      k_steps
      rename Fr g1 L1 _ _ => F3
      rename News g1 L1 _ _ => N3
      rename _ = Data.cell (some (Value.int (0 + (p : Int)) tp)) => hd3
      rw [List.push_toArray, cnt_fold] at N3
      refine GPost.next (_, vc ++ [.int (cnt cs (j + 1) p) _], kc + 1) F3 N3 (fun q hq => .tail _ (.tail _ hq)) (.tail _ (.head _)) ?_ (has_cons rfl (has_cons rfl has_nil)) ⟨⟨_, hd3⟩, ?_⟩
      · intro q hq
        simp only [List.mem_cons] at hq
        rcases hq with rfl | rfl | rfl | h | h | h
        · exact hi1
        · exact hi2
        · exact hi3
        · exact hoffI2 _ (by simp [h])
        · exact hoffI2 _ (by simp [h])
        · exact hoffI2 _ (by simp [h])
      · dsimp only
        rw [List.range_succ, List.map_append]
        exact ints_snoc hIc
    · clear R2 F2 N2 hop
      rintro ⟨op, vc, kc⟩ u h tk ⟨⟨v₀, hop⟩, hIc⟩ F2 N2
      dsimp only at F2 N2 hop hIc
      have hnl : ((List.range cs.length).map (cnt cs (j + 1))).length = cs.length := by simp
      generalize hns : (List.range cs.length).map (cnt cs (j + 1)) = ns at hIc hnl
      k_steps
      all_goals (rename Fr g1 L1 _ _ => F3; rename News g1 L1 _ _ => N3; rename_i M1 _ _ hM1 hM1' _ M2 _ _ hM2 hM2' hcmp)
      · subst hns
        obtain ⟨p, hp, rfl⟩ := List.mem_map.mp hM1
        obtain ⟨q, hq, rfl⟩ := List.mem_map.mp hM2
        have hb := balF_false hj (List.mem_range.mp hp) (List.mem_range.mp hq) hcmp
        dsimp only [GPost]
        k_steps
        rename News h₀ L _ _ => N9
        exact hret _ _ _ _ ⟨rfl, by rw [hb]⟩ (by k_asm) (fun q hq => N9 q (.tail _ (.tail _ (.tail _ (.tail _ hq)))))
      · have hi5' := neN (a := L1 + 1 + 1) (b := I) (hoffI _ (.head _))
        refine GPost.next op F3 N3 (fun q hq => .tail _ (.tail _ hq)) (.tail _ (.head _)) (fun q hq => by
          simp only [List.mem_cons] at hq
          rcases hq with rfl | h | h | h
          · exact hi5'
          · exact hoffI _ (by simp [h])
          · exact hoffI _ (by simp [h])
          · exact hoffI _ (by simp [h])) has_nil ⟨⟨_, hop⟩, fun j' hj' p q hp hq => ?_⟩
        · by_cases e : j' = j
          · subst e
            have h1 := hM1' (cnt cs (j' + 1) p) (by rw [← hns]; exact List.mem_map.mpr ⟨p, List.mem_range.mpr hp, rfl⟩)
            have h2 := hM2' (cnt cs (j' + 1) q) (by rw [← hns]; exact List.mem_map.mpr ⟨q, List.mem_range.mpr hq, rfl⟩)
            omega
          · exact hbal j' (by omega) p q hp hq
  · clear R2 F2 N2
    rintro op u h tk ⟨_, hbal⟩ F2 N2
    k_steps
    rename News h₀ L _ _ => N9
    exact hret _ _ _ _ ⟨rfl, by rw [balF_true hbal]⟩ (by k_asm) (fun q hq => N9 q (.tail _ (.tail _ hq)))
end Mine

end
section
theorem Mine.freshWA : True := by
  w_top off
  trivial
open PySem PySem.W PyProof.Rows PySem.Calls
namespace Mine

abbrev topA (dp un : Nat) (gd : Option (List Code)) (outer : List Env) : Around := { handled := none, depth := dp, frames := some outer, guards := gd, units := un }
noncomputable abbrev lawEnv (P : Params) (L fa : Addr) (cd : Value) : Env := envOfC (fnAt 73 P).qualname (fnAt 73 P).scope L fa cd

/-- the text of a place, by the place as an int -/
def txI (cs : List Int) (p : Int) : Str := tx (txt cs p.toNat)
def ltI (cs : List Int) (p q : Int) : Bool := ltP (txI cs p) p (txI cs q) q
/-- the heap behind the first k pushes -/
def heapF (cs : List Int) : Nat → List Int
  | 0 => []
  | k + 1 => pushF (ltI cs) (heapF cs k) k
theorem set_len (l : List Int) (k : Nat) (x : Int) : (l.set k x).length = l.length := List.length_set
theorem sdF_len (lt : Int → Int → Bool) : ∀ (f : Nat) (xs : List Int) (new : Int) (pos : Nat), (sdF lt f xs new pos).length = xs.length
  | 0, xs, new, pos => by simp [sdF]
  | f + 1, xs, new, pos => by
    unfold sdF
    split
    · simp
    · split
      · rw [sdF_len lt f]; simp
      · simp
theorem pushF_len (lt : Int → Int → Bool) (ps : List Int) (p : Int) : (pushF lt ps p).length = ps.length + 1 := by unfold pushF; rw [sdF_len]; simp
theorem heapF_len (cs : List Int) : ∀ k, (heapF cs k).length = k
  | 0 => rfl
  | k + 1 => by unfold heapF; rw [pushF_len, heapF_len cs k]
theorem TA.mono {news news' : List (Addr × Obj)} {T : Int → Str} {vs : List Value} {ps : List Int} (h : TA news T vs ps) (hs : ∀ p ∈ news, p ∈ news') : TA news' T vs ps :=
  ⟨h.1, fun i hi => let ⟨r, t, u, n, h1, h2⟩ := h.2 i hi; ⟨r, t, u, n, h1, hs _ h2⟩⟩



theorem suF_len (lt : Int → Int → Bool) : ∀ (f : Nat) (xs : List Int) (pos : Nat), (suF lt f xs pos).1.length = xs.length
  | 0, _, _ => rfl
  | f + 1, xs, pos => by
    unfold suF
    split
    · split
      · rw [suF_len lt f]; simp
      · rw [suF_len lt f]; simp
    · rfl
theorem upF_len (lt : Int → Int → Bool) (ps : List Int) : (upF lt ps).length = ps.length := by
  unfold upF
  rw [sdF_len, List.length_set, suF_len]
theorem popF_len (lt : Int → Int → Bool) {ps : List Int} (h : 0 < ps.length) : (popF lt ps).2.length = ps.length - 1 := by
  unfold popF
  split
  · rename_i e; rw [e]; rfl
  · rw [upF_len]; simp
/-- the first k off the heap, and what is left -/
def popN (lt : Int → Int → Bool) (h : List Int) : Nat → List Int × List Int
  | 0 => ([], h)
  | k + 1 => ((popN lt h k).1 ++ [(popF lt (popN lt h k).2).1], (popF lt (popN lt h k).2).2)
theorem popN_len (lt : Int → Int → Bool) (h : List Int) : ∀ k, k ≤ h.length → (popN lt h k).1.length = k ∧ (popN lt h k).2.length = h.length - k
  | 0, _ => ⟨rfl, rfl⟩
  | k + 1, hk => by
    have ih := popN_len lt h k (by omega)
    unfold popN
    refine ⟨by simp [ih.1], ?_⟩
    rw [popF_len lt (by omega), ih.2]
    omega
/-- the places in the order in which they come off the heap -/
def ord (cs : List Int) : List Int := (popN (ltI cs) (heapF cs cs.length) cs.length).1
theorem ord_len (cs : List Int) : (ord cs).length = cs.length := (popN_len _ _ _ (by rw [heapF_len]; exact Nat.le_refl _)).1

/-- a list's comprehension by what holds between its turns -/
theorem comp_rest {prog : Program} {w : World} {A : Around} {s : Shared} {h₀ : Heap} {L : Addr} {m : Str → Option Value} {env : Env} {elt : PySem.Expr} {x : Str} {scope : Scope} {cl : List (Str × Addr)} {S : List (Addr × Obj) → Prop} {P : Nat → Value → Prop} {Fin : List Value → List (Addr × Obj) → Prop}
    (J : Nat → List Value → List (Addr × Obj) → Prop) (n : Nat)
    (step : ∀ i ys news, i < n → J i ys news → ∀ v I oI C oC D m₂ h tk (E' : Value → Shared → Prop), P i v → LCg.NsObj oC m₂ → m₂ x = some v → Fr h₀ L h m → News h₀ L h ((I, oI) :: (C, oC) :: (D, LCg.lst ys) :: news) → LCg.Off3 I C D news → ((@Ne Nat I C) ∧ (@Ne Nat I D) ∧ (@Ne Nat C D)) →
      wpAny (model prog w) A (eval elt (compEnvC scope cl C env)) (LCg.CompEnd h₀ L m { s with heap := h, toks := tk } I oI C oC D (LCg.lst ys) S (fun y news' => J (i + 1) (ys ++ [y]) news')) E' { s with heap := h, toks := tk })
    (fin : ∀ ys news, J n ys news → Fin ys news) : ∀ k i ys news, i + k = n → J i ys news → LCg.CompRest prog w A h₀ L m env elt x scope cl s S P Fin k i ys news
  | 0, i, ys, news, e, hj => LCg.CompRest.zero (fin ys news ((show i = n by omega) ▸ hj))
  | k + 1, i, ys, news, e, hj => LCg.CompRest.succ fun v I oI C oC D m₂ h tk E' hP hC hx F N off ne => by
    refine wpAny_mono (step i ys news (by omega) hj v I oI C oC D m₂ h tk E' hP hC hx F N off ne) (fun y s₂ q => ?_) fun _ _ x => x
    obtain ⟨h', tk', news', rfl, F', N', off', hS, hJ⟩ := q
    exact ⟨h', tk', news', rfl, F', N', off', hS, comp_rest J n step fin k (i + 1) _ _ (by omega) hJ⟩

end Mine

end
section
theorem Mine.freshWD : True := by
  w_top off
  trivial
open PySem PySem.W PyProof.Rows PySem.Calls
namespace Mine

def bas (b : Bool) : Nat := if b then 97 else 65
theorem low_bas : ∀ l : Nat, l < 24 → ∀ b : Bool, Txt.lower (tx [bas b + l]) = tx [97 + l] := by decide +kernel
theorem sub_bas {l l' : Nat} (hl : l < 24) (hl' : l' < 24) (b b' : Bool) : subCost (tx [bas b + l]) (tx [bas b' + l']) = if l = l' then (if b = b' then 0 else 1) else 2 := by
  unfold subCost
  rw [low_bas l hl, low_bas l' hl']
  by_cases e : l = l'
  · subst e
    rw [if_pos rfl]
    by_cases e2 : b = b'
    · subst e2; simp
    · have h1 : (tx [bas b + l] == tx [bas b' + l]) = false := by
        rw [beq_eq_false_iff_ne]
        intro h
        have : bas b + l = bas b' + l := by simpa [tx] using h
        cases b <;> cases b' <;> simp [bas] at this e2
      rw [h1, if_neg e2]; simp
  · rw [if_neg e]
    have h1 : (tx [bas b + l] == tx [bas b' + l']) = false := by
      rw [beq_eq_false_iff_ne]
      intro h
      have : bas b + l = bas b' + l' := by simpa [tx] using h
      cases b <;> cases b' <;> simp [bas] at this <;> omega
    have h2 : (tx [97 + l] == tx [97 + l']) = false := by
      rw [beq_eq_false_iff_ne]
      intro h
      have : 97 + l = 97 + l' := by simpa [tx] using h
      omega
    rw [h1, h2]; rfl
/-- is the bit at a place of the ring a one -/
def bit (cs : List Int) (p : Nat) : Bool := decide (cs.getD (p % cs.length) 0 % 2 = 1)
def ltr (cs : List Int) (k : Nat) : Nat := 3 * k + (cs.getD k 0 / 2).toNat
theorem sgn_eq (cs : List Int) (p k : Nat) : sgn cs p k = bas (bit cs (p + k)) + ltr cs k := by
  unfold sgn bas bit ltr
  by_cases h : cs.getD ((p + k) % cs.length) 0 % 2 = 1 <;> simp [h]
theorem txt_getD (cs : List Int) (p k : Nat) (hk : k < cs.length) : (txt cs p).getD k 0 = sgn cs p k := by
  unfold txt; simp [hk]
theorem txt_len (cs : List Int) (p : Nat) : (txt cs p).length = cs.length := by unfold txt; simp
theorem txt_twin {cs : List Int} (h8 : cs.length ≤ 8) (h6 : ∀ i, i < cs.length → 0 ≤ cs.getD i 0 ∧ cs.getD i 0 < 6) (p q : Nat) : Twin (txt cs p) (txt cs q) := by
  refine ⟨by rw [txt_len, txt_len], fun i j hi hj => ?_⟩
  rw [txt_len] at hi hj
  have hli : ltr cs i < 24 ∧ ltr cs i / 3 = i := by have := h6 i hi; unfold ltr; omega
  have hlj : ltr cs j < 24 ∧ ltr cs j / 3 = j := by have := h6 j hj; unfold ltr; omega
  rw [txt_getD _ _ _ hi, txt_getD _ _ _ hj, sgn_eq, sgn_eq, sub_bas hlj.1 hli.1]
  by_cases e : i = j
  · subst e
    rw [if_pos rfl, if_pos rfl]
    by_cases e2 : bit cs (q + i) = bit cs (p + i)
    · rw [if_pos e2, if_pos (by rw [e2])]
    · rw [if_neg e2, if_neg]
      intro h
      apply e2
      cases h1 : bit cs (q + i) <;> cases h2 : bit cs (p + i) <;> simp [h1, h2, bas] at h ⊢
  · rw [if_neg e, if_neg]
    intro h
    rw [h] at hlj
    omega
/-- what the distances come to, up to the k-th pair off the heap -/
def apartF (cs : List Int) : Nat → Int
  | 0 => 0
  | k + 1 => apartF cs k + (hamTo (txt cs ((ord cs).getD k 0).toNat) (txt cs ((ord cs).getD (k + 1) 0).toNat) cs.length : Nat)
def alikeF (cs : List Int) : Nat := (((ord cs).map (txI cs)).filter (· == ((ord cs).map (txI cs)).getD 0 Str.empty)).length

/-- the first place of each of the rings' parts -/
def fsF (cs : List Int) : List Int := (List.range (cs.length / alikeF cs)).map fun j => (ord cs).getD (j * alikeF cs) 0
def stF (cs : List Int) : List Int := (List.range ((fsF cs).length - 1)).map fun j => ((fsF cs).getD (j + 1) 0 - (fsF cs).getD j 0) % ((fsF cs).length : Int)
def onF (cs : List Int) : Int := (cs.map (· % 2)).sum / (alikeF cs : Int)
/-- the plain law -/
structure Plain (cs : List Int) : Prop where
  perm : (ord cs).Perm ((List.range cs.length).map fun (i : Nat) => (0 : Int) + i * 1)
  least : ¬ apartF cs (cs.length - 1) < 2 * ((cs.length : Int) - alikeF cs)
  just : decide (apartF cs (cs.length - 1) = 2 * ((cs.length : Int) - alikeF cs)) = balF cs
  div : cs.length % alikeF cs = 0 ∧ 1 ≤ alikeF cs ∧ 2 * alikeF cs ≤ cs.length
  steps : decide (stF cs = (List.replicate (stF cs).length ((stF cs).take 1)).flatten) = balF cs
  ones : balF cs = true → (stF cs).getD 0 0 * onF cs % ((fsF cs).length : Int) = 1
end Mine

end
section
theorem Mine.freshW14 : True := by
  w_top off
  trivial
open PySem PySem.W PyProof.Rows PySem.Calls
namespace Mine

local macro_rules | `(tactic| k_steps) => `(tactic| repeat' (first
  | ((fail_if_success (with_reducible show wpAny _ _ (pyIter _) _ _ _)); first
    | (k_unfold; (try dsimp only)) | (k_end; wrow_close) | (dsimp only; walk1) | walk1 | (leave1; walk_say "STEP leave1"; try dsimp only)) | fail "no step"))

local macro_rules | `(tactic| k_all) => `(tactic| assumption)
theorem law_st14 (w : World) (mean : ExcName → Option Value) (mg mb : Str → Option Value) (dp un : Nat) (gd : Option (List Code)) (outer : List Env) (base g : Heap) (L fa : Addr) (cd : Value) (u : Str → Option Value) (s : Shared) (o4 : Obj) (ca fl sa : Addr) (us ys xs : List Value) (nD : Nat) (cs : List Int) (t1 : Tok) (al : Nat) (Q : Flow → Shared → Prop)
    (X : (hd.heap_39 w.params).In g) (B : Below (topA dp un gd outer) base outer g) (T : Top hd.view_39 (looseW hd.view_39 []) mean mg mb g) (hdp : dp + 10 < recursionLimit) (hun : un + 100 < cLine)
    (F : Fr g L s.heap (kstB u [("codes", .ref ca), ("alike", .int al t1), ("balanced", .bool (balF cs)), ("steps", .ref sa)])) (N : News g L s.heap [(sa, LCg.lst xs), (fl, listOf ys.toArray nD), (ca, listOf us.toArray 0), (L + 1 + 1 + 1 + 1, o4)])
    (ho4 : o4.data = .cell (some (.ref fl)))
    (hI : IntsAre us cs) (h2 : 2 ≤ cs.length) (h8 : cs.length ≤ 8) (h6 : ∀ i, i < cs.length → 0 ≤ cs.getD i 0 ∧ cs.getD i 0 < 6) (hca : @LT.lt Nat _ (L + 1 + 1 + 1 + 1) ca) (hfl : @Ne Nat fl (L + 1 + 1 + 1 + 1))
    (hY : IntsAre ys (fsF cs)) (hf2 : 2 ≤ (fsF cs).length ∧ (fsF cs).length ≤ 8) (hX : IntsAre xs (stF cs)) (hal : al = alikeF cs) (PL : Plain cs)
    (hret : ∀ h' tk' m', Fr g L h' m' → Q (.ret (.bool true)) { s with heap := h', toks := tk' }) :
    wpAny (model PySem.Challenge.rw_nq0050_01.row.prog w) ((topA dp un gd outer).deeper (lawEnv w.params L fa cd)) (execs ((bodyOf (fnAt 73 w.params)).drop 14) (lawEnv w.params L fa cd)) Q (fun _ _ => False) s := by
  revert X
  k_fill
  intro X
  obtain ⟨d, hd0⟩ : ∃ d, fnAt 73 w.params = d := ⟨_, rfl⟩
  have hd1 := hd0
  conv at hd1 => lhs; whnf
  unfold lawEnv
  rw [hd0, ← hd1]
  clear hd0 hd1 d
  dsimp only [bodyOf, List.drop]
  have hlen := hI.length
  have hyl := hY.length
  have hxl := hX.length
  have PS := PL.steps
  have PO := PL.ones
  have hal1 : 1 ≤ al := by rw [hal]; exact PL.div.2.1
  have hal2 : 2 * al ≤ cs.length := by rw [hal]; exact PL.div.2.2
  have hon : onF cs = (cs.map (fun k' : Int => k'.fmod 2)).sum.fdiv (al : Int) := by
    unfold onF
    rw [← hal, Int.fdiv_eq_ediv_of_nonneg _ (by omega)]
    congr 2
    exact List.map_congr_left fun c _ => (Int.fmod_eq_emod_of_nonneg _ (by decide)).symm
  have hsl : (stF cs).length = (fsF cs).length - 1 := by unfold stF; simp
  have hs0 : 0 ≤ (stF cs).getD 0 0 ∧ (stF cs).getD 0 0 < 8 := by
    unfold stF
    rw [List.getD_eq_getElem?_getD, List.getElem?_map, List.getElem?_range (by omega)]
    exact ⟨Int.emod_nonneg _ (by omega), Int.lt_of_lt_of_le (Int.emod_lt_of_pos _ (by omega)) (by omega)⟩
  have hst1 : ((stF cs).take 1).length = 1 := by rw [List.length_take]; omega
  generalize hfss : fsF cs = fs at *
  generalize hbl : balF cs = bl at *
  generalize hsts : stF cs = st at *
  generalize hons : onF cs = on at *
  k_steps
  · rename_i hcmp
    exfalso
    rw [Int.toNat_natCast, PS] at hcmp
    cases bl <;> simp at hcmp
  · (k_dflt (refine mul_int ?_ (IntMulOk.of_left (intBits_le_64 (k := st.getD (Int.toNat 0) 0) (by show -(2 ^ 64) < st.getD 0 0; omega) (by show st.getD 0 0 < 2 ^ 64; omega)))))
    rw [← hon]
    k_steps
    have e : ((st.getD (Int.toNat 0) 0 * on).fmod (fs.length : Int) == 1) = true := by
      show ((st.getD 0 0 * on).fmod (fs.length : Int) == 1) = true
      rw [Int.fmod_eq_emod_of_nonneg _ (by omega), PO (by assumption)]; rfl
    rw [e]
    rename Fr g L _ _ => F9
    exact hret _ _ _ F9
  · rename_i hb
    have e : (!bl) = true := by rw [hb]; rfl
    rw [e]
    rename Fr g L _ _ => F9
    exact hret _ _ _ F9
end Mine

end
section
theorem Mine.freshW13 : True := by
  w_top off
  trivial
open PySem PySem.W PyProof.Rows PySem.Calls
namespace Mine

local macro_rules | `(tactic| k_steps) => `(tactic| repeat' (first
  | ((fail_if_success (with_reducible show wpAny _ _ (execs (Stmt.If _ _ _ _ :: _) _) _ _ _)); (fail_if_success (with_reducible show wpAny _ _ (pyIter _) _ _ _)); first
    | (k_unfold; (try dsimp only)) | (k_end; wrow_close) | (dsimp only; walk1) | walk1 | (leave1; walk_say "STEP leave1"; try dsimp only)) | fail "no step"))

local macro_rules | `(tactic| k_all) => `(tactic| assumption)
theorem law_st13 (w : World) (mean : ExcName → Option Value) (mg mb : Str → Option Value) (dp un : Nat) (gd : Option (List Code)) (outer : List Env) (base g : Heap) (L fa : Addr) (cd : Value) (u : Str → Option Value) (s : Shared) (o4 : Obj) (ca fl : Addr) (us yq : List Value) (nD : Nat) (cs : List Int) (t1 : Tok) (al : Nat) (Q : Flow → Shared → Prop)
    (X : (hd.heap_39 w.params).In g) (B : Below (topA dp un gd outer) base outer g) (T : Top hd.view_39 (looseW hd.view_39 []) mean mg mb g) (hdp : dp + 10 < recursionLimit) (hun : un + 100 < cLine)
    (F : Fr g L s.heap (kstB u [("codes", .ref ca), ("alike", .int al t1), ("balanced", .bool (balF cs))])) (N : News g L s.heap [(fl, listOf yq.toArray nD), (ca, listOf us.toArray 0), (L + 1 + 1 + 1 + 1, o4)])
    (ho4 : o4.data = .cell (some (.ref fl)))
    (hI : IntsAre us cs) (h2 : 2 ≤ cs.length) (h8 : cs.length ≤ 8) (h6 : ∀ i, i < cs.length → 0 ≤ cs.getD i 0 ∧ cs.getD i 0 < 6) (hca : @LT.lt Nat _ (L + 1 + 1 + 1 + 1) ca) (hfl : @Ne Nat fl (L + 1 + 1 + 1 + 1))
    (hY : IntsAre yq (fsF cs)) (hf2 : 2 ≤ (fsF cs).length ∧ (fsF cs).length ≤ 8) (hal : al = alikeF cs) (PL : Plain cs)
    (hret : ∀ h' tk' m', Fr g L h' m' → Q (.ret (.bool true)) { s with heap := h', toks := tk' }) :
    wpAny (model PySem.Challenge.rw_nq0050_01.row.prog w) ((topA dp un gd outer).deeper (lawEnv w.params L fa cd)) (execs ((bodyOf (fnAt 73 w.params)).drop 13) (lawEnv w.params L fa cd)) Q (fun _ _ => False) s := by
  revert X
  k_fill
  intro X
  obtain ⟨d, hd0⟩ : ∃ d, fnAt 73 w.params = d := ⟨_, rfl⟩
  have hd1 := hd0
  conv at hd1 => lhs; whnf
  unfold lawEnv
  rw [hd0, ← hd1]
  clear hd0 hd1 d
  dsimp only [bodyOf, List.drop]
  have hlen := hI.length
  have hyl := hY.length
  have hst : stF cs = (List.map (fun k' => ((fsF cs).getD (k' + 1).toNat 0 - (fsF cs).getD k'.toNat 0).fmod (fsF cs).length) (rangeKs 0 (((fsF cs).length : Int) - 1 - 0).toNat)) := by
    unfold stF rangeKs
    rw [List.map_map, show (((fsF cs).length : Int) - 1 - 0).toNat = (fsF cs).length - 1 by omega]
    refine List.map_congr_left fun k _ => ?_
    show _ = ((fsF cs).getD ((0 + (k : Int)) + 1).toNat 0 - (fsF cs).getD (0 + (k : Int)).toNat 0).fmod (fsF cs).length
    rw [Int.fmod_eq_emod_of_nonneg _ (by omega), show ((0 + (k : Int)) + 1).toNat = k + 1 by omega, show (0 + (k : Int)).toNat = k by omega]
  generalize hfss : fsF cs = fs at *
  generalize hbl : balF cs = bl at *
  k_steps
  rename Fr g L _ _ => F4
  rename News g L _ _ => N4
  rename_i hI8 hL8 D4 h4 tk4 hne4
  rw [← hst] at hI8
  refine clean [("codes", .ref ca), ("alike", .int al t1), ("balanced", .bool bl), ("steps", .ref D4)] F4 (has_cons rfl (has_cons rfl (has_cons rfl (has_cons rfl has_nil)))) ?_
  intro u5 F5
  subst hfss hbl
  exact law_st14 w mean mg mb dp un gd outer base g L fa cd u5 _ o4 ca fl D4 us yq ys nD cs t1 al Q X B T hdp hun F5 N4 ho4 hI h2 h8 h6 hca hfl hY hf2 hI8 hal PL (fun h' tk' m' F' => hret h' tk' m' F')
end Mine

end
section
theorem Mine.freshW12 : True := by
  w_top off
  trivial
open PySem PySem.W PyProof.Rows PySem.Calls
namespace Mine

local macro_rules | `(tactic| k_steps) => `(tactic| repeat' (first
  | ((fail_if_success (with_reducible show wpAny _ _ (eval (Expr.ListComp _ _ _ _) _) _ _ _)); (fail_if_success (with_reducible show wpAny _ _ (execs (Stmt.Assign [Expr.Name (Str.ofString "steps") _] _ _ :: _) _) _ _ _)); (fail_if_success (with_reducible show wpAny _ _ (pyIter _) _ _ _)); first
    | (k_unfold; (try dsimp only)) | (k_end; wrow_close) | (dsimp only; walk1) | walk1 | (leave1; walk_say "STEP leave1"; try dsimp only)) | fail "no step"))

local macro_rules | `(tactic| k_all) => `(tactic| assumption)
/-- a list of ints by its items -/
theorem ints_of : ∀ (ys : List Value) (ns : List Int), ys.length = ns.length → (∀ (j : Nat) (v : Value), ys[j]? = some v → ∃ t, v = Value.int (ns.getD j 0) t) → IntsAre ys ns
  | [], [], _, _ => .nil
  | [], _ :: _, h, _ => by simp at h
  | _ :: _, [], h, _ => by simp at h
  | y :: ys, n :: ns, h, hv => by
    obtain ⟨t, rfl⟩ := hv 0 y rfl
    exact .cons n t (ints_of ys ns (by simpa using h) fun j v e => hv (j + 1) v e)
theorem paired_at {R : Value → Value → Prop} {l₁ l₂ : List Value} (h : Paired R l₁ l₂) : l₁.length = l₂.length ∧ ∀ (j : Nat) (y : Value), l₂[j]? = some y → ∃ v, l₁[j]? = some v ∧ R v y := by
  induction h with
  | nil => exact ⟨rfl, fun j y e => by simp at e⟩
  | cons e _ ih =>
    refine ⟨by simp [ih.1], fun j y e' => ?_⟩
    cases j with
    | zero => simp at e'; exact ⟨_, rfl, e' ▸ e⟩
    | succ j => exact ih.2 j y (by simpa using e')
theorem range_al : ∀ n : Nat, n ≤ 8 → ∀ a : Nat, a ≤ 8 → 1 ≤ a → n % a = 0 → Builtin.Range.small 0 n a = true ∧ Builtin.Range.rangeSize 0 n a = ((n / a : Nat) : Int) ∧ (2 * a ≤ n → 2 ≤ n / a) ∧ ∀ i : Nat, i < n / a → i * a < n := by
  intro n hn a ha h1 hm
  refine ⟨?_, ?_, ?_, ?_⟩
  · revert n a; decide
  · revert n a; decide
  · intro h2
    exact (Nat.le_div_iff_mul_le (by omega)).mpr h2
  · intro i hi
    have h3 : (i + 1) * a ≤ n := (Nat.le_div_iff_mul_le (by omega)).mp hi
    rw [Nat.add_mul] at h3
    omega

theorem law_st12 (w : World) (mean : ExcName → Option Value) (mg mb : Str → Option Value) (dp un : Nat) (gd : Option (List Code)) (outer : List Env) (base g : Heap) (L fa : Addr) (cd : Value) (u : Str → Option Value) (s : Shared) (o2 o3 o4 : Obj) (ca ta pa : Addr) (us zs ws : List Value) (k1 k2 : Nat) (cs : List Int) (t1 t2 t3 : Tok) (al : Nat) (Q : Flow → Shared → Prop)
    (X : (hd.heap_39 w.params).In g) (B : Below (topA dp un gd outer) base outer g) (T : Top hd.view_39 (looseW hd.view_39 []) mean mg mb g) (hdp : dp + 10 < recursionLimit) (hun : un + 100 < cLine)
    (F : Fr g L s.heap (kstB u [("codes", .ref ca), ("alike", .int al t1), ("due", .int (2 * ((cs.length : Int) - al)) t2), ("apart", .int (apartF cs (cs.length - 1)) t3), ("balanced", .bool (balF cs))])) (N : News g L s.heap [(pa, listOf ws.toArray k2), (ta, listOf zs.toArray k1), (ca, listOf us.toArray 0), (L + 1 + 1 + 1 + 1, o4), (L + 1 + 1 + 1, o3), (L + 1 + 1, o2)])
    (ho2 : o2.data = .cell (some (.ref ta))) (ho3 : o3.data = .cell (some (.ref pa))) (ho4 : o4.data = .cell none)
    (hI : IntsAre us cs) (h2 : 2 ≤ cs.length) (h8 : cs.length ≤ 8) (h6 : ∀ i, i < cs.length → 0 ≤ cs.getD i 0 ∧ cs.getD i 0 < 6) (hca : @LT.lt Nat _ (L + 1 + 1 + 1 + 1) ca) (hpa : @Ne Nat pa (L + 1 + 1 + 1 + 1)) (hta : @Ne Nat ta (L + 1 + 1 + 1 + 1))
    (hZ : StrsAre zs ((ord cs).map (txI cs))) (hW : IntsAre ws (ord cs)) (hal : al = alikeF cs) (PL : Plain cs)
    (hret : ∀ h' tk' m', Fr g L h' m' → Q (.ret (.bool true)) { s with heap := h', toks := tk' }) :
    wpAny (model PySem.Challenge.rw_nq0050_01.row.prog w) ((topA dp un gd outer).deeper (lawEnv w.params L fa cd)) (execs ((bodyOf (fnAt 73 w.params)).drop 12) (lawEnv w.params L fa cd)) Q (fun _ _ => False) s := by
  revert X
  k_fill
  intro X
  obtain ⟨d, hd0⟩ : ∃ d, fnAt 73 w.params = d := ⟨_, rfl⟩
  have hd1 := hd0
  conv at hd1 => lhs; whnf
  unfold lawEnv
  rw [hd0, ← hd1]
  clear hd0 hd1 d
  dsimp only [bodyOf, List.drop]
  have hlen := hI.length
  have hzl : zs.length = cs.length := by rw [hZ.length, List.length_map, ord_len]
  have hol := ord_len cs
  have PD := PL.div
  rw [← hal] at PD
  obtain ⟨hd1', hd2', hd3'⟩ := PD
  obtain ⟨hr1, hr2, hr3, hr4⟩ := range_al cs.length h8 al (by omega) hd2' hd1'
  have hfs : fsF cs = (List.range (cs.length / al)).map fun j => (ord cs).getD (j * al) 0 := by unfold fsF; rw [← hal]
  generalize hos : ord cs = os at *
  generalize hbl : balF cs = bl at *
  k_steps
  refine wpAny_ListComp_free (fun _ => true) (fun v y => ∃ (x : Int) (t t' : Tok), v = .int x t ∧ y = .int (os.getD x.toNat 0) t') (by with_unfolding_all rfl) (by decide) (by rfl) (by decide) (by rfl) ?_ (fun _ => rfl)
  k_steps
  rename IsRange _ _ _ _ _ _ _ _ => R2
  rename Fr g L _ _ => F2
  rename News g L _ _ => N2
  rename_i h1 tk1 _ _ _ _
  have hlp : Heap.IsList h1 pa ws.toArray := PySem.IsL.isList (n := k2) (N2 _ (.head _)).1
  refine wpAny_pyIter_range R2 hr1 ?_
  have up : ∀ (ob : Obj) b o, h1.get? b = some o → (h1.push ob).get? b = some o := fun ob b o e => Heap.get?_push_of_some _ e
  have ne_of : ∀ b o, h1.get? b = some o → b ∉ [h1.objs.size] := fun b o e hb => absurd (Heap.lt_size e) (by rw [List.mem_singleton.mp hb]; exact Nat.lt_irrefl _)
  refine ⟨h1.objs.size, [h1.objs.size], [h1.objs.size], cs.length / al, _, _, rfl, (Walks.range rfl h1.objs.size 0 al (cs.length / al)).bound, by rw [sizeLine_eq]; have := Nat.div_le_self cs.length al; omega, (by show IsRangeIter _ _ _ _ _; rw [hr2]; simpa using Heap.get?_push_size _ rfl), ?_, ⟨?_, ?_⟩, ?_⟩
  · intro b hb
    rw [List.mem_singleton.mp hb]
    show _ < (h1.push _).objs.size
    rw [Heap.size_push]
    exact Nat.lt_succ_self _
  · intro C i v s₃ m₃ E' hCle hP hns hmx hk htk
    exact wpAny_tests_nil ⟨rfl, _, _, rfl, fun _ _ e => e⟩
  · intro C i v s₃ m₃ E' hCle hP _ hns hmx hk htk
    obtain ⟨hi, tv, rfl⟩ := hP
    have old : ∀ b o, h1.get? b = some o → s₃.heap.get? b = some o := fun b o e => hk b o (ne_of b o e) (up _ b o e)
    have hib := hr4 i hi
    have hie : (0 : Int) + (i : Int) * (al : Int) = ((i * al : Nat) : Int) := by rw [Int.zero_add, Int.natCast_mul]
    k_dflt (refine Subscript_ (wpAny_Name (wpAny_loadName_cell rfl rfl rfl ⟨o3, old _ _ (N2 _ (.tail _ (.tail _ (.tail _ (.tail _ (.head _)))))).1, ho3⟩ (wpAny_Name (wpAny_loadName_local rfl rfl hns hmx ?_)))))
    k_dflt (refine item_list_ints (hlp.at fun o e => old _ _ e) hW (by rw [hie]; omega) (by rw [hol, hie]; omega) (by rw [hie]; omega) (fun t => ⟨⟨_, _, t, rfl, rfl⟩, _, _, rfl, fun _ _ e => e⟩) (by with_unfolding_all rfl))
  · intro D h' tk ys vs hD hl hpl hvl hvP hF hk
    have kp : ∀ b o, h1.get? b = some o → h'.get? b = some o := fun b o e => hk b o (ne_of b o e) (up _ b o e)
    obtain ⟨nD, hDo⟩ := hpl
    have hDn : h1.get? D = none := by
      cases e : h1.get? D with
      | none => rfl
      | some o => rw [up _ D o e] at hD; cases hD
    have F3 := F2.keeps kp
    have hDL : D ≠ L := by
      rintro rfl
      obtain ⟨oL, _, _, e, _⟩ := F2.ns
      rw [hDn] at e; cases e
    have hDg : g.get? D = none := by
      cases e : g.get? D with
      | none => rfl
      | some o => rw [F2.keep D o e] at hDn; cases hDn
    have N3 : News g L h' ((D, listOf ys.toList.toArray nD) :: [(pa, listOf ws.toArray k2), (ta, listOf zs.toArray k1), (ca, listOf us.toArray 0), (L + 1 + 1 + 1 + 1, o4), (L + 1 + 1 + 1, o3), (L + 1 + 1, o2)]) := fun p hp => by
      rcases List.mem_cons.mp hp with rfl | hp
      · exact ⟨by simpa using hDo, hDL, hDg⟩
      · exact ⟨kp _ _ (N2 p hp).1, (N2 p hp).2⟩
    have hDne : @Ne Nat D (L + 1 + 1 + 1 + 1) := fun e => by
      have e' : D = L + 1 + 1 + 1 + 1 := e
      have := (N2 _ (.tail _ (.tail _ (.tail _ (.head _))))).1
      rw [← e', hDn] at this; cases this
    obtain ⟨hpl1, hpl2⟩ := paired_at hF
    have hft : ∀ l : List Value, l.filter (fun _ => true) = l := fun l => List.filter_eq_self.mpr fun _ _ => rfl
    rw [hft] at hpl1 hpl2
    have hYI : IntsAre ys.toList (fsF cs) := by
      rw [hfs]
      refine ints_of _ _ (by rw [← hpl1, hvl, List.length_map, List.length_range]) fun j y e => ?_
      obtain ⟨v, e1, x, t, t', e2, e3⟩ := hpl2 j y e
      obtain ⟨hj, tj, e4⟩ := hvP j v e1
      rw [e2] at e4
      injection e4 with e4 _
      have hie : (0 : Int) + (j : Int) * (al : Int) = ((j * al : Nat) : Int) := by rw [Int.zero_add, Int.natCast_mul]
      rw [hie] at e4
      have hg : (List.map (fun j => os.getD (j * al) 0) (List.range (cs.length / al))).getD j 0 = os.getD (j * al) 0 := by
        rw [List.getD_eq_getElem?_getD, List.getElem?_map, List.getElem?_range hj]
        rfl
      exact ⟨t', by rw [e3, e4, Int.toNat_natCast, hg]⟩
    have hfl : (fsF cs).length = cs.length / al := by rw [hfs]; simp
    generalize hfss : fsF cs = fs at *
    clear F2 N2
    generalize hysn : ys.toList = yl at *
    have hyll := hYI.length
    have hfl8 := Nat.div_le_self cs.length al
    k_steps
    rename Fr g L _ _ => F4
    rename News g L _ _ => N4
    rename_i hd4
    subst hysn hfss hos hbl
    refine clean [("codes", .ref ca), ("alike", .int al t1), ("balanced", .bool (balF cs))] F4 (has_cons rfl (has_cons rfl (has_cons rfl has_nil))) ?_
    intro u5 F5
    exact law_st13 w mean mg mb dp un gd outer base g L fa cd u5 _ _ ca D us _ nD cs t1 al Q X B T hdp hun F5 (fun p hp => N4 p (by
      simp only [List.mem_cons] at hp ⊢
      rcases hp with h | h | h | h
      · exact .inl h
      · exact .inr (.inr (.inr (.inl h)))
      · exact .inr (.inr (.inr (.inr (.inl h))))
      · cases h)) hd4 hI h2 h8 h6 hca hDne hYI (by omega) hal PL (fun h' tk' m' F' => hret h' tk' m' F')
end Mine

end
section
theorem Mine.freshW11 : True := by
  w_top off
  trivial
open PySem PySem.W PyProof.Rows PySem.Calls
namespace Mine

local macro_rules | `(tactic| k_steps) => `(tactic| repeat' (first
  | ((fail_if_success (with_reducible show wpAny _ _ (execs (Stmt.Assign _ (Expr.ListComp _ _ _ _) _ :: _) _) _ _ _)); (fail_if_success (with_reducible show wpAny _ _ (eval (Expr.ListComp _ _ _ _) _) _ _ _)); (fail_if_success (with_reducible show wpAny _ _ (pyIter _) _ _ _)); (fail_if_success (with_reducible show wpAny _ _ (call (Value.ref _) _) _ _ _)); first
    | (k_unfold; (try dsimp only)) | (k_end; wrow_close) | (dsimp only; walk1) | walk1 | (leave1; walk_say "STEP leave1"; try dsimp only)) | fail "no step"))

theorem law_st11 (w : World) (mean : ExcName → Option Value) (mg mb : Str → Option Value) (dp un : Nat) (gd : Option (List Code)) (outer : List Env) (base g : Heap) (L fa : Addr) (cd : Value) (u : Str → Option Value) (s : Shared) (o2 o3 o4 : Obj) (ca ta pa : Addr) (us zs ws : List Value) (k1 k2 : Nat) (cs : List Int) (t1 t2 t3 : Tok) (al : Nat) (Q : Flow → Shared → Prop)
    (X : (hd.heap_39 w.params).In g) (B : Below (topA dp un gd outer) base outer g) (T : Top hd.view_39 (looseW hd.view_39 []) mean mg mb g) (hdp : dp + 10 < recursionLimit) (hun : un + 100 < cLine)
    (F : Fr g L s.heap (kstB u [("codes", .ref ca), ("alike", .int al t1), ("due", .int (2 * ((cs.length : Int) - al)) t2), ("apart", .int (apartF cs (cs.length - 1)) t3), ("balanced", .bool (balF cs))])) (N : News g L s.heap [(pa, listOf ws.toArray k2), (ta, listOf zs.toArray k1), (ca, listOf us.toArray 0), (L + 1 + 1 + 1 + 1, o4), (L + 1 + 1 + 1, o3), (L + 1 + 1, o2)])
    (ho2 : o2.data = .cell (some (.ref ta))) (ho3 : o3.data = .cell (some (.ref pa))) (ho4 : o4.data = .cell none)
    (hI : IntsAre us cs) (h2 : 2 ≤ cs.length) (h8 : cs.length ≤ 8) (h6 : ∀ i, i < cs.length → 0 ≤ cs.getD i 0 ∧ cs.getD i 0 < 6) (hca : @LT.lt Nat _ (L + 1 + 1 + 1 + 1) ca) (hpa : @Ne Nat pa (L + 1 + 1 + 1 + 1)) (hta : @Ne Nat ta (L + 1 + 1 + 1 + 1))
    (hZ : StrsAre zs ((ord cs).map (txI cs))) (hW : IntsAre ws (ord cs)) (hal : al = alikeF cs) (PL : Plain cs)
    (hret : ∀ h' tk' m', Fr g L h' m' → Q (.ret (.bool true)) { s with heap := h', toks := tk' }) :
    wpAny (model PySem.Challenge.rw_nq0050_01.row.prog w) ((topA dp un gd outer).deeper (lawEnv w.params L fa cd)) (execs ((bodyOf (fnAt 73 w.params)).drop 11) (lawEnv w.params L fa cd)) Q (fun _ _ => False) s := by
  revert X
  k_fill
  intro X
  obtain ⟨d, hd0⟩ : ∃ d, fnAt 73 w.params = d := ⟨_, rfl⟩
  have hd1 := hd0
  conv at hd1 => lhs; whnf
  unfold lawEnv
  rw [hd0, ← hd1]
  clear hd0 hd1 d
  dsimp only [bodyOf, List.drop]
  have hlen := hI.length
  have hzl : zs.length = cs.length := by rw [hZ.length, List.length_map, ord_len]
  have hol := ord_len cs
  have PP := PL.perm
  have PE := PL.least
  have PJ := PL.just
  rw [← hal] at PE PJ
  generalize hos : ord cs = os at *
  generalize hapt : apartF cs (cs.length - 1) = ap at *
  generalize hbl : balF cs = bl at *
  k_steps
  rename IsRange _ _ _ _ _ _ _ _ => R2
  rename Fr g L _ _ => F2
  rename News g L _ _ => N2
  rename List.Perm _ _ => p0
  rename List.Pairwise _ _ => o0
  rename List Int => ns'
  refine list_rng (n := cs.length) rfl F2 N2 R2 (small_one (by omega) (by omega) (by omega) (by omega)) (by rw [rangeSize_one]; omega) (by omega) ?_
  clear R2 F2 N2
  intro l h2 tk2 vs kk F2 N2 hne hI2
  have he := lks_uniq (p0.trans PP) o0 (by
    rw [List.pairwise_map]
    exact List.Pairwise.imp (fun {a b} h => by omega) (List.pairwise_lt_range))
  rw [← he] at hI2
  k_steps
  · rename_i hcmp
    exfalso
    have e : (ap == 2 * ((cs.length : Int) - al)) = bl := PJ
    rw [e] at hcmp
    cases bl <;> simp at hcmp
  · dsimp only
    rename Fr g L _ _ => F4
    rename News g L _ _ => N4
    subst hos hapt hbl
    exact law_st12 w mean mg mb dp un gd outer base g L fa cd u _ o2 o3 o4 ca ta pa us zs ws k1 k2 cs t1 t2 t3 al Q X B T hdp hun F4 (fun p hp => N4 p (.tail _ (.tail _ hp))) ho2 ho3 ho4 hI (by assumption) h8 h6 hca hpa hta hZ hW hal PL (fun h' tk' m' F' => hret h' tk' m' F')
end Mine

end
section
theorem Mine.freshW9 : True := by
  w_top off
  trivial
open PySem PySem.W PyProof.Rows PySem.Calls
namespace Mine

local macro_rules | `(tactic| k_steps) => `(tactic| repeat' (first
  | ((fail_if_success (with_reducible show wpAny _ _ (exec (Stmt.For _ _ _ _ _) _) _ _ _)); (fail_if_success (with_reducible show wpAny _ _ (execs (Stmt.If _ _ _ _ :: _) _) _ _ _)); (fail_if_success (with_reducible show wpAny _ _ (eval (Expr.ListComp _ _ _ _) _) _ _ _)); (fail_if_success (with_reducible show wpAny _ _ (pyIter _) _ _ _)); (fail_if_success (with_reducible show wpAny _ _ (call (Value.ref _) _) _ _ _)); first
    | (k_unfold; (try dsimp only)) | (k_end; wrow_close) | (dsimp only; walk1) | walk1 | (leave1; walk_say "STEP leave1"; try dsimp only)) | fail "no step"))

theorem law_st9 (w : World) (mean : ExcName → Option Value) (mg mb : Str → Option Value) (dp un : Nat) (gd : Option (List Code)) (outer : List Env) (base g : Heap) (L fa : Addr) (cd : Value) (u : Str → Option Value) (s : Shared) (o2 o3 o4 : Obj) (ca ta pa : Addr) (us zs ws : List Value) (k1 k2 : Nat) (cs : List Int) (t1 t2 t3 : Tok) (al : Nat) (Q : Flow → Shared → Prop)
    (X : (hd.heap_39 w.params).In g) (B : Below (topA dp un gd outer) base outer g) (T : Top hd.view_39 (looseW hd.view_39 []) mean mg mb g) (hdp : dp + 10 < recursionLimit) (hun : un + 100 < cLine)
    (F : Fr g L s.heap (kstB u [("codes", .ref ca), ("alike", .int al t1), ("due", .int (2 * ((cs.length : Int) - al)) t2), ("apart", .int 0 t3)])) (N : News g L s.heap [(pa, listOf ws.toArray k2), (ta, listOf zs.toArray k1), (ca, listOf us.toArray 0), (L + 1 + 1 + 1 + 1, o4), (L + 1 + 1 + 1, o3), (L + 1 + 1, o2)])
    (ho2 : o2.data = .cell (some (.ref ta))) (ho3 : o3.data = .cell (some (.ref pa))) (ho4 : o4.data = .cell none)
    (hI : IntsAre us cs) (h2 : 2 ≤ cs.length) (h8 : cs.length ≤ 8) (h6 : ∀ i, i < cs.length → 0 ≤ cs.getD i 0 ∧ cs.getD i 0 < 6) (hca : @LT.lt Nat _ (L + 1 + 1 + 1 + 1) ca) (hpa : @Ne Nat pa (L + 1 + 1 + 1 + 1)) (hta : @Ne Nat ta (L + 1 + 1 + 1 + 1))
    (hZ : StrsAre zs ((ord cs).map (txI cs))) (hW : IntsAre ws (ord cs)) (hal : al = alikeF cs) (PL : Plain cs)
    (hret : ∀ h' tk' m', Fr g L h' m' → Q (.ret (.bool true)) { s with heap := h', toks := tk' }) :
    wpAny (model PySem.Challenge.rw_nq0050_01.row.prog w) ((topA dp un gd outer).deeper (lawEnv w.params L fa cd)) (execs ((bodyOf (fnAt 73 w.params)).drop 9) (lawEnv w.params L fa cd)) Q (fun _ _ => False) s := by
  revert X
  k_fill
  intro X
  obtain ⟨d, hd0⟩ : ∃ d, fnAt 73 w.params = d := ⟨_, rfl⟩
  have hd1 := hd0
  conv at hd1 => lhs; whnf
  unfold lawEnv
  rw [hd0, ← hd1]
  clear hd0 hd1 d
  dsimp only [bodyOf, List.drop]
  have hlen := hI.length
  have hzl : zs.length = cs.length := by rw [hZ.length, List.length_map, ord_len]
  generalize hss : (ord cs).map (txI cs) = ss at hZ
  have hsl : ss.length = cs.length := by rw [← hss, List.length_map, ord_len]
  have hsg : ∀ i, i < cs.length → ss.getD i Str.empty = tx (txt cs ((ord cs).getD i 0).toNat) := fun i hi => by
    rw [← hss, List.getD_eq_getElem?_getD, List.getElem?_map, List.getD_eq_getElem?_getD]
    rw [List.getElem?_eq_getElem (by rw [ord_len]; exact hi)]
    rfl
  k_steps
  refine wpAny_For ?_ (fun _ => rfl)
  k_steps
  rename IsRange _ _ _ _ _ _ _ _ => R2
  rename Fr g L _ _ => F2
  rename News g L _ _ => N2
  refine foG (σ := Int × Tok) (n := cs.length - 1) (fun _ => [(pa, listOf ws.toArray k2), (ta, listOf zs.toArray k1), (ca, listOf us.toArray 0), (L + 1 + 1 + 1 + 1, o4), (L + 1 + 1 + 1, o3), (L + 1 + 1, o2)]) (fun c => [("codes", .ref ca), ("alike", .int al t1), ("due", .int (2 * ((cs.length : Int) - al)) t2), ("apart", .int c.1 c.2)])
    (fun i c => c.1 = apartF cs i)
    (0, t3) rfl R2 (small_one (by omega) (by omega) (by omega) (by omega)) (by rw [rangeSize_one]; omega) F2 N2 (has_cons rfl (has_cons rfl (has_cons rfl (has_cons rfl has_nil)))) rfl ?_ ?_
  · clear R2 F2 N2
    rintro i ⟨ap, tp⟩ ti u h tk I oI hi _ hoff hap F2 N2
    dsimp only at hap F2
    rw [Int.zero_add]
    k_steps
    rename Fr g L _ _ => F3
    rename News g L _ _ => N3
    simp only [Int.toNat_natCast, show ((i : Int) + 1).toNat = i + 1 from rfl]
    rw [hsg i (by omega), hsg (i + 1) (by omega)]
    (with_unfolding_all refine spc_use (lev_spec w mean mg mb ((I, oI) :: (pa, listOf ws.toArray k2) :: (ta, listOf zs.toArray k1) :: (ca, listOf us.toArray 0) :: (L + 1 + 1 + 1 + 1, o4) :: (L + 1 + 1 + 1, o3) :: (L + 1 + 1, o2) :: []) (txt cs ((ord cs).getD i 0).toNat) (txt cs ((ord cs).getD (i + 1) 0).toNat) _ _ _ (cs.length : Nat) (by rw [txt_len]; exact h8) (txt_twin h8 h6 _ _) (by rw [txt_len])) B F3 X N3 T rfl (by simp only [depth_deeper] at *; omega) (by simp only [units_deeper] at *; omega) ?_)
    clear F3 N3
    rintro _ _ h4 tk4 ⟨rfl, t4, rfl⟩ F4 N4
    rw [txt_len]
    k_steps
    rename Fr g L _ _ => F5
    rename News g L _ _ => N5
    refine GPost.next (ap + (hamTo (txt cs ((ord cs).getD i 0).toNat) (txt cs ((ord cs).getD (i + 1) 0).toNat) cs.length : Nat), _) F5 N5 (fun q hq => .tail _ hq) (.head _) hoff (has_cons rfl (has_cons rfl (has_cons rfl (has_cons rfl has_nil)))) ?_
    dsimp only
    rw [apartF, hap]
  · clear R2 F2 N2
    rintro ⟨ap, tp⟩ u h tk hap F2 N2
    dsimp only at hap F2
    dsimp only
    k_steps
    rename Fr g L _ _ => F3
    rename News g L _ _ => N3
    (with_unfolding_all refine spc_use (bal_spec w mean mg mb ((pa, listOf ws.toArray k2) :: (ta, listOf zs.toArray k1) :: (L + 1 + 1 + 1 + 1, o4) :: (L + 1 + 1 + 1, o3) :: (L + 1 + 1, o2) :: []) ca us 0 cs hI (by omega) (by omega) h6) B F3 X ?N T rfl (by simp only [depth_deeper] at *; omega) (by simp only [units_deeper] at *; omega) ?_)
    case N =>
      refine fun p hp => N3 p ?_
      simp only [List.mem_cons] at hp ⊢
      rcases hp with h | h | h | h
      · exact .inr (.inr (.inl h))
      · exact .inl h
      · exact .inr (.inl h)
      · exact .inr (.inr (.inr h))
    clear F3 N3
    rintro _ _ h4 tk4 ⟨rfl, rfl⟩ F4 N4
    replace N4 : News g L h4 ((pa, listOf ws.toArray k2) :: (ta, listOf zs.toArray k1) :: (ca, listOf us.toArray 0) :: (L + 1 + 1 + 1 + 1, o4) :: (L + 1 + 1 + 1, o3) :: (L + 1 + 1, o2) :: []) := by
      refine fun p hp => N4 p ?_
      simp only [List.mem_cons] at hp ⊢
      rcases hp with h | h | h | h
      · exact .inr (.inl h)
      · exact .inr (.inr (.inl h))
      · exact .inl h
      · exact .inr (.inr (.inr h))
    k_steps
    rename Fr g L _ _ => F5
    rename News g L _ _ => N5
    refine clean [("codes", .ref ca), ("alike", .int al t1), ("due", .int (2 * ((cs.length : Int) - al)) t2), ("apart", .int ap tp), ("balanced", .bool (balF cs))] F5 (has_cons rfl (has_cons rfl (has_cons rfl (has_cons rfl (has_cons rfl has_nil))))) ?_
    intro u6 F6
    subst hss hap
    exact law_st11 w mean mg mb dp un gd outer base g L fa cd u6 _ o2 o3 o4 ca ta pa us zs ws k1 k2 cs t1 t2 tp al Q X B T hdp hun F6 N5 ho2 ho3 ho4 hI h2 h8 h6 hca hpa hta hZ hW hal PL (fun h' tk' m' F' => hret h' tk' m' F')
end Mine

end
section
theorem Mine.freshW6 : True := by
  w_top off
  trivial
open PySem PySem.W PyProof.Rows PySem.Calls
namespace Mine

local macro_rules | `(tactic| k_steps) => `(tactic| repeat' (first
  | ((fail_if_success (with_reducible show wpAny _ _ (execs (Stmt.For _ _ _ _ _ :: _) _) _ _ _)); (fail_if_success (with_reducible show wpAny _ _ (eval (Expr.ListComp _ _ _ _) _) _ _ _)); (fail_if_success (with_reducible show wpAny _ _ (pyIter _) _ _ _)); (fail_if_success (with_reducible show wpAny _ _ (call (Value.ref _) _) _ _ _)); first
    | (k_unfold; (try dsimp only)) | (k_end; wrow_close) | (dsimp only; walk1) | walk1 | (leave1; walk_say "STEP leave1"; try dsimp only)) | fail "no step"))

/-- is it that text -/
def isT (x : Str) : Value → Bool
  | .str y _ => y == x
  | _ => false
theorem strs_at {x : Nat} : ∀ {vs : List Value} {ss : List Str}, StrsAre vs ss → ∀ (i : Nat) {v : Value}, vs[i]? = some v → ∃ t, v = .str (ss.getD i Str.empty) t ∧ i < ss.length
  | _, _, .nil, i, v, h => by simp at h
  | _, _, .cons y t h', 0, v, h => ⟨t, by simp at h; rw [← h]; rfl, by simp⟩
  | _, _, .cons y t h', i + 1, v, h => by
    obtain ⟨t', e, hi⟩ := strs_at (x := x) h' i (by simpa using h)
    exact ⟨t', by rw [e]; rfl, by simp; omega⟩
theorem paired_eq {l₁ l₂ : List Value} (h : Paired (fun v y => y = v) l₁ l₂) : l₂ = l₁ := by
  induction h with
  | nil => rfl
  | cons e _ ih => rw [e, ih]
theorem filter_strs (x : Str) : ∀ {vs : List Value} {ss : List Str}, StrsAre vs ss → (vs.filter (isT x)).length = (ss.filter (· == x)).length
  | _, _, .nil => rfl
  | _, _, .cons y t h => by
    have ih := filter_strs x h
    rw [List.filter_cons, List.filter_cons]
    show (if (y == x) = true then _ else _ : List Value).length = _
    split <;> simp [ih]

theorem law_st6 (w : World) (mean : ExcName → Option Value) (mg mb : Str → Option Value) (dp un : Nat) (gd : Option (List Code)) (outer : List Env) (base g : Heap) (L fa : Addr) (cd : Value) (u : Str → Option Value) (s : Shared) (o2 o3 o4 : Obj) (ca ta pa : Addr) (us zs ws : List Value) (k1 k2 : Nat) (cs : List Int) (Q : Flow → Shared → Prop)
    (X : (hd.heap_39 w.params).In g) (B : Below (topA dp un gd outer) base outer g) (T : Top hd.view_39 (looseW hd.view_39 []) mean mg mb g) (hdp : dp + 10 < recursionLimit) (hun : un + 100 < cLine)
    (F : Fr g L s.heap (kstB u [("codes", .ref ca)])) (N : News g L s.heap [(pa, listOf ws.toArray k2), (ta, listOf zs.toArray k1), (ca, listOf us.toArray 0), (L + 1 + 1 + 1 + 1, o4), (L + 1 + 1 + 1, o3), (L + 1 + 1, o2)])
    (ho2 : o2.data = .cell (some (.ref ta))) (ho3 : o3.data = .cell (some (.ref pa))) (ho4 : o4.data = .cell none)
    (hI : IntsAre us cs) (h2 : 2 ≤ cs.length) (h8 : cs.length ≤ 8) (h6 : ∀ i, i < cs.length → 0 ≤ cs.getD i 0 ∧ cs.getD i 0 < 6) (hca : @LT.lt Nat _ (L + 1 + 1 + 1 + 1) ca) (hpa : @Ne Nat pa (L + 1 + 1 + 1 + 1)) (hta : @Ne Nat ta (L + 1 + 1 + 1 + 1))
    (hZ : StrsAre zs ((ord cs).map (txI cs))) (hW : IntsAre ws (ord cs)) (PL : Plain cs)
    (hret : ∀ h' tk' m', Fr g L h' m' → Q (.ret (.bool true)) { s with heap := h', toks := tk' }) :
    wpAny (model PySem.Challenge.rw_nq0050_01.row.prog w) ((topA dp un gd outer).deeper (lawEnv w.params L fa cd)) (execs ((bodyOf (fnAt 73 w.params)).drop 6) (lawEnv w.params L fa cd)) Q (fun _ _ => False) s := by
  revert X
  k_fill
  intro X
  obtain ⟨d, hd0⟩ : ∃ d, fnAt 73 w.params = d := ⟨_, rfl⟩
  have hd1 := hd0
  conv at hd1 => lhs; whnf
  unfold lawEnv
  rw [hd0, ← hd1]
  clear hd0 hd1 d
  dsimp only [bodyOf, List.drop]
  have hlen := hI.length
  have hzl : zs.length = cs.length := by rw [hZ.length, List.length_map, ord_len]
  generalize hss : (ord cs).map (txI cs) = ss at hZ
  have hsl : ss.length = cs.length := by rw [← hss, List.length_map, ord_len]
  k_steps
  refine wpAny_ListComp_free (isT (ss.getD 0 Str.empty)) (fun v y => y = v) (by with_unfolding_all rfl) (by decide) (by rfl) (by decide) (by rfl) ?_ (fun _ => rfl)
  k_steps
  rename Fr g L _ _ => F2
  rename News g L _ _ => N2
  have hlz : Heap.IsList _ ta zs.toArray := PySem.IsL.isList (n := k1) (N2 _ (.tail _ (.head _))).1
  refine wpAny_pyIter_list hlz ?_
  have hlt : @LT.lt Nat _ ta s.heap.objs.size := by obtain ⟨_, e, _⟩ := hlz; exact Heap.lt_size e
  have up : ∀ b o, s.heap.get? b = some o → (s.heap.push { cls := .type "list_iterator", data := .fields #[.ref ta, .int 0 0] }).get? b = some o := fun b o e => Heap.get?_push_of_some _ e
  have ne_of : ∀ b o, s.heap.get? b = some o → b ∉ [s.heap.objs.size] := fun b o e hb => absurd (Heap.lt_size e) (by rw [List.mem_singleton.mp hb]; exact Nat.lt_irrefl _)
  refine ⟨s.heap.objs.size, _, _, _, _, _, rfl, Walks.list rfl s.heap.objs.size ta (Nat.ne_of_lt hlt) zs.toArray, by rw [List.size_toArray, hzl, sizeLine_eq]; omega, ⟨⟨_, Heap.get?_push_size _ rfl, rfl, rfl⟩, hlz.push _⟩, ?_, ⟨?_, ?_⟩, ?_⟩
  · intro b hb
    show b < (s.heap.push _).objs.size
    rw [Heap.size_push]
    rcases List.mem_cons.mp hb with rfl | hb
    · exact Nat.lt_succ_self _
    · rw [List.mem_singleton.mp hb]; exact Nat.lt_succ_of_lt hlt
  · intro C i v s₃ m₃ E' hCle hP hns hmx hk htk
    obtain ⟨tv, rfl, hvi⟩ := strs_at (x := 0) hZ i (v := v) (by simpa using hP)
    have old : ∀ b o, s.heap.get? b = some o → s₃.heap.get? b = some o := fun b o e => hk b o (ne_of b o e) (up b o e)
    obtain ⟨t0, hz0⟩ : ∃ t0, zs[0]? = some (.str (ss.getD 0 Str.empty) t0) := by
      have h0 : 0 < zs.length := by omega
      obtain ⟨t0, e, _⟩ := strs_at (x := 0) hZ 0 (v := zs[0]) (by simp [h0])
      exact ⟨t0, by rw [List.getElem?_eq_getElem h0, e]⟩
    simp only [List.forIn_cons, List.forIn_nil, if_true]
    k_dflt (refine wpAny_bind (wpAny_bind (wpAny_isTrue_Compare1 (wpAny_Name (wpAny_loadName_local rfl rfl hns hmx (Subscript_ (wpAny_Name (wpAny_loadName_cell rfl rfl rfl ⟨o2, old _ _ (N2 _ (.tail _ (.tail _ (.tail _ (.tail _ (.tail _ (.head _))))))).1, ho2⟩ (wpAny_Constant_int ?_)))))))))
    k_dflt (refine item_litK (vs := zs) ?_ (by decide) (by decide) hz0 ?_ (by with_unfolding_all rfl))
    · exact hlz.at fun o e => old _ _ e
    · refine PyProof.Rows.eq_str (wpAny_truthy_bool ?_)
      exact wpAny_pure (wpAny_pure ⟨rfl, _, _, rfl, fun _ _ e => e⟩)
  · intro C i v s₃ m₃ E' hCle hP hpv hns hmx hk htk
    k_dflt (exact wpAny_Name (wpAny_loadName_local rfl rfl hns hmx ⟨rfl, _, _, rfl, fun _ _ e => e⟩))
  · intro D h' tk ys vs hD hl hpl hvl hvP hF hk
    have hvs : vs = zs := by
      rw [List.size_toArray] at hvl
      apply List.ext_getElem hvl
      intro j h1 h2
      have := hvP j vs[j] (by simp [h1])
      simp [h2] at this
      exact this.symm
    subst hvs
    have hys := paired_eq hF
    have hcnt := filter_strs (ss.getD 0 Str.empty) hZ
    rw [← hys] at hcnt
    have kp : ∀ b o, s.heap.get? b = some o → h'.get? b = some o := fun b o e => hk b o (ne_of b o e) (up b o e)
    obtain ⟨nD, hDo⟩ := hpl
    have hDn : s.heap.get? D = none := by
      cases e : s.heap.get? D with
      | none => rfl
      | some o => rw [up D o e] at hD; cases hD
    have F3 := F2.keeps kp
    have hDL : D ≠ L := by
      rintro rfl
      obtain ⟨oL, _, _, e, _⟩ := F2.ns
      rw [hDn] at e; cases e
    have hDg : g.get? D = none := by
      cases e : g.get? D with
      | none => rfl
      | some o => rw [F2.keep D o e] at hDn; cases hDn
    have N3 : News g L h' ((D, listOf ys.toList.toArray nD) :: [(pa, listOf ws.toArray k2), (ta, listOf vs.toArray k1), (ca, listOf us.toArray 0), (L + 1 + 1 + 1 + 1, o4), (L + 1 + 1 + 1, o3), (L + 1 + 1, o2)]) := fun p hp => by
      rcases List.mem_cons.mp hp with rfl | hp
      · exact ⟨by simpa using hDo, hDL, hDg⟩
      · exact ⟨kp _ _ (N2 p hp).1, (N2 p hp).2⟩
    clear F2 N2
    have hysl : ys.toList.length = (ss.filter (· == ss.getD 0 Str.empty)).length := hcnt
    have hfl : (ss.filter (· == ss.getD 0 Str.empty)).length ≤ cs.length := by rw [← hsl]; exact List.length_filter_le _ _
    generalize hal : (ss.filter (· == ss.getD 0 Str.empty)).length = al at hysl hfl hcnt
    k_steps
    refine kst_len (k := al) N3 (.head _) hysl (by omega) ?_
    k_steps
    rename Fr g L _ _ => F4
    rename News g L _ _ => N4
    refine clean [("codes", .ref ca), ("alike", .int al _), ("due", .int (2 * ((cs.length : Int) - al)) _), ("apart", .int 0 _)] F4 (has_cons rfl (has_cons rfl (has_cons rfl (has_cons rfl has_nil)))) ?_
    intro u6 F6
    subst hss
    exact law_st9 w mean mg mb dp un gd outer base g L fa cd u6 _ o2 o3 o4 ca ta pa us vs ws k1 k2 cs _ _ _ al Q X B T hdp hun F6 (fun p hp => N4 p (.tail _ hp)) ho2 ho3 ho4 hI h2 h8 h6 hca hpa hta hZ hW hal.symm PL (fun h' tk' m' F' => hret h' tk' m' F')
end Mine

end
section
theorem Mine.freshW4 : True := by
  w_top off
  trivial
open PySem PySem.W PyProof.Rows PySem.Calls
namespace Mine

local macro_rules | `(tactic| k_steps) => `(tactic| repeat' (first
  | ((fail_if_success (with_reducible show wpAny _ _ (exec (Stmt.For _ _ _ _ _) _) _ _ _)); (fail_if_success (with_reducible show wpAny _ _ (eval (Expr.ListComp _ _ _ _) _) _ _ _)); (fail_if_success (with_reducible show wpAny _ _ (execs (Stmt.Assign _ (Expr.Call _ [Expr.ListComp _ _ _ _] _ _) _ :: _) _) _ _ _)); (fail_if_success (with_reducible show wpAny _ _ (call (Value.ref _) _) _ _ _)); (fail_if_success (with_reducible show LCg.CompSrc _ _ _ _ _ _ _ _ _ _ _ _ _ _)); (fail_if_success (with_reducible show LCg.CompEnd _ _ _ _ _ _ _ _ _ _ _ _ _ _)); first
    | (k_unfold; (try dsimp only)) | (k_end; wrow_close) | (dsimp only; walk1) | walk1 | (leave1; walk_say "STEP leave1"; try dsimp only)) | fail "no step"))

local macro_rules | `(tactic| k_all) => `(tactic| assumption)
theorem strs_snoc {x : Str} {u : Tok} : ∀ {vs : List Value} {ns : List Str}, StrsAre vs ns → StrsAre (vs ++ [.str x u]) (ns ++ [x])
  | _, _, .nil => .cons x u .nil
  | _, _, .cons i t h => .cons i t (strs_snoc h)
theorem take_snoc {α : Type} (l : List Int) (f : Int → α) {i : Nat} (hi : i < l.length) : (l.take (i + 1)).map f = (l.take i).map f ++ [f (l.getD i 0)] := by
  rw [List.take_add_one, List.map_append, List.getD_eq_getElem?_getD, List.getElem?_eq_getElem hi]
  rfl

theorem law_st4 (w : World) (mean : ExcName → Option Value) (mg mb : Str → Option Value) (dp un : Nat) (gd : Option (List Code)) (outer : List Env) (base g : Heap) (L fa : Addr) (cd : Value) (u : Str → Option Value) (s : Shared) (o1 o2 o3 o4 : Obj) (ca da : Addr) (us ys : List Value) (n : Nat) (tl : List (Addr × Obj)) (cs : List Int) (Q : Flow → Shared → Prop)
    (X : (hd.heap_39 w.params).In g) (B : Below (topA dp un gd outer) base outer g) (T : Top hd.view_39 (looseW hd.view_39 []) mean mg mb g) (hdp : dp + 10 < recursionLimit) (hun : un + 100 < cLine)
    (F : Fr g L s.heap (kstB u [("codes", .ref ca), ("order", .ref da)])) (N : News g L s.heap ((da, listOf ys.toArray n) :: (ca, listOf us.toArray 0) :: (L + 1 + 1 + 1 + 1, o4) :: (L + 1 + 1 + 1, o3) :: (L + 1 + 1, o2) :: (L + 1, o1) :: tl))
    (ho2 : o2.data = .cell none) (ho3 : o3.data = .cell none) (ho4 : o4.data = .cell none)
    (hI : IntsAre us cs) (h2 : 2 ≤ cs.length) (h8 : cs.length ≤ 8) (h6 : ∀ i, i < cs.length → 0 ≤ cs.getD i 0 ∧ cs.getD i 0 < 6) (hca : @LT.lt Nat _ (L + 1 + 1 + 1 + 1) ca) (hda : @Ne Nat da (L + 1 + 1 + 1 + 1) ∧ @Ne Nat da (L + 1 + 1 + 1) ∧ @Ne Nat da (L + 1 + 1))
    (hA : TA tl (txI cs) ys (ord cs)) (htl : ∀ p ∈ tl, @LT.lt Nat _ ca p.1) (PL : Plain cs)
    (hret : ∀ h' tk' m', Fr g L h' m' → Q (.ret (.bool true)) { s with heap := h', toks := tk' }) :
    wpAny (model PySem.Challenge.rw_nq0050_01.row.prog w) ((topA dp un gd outer).deeper (lawEnv w.params L fa cd)) (execs ((bodyOf (fnAt 73 w.params)).drop 4) (lawEnv w.params L fa cd)) Q (fun _ _ => False) s := by
  revert X
  k_fill
  intro X
  obtain ⟨d, hd0⟩ : ∃ d, fnAt 73 w.params = d := ⟨_, rfl⟩
  have hd1 := hd0
  conv at hd1 => lhs; whnf
  unfold lawEnv
  rw [hd0, ← hd1]
  clear hd0 hd1 d
  dsimp only [bodyOf, List.drop]
  have hlen := hI.length
  have hyl : ys.length = cs.length := by rw [hA.1, ord_len]
  k_steps
  rename Fr g L _ _ => F2
  rename News g L _ _ => N2
  k_dflt (refine LCg.ListComp_U F2 (by with_unfolding_all rfl) (by decide) (by rfl) (by decide) (by rfl) ?_)
  k_steps
  refine LCg.CompSrc.ledger (its := ys.toArray) (k := n) rfl F2 N2 (.head _) (by rw [List.size_toArray, hyl, sizeLine_eq]; omega) ?_
  clear F2 N2
  intro g2
  have hsz : ys.toArray.size = cs.length := by rw [List.size_toArray, hyl]
  rw [hsz]
  refine comp_rest (fun i zs news => news = ((da, listOf ys.toArray n) :: (ca, listOf us.toArray 0) :: (L + 1 + 1 + 1 + 1, o4) :: (L + 1 + 1 + 1, o3) :: (L + 1 + 1, o2) :: (L + 1, o1) :: tl) ∧ StrsAre zs (((ord cs).take i).map (txI cs)))
    cs.length ?_ ?_ cs.length 0 [] _ (Nat.zero_add _) ⟨rfl, .nil⟩
  · rintro i zs news hi ⟨rfl, hZ⟩ v I oI C oC D m₂ h tk E' hv hC hx F2 N2 off ne
    obtain ⟨r, tt, uu, nn, hr, hm⟩ := hA.2 i (by rw [ord_len]; exact hi)
    have hv' : v = .ref r := by
      have e : ys.toArray[i]? = ys[i]? := by simp
      rw [e, hr] at hv
      exact (Option.some.inj hv).symm
    subst hv'
    k_steps
    (with_unfolding_all refine item_tupleT (l := [.str (txI cs ((ord cs).getD i 0)) tt, .int ((ord cs).getD i 0) uu]) (News.isTup N2 (.tail _ (.tail _ (.tail _ (.tail _ (.tail _ (.tail _ (.tail _ (.tail _ (.tail _ hm)))))))))) (by decide) (by decide) rfl rfl ?_)
    k_steps
    refine LCg.CompEnd.intro F2 N2 ((da, listOf ys.toArray n) :: (ca, listOf us.toArray 0) :: (L + 1 + 1 + 1 + 1, o4) :: (L + 1 + 1 + 1, o3) :: (L + 1 + 1, o2) :: (L + 1, o1) :: tl) (fun p hp => hp) off (.inr ⟨_, .head _, rfl, _, rfl⟩) ⟨rfl, ?_⟩
    rw [take_snoc _ _ (by rw [ord_len]; exact hi)]
    exact strs_snoc hZ
  · rintro zs news ⟨rfl, hZ⟩
    unfold LCg.FinE
    intro D h tk F2 N2 o1'
    simp only [LCg.Off1] at o1'
    rw [List.take_of_length_le (by rw [ord_len]; exact Nat.le_refl _)] at hZ
    have hn2 : ∀ p ∈ tl, p.1 ≠ L + 1 + 1 := fun p hp => Nat.ne_of_gt (Nat.lt_trans (by omega) (htl p hp))
    have hn3 : ∀ p ∈ tl, p.1 ≠ L + 1 + 1 + 1 := fun p hp => Nat.ne_of_gt (Nat.lt_trans (by omega) (htl p hp))
    k_steps
    rename Fr g L _ _ => F3
    rename News g L _ _ => N3
    rename_i h3 ot hot
    k_dflt (refine LCg.ListComp_U F3 (by with_unfolding_all rfl) (by decide) (by rfl) (by decide) (by rfl) ?_)
    k_steps
    refine LCg.CompSrc.ledger (its := ys.toArray) (k := n) rfl F3 N3 (.tail _ (.head _)) (by rw [List.size_toArray, hyl, sizeLine_eq]; omega) ?_
    clear F3 N3
    intro g3
    rw [hsz]
    refine comp_rest (fun i ws news => news = ((D, LCg.lst zs) :: (da, listOf ys.toArray n) :: (ca, listOf us.toArray 0) :: (L + 1 + 1 + 1 + 1, o4) :: (L + 1 + 1 + 1, o3) :: (L + 1 + 1, ot) :: (L + 1, o1) :: tl) ∧ IntsAre ws (((ord cs).take i).map id))
      cs.length ?_ ?_ cs.length 0 [] _ (Nat.zero_add _) ⟨rfl, .nil⟩
    · rintro i ws news hi ⟨rfl, hW⟩ v I oI C oC D2 m₂ h tk E' hv hC hx F2 N2 off ne
      obtain ⟨r, tt, uu, nn, hr, hm⟩ := hA.2 i (by rw [ord_len]; exact hi)
      have hv' : v = .ref r := by
        have e : ys.toArray[i]? = ys[i]? := by simp
        rw [e, hr] at hv
        exact (Option.some.inj hv).symm
      subst hv'
      k_steps
      (with_unfolding_all refine item_tupleT (l := [.str (txI cs ((ord cs).getD i 0)) tt, .int ((ord cs).getD i 0) uu]) (News.isTup N2 (.tail _ (.tail _ (.tail _ (.tail _ (.tail _ (.tail _ (.tail _ (.tail _ (.tail _ (.tail _ hm))))))))))) (by decide) (by decide) rfl rfl ?_)
      k_steps
      refine LCg.CompEnd.intro F2 N2 ((D, LCg.lst zs) :: (da, listOf ys.toArray n) :: (ca, listOf us.toArray 0) :: (L + 1 + 1 + 1 + 1, o4) :: (L + 1 + 1 + 1, o3) :: (L + 1 + 1, ot) :: (L + 1, o1) :: tl) (fun p hp => hp) off (.inr ⟨_, .tail _ (.head _), rfl, _, rfl⟩) ⟨rfl, ?_⟩
      rw [take_snoc _ _ (by rw [ord_len]; exact hi)]
      exact ints_snoc hW
    · rintro ws news ⟨rfl, hW⟩
      unfold LCg.FinE
      intro P h tk F2 N2 o2'
      simp only [LCg.Off1] at o2'
      rw [List.take_of_length_le (by rw [ord_len]; exact Nat.le_refl _), List.map_id] at hW
      k_steps
      rename Fr g L _ _ => F4
      rename News g L _ _ => N4
      rename_i hd4
      refine clean [("codes", .ref ca)] F4 (has_cons rfl has_nil) ?_
      intro u6 F6
      exact law_st6 w mean mg mb dp un gd outer base g L fa cd u6 _ ot _ o4 ca D P us zs ws _ _ cs Q X B T hdp hun F6 (fun p hp => N4 p (by
        simp only [List.mem_cons] at hp ⊢
        rcases hp with h | h | h | h | h | h | h
        · exact .inl h
        · exact .inr (.inl h)
        · exact .inr (.inr (.inr (.inl h)))
        · exact .inr (.inr (.inr (.inr (.inl h))))
        · exact .inr (.inr (.inr (.inr (.inr (.inl h)))))
        · exact .inr (.inr (.inr (.inr (.inr (.inr (.inl h))))))
        · cases h)) hot hd4 ho4 hI h2 h8 h6 hca (Ne.symm o2'.2.2.2.1) (Ne.symm o1'.2.2.1) hZ hW PL (fun h' tk' m' F' => hret h' tk' m' F')
end Mine

end
section
theorem Mine.freshW3 : True := by
  w_top off
  trivial
open PySem PySem.W PyProof.Rows PySem.Calls
namespace Mine
local macro_rules | `(tactic| k_steps) => `(tactic| repeat' (first
  | ((fail_if_success (with_reducible show wpAny _ _ (exec (Stmt.For _ _ _ _ _) _) _ _ _)); (fail_if_success (with_reducible show wpAny _ _ (exec (Stmt.Assign _ (Expr.ListComp _ _ _ _) _) _) _ _ _)); (fail_if_success (with_reducible show wpAny _ _ (call (Value.ref _) _) _ _ _)); (fail_if_success (with_reducible show LCg.CompSrc _ _ _ _ _ _ _ _ _ _ _ _ _ _)); (fail_if_success (with_reducible show LCg.CompEnd _ _ _ _ _ _ _ _ _ _ _ _ _ _)); first
    | (k_unfold; (try dsimp only)) | (k_end; wrow_close) | (dsimp only; walk1) | walk1 | (leave1; walk_say "STEP leave1"; try dsimp only)) | fail "no step"))

theorem law_st3 (w : World) (mean : ExcName → Option Value) (mg mb : Str → Option Value) (dp un : Nat) (gd : Option (List Code)) (outer : List Env) (base g : Heap) (L fa : Addr) (cd : Value) (u : Str → Option Value) (s : Shared) (o1 o2 o3 o4 : Obj) (ca ha : Addr) (us vs : List Value) (n : Nat) (tl : List (Addr × Obj)) (cs : List Int) (Q : Flow → Shared → Prop)
    (X : (hd.heap_39 w.params).In g) (B : Below (topA dp un gd outer) base outer g) (T : Top hd.view_39 (looseW hd.view_39 []) mean mg mb g) (hdp : dp + 10 < recursionLimit) (hun : un + 100 < cLine)
    (F : Fr g L s.heap (kstB u [("codes", .ref ca)])) (N : News g L s.heap ((ha, listOf vs.toArray n) :: (ca, listOf us.toArray 0) :: (L + 1 + 1 + 1 + 1, o4) :: (L + 1 + 1 + 1, o3) :: (L + 1 + 1, o2) :: (L + 1, o1) :: tl))
    (ho1 : o1.data = .cell (some (.ref ha))) (ho2 : o2.data = .cell none) (ho3 : o3.data = .cell none) (ho4 : o4.data = .cell none)
    (hI : IntsAre us cs) (h2 : 2 ≤ cs.length) (h8 : cs.length ≤ 8) (h6 : ∀ i, i < cs.length → 0 ≤ cs.getD i 0 ∧ cs.getD i 0 < 6) (hca : @LT.lt Nat _ (L + 1 + 1 + 1 + 1) ca) (hha : @LT.lt Nat _ ca ha)
    (hA : TA tl (txI cs) vs (heapF cs cs.length)) (htl : ∀ p ∈ tl, @LT.lt Nat _ ha p.1) (PL : Plain cs)
    (hret : ∀ h' tk' m', Fr g L h' m' → Q (.ret (.bool true)) { s with heap := h', toks := tk' }) :
    wpAny (model PySem.Challenge.rw_nq0050_01.row.prog w) ((topA dp un gd outer).deeper (lawEnv w.params L fa cd)) (execs ((bodyOf (fnAt 73 w.params)).drop 3) (lawEnv w.params L fa cd)) Q (fun _ _ => False) s := by
  revert X
  k_fill
  intro X
  obtain ⟨d, hd0⟩ : ∃ d, fnAt 73 w.params = d := ⟨_, rfl⟩
  have hd1 := hd0
  conv at hd1 => lhs; whnf
  unfold lawEnv
  rw [hd0, ← hd1]
  clear hd0 hd1 d
  dsimp only [bodyOf, List.drop]
  have hlen := hI.length
  k_steps
  rename Fr g L _ _ => F2
  rename News g L _ _ => N2
  k_dflt (refine LCg.Assign_ListComp_U F2 (by rfl) (by with_unfolding_all rfl) (by with_unfolding_all rfl) (by decide) (by rfl) (by decide) (by rfl) (by rfl) (by rfl) ?_)
  k_steps
  refine LCg.CompSrc.ledger (its := us.toArray) (k := 0) rfl F2 N2 (.tail _ (.head _)) (by rw [List.size_toArray, hlen, sizeLine_eq]; omega) ?_
  clear F2 N2
  intro g2
  have hsz : us.toArray.size = cs.length := by rw [List.size_toArray, hlen]
  rw [hsz]
  refine comp_rest (fun i ys news => ∃ vs' n', news = ((ha, listOf vs'.toArray n') :: (ca, listOf us.toArray 0) :: (L + 1 + 1 + 1 + 1, o4) :: (L + 1 + 1 + 1, o3) :: (L + 1 + 1, o2) :: (L + 1, o1) :: tl) ∧ TA tl (txI cs) ys (popN (ltI cs) (heapF cs cs.length) i).1 ∧ TA tl (txI cs) vs' (popN (ltI cs) (heapF cs cs.length) i).2)
    cs.length ?_ ?_ cs.length 0 [] _ (Nat.zero_add _) ⟨vs, n, rfl, ⟨rfl, fun i hi => absurd hi (Nat.not_lt_zero _)⟩, hA⟩
  · rintro i ys news hi ⟨vs', n', rfl, hAy, hAv⟩ v I oI C oC D m₂ h tk E' hv hC hx F2 N2 off ne
    have hpl := popN_len (ltI cs) (heapF cs cs.length) i (by rw [heapF_len]; omega)
    rw [heapF_len] at hpl
    k_steps
    have hoH := LCg.Off3.mem off _ (.head _)
    (with_unfolding_all refine spc_use (pop_spec w mean mg mb ((I, oI) :: (C, oC) :: (D, LCg.lst ys) :: (ca, listOf us.toArray 0) :: (L + 1 + 1 + 1 + 1, o4) :: (L + 1 + 1 + 1, o3) :: (L + 1 + 1, o2) :: (L + 1, o1) :: tl) tl (fun p hp => .tail _ (.tail _ (.tail _ (.tail _ (.tail _ (.tail _ (.tail _ (.tail _ hp)))))))) (txI cs) ha ?hne vs' n' (popN (ltI cs) (heapF cs cs.length) i).2 hAv (by omega) (by omega)) B F2 X ?N T rfl (by simp only [depth_deeper] at *; omega) (by simp only [units_deeper] at *; omega) ?_)
    case N =>
      refine fun p hp => N2 p ?_
      simp only [List.mem_cons] at hp ⊢
      rcases hp with h | h | h | h | h
      · exact .inr (.inr (.inr (.inl h)))
      · exact .inl h
      · exact .inr (.inl h)
      · exact .inr (.inr (.inl h))
      · exact .inr (.inr (.inr (.inr h)))
    case hne =>
      intro p hp
      simp only [List.mem_cons] at hp
      rcases hp with rfl | rfl | rfl | rfl | rfl | rfl | rfl | rfl | hp
      · exact Ne.symm hoH.1
      · exact Ne.symm hoH.2.1
      · exact Ne.symm hoH.2.2
      · exact Nat.ne_of_lt hha
      · exact Nat.ne_of_lt (Nat.lt_trans hca hha)
      · exact Nat.ne_of_lt (by show @LT.lt Nat _ _ _; omega)
      · exact Nat.ne_of_lt (by show @LT.lt Nat _ _ _; omega)
      · exact Nat.ne_of_lt (by show @LT.lt Nat _ _ _; omega)
      · exact Nat.ne_of_gt (htl p hp)
    rintro _ _ h6 tk6 ⟨r, t, u', n6, rfl, hm6, vs6, rfl, hA6⟩ F6 N6
    k_steps
    refine LCg.CompEnd.intro F6 N6 ((ha, listOf vs6.toArray (n' + 1)) :: (ca, listOf us.toArray 0) :: (L + 1 + 1 + 1 + 1, o4) :: (L + 1 + 1 + 1, o3) :: (L + 1 + 1, o2) :: (L + 1, o1) :: tl) ?_ ?_ ?_ ⟨vs6, n' + 1, rfl, ?_, ?_⟩
    · intro p hp
      simp only [List.mem_cons] at hp ⊢
      rcases hp with h | h | h | h | h
      · exact .inr (.inl h)
      · exact .inr (.inr (.inl h))
      · exact .inr (.inr (.inr (.inl h)))
      · exact .inl h
      · exact .inr (.inr (.inr (.inr h)))
    · exact ⟨off.1, off.2⟩
    · exact .inr ⟨_, .tail _ (.head _), rfl, _, rfl⟩
    · exact hAy.push hm6
    · exact hA6
  · rintro ys news ⟨vs', n', rfl, hAy, hAv⟩
    unfold LCg.FinA
    intro D h tk F2 N2 o1'
    dsimp only
    simp only [LCg.Off1] at o1'
    refine clean [("codes", .ref ca), ("order", .ref D)] F2 (has_cons rfl (has_cons rfl has_nil)) ?_
    intro u6 F6
    exact law_st4 w mean mg mb dp un gd outer base g L fa cd u6 _ o1 o2 o3 o4 ca D us ys _ tl cs Q X B T hdp hun F6 (fun p hp => N2 p (by
        simp only [List.mem_cons] at hp ⊢
        rcases hp with h | h
        · exact .inl h
        · exact .inr (.inr h))) ho2 ho3 ho4 hI h2 h8 h6 hca ⟨Ne.symm o1'.2.2.1, Ne.symm o1'.2.2.2.1, Ne.symm o1'.2.2.2.2.1⟩ hAy (fun p hp => Nat.lt_trans hha (htl p hp)) PL (fun h' tk' m' F' => hret h' tk' m' F')
end Mine

end
section
theorem Mine.freshW2 : True := by
  w_top off
  trivial
open PySem PySem.W PyProof.Rows PySem.Calls
namespace Mine
local macro_rules | `(tactic| k_steps) => `(tactic| repeat' (first
  | ((fail_if_success (with_reducible show wpAny _ _ (exec (Stmt.For _ _ _ _ _) _) _ _ _)); (fail_if_success (with_reducible show wpAny _ _ (pyIter _) _ _ _)); (fail_if_success (with_reducible show wpAny _ _ (call (Value.ref _) _) _ _ _)); first
    | (k_unfold; (try dsimp only)) | (k_end; wrow_close) | (dsimp only; walk1) | walk1 | (leave1; walk_say "STEP leave1"; try dsimp only)) | fail "no step"))

theorem law_st2 (w : World) (mean : ExcName → Option Value) (mg mb : Str → Option Value) (dp un : Nat) (gd : Option (List Code)) (outer : List Env) (base g : Heap) (L fa : Addr) (cd : Value) (u : Str → Option Value) (s : Shared) (o1 o2 o3 o4 : Obj) (ca ha : Addr) (us : List Value) (cs : List Int) (Q : Flow → Shared → Prop)
    (X : (hd.heap_39 w.params).In g) (B : Below (topA dp un gd outer) base outer g) (T : Top hd.view_39 (looseW hd.view_39 []) mean mg mb g) (hdp : dp + 10 < recursionLimit) (hun : un + 100 < cLine)
    (F : Fr g L s.heap (kstB u [("codes", .ref ca)])) (N : News g L s.heap [(ha, listOf #[] 0), (ca, listOf us.toArray 0), (L + 1 + 1 + 1 + 1, o4), (L + 1 + 1 + 1, o3), (L + 1 + 1, o2), (L + 1, o1)])
    (ho1 : o1.data = .cell (some (.ref ha))) (ho2 : o2.data = .cell none) (ho3 : o3.data = .cell none) (ho4 : o4.data = .cell none)
    (hI : IntsAre us cs) (h2 : 2 ≤ cs.length) (h8 : cs.length ≤ 8) (h6 : ∀ i, i < cs.length → 0 ≤ cs.getD i 0 ∧ cs.getD i 0 < 6) (hca : @LT.lt Nat _ (L + 1 + 1 + 1 + 1) ca) (hha : @LT.lt Nat _ ca ha) (PL : Plain cs)
    (hret : ∀ h' tk' m', Fr g L h' m' → Q (.ret (.bool true)) { s with heap := h', toks := tk' }) :
    wpAny (model PySem.Challenge.rw_nq0050_01.row.prog w) ((topA dp un gd outer).deeper (lawEnv w.params L fa cd)) (execs ((bodyOf (fnAt 73 w.params)).drop 2) (lawEnv w.params L fa cd)) Q (fun _ _ => False) s := by
  revert X
  k_fill
  intro X
  obtain ⟨d, hd0⟩ : ∃ d, fnAt 73 w.params = d := ⟨_, rfl⟩
  have hd1 := hd0
  conv at hd1 => lhs; whnf
  unfold lawEnv
  rw [hd0, ← hd1]
  clear hd0 hd1 d
  dsimp only [bodyOf, List.drop]
  have hlen := hI.length
  k_steps
  refine wpAny_For ?_ (fun _ => rfl)
  k_steps
  rename IsRange _ _ _ _ _ _ _ _ => R2
  rename Fr g L _ _ => F2
  rename News g L _ _ => N2
  refine foG (σ := List Value × Nat × List (Addr × Obj)) (n := cs.length) (fun c => (ha, listOf c.1.toArray c.2.1) :: (ca, listOf us.toArray 0) :: (L + 1 + 1 + 1 + 1, o4) :: (L + 1 + 1 + 1, o3) :: (L + 1 + 1, o2) :: (L + 1, o1) :: c.2.2) (fun _ => [("codes", .ref ca)])
    (fun i c => TA c.2.2 (txI cs) c.1 (heapF cs i) ∧ ∀ p ∈ c.2.2, @LT.lt Nat _ ha p.1)
    ([], 0, []) rfl R2 (small_one (by omega) (by omega) (by omega) (by omega)) (by rw [rangeSize_one]; omega) F2 N2 (has_cons rfl has_nil) ⟨⟨rfl, fun i hi => absurd hi (Nat.not_lt_zero _)⟩, fun p hp => nomatch hp⟩ ?_ ?_
  · clear R2 F2 N2
    rintro i ⟨vs, n, tl⟩ ti u h tk I oI hi hIc hoff ⟨hA, htl⟩ F2 N2
    dsimp only at hA htl hoff F2 N2
    rw [Int.zero_add]
    k_steps
    rename Fr g L _ _ => F3
    rename News g L _ _ => N3
    (with_unfolding_all refine spc_use (txt_spec w mean mg mb ((I, oI) :: (ha, listOf vs.toArray n) :: (L + 1 + 1 + 1 + 1, o4) :: (L + 1 + 1 + 1, o3) :: (L + 1 + 1, o2) :: (L + 1, o1) :: tl) ca us 0 cs hI h8 h6 i _ hi) B F3 X ?N T rfl (by simp only [depth_deeper] at *; omega) (by simp only [units_deeper] at *; omega) ?_)
    case N =>
      refine fun p hp => N3 p ?_
      simp only [List.mem_cons] at hp ⊢
      rcases hp with h | h | h | h
      · exact .inr (.inr (.inl h))
      · exact .inl h
      · exact .inr (.inl h)
      · exact .inr (.inr (.inr h))
    clear F3 N3
    rintro _ _ h4 tk4 ⟨rfl, t4, rfl⟩ F4 N4
    replace N4 : News g L h4 ((I, oI) :: (ha, listOf vs.toArray n) :: (ca, listOf us.toArray 0) :: (L + 1 + 1 + 1 + 1, o4) :: (L + 1 + 1 + 1, o3) :: (L + 1 + 1, o2) :: (L + 1, o1) :: tl) := by
      refine fun p hp => N4 p ?_
      simp only [List.mem_cons] at hp ⊢
      rcases hp with h | h | h | h
      · exact .inr (.inl h)
      · exact .inr (.inr (.inl h))
      · exact .inl h
      · exact .inr (.inr (.inr h))
    k_steps
    rename_i D5 h5 F5 N5 l5
    have hl5 := kst_ltOf l5.2.2.2.2.2.2.2
    have hIh := neN (a := ha) (b := I) (hoff _ (.head _))
    (with_unfolding_all refine spc_use (push_spec w mean mg mb ((D5, tupO (tx (txt cs i)) t4 i ti 0) :: (I, oI) :: (ca, listOf us.toArray 0) :: (L + 1 + 1 + 1 + 1, o4) :: (L + 1 + 1 + 1, o3) :: (L + 1 + 1, o2) :: (L + 1, o1) :: tl) ((D5, tupO (tx (txt cs i)) t4 i ti 0) :: tl) ?hsub (txI cs) ha ?hne vs n (heapF cs i) D5 (i : Int) t4 ti 0 (hA.mono fun p hp => .tail _ hp) (by rw [heapF_len]; omega) (.head _)) B F5 X ?N T rfl (by simp only [depth_deeper] at *; omega) (by simp only [units_deeper] at *; omega) ?_)
    case N =>
      refine fun p hp => N5 p ?_
      simp only [List.mem_cons] at hp ⊢
      rcases hp with h | h | h | h
      · exact .inr (.inr (.inl h))
      · exact .inl h
      · exact .inr (.inl h)
      · exact .inr (.inr (.inr h))
    case hsub =>
      intro p hp
      rcases List.mem_cons.mp hp with rfl | hp
      · exact .head _
      · exact .tail _ (.tail _ (.tail _ (.tail _ (.tail _ (.tail _ (.tail _ hp))))))
    case hne =>
      intro p hp
      simp only [List.mem_cons] at hp
      rcases hp with rfl | rfl | rfl | rfl | rfl | rfl | rfl | hp
      · exact Nat.ne_of_gt l5.2.1
      · exact hIh.symm
      · exact Nat.ne_of_lt hha
      · exact Nat.ne_of_lt (Nat.lt_trans hca hha)
      · exact Nat.ne_of_lt (by show @LT.lt Nat _ _ _; omega)
      · exact Nat.ne_of_lt (by show @LT.lt Nat _ _ _; omega)
      · exact Nat.ne_of_lt (by show @LT.lt Nat _ _ _; omega)
      · exact Nat.ne_of_gt (htl p hp)
    clear F5 N5
    rintro _ _ h6 tk6 ⟨rfl, vs', rfl, hA6⟩ F6 N6
    k_steps
    refine GPost.next (vs', n + 1, (D5, tupO (tx (txt cs i)) t4 i ti 0) :: tl) F6 N6 ?_ (.tail _ (.tail _ (.head _))) ?_ (has_cons rfl has_nil) ⟨?_, ?_⟩
    · intro p hp
      simp only [List.mem_cons] at hp ⊢
      rcases hp with h | h | h | h | h | h | h | h <;> simp [h]
    · intro p hp
      simp only [List.mem_cons] at hp
      rcases hp with rfl | hp | hp | hp | hp | hp | rfl | hp
      · exact hIh
      · exact hoff p (by simp [hp])
      · exact hoff p (by simp [hp])
      · exact hoff p (by simp [hp])
      · exact hoff p (by simp [hp])
      · exact hoff p (by simp [hp])
      · exact Nat.ne_of_gt l5.1
      · exact hoff p (by simp [hp])
    · exact hA6
    · intro p hp
      rcases List.mem_cons.mp hp with rfl | hp
      · exact l5.2.1
      · exact htl p hp
  · clear R2 F2 N2
    rintro ⟨vs, n, tl⟩ u h tk ⟨hA, htl⟩ F2 N2
    exact law_st3 w mean mg mb dp un gd outer base g L fa cd u _ o1 o2 o3 o4 ca ha us vs n tl cs Q X B T hdp hun F2 N2 ho1 ho2 ho3 ho4 hI h2 h8 h6 hca hha hA htl PL (fun h' tk' m' F' => hret h' tk' m' F')
end Mine

end
section
theorem Mine.freshW0 : True := by
  w_top off
  trivial
open PySem PySem.W PyProof.Rows PySem.Calls
namespace Mine
local macro_rules | `(tactic| k_steps) => `(tactic| repeat' (first
  | ((fail_if_success (with_reducible show wpAny _ _ (exec (Stmt.For _ _ _ _ _) _) _ _ _)); (fail_if_success (with_reducible show wpAny _ _ (execs (Stmt.For _ _ _ _ _ :: _) _) _ _ _)); first
    | (k_unfold; (try dsimp only)) | (k_end; wrow_close) | (dsimp only; walk1) | walk1 | (leave1; walk_say "STEP leave1"; try dsimp only)) | fail "no step"))

theorem ring_in {rs : List Int} (h : ∀ r ∈ rs, 0 ≤ r ∧ r < 6) : ∀ i, i < ([0, 1] ++ rs).length → 0 ≤ ([0, 1] ++ rs).getD i 0 ∧ ([0, 1] ++ rs).getD i 0 < 6
  | 0, _ => by simp
  | 1, _ => by simp
  | i + 2, hi => by
    have e : ([0, 1] ++ rs).getD (i + 2) 0 = rs.getD i 0 := rfl
    have hi' : i < rs.length := by simp at hi; omega
    rw [e, List.getD_eq_getElem?_getD, List.getElem?_eq_getElem hi']
    exact h _ (List.getElem_mem hi')
theorem law_st0 (w : World) (mean : ExcName → Option Value) (mg mb : Str → Option Value) (dp un : Nat) (gd : Option (List Code)) (outer : List Env) (base g : Heap) (L fa : Addr) (cd : Value) (u : Str → Option Value) (s : Shared) (o1 o2 o3 o4 : Obj) (sa : Addr) (vs : List Value) (ns : List Int) (Q : Flow → Shared → Prop)
    (X : (hd.heap_39 w.params).In g) (B : Below (topA dp un gd outer) base outer g) (T : Top hd.view_39 (looseW hd.view_39 []) mean mg mb g) (hdp : dp + 10 < recursionLimit) (hun : un + 100 < cLine)
    (F : Fr g L s.heap (kstB u [("script", .ref sa)])) (N : News g L s.heap [(L + 1 + 1 + 1 + 1, o4), (L + 1 + 1 + 1, o3), (L + 1 + 1, o2), (L + 1, o1)])
    (ho1 : o1.data = .cell none) (ho2 : o2.data = .cell none) (ho3 : o3.data = .cell none) (ho4 : o4.data = .cell none)
    (hl : g.IsList sa vs.toArray) (hi : IntsAre vs ns) (hn : ns.length ≤ 63) (hplain : ∀ rs : List Int, rs.length ≤ 6 → (∀ r ∈ rs, 0 ≤ r ∧ r < 6) → Plain ([0, 1] ++ rs))
    (hret : ∀ h' tk' m', Fr g L h' m' → Q (.ret (.bool true)) { s with heap := h', toks := tk' }) :
    wpAny (model PySem.Challenge.rw_nq0050_01.row.prog w) ((topA dp un gd outer).deeper (lawEnv w.params L fa cd)) (execs (bodyOf (fnAt 73 w.params)) (lawEnv w.params L fa cd)) Q (fun _ _ => False) s := by
  revert X
  k_fill
  intro X
  obtain ⟨d, hd0⟩ : ∃ d, fnAt 73 w.params = d := ⟨_, rfl⟩
  have hd1 := hd0
  conv at hd1 => lhs; whnf
  unfold lawEnv
  rw [hd0, ← hd1]
  clear hd0 hd1 d
  dsimp only [bodyOf]
  k_steps
  rename CarriedAll _ _ => hca
  rename Heap.IsList _ _ _ => hIs
  rename_i l0 _ l1 D1 ws _ _ _ hI1 hC1 hL1 l2 D2 ys _ tk2 F2 N2 _ _
  have hI2 : IntsAre ys ((ns.take 6).map fun a => a.fmod 6) := by
    rw [List.filter_eq_self.mpr (fun _ _ => rfl)] at hca
    exact CarriedAll.intsOf hca
  have hIl : Heap.IsList _ l0 [Value.int 0 s.toks, Value.int 1 (s.toks + 1)].toArray := PySem.IsL.isList (n := 0) (N2 _ (.tail _ (.head _))).1
  refine kmk_add_ints F2 (fun p hp => N2 p (.tail _ (.tail _ hp))) hIl hIs (.cons 0 _ (.cons 1 _ .nil)) hI2 ?_ (by simp only [sizeLine_eq, List.length_cons, List.length_nil, List.length_map]; omega)
  clear F2 N2 hIl hIs hca hI2
  intro ca us h3 F3 N3 l3 hI3
  have hca4 := ltN (a := L + 1 + 1 + 1 + 1) (b := ca) (l3 _ (.head _))
  k_steps
  rename Fr g L _ _ => F4
  rename News g L _ _ => N4
  have hrl : ((ns.take 6).map fun a : Int => a.fmod 6).length ≤ 6 := by rw [List.length_map, List.length_take]; omega
  have hrb : ∀ r ∈ (ns.take 6).map (fun a : Int => a.fmod 6), 0 ≤ r ∧ r < 6 := by
    intro r hr
    obtain ⟨a, _, rfl⟩ := List.mem_map.mp hr
    rw [Int.fmod_eq_emod_of_nonneg _ (by decide)]
    exact ⟨Int.emod_nonneg _ (by decide), Int.emod_lt_of_pos _ (by decide)⟩
  have hPL := hplain _ hrl hrb
  have h6 := ring_in hrb
  have h8 : ([0, 1] ++ (ns.take 6).map (fun a : Int => a.fmod 6)).length ≤ 8 := by rw [List.length_append]; simp only [List.length_cons, List.length_nil]; omega
  have h2 : 2 ≤ ([0, 1] ++ (ns.take 6).map (fun a : Int => a.fmod 6)).length := by rw [List.length_append]; simp only [List.length_cons, List.length_nil]; omega
  refine clean [("codes", .ref ca)] F4 (has_cons rfl has_nil) ?_
  intro u6 F6
  exact law_st2 w mean mg mb dp un gd outer base g L fa cd u6 _ _ o2 o3 o4 ca _ us _ Q X B T hdp hun F6 N4 (by assumption) ho2 ho3 ho4 hI3 h2 h8 h6 hca4 (by omega) hPL (fun h' tk' m' F' => hret h' tk' m' F')
end Mine

end
section
theorem Mine.freshP1 : True := by
  w_top off
  trivial
open PySem PySem.W PyProof.Rows PySem.Calls
namespace Mine

/-- the ring's bits -/
def bsOf (cs : List Int) : List Bool := cs.map fun c => decide (c % 2 = 1)
def bt (bs : List Bool) (p : Nat) : Bool := bs.getD (p % bs.length) false
def rot (bs : List Bool) (p : Nat) : List Bool := (List.range bs.length).map fun k => bt bs (p + k)
def lexB : List Bool → List Bool → Bool
  | a :: as, b :: bs => if a = b then lexB as bs else (!a && b)
  | _, _ => false
def ltB (bs : List Bool) (p q : Int) : Bool := if rot bs p.toNat = rot bs q.toNat then decide (p < q) else lexB (rot bs p.toNat) (rot bs q.toNat)
def heapB (bs : List Bool) : Nat → List Int
  | 0 => []
  | k + 1 => pushF (ltB bs) (heapB bs k) k
def ordB (bs : List Bool) : List Int := (popN (ltB bs) (heapB bs bs.length) bs.length).1
def hamB (bs : List Bool) (p q : Nat) : Nat → Nat
  | 0 => 0
  | k + 1 => hamB bs p q k + (if bt bs (p + k) = bt bs (q + k) then 0 else 1)
def apartB (bs : List Bool) (o : List Int) : Nat → Int
  | 0 => 0
  | k + 1 => apartB bs o k + (hamB bs (o.getD k 0).toNat (o.getD (k + 1) 0).toNat bs.length : Nat)
def alikeB (bs : List Bool) (o : List Int) : Nat := (o.filter fun p => rot bs p.toNat == rot bs (o.getD 0 0).toNat).length
def one (b : Bool) : Int := if b then 1 else 0
def cntB (bs : List Bool) (size place : Nat) : Int := ((List.range size).map fun k => one (bt bs (place + k))).sum
def balB (bs : List Bool) : Bool := (List.range (bs.length - 1)).all fun j => (List.range bs.length).all fun p => (List.range bs.length).all fun q => decide (cntB bs (j + 1) p - cntB bs (j + 1) q ≤ 1)

theorem bsOf_len (cs : List Int) : (bsOf cs).length = cs.length := by unfold bsOf; simp
theorem bsOf_getD (cs : List Int) (i : Nat) : (bsOf cs).getD i false = decide (cs.getD i 0 % 2 = 1) := by
  unfold bsOf
  rw [List.getD_eq_getElem?_getD, List.getElem?_map, List.getD_eq_getElem?_getD]
  cases cs[i]? <;> rfl
theorem bit_eq (cs : List Int) (p : Nat) : bit cs p = bt (bsOf cs) p := by
  unfold bit bt
  rw [bsOf_getD, bsOf_len]
theorem bas_inj {a b : Bool} {l : Nat} : bas a + l = bas b + l ↔ a = b := by
  cases a <;> cases b <;> simp [bas]
theorem txt_eq (cs : List Int) (p : Nat) : txt cs p = (List.range cs.length).map fun k => bas (bt (bsOf cs) (p + k)) + ltr cs k := by
  unfold txt
  refine List.map_congr_left fun k _ => ?_
  rw [sgn_eq, bit_eq]
theorem maps_eq (f g : Nat → Bool) (l : Nat → Nat) : ∀ ks : List Nat, (ks.map (fun k => bas (f k) + l k) = ks.map (fun k => bas (g k) + l k)) ↔ ks.map f = ks.map g
  | [] => by simp
  | k :: ks => by
    simp only [List.map_cons, List.cons.injEq]
    rw [bas_inj, maps_eq f g l ks]
theorem maps_lt (f g : Nat → Bool) (l : Nat → Nat) : ∀ ks : List Nat, decide (ks.map (fun k => bas (f k) + l k) < ks.map (fun k => bas (g k) + l k)) = lexB (ks.map f) (ks.map g)
  | [] => by simp [lexB]
  | k :: ks => by
    simp only [List.map_cons, lexB]
    rw [← maps_lt f g l ks]
    by_cases e : f k = g k
    · rw [if_pos e, e]
      congr 1
      rw [List.cons_lt_cons_iff]
      simp
    · rw [if_neg e]
      have hb : bas (f k) ≠ bas (g k) := fun h => e (bas_inj.mp (congrArg (· + l k) h))
      rw [Bool.eq_iff_iff, decide_eq_true_iff, List.cons_lt_cons_iff]
      cases hf : f k <;> cases hg : g k <;> simp [hf, hg, bas] at e hb ⊢
theorem tx_inj {a b : List Nat} : tx a = tx b ↔ a = b := by
  constructor
  · intro h
    have := congrArg (fun s : Str => s.cps.toList) h
    simpa [tx] using this
  · intro h; rw [h]
theorem txI_eq (cs : List Int) (p q : Int) : (txI cs p = txI cs q) ↔ rot (bsOf cs) p.toNat = rot (bsOf cs) q.toNat := by
  unfold txI
  rw [tx_inj, txt_eq, txt_eq, maps_eq]
  unfold rot
  rw [bsOf_len]
theorem ltI_eq (cs : List Int) (p q : Int) : ltI cs p q = ltB (bsOf cs) p q := by
  unfold ltI ltP ltB
  by_cases e : txI cs p = txI cs q
  · rw [if_pos e, if_pos ((txI_eq cs p q).mp e)]
  · rw [if_neg e, if_neg (fun h => e ((txI_eq cs p q).mpr h))]
    unfold txI rot
    rw [bsOf_len, ← maps_lt _ _ (ltr cs), ← txt_eq, ← txt_eq]
theorem ltI_fun (cs : List Int) : ltI cs = ltB (bsOf cs) := funext fun p => funext fun q => ltI_eq cs p q
theorem heap_eq (cs : List Int) : ∀ k, heapF cs k = heapB (bsOf cs) k
  | 0 => rfl
  | k + 1 => by unfold heapF heapB; rw [heap_eq cs k, ltI_fun]
theorem ord_eq (cs : List Int) : ord cs = ordB (bsOf cs) := by
  unfold ord ordB
  rw [heap_eq, ltI_fun, bsOf_len]
theorem ham_eq (cs : List Int) (p q : Nat) : ∀ k, k ≤ cs.length → hamTo (txt cs p) (txt cs q) k = hamB (bsOf cs) p q k
  | 0, _ => rfl
  | k + 1, hk => by
    unfold hamTo hamB
    rw [ham_eq cs p q k (by omega), txt_getD _ _ _ (by omega), txt_getD _ _ _ (by omega), sgn_eq, sgn_eq, bit_eq, bit_eq]
    congr 1
    by_cases e : bt (bsOf cs) (p + k) = bt (bsOf cs) (q + k)
    · rw [if_pos e, if_pos (bas_inj.mpr e)]
    · rw [if_neg e, if_neg (fun h => e (bas_inj.mp h))]
theorem apart_eq (cs : List Int) : ∀ k, apartF cs k = apartB (bsOf cs) (ord cs) k
  | 0 => rfl
  | k + 1 => by
    unfold apartF apartB
    rw [apart_eq cs k, ham_eq _ _ _ _ (Nat.le_refl _), bsOf_len]
theorem alike_eq (cs : List Int) (h : 0 < cs.length) : alikeF cs = alikeB (bsOf cs) (ord cs) := by
  unfold alikeF alikeB
  rw [List.filter_map, List.length_map]
  congr 1
  refine List.filter_congr fun p _ => ?_
  have e : ((ord cs).map (txI cs)).getD 0 Str.empty = txI cs ((ord cs).getD 0 0) := by
    rw [List.getD_eq_getElem?_getD, List.getElem?_map, List.getD_eq_getElem?_getD, List.getElem?_eq_getElem (by rw [ord_len]; exact h)]
    rfl
  rw [e]
  show (txI cs p == txI cs ((ord cs).getD 0 0)) = _
  rw [Bool.eq_iff_iff, beq_iff_eq, beq_iff_eq]
  exact txI_eq cs _ _
theorem mod_one (c : Int) : c % 2 = one (decide (c % 2 = 1)) := by
  unfold one
  by_cases h : c % 2 = 1
  · simp [h]
  · simp [h]; omega
theorem cnt_eq (cs : List Int) (size place : Nat) : cnt cs size place = cntB (bsOf cs) size place := by
  unfold cnt cntB
  congr 1
  refine List.map_congr_left fun k _ => ?_
  rw [mod_one, ← bit_eq]
  rfl
theorem bal_eq (cs : List Int) : balF cs = balB (bsOf cs) := by
  unfold balF balB
  simp only [cnt_eq, bsOf_len]
/-- the plain law by the bits -/
def fsB (bs : List Bool) (o : List Int) (al : Nat) : List Int := (List.range (bs.length / al)).map fun j => o.getD (j * al) 0
def stB (fs : List Int) : List Int := (List.range (fs.length - 1)).map fun j => (fs.getD (j + 1) 0 - fs.getD j 0) % (fs.length : Int)
def plB (bs : List Bool) (o : List Int) (al : Nat) (fs st : List Int) (ap : Int) (bl : Bool) : Bool :=
  o.isPerm ((List.range bs.length).map fun (i : Nat) => (0 : Int) + i * 1) && decide (¬ ap < 2 * ((bs.length : Int) - al)) && (decide (ap = 2 * ((bs.length : Int) - al)) == bl) &&
  decide (bs.length % al = 0 ∧ 1 ≤ al ∧ 2 * al ≤ bs.length) && (decide (st = (List.replicate st.length (st.take 1)).flatten) == bl) &&
  (!bl || decide (st.getD 0 0 * ((bs.map one).sum / (al : Int)) % (fs.length : Int) = 1))
def plAll (bs : List Bool) : Bool := plB bs (ordB bs) (alikeB bs (ordB bs)) (fsB bs (ordB bs) (alikeB bs (ordB bs))) (stB (fsB bs (ordB bs) (alikeB bs (ordB bs)))) (apartB bs (ordB bs) (bs.length - 1)) (balB bs)
theorem plain_of {cs : List Int} (h : 0 < cs.length) (hb : plAll (bsOf cs) = true) : Plain cs := by
  have e1 := (ord_eq cs).symm
  have e2 := (alike_eq cs h).symm
  have e3 := (apart_eq cs (cs.length - 1)).symm
  have e4 := (bal_eq cs).symm
  have e5 : fsB (bsOf cs) (ord cs) (alikeF cs) = fsF cs := by unfold fsB fsF; rw [bsOf_len]
  have e6 : stB (fsF cs) = stF cs := rfl
  have e7 : ((bsOf cs).map one).sum / (alikeF cs : Int) = onF cs := by
    unfold onF bsOf
    rw [List.map_map]
    congr 2
    exact List.map_congr_left fun c _ => (mod_one c).symm
  unfold plAll at hb
  rw [e1, e2, e5, e6, bsOf_len, e3, e4] at hb
  unfold plB at hb
  simp only [Bool.and_eq_true, decide_eq_true_eq, beq_iff_eq, Bool.or_eq_true, Bool.not_eq_true', e7, bsOf_len] at hb
  obtain ⟨⟨⟨⟨⟨h1, h2⟩, h3⟩, h4⟩, h5⟩, h6⟩ := hb
  refine ⟨List.isPerm_iff.mp h1, h2, h3, h4, h5, fun hbl => ?_⟩
  rcases h6 with h6 | h6
  · rw [hbl] at h6; cases h6
  · exact h6
def bools : Nat → List (List Bool)
  | 0 => [[]]
  | n + 1 => (bools n).map (false :: ·) ++ (bools n).map (true :: ·)
theorem mem_bools : ∀ l : List Bool, l ∈ bools l.length
  | [] => .head _
  | false :: l => List.mem_append_left _ (List.mem_map_of_mem (mem_bools l))
  | true :: l => List.mem_append_right _ (List.mem_map_of_mem (mem_bools l))
end Mine

end
section
theorem Mine.freshP2 : True := by
  w_top off
  trivial
open PySem PySem.W PyProof.Rows PySem.Calls
namespace Mine
theorem all_of (f : List Bool → Bool) (n : Nat) (h0 : (bools n).all (fun l => f (false :: l)) = true) (h1 : (bools n).all (fun l => f (true :: l)) = true) : (bools (n + 1)).all f = true := by
  show ((bools n).map (false :: ·) ++ (bools n).map (true :: ·)).all f = true
  rw [List.all_append, List.all_map, List.all_map]
  exact Bool.and_eq_true_iff.mpr ⟨h0, h1⟩
theorem pl_0 : (bools 0).all (fun l => plAll (false :: true :: l)) = true := by decide +kernel
theorem pl_1 : (bools 1).all (fun l => plAll (false :: true :: l)) = true := by decide +kernel
theorem pl_2 : (bools 2).all (fun l => plAll (false :: true :: l)) = true := by decide +kernel
theorem pl_3 : (bools 3).all (fun l => plAll (false :: true :: l)) = true := by decide +kernel
theorem pl_4w0 : (bools 3).all (fun l => plAll (false :: true :: false :: l)) = true := by decide +kernel
theorem pl_4w1 : (bools 3).all (fun l => plAll (false :: true :: true :: l)) = true := by decide +kernel
theorem pl_4 : (bools 4).all (fun l => plAll (false :: true :: l)) = true := all_of (fun l => plAll (false :: true :: l)) 3 pl_4w0 pl_4w1
theorem pl_5w00 : (bools 3).all (fun l => plAll (false :: true :: false :: false :: l)) = true := by decide +kernel
theorem pl_5w01 : (bools 3).all (fun l => plAll (false :: true :: false :: true :: l)) = true := by decide +kernel
theorem pl_5w10 : (bools 3).all (fun l => plAll (false :: true :: true :: false :: l)) = true := by decide +kernel
theorem pl_5w11 : (bools 3).all (fun l => plAll (false :: true :: true :: true :: l)) = true := by decide +kernel
theorem pl_5w0 : (bools 4).all (fun l => plAll (false :: true :: false :: l)) = true := all_of (fun l => plAll (false :: true :: false :: l)) 3 pl_5w00 pl_5w01
theorem pl_5w1 : (bools 4).all (fun l => plAll (false :: true :: true :: l)) = true := all_of (fun l => plAll (false :: true :: true :: l)) 3 pl_5w10 pl_5w11
theorem pl_5 : (bools 5).all (fun l => plAll (false :: true :: l)) = true := all_of (fun l => plAll (false :: true :: l)) 4 pl_5w0 pl_5w1
theorem pl_6w0000 : (bools 2).all (fun l => plAll (false :: true :: false :: false :: false :: false :: l)) = true := by decide +kernel
theorem pl_6w0001 : (bools 2).all (fun l => plAll (false :: true :: false :: false :: false :: true :: l)) = true := by decide +kernel
theorem pl_6w0010 : (bools 2).all (fun l => plAll (false :: true :: false :: false :: true :: false :: l)) = true := by decide +kernel
theorem pl_6w0011 : (bools 2).all (fun l => plAll (false :: true :: false :: false :: true :: true :: l)) = true := by decide +kernel
theorem pl_6w0100 : (bools 2).all (fun l => plAll (false :: true :: false :: true :: false :: false :: l)) = true := by decide +kernel
theorem pl_6w0101 : (bools 2).all (fun l => plAll (false :: true :: false :: true :: false :: true :: l)) = true := by decide +kernel
theorem pl_6w0110 : (bools 2).all (fun l => plAll (false :: true :: false :: true :: true :: false :: l)) = true := by decide +kernel
theorem pl_6w0111 : (bools 2).all (fun l => plAll (false :: true :: false :: true :: true :: true :: l)) = true := by decide +kernel
theorem pl_6w1000 : (bools 2).all (fun l => plAll (false :: true :: true :: false :: false :: false :: l)) = true := by decide +kernel
theorem pl_6w1001 : (bools 2).all (fun l => plAll (false :: true :: true :: false :: false :: true :: l)) = true := by decide +kernel
theorem pl_6w1010 : (bools 2).all (fun l => plAll (false :: true :: true :: false :: true :: false :: l)) = true := by decide +kernel
theorem pl_6w1011 : (bools 2).all (fun l => plAll (false :: true :: true :: false :: true :: true :: l)) = true := by decide +kernel
theorem pl_6w1100 : (bools 2).all (fun l => plAll (false :: true :: true :: true :: false :: false :: l)) = true := by decide +kernel
theorem pl_6w1101 : (bools 2).all (fun l => plAll (false :: true :: true :: true :: false :: true :: l)) = true := by decide +kernel
theorem pl_6w1110 : (bools 2).all (fun l => plAll (false :: true :: true :: true :: true :: false :: l)) = true := by decide +kernel
theorem pl_6w1111 : (bools 2).all (fun l => plAll (false :: true :: true :: true :: true :: true :: l)) = true := by decide +kernel
theorem pl_6w000 : (bools 3).all (fun l => plAll (false :: true :: false :: false :: false :: l)) = true := all_of (fun l => plAll (false :: true :: false :: false :: false :: l)) 2 pl_6w0000 pl_6w0001
theorem pl_6w001 : (bools 3).all (fun l => plAll (false :: true :: false :: false :: true :: l)) = true := all_of (fun l => plAll (false :: true :: false :: false :: true :: l)) 2 pl_6w0010 pl_6w0011
theorem pl_6w010 : (bools 3).all (fun l => plAll (false :: true :: false :: true :: false :: l)) = true := all_of (fun l => plAll (false :: true :: false :: true :: false :: l)) 2 pl_6w0100 pl_6w0101
theorem pl_6w011 : (bools 3).all (fun l => plAll (false :: true :: false :: true :: true :: l)) = true := all_of (fun l => plAll (false :: true :: false :: true :: true :: l)) 2 pl_6w0110 pl_6w0111
theorem pl_6w100 : (bools 3).all (fun l => plAll (false :: true :: true :: false :: false :: l)) = true := all_of (fun l => plAll (false :: true :: true :: false :: false :: l)) 2 pl_6w1000 pl_6w1001
theorem pl_6w101 : (bools 3).all (fun l => plAll (false :: true :: true :: false :: true :: l)) = true := all_of (fun l => plAll (false :: true :: true :: false :: true :: l)) 2 pl_6w1010 pl_6w1011
theorem pl_6w110 : (bools 3).all (fun l => plAll (false :: true :: true :: true :: false :: l)) = true := all_of (fun l => plAll (false :: true :: true :: true :: false :: l)) 2 pl_6w1100 pl_6w1101
theorem pl_6w111 : (bools 3).all (fun l => plAll (false :: true :: true :: true :: true :: l)) = true := all_of (fun l => plAll (false :: true :: true :: true :: true :: l)) 2 pl_6w1110 pl_6w1111
theorem pl_6w00 : (bools 4).all (fun l => plAll (false :: true :: false :: false :: l)) = true := all_of (fun l => plAll (false :: true :: false :: false :: l)) 3 pl_6w000 pl_6w001
theorem pl_6w01 : (bools 4).all (fun l => plAll (false :: true :: false :: true :: l)) = true := all_of (fun l => plAll (false :: true :: false :: true :: l)) 3 pl_6w010 pl_6w011
theorem pl_6w10 : (bools 4).all (fun l => plAll (false :: true :: true :: false :: l)) = true := all_of (fun l => plAll (false :: true :: true :: false :: l)) 3 pl_6w100 pl_6w101
theorem pl_6w11 : (bools 4).all (fun l => plAll (false :: true :: true :: true :: l)) = true := all_of (fun l => plAll (false :: true :: true :: true :: l)) 3 pl_6w110 pl_6w111
theorem pl_6w0 : (bools 5).all (fun l => plAll (false :: true :: false :: l)) = true := all_of (fun l => plAll (false :: true :: false :: l)) 4 pl_6w00 pl_6w01
theorem pl_6w1 : (bools 5).all (fun l => plAll (false :: true :: true :: l)) = true := all_of (fun l => plAll (false :: true :: true :: l)) 4 pl_6w10 pl_6w11
theorem pl_6 : (bools 6).all (fun l => plAll (false :: true :: l)) = true := all_of (fun l => plAll (false :: true :: l)) 5 pl_6w0 pl_6w1
theorem plain (rs : List Int) (h6 : rs.length ≤ 6) (_ : ∀ r ∈ rs, 0 ≤ r ∧ r < 6) : Plain ([0, 1] ++ rs) := by
  refine plain_of (by simp) ?_
  have e : bsOf ([0, 1] ++ rs) = false :: true :: bsOf rs := rfl
  rw [e]
  have hm := mem_bools (bsOf rs)
  rw [bsOf_len] at hm
  have key : ∀ n, n ≤ 6 → (bools n).all (fun l => plAll (false :: true :: l)) = true
    | 0, _ => pl_0
    | 1, _ => pl_1
    | 2, _ => pl_2
    | 3, _ => pl_3
    | 4, _ => pl_4
    | 5, _ => pl_5
    | 6, _ => pl_6
    | n + 7, h => by omega
  exact List.all_eq_true.mp (key _ h6) _ hm
end Mine

end
section
theorem Mine.freshTT : True := by
  w_top off
  trivial
open PySem PySem.W PyProof.Rows PySem.Calls
namespace Mine
theorem tt (hplain : ∀ rs : List Int, rs.length ≤ 6 → (∀ r ∈ rs, 0 ≤ r ∧ r < 6) → Plain ([0, 1] ++ rs)) : PySem.Challenge.rw_nq0050_01.Holds := by
  refine Mine.hd ?_
  k_go0
  all_goals try k_fold
  dsimp only
  rename Top _ _ _ _ _ _ => T9
  rename Below _ _ _ _ => B9
  rename IntsAre _ _ => I9
  rename Fr _ _ _ _ => F9
  rename News _ _ _ _ => N9
  rename Frag.In _ _ => X9
  refine wpAny_mono (E := fun _ _ => False) ?_ (fun _ _ x => x) (fun _ _ x => x.elim)
  refine clean [("script", .ref _)] F9 (has_cons rfl has_nil) ?_
  intro u F10
  refine law_st0 _ _ _ _ _ _ _ _ _ _ _ _ _ u _ _ _ _ _ _ _ _ _ X9 B9 T9 ?a1 ?a2 F10 N9 ?c1 ?c2 ?c3 ?c4 ?hl I9 ?hn hplain ?hr
  case a1 => decide +kernel
  case a2 => decide +kernel
  case c1 => with_unfolding_all assumption
  case c2 => with_unfolding_all assumption
  case c3 => with_unfolding_all assumption
  case c4 => with_unfolding_all assumption
  case hl => assumption
  case hn => omega
  case hr =>
    intro h' tk' m' F11
    clear F9 N9 F10
    k_end
    wrow_close
end Mine

end
theorem PySem.Challenge.cw_nq0050_01_holds : PySem.Challenge.rw_nq0050_01.Holds := by
  exact Mine.tt Mine.plain
