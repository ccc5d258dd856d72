import PyProof.Rows.All
import Wide.All
import OpenK.AllK
import Wide.FinOn
import PySem.Challenge.RW_sr0044_01
set_option Elab.async false

open PySem PySem.W PyProof.Rows
local macro_rules | `(tactic| walk_at $s:str) => `(tactic| k_extra $s)
local macro_rules | `(tactic| k_steps) => `(tactic| k_extra "st8")
local macro_rules | `(tactic| omega) => `(tactic| lia)
local macro_rules | `(tactic| k_all) => `(tactic| k_extra "all8")
local macro_rules | `(tactic| k_ne) => `(tactic| k_extra "ne8")
local macro_rules | `(tactic| k_lt $_h:ident) => `(tactic| k_extra "klt8")
/- part Hd -/
section
open PySem PySem.W PyProof.Rows
namespace Mine
set_option maxRecDepth 100000 in
set_option maxHeartbeats 8000000 in
open_top hd for PySem.Challenge.rw_sr0044_01
end Mine
end

/- part Com -/
section
open PySem PySem.W PyProof.Rows
namespace Mine
noncomputable abbrev LS0 : List PySem.Str := looseW hd.view_39 [Str.ofString "insort_right", Str.ofString "bisect_right", Str.ofString "insort_left", Str.ofString "bisect_left"]
noncomputable abbrev LS : List PySem.Str := LS0 ++ List.map (fun x => x.name) (recsOf hd.view_39) ++ List.map (fun x => x.fst) (litsOf hd.view_39) ++ List.map (fun x => x.name) (clssOf hd.view_39 LS0)
/-- a contract of one of the text's functions (k frames deep): called with `vs` over the ledger `news`, it ends and hands back what `Post` says -/
noncomputable def Cl (k : Nat) (w : World) (K : Frag) (p : Program) (f : Addr) (news : List (Addr × Obj)) (vs : List Value) (Post : Value → List (Addr × Obj) → Prop) : Prop :=
  ∀ (mean : ExcName → Option Value) (mg mb : PySem.Str → Option Value) (dp un : Nat) (gd : Option (List Code)) (cn : PySem.Str) (cs : Scope) (a : Addr) (ccd : Value) (cl : List (PySem.Str × Addr)) (outer : List Env) (A₀ : Around) (base h₀ : Heap) (L : Addr) (m : PySem.Str → Option Value) (s : Shared) (Q E : Value → Shared → Prop),
    Below A₀ base outer h₀ → Fr h₀ L s.heap m → K.In h₀ → News h₀ L s.heap news → Top p LS mean mg mb h₀ → cs.kind = .function → dp + k < recursionLimit → un + 8 * k < cLine →
    (∀ r news' h' tk', Fr h₀ L h' m → News h₀ L h' news' → Post r news' → Q r { s with heap := h', toks := tk' }) →
    wpAny (model PySem.Challenge.rw_sr0044_01.row.prog w) (ktrTop dp un gd cn cs L a ccd cl outer) (call (.ref f) vs) Q E s
theorem Cl.use {k : Nat} {w : World} {K : Frag} {p : Program} {f : Addr} {news : List (Addr × Obj)} {vs : List Value} {Post : Value → List (Addr × Obj) → Prop}
    {mean : ExcName → Option Value} {mg mb : PySem.Str → Option Value} {dp un : Nat} {gd : Option (List Code)} {cn : PySem.Str} {cs : Scope} {a : Addr} {ccd : Value} {cl : List (PySem.Str × Addr)} {outer : List Env} {A₀ : Around} {base h₀ : Heap} {L : Addr} {m : PySem.Str → Option Value} {s : Shared} {Q E : Value → Shared → Prop}
    (B : Below A₀ base outer h₀) (F : Fr h₀ L s.heap m) (X : K.In h₀) (N : News h₀ L s.heap news) (T : Top p LS mean mg mb h₀) (C : Cl k w K p f news vs Post) (hk : cs.kind = .function) (hd : dp + k < recursionLimit) (hu : un + 8 * k < cLine)
    (ret : ∀ r news' h' tk', Fr h₀ L h' m → News h₀ L h' news' → Post r news' → Q r { s with heap := h', toks := tk' }) :
    wpAny (model PySem.Challenge.rw_sr0044_01.row.prog w) (ktrTop dp un gd cn cs L a ccd cl outer) (call (.ref f) vs) Q E s := C _ _ _ _ _ _ _ _ _ _ _ _ _ _ _ _ _ _ _ _ B F X N T hk hd hu ret
end Mine
end

/- part UseC -/
section
open PySem PySem.W PyProof.Rows PySem.Spec PySem.Calls PyProof.V
namespace Mine
theorem Cl.useC {k : Nat} {w : World} {K : Frag} {p : Program} {f : Addr} {news : List (Addr × Obj)} {vs : List Value} {Post : Value → List (Addr × Obj) → Prop}
    {mean : ExcName → Option Value} {mg mb : PySem.Str → Option Value} {cn : PySem.Str} {cs : Scope} {a : Addr} {ccd : Value} {h₀ : Heap} {L : Addr} {m : PySem.Str → Option Value} {s : Shared} {Q E : Value → Shared → Prop}
    (B : Below callerA h₀ [] h₀) (F : Fr h₀ L s.heap m) (X : K.In h₀) (N : News h₀ L s.heap news) (T : Top p LS mean mg mb h₀) (C : Cl k w K p f news vs Post) (hk : cs.kind = .function) (hk4 : k ≤ 4)
    (ret : ∀ r news' h' tk', Fr h₀ L h' m → News h₀ L h' news' → Post r news' → Q r { s with heap := h', toks := tk' }) :
    wpAny (model PySem.Challenge.rw_sr0044_01.row.prog w) (callerA.deeper (envOfC cn cs L a ccd)) (call (.ref f) vs) Q E s := by
  have e : callerA.deeper (envOfC cn cs L a ccd) = ktrTop (callerA.deeper (envOfC cn cs L a ccd)).depth (callerA.deeper (envOfC cn cs L a ccd)).units (callerA.deeper (envOfC cn cs L a ccd)).guards cn cs L a ccd (cellsFrom (L + 1) cs.names []) [] := rfl
  rw [e]
  refine C _ _ _ _ _ _ _ _ _ _ _ _ callerA h₀ h₀ L m s Q E B F X N T hk ?_ ?_ ret
  · ktr_room
  · ktr_units
end Mine
end

/- part Frm -/
section
open PySem PySem.W PyProof.Rows PySem.Spec PySem.Calls PyProof.V
set_option maxRecDepth 100000
namespace Mine
section
theorem flat_fr {h₀ h : Heap} {L : Addr} {m : PySem.Str → Option Value} {ps : List (PySem.Str × Value)} (hp : ∀ p ∈ ps, m p.1 = some p.2) (F : Fr h₀ L h m) : Fr h₀ L h (kstB m ps) := by
  have e : kstB m ps = m := by
    funext z
    exact kstB_eq hp fun _ => rfl
  rw [e]
  exact F
/-- an end over the ledger: some letters c with the ledger Led c, the names ps c, all else as m₀ said (but the stored names) -/
noncomputable def LE {σ : Type} (h₀ : Heap) (L : Addr) (own : List (Addr × Obj)) (Led : σ → List (Addr × Obj)) (ps : σ → List (PySem.Str × Value)) (R : σ → Prop) (s₁ s₂ : Shared) : Prop :=
  ∃ (c : σ) (h' : Heap) (tk : Nat) (m' : PySem.Str → Option Value), s₂ = { s₁ with heap := h', toks := tk } ∧ Fr h₀ L h' m' ∧ News h₀ L h' (own ++ Led c) ∧ (∀ p ∈ own, ∀ q ∈ Led c, p.1 ≠ q.1) ∧ (∀ p ∈ ps c, m' p.1 = some p.2) ∧ R c
noncomputable def LEf {σ : Type} (h₀ : Heap) (L : Addr) (own : List (Addr × Obj)) (Led : σ → List (Addr × Obj)) (ps : σ → List (PySem.Str × Value)) (R : σ → Prop) (s₁ : Shared) (f : Flow) (s₂ : Shared) : Prop :=
  f = .next ∧ LE h₀ L own Led ps R s₁ s₂
theorem LE.intro {σ : Type} {h₀ h' : Heap} {L : Addr} {own all : List (Addr × Obj)} {Led : σ → List (Addr × Obj)} {ps : σ → List (PySem.Str × Value)} {m' : PySem.Str → Option Value} {R : σ → Prop} {s₁ : Shared} {tk : Nat} (c : σ)
    (F : Fr h₀ L h' m') (N : News h₀ L h' all) (hs : ∀ p ∈ own ++ Led c, p ∈ all) (ho : ∀ p ∈ own, ∀ q ∈ Led c, p.1 ≠ q.1) (hp : ∀ p ∈ ps c, m' p.1 = some p.2) (hR : R c) :
    LE h₀ L own Led ps R s₁ { s₁ with heap := h', toks := tk } := ⟨c, h', tk, m', rfl, F, fun p hp => N p (hs p hp), ho, hp, hR⟩

section
variable {prog : Program} {w : World} {A : Around} {E : Value → Shared → Prop} {Q : Flow → Shared → Prop} {s : Shared} {env : Env} {h₀ : Heap} {L : Addr} {m₀ : PySem.Str → Option Value}
theorem LE.elim {σ : Type} {own : List (Addr × Obj)} {Led : σ → List (Addr × Obj)} {ps : σ → List (PySem.Str × Value)} {R : σ → Prop} {s₁ : Shared} {P : Shared → Prop}
    (k : ∀ (c : σ) (u : PySem.Str → Option Value) (h : Heap) (tk : Nat), (∀ p ∈ ps c, u p.1 = some p.2) → R c → Fr h₀ L h u → News h₀ L h (own ++ Led c) → (∀ p ∈ own, ∀ q ∈ Led c, p.1 ≠ q.1) → P { s₁ with heap := h, toks := tk })
    (s₂ : Shared) (e : LE h₀ L own Led ps R s₁ s₂) : P s₂ := by
  obtain ⟨c, h', tk, m', rfl, F, N, ho, hp, hR⟩ := e
  exact k c m' h' tk hp hR F N ho
theorem LEf.elim {σ : Type} {own : List (Addr × Obj)} {Led : σ → List (Addr × Obj)} {ps : σ → List (PySem.Str × Value)} {R : σ → Prop} {s₁ : Shared} {P : Flow → Shared → Prop}
    (k : ∀ (c : σ) (u : PySem.Str → Option Value) (h : Heap) (tk : Nat), (∀ p ∈ ps c, u p.1 = some p.2) → R c → Fr h₀ L h u → News h₀ L h (own ++ Led c) → (∀ p ∈ own, ∀ q ∈ Led c, p.1 ≠ q.1) → P .next { s₁ with heap := h, toks := tk })
    (f : Flow) (s₂ : Shared) (e : LEf h₀ L own Led ps R s₁ f s₂) : P f s₂ := by
  obtain ⟨rfl, e⟩ := e
  exact LE.elim (P := P .next) k s₂ e
noncomputable def LEq {σ : Type} (Q : Flow → Shared → Prop) (h₀ : Heap) (L : Addr) (own : List (Addr × Obj)) (Led : σ → List (Addr × Obj)) (ps : σ → List (PySem.Str × Value)) (R : σ → Prop) (s₁ : Shared) (f : Flow) (s₂ : Shared) : Prop :=
  match f with
  | .next => LE h₀ L own Led ps R s₁ s₂
  | .ret v => Q (.ret v) s₂
  | _ => False
/-- a cut whose tree may also return -/
theorem cutQ {σ : Type} {t : Sem Flow} (_F : Fr h₀ L s.heap m₀) (Led : σ → List (Addr × Obj)) (ps : σ → List (PySem.Str × Value)) (_stored : List PySem.Str) (R : σ → Prop)
    (h1 : wpAny (model prog w) A t (LEq Q h₀ L [] Led ps R s) E s)
    (h2 : ∀ (c : σ) u h tk, R c → Fr h₀ L h (kstB u (ps c)) → News h₀ L h (Led c) → Q .next { s with heap := h, toks := tk }) :
    wpAny (model prog w) A t Q E s := by
  refine wpAny_mono h1 (fun f s₂ q => ?_) fun _ _ x => x
  cases f with
  | next => exact LE.elim (P := Q .next) (fun c u h tk hp hR F N _ => h2 c u h tk hR (flat_fr hp F) N) s₂ q
  | ret v => exact q
  | brk => exact q.elim
  | cont => exact q.elim
noncomputable def WInv {σ : Type} (Led : σ → List (Addr × Obj)) (ps : σ → List (PySem.Str × Value)) (P : σ → Prop) (μ : σ → Nat) (n : Nat) (m : PySem.Str → Option Value) (nx : List (Addr × Obj)) : Prop :=
  ∃ c : σ, nx = Led c ∧ μ c = n ∧ (∀ p ∈ ps c, m p.1 = some p.2) ∧ P c
theorem WInv.elim {σ : Type} {Led : σ → List (Addr × Obj)} {ps : σ → List (PySem.Str × Value)} {P : σ → Prop} {μ : σ → Nat} {G : Nat → (PySem.Str → Option Value) → Heap → Nat → Prop}
    (k : ∀ c m h tk, (∀ p ∈ ps c, m p.1 = some p.2) → P c → Fr h₀ L h m → News h₀ L h (Led c) → G (μ c) m h tk)
    (n : Nat) (m : PySem.Str → Option Value) (nx : List (Addr × Obj)) (h : Heap) (tk : Nat) (F : Fr h₀ L h m) (N : News h₀ L h nx) (i : WInv Led ps P μ n m nx) : G n m h tk := by
  obtain ⟨c, rfl, rfl, hk, hp⟩ := i
  exact k c m h tk hk hp F N
theorem whileG {σ : Type} {test : PySem.Expr} {body : List Stmt} {pos : Pos} (Led : σ → List (Addr × Obj)) (ps : σ → List (PySem.Str × Value)) (_stored : List PySem.Str) (P : σ → Prop) (R : σ → Prop) (μ : σ → Nat) (c₀ : σ)
    (F : Fr h₀ L s.heap m₀) (N : News h₀ L s.heap (Led c₀)) (hk : ∀ p ∈ ps c₀, m₀ p.1 = some p.2) (hp : P c₀)
    (turn : ∀ (c : σ) u h tk, P c → Fr h₀ L h (kstB u (ps c)) → News h₀ L h (Led c) →
      wpAny (model prog w) A (isTrue test env (eval test env)) (fun b s₂ =>
        if b = true then wpAny (model prog w) A (execs body env) (LEf h₀ L [] Led ps (fun c' => P c' ∧ μ c' < μ c) { s with heap := h, toks := tk }) E s₂ else LE h₀ L [] Led ps R { s with heap := h, toks := tk } s₂) E { s with heap := h, toks := tk })
    (done : ∀ (c : σ) u h tk, R c → Fr h₀ L h (kstB u (ps c)) → News h₀ L h (Led c) → Q .next { s with heap := h, toks := tk })
    (hE : PassesOwn (model prog w) A env E := by passes_own) :
    wpAny (model prog w) A (exec (.While test body [] pos) env) Q E s := by
  refine While_inv2 (WInv Led ps P μ) F N ⟨c₀, rfl, rfl, hk, hp⟩ (WInv.elim fun c m₁ h tk hk hp' F₁ N₁ => ?_) hE
  refine wpAny_mono (turn c m₁ h tk hp' (flat_fr hk F₁) N₁) (fun b s₂ p => ?_) fun _ _ x => x
  cases b with
  | false => exact LE.elim (P := Q .next) (fun c' u' h' tk' hp hR F' N' _ => done c' u' h' tk' hR (flat_fr hp F') N') s₂ (if_neg Bool.false_ne_true ▸ p)
  | true => exact wpAny_mono (if_pos rfl ▸ p) (LEf.elim fun c' m' h' tk' hk9 hp9 F' N' _ => ⟨h', tk', m', Led c', μ c', rfl, F', N', hp9.2, c', rfl, rfl, hk9, hp9.1⟩) fun _ _ x => x

noncomputable def RangeIs {σ : Type} (h₀ : Heap) (L : Addr) (Led : σ → List (Addr × Obj)) (ps : σ → List (PySem.Str × Value)) (P : σ → Prop) (a₀ : Int) (n : Nat) (s : Shared) (xv : Value) (s₁ : Shared) : Prop :=
  ∃ (c : σ) (r : Addr) (b₀ : Int) (t₀ u₀ v₀ : Tok) (h : Heap) (tk : Nat) (m : PySem.Str → Option Value), xv = .ref r ∧ s₁ = { s with heap := h, toks := tk } ∧ IsRange h r a₀ b₀ 1 t₀ u₀ v₀ ∧ Builtin.Range.small a₀ b₀ 1 = true ∧ Builtin.Range.rangeSize a₀ b₀ 1 = (n : Int) ∧
    Fr h₀ L h m ∧ News h₀ L h (Led c) ∧ (∀ p ∈ ps c, m p.1 = some p.2) ∧ P c
theorem RangeIs.intro {σ : Type} {h₀ h : Heap} {L : Addr} {Led : σ → List (Addr × Obj)} {ps : σ → List (PySem.Str × Value)} {m : PySem.Str → Option Value} {P : σ → Prop} {a₀ b₀ : Int} {t₀ u₀ v₀ : Tok} {n : Nat} {s : Shared} {r : Addr} {tk : Nat} {all : List (Addr × Obj)} (c : σ)
    (hr : IsRange h r a₀ b₀ 1 t₀ u₀ v₀) (hs : Builtin.Range.small a₀ b₀ 1 = true) (hn : Builtin.Range.rangeSize a₀ b₀ 1 = (n : Int)) (F : Fr h₀ L h m) (N : News h₀ L h all) (hsub : ∀ p ∈ Led c, p ∈ all) (hk : ∀ p ∈ ps c, m p.1 = some p.2) (hP : P c) :
    RangeIs h₀ L Led ps P a₀ n s (.ref r) { s with heap := h, toks := tk } := ⟨c, r, b₀, t₀, u₀, v₀, h, tk, m, rfl, rfl, hr, hs, hn, F, fun p hp => N p (hsub p hp), hk, hP⟩
theorem RangeIs.elim {σ : Type} {Led : σ → List (Addr × Obj)} {ps : σ → List (PySem.Str × Value)} {P : σ → Prop} {a₀ : Int} {n : Nat} {G : Value → Shared → Prop}
    (k : ∀ (c : σ) r b₀ t₀ u₀ v₀ h tk m, IsRange h r a₀ b₀ 1 t₀ u₀ v₀ → Builtin.Range.small a₀ b₀ 1 = true → Builtin.Range.rangeSize a₀ b₀ 1 = (n : Int) → Fr h₀ L h m → News h₀ L h (Led c) → (∀ p ∈ ps c, m p.1 = some p.2) → P c → G (.ref r) { s with heap := h, toks := tk })
    (xv : Value) (s₁ : Shared) (q : RangeIs h₀ L Led ps P a₀ n s xv s₁) : G xv s₁ := by
  obtain ⟨c₀, r, b₀, t₀, u₀, v₀, h, tk, m, rfl, rfl, hr, hsmall, hn, F, N, hk, hP⟩ := q
  exact k c₀ r b₀ t₀ u₀ v₀ h tk m hr hsmall hn F N hk hP
noncomputable def RInv {σ : Type} (Led : σ → List (Addr × Obj)) (ps : σ → List (PySem.Str × Value)) (P : Nat → σ → Prop) (i : Nat) (m : PySem.Str → Option Value) (nx : List (Addr × Obj)) : Prop :=
  ∃ c : σ, nx = Led c ∧ (∀ p ∈ ps c, m p.1 = some p.2) ∧ P i c
theorem itR_of {h : Heap} {I : Addr} {a k l : Int} (q : IsRangeIter h I (a + k * 1) l 1) : h.get? I = some (itR (a + k) l) := by
  rw [Int.mul_one] at q
  exact q
theorem own_one {own : List (Addr × Obj)} {I : Addr} {o : Obj} {h : Heap} (hown : ∀ p ∈ own, p.1 ∈ [I]) (hget : ∀ p ∈ own, h.get? p.1 = some p.2) (e : h.get? I = some o) (p : Addr × Obj) (hp : p ∈ own) : p = (I, o) :=
  Prod.ext (List.mem_singleton.mp (hown p hp)) (Option.some.inj ((hget p hp).symm.trans (List.mem_singleton.mp (hown p hp) ▸ e)))
theorem news_own {own l : List (Addr × Obj)} {p₀ : Addr × Obj} {h : Heap} (hown : ∀ p ∈ own, p = p₀) (N : News h₀ L h (p₀ :: l)) : News h₀ L h (own ++ l) :=
  fun p hp => (List.mem_append.mp hp).elim (fun q => hown p q ▸ N p₀ (.head _)) (fun q => N p (.tail _ q))
theorem news_pull {own l : List (Addr × Obj)} {p₀ : Addr × Obj} {h : Heap} (hm : p₀ ∈ own) (N : News h₀ L h (own ++ l)) : News h₀ L h (p₀ :: l) :=
  List.forall_mem_cons.mpr ⟨N _ (List.mem_append_left _ hm), fun p hp => N p (List.mem_append_right _ hp)⟩
theorem forRangeG {σ : Type} {x : PySem.Str} {px : Pos} {iter : PySem.Expr} {body : List Stmt} {pos : Pos} (_F : Fr h₀ L s.heap m₀) (Led : σ → List (Addr × Obj)) (ps : σ → List (PySem.Str × Value)) (_stored : List PySem.Str) (P : Nat → σ → Prop) (a₀ : Int) (n : Nat)
    (hh : A.handled = none) (hL : env.locals = L)
    (hiter : wpAny (model prog w) A (eval iter env) (RangeIs h₀ L Led ps (P 0) a₀ n s) E s)
    (turn : ∀ (i : Nat) (c : σ) u (I : Addr) t (s₁ : Shared), i < n → P i c → (∃ c₀ : σ, ∀ p ∈ Led c₀, p.1 < I) → (∀ p ∈ Led c, p.1 ≠ I) → Fr h₀ L s₁.heap (kstB u (ps c)) → News h₀ L s₁.heap ((I, itR (a₀ + ((i + 1 : Nat) : Int)) ((n : Int) - ((i + 1 : Nat) : Int))) :: Led c) →
      wpAny (model prog w) A (assign (.Name x px) env (.int (a₀ + (i : Int)) t)) (fun _ s₃ => wpAny (model prog w) A (execs body env) (LEf h₀ L [(I, itR (a₀ + ((i + 1 : Nat) : Int)) ((n : Int) - ((i + 1 : Nat) : Int)))] Led ps (P (i + 1)) s₁) E s₃) E s₁)
    (done : ∀ (c : σ) u h tk, P n c → Fr h₀ L h (kstB u (ps c)) → News h₀ L h (Led c) → Q .next { s with heap := h, toks := tk })
    (hs : ∀ x, foldedSetIterable iter env x = pure x := by intro _; rfl)
    (hE : PassesOwn (model prog w) A env E := by passes_own) :
    wpAny (model prog w) A (exec (.For (.Name x px) iter body [] pos) env) Q E s := by
  subst hL
  refine For_invT h₀ (wpAny_mono hiter (RangeIs.elim fun c₀ r b₀ t₀ u₀ v₀ h tk m hr hsmall hn F N hk hP => ?_) fun _ _ x => x) hs hE
  refine wpAny_pyIter_range hr hsmall ?_
  have W : Walks prog w A h.objs.size [h.objs.size] [h.objs.size] n (fun i v => i < n ∧ ∃ t, v = .int (a₀ + i * 1) t)
      (fun i h' => IsRangeIter h' h.objs.size (a₀ + (i : Nat) * 1) ((n : Int) - (i : Nat)) 1) := (Walks.range hh _ a₀ 1 n).bound
  have hnew := next_is_new F
  refine ⟨_, _, _, n, _, _, m, Led c₀, RInv Led ps P, rfl, W, fun q => absurd F.ns.lt ((List.mem_singleton.mp q) ▸ Nat.lt_irrefl _), fun b hb => List.mem_singleton.mp hb ▸ hnew, fun p hp q => absurd (Heap.lt_size (N p hp).1) ((List.mem_singleton.mp q) ▸ Nat.lt_irrefl _),
    (by show IsRangeIter _ _ _ _ _; rw [hn]; simpa using Heap.get?_push_size _ rfl), F.push _, (fun p hp => ⟨Heap.get?_push_of_some _ (N p hp).1, (N p hp).2⟩), (fun i s' v Q' st hQ' => wpAny_pure hQ'), ⟨c₀, rfl, hk, hP⟩,
    fun i v m₁ news₁ s₁ own hin hv hJ hoff hown hget hall hst F₂ N₂ => hv.2.elim fun t ht => hJ.elim fun c hc => ?_, fun h' tk' m' news' F' N' _ hJ => hJ.elim fun c hc => done c m' h' tk' hc.2.2 (flat_fr hc.2.1 F') (hc.1 ▸ N')⟩
  have hst' := itR_of hst
  rw [ht, Int.mul_one]
  refine wpAny_mono (turn i c m₁ h.objs.size t s₁ hin hc.2.2 ⟨c₀, fun p hp => Heap.lt_size (N p hp).1⟩ (fun p hp e => hoff p (hc.1 ▸ hp) (List.mem_singleton.mpr e)) (flat_fr hc.2.1 F₂) (hc.1 ▸ news_pull (hall h.objs.size (List.mem_singleton.mpr rfl) hnew _ hst') N₂)) (fun _ s₃ q => wpAny_mono q (LEf.elim fun c' m' h' tk' hk9 hp9 F' N' ho => ?_) fun _ _ x => x) fun _ _ x => x
  exact ⟨rfl, h', tk', m', Led c', rfl, F', news_own (own_one hown hget hst') N', fun p hp hI => ho _ (List.mem_singleton.mpr rfl) p hp (List.mem_singleton.mp hI).symm, c', rfl, hk9, hp9⟩
/-- a goal that the walk leaves as it is -/
noncomputable def Hold (P : Prop) : Prop := P
theorem hold_it {P : Prop} (h : Hold P) : P := h
theorem Hold.intro {P : Prop} (h : P) : Hold P := h
end
/-- where the walk is to stop -/
noncomputable def HoldMark (_n : Nat) : Prop := True
end
end Mine
end

/- part LevM -/
section
open PySem PySem.W PyProof.Rows
namespace Mine
section
noncomputable def subCost (a b : PySem.Str) : Int := if a = b then 0 else if Txt.lower a = Txt.lower b then 1 else 2
/-- the mirror of the first while -/
noncomputable def preM (a b : PySem.Str) : Nat → Int → Int
  | 0, p => p
  | f + 1, p => if (Txt.slice a (some p) none).length = 0 then p else if (Txt.slice b (some p) none).length = 0 then p else
      if Txt.item a p = Txt.item b p then preM a b f (p + 1) else p
noncomputable def cutM (a : PySem.Str) (p : Int) : PySem.Str := Txt.slice a none (if p = 0 then none else some p)
noncomputable def postM (a b : PySem.Str) : Nat → Int → Int
  | 0, p => p
  | f + 1, p => if (cutM a p).length = 0 then p else if (cutM b p).length = 0 then p else
      if Txt.item a (p - 1) = Txt.item b (p - 1) then postM a b f (p - 1) else p
structure DP where
  row : List Int
  d : Int
  r : Int
  m : Int
noncomputable def inStep (a bc : PySem.Str) (i : Nat) (s : DP) : DP :=
  let sub := s.d + subCost bc (Txt.item a i)
  let d := s.row.getD i 0
  let r := min (min s.r d + 2) sub
  ⟨s.row.set i r, d, r, if r < s.m then r else s.m⟩
noncomputable def inM (a bc : PySem.Str) : Nat → DP → DP
  | 0, s => s
  | n + 1, s => inStep a bc n (inM a bc n s)
noncomputable def outStep (a b : PySem.Str) (i : Nat) (s : List Int × Int) : List Int × Int :=
  let e := inM a (Txt.item b i) a.length ⟨s.1, 2 * i, 2 * i, 9223372036854775807⟩
  (e.row, e.r)
noncomputable def minAt (a b : PySem.Str) (i : Nat) (s : List Int × Int) : Int :=
  (inM a (Txt.item b i) a.length ⟨s.1, 2 * i, 2 * i, 9223372036854775807⟩).m
noncomputable def outM (a b : PySem.Str) : Nat → List Int × Int
  | 0 => ((List.range a.length).map (fun k : Nat => 2 * ((k : Int) + 1)), 0)
  | n + 1 => outStep a b n (outM a b n)
noncomputable def sa (a b : PySem.Str) : PySem.Str := let p := preM a b 6 0; cutM (Txt.slice a (some p) none) (postM (Txt.slice a (some p) none) (Txt.slice b (some p) none) 6 0)
noncomputable def sb (a b : PySem.Str) : PySem.Str := let p := preM a b 6 0; cutM (Txt.slice b (some p) none) (postM (Txt.slice a (some p) none) (Txt.slice b (some p) none) 6 0)
noncomputable def levM (a b : PySem.Str) : Int := if a = b then 0 else (outM (sa a b) (sb a b) (sb a b).length).2

noncomputable def wordAt : Nat → Nat → List Nat
  | _, 0 => []
  | x, n + 1 => wordAt (x / 2) n ++ [65 + 2 * n + 1 + x % 2]
noncomputable def word (x : Nat) : PySem.Str := ⟨(wordAt x 5).toArray⟩
noncomputable def ham : Nat → Nat → Nat → Int
  | _, _, 0 => 0
  | x, y, n + 1 => (if x % 2 = y % 2 then 0 else 1) + ham (x / 2) (y / 2) n




end
end Mine
end

/- part Sub1 -/
section
open PySem PySem.W PyProof.Rows
namespace Mine
section
set_option maxRecDepth 100000 in
set_option maxHeartbeats 8000000 in
theorem sub_cl (w : World) (a b : PySem.Str) (ta tb : Tok) (news : List (Addr × Obj)) (hd0 : hd.heap_39 w.params = hd.heap_39 w.params) (ha : a.length ≤ 1) (hb : b.length ≤ 1) :
   Cl 1 w (hd.heap_39 w.params) topProg 64 news [.str a ta, .str b tb] (fun r news' => news' = news ∧ ∃ t, r = .int (subCost a b) t) := by
  w_top off
  k_with_none
  k_with "st8" => (repeat' (first | (k_unfold; (try dsimp only)) | (k_end; wrow_close) | ((with_reducible show wpAny _ _ (PySem.exec _ _) _ _ _); k_fold; walk1) | walk1 | (dsimp only; walk1) | (leave1; walk_say "STEP leave1"; try dsimp only) | fail "no step"))
  unfold Cl
  k_fill
  clear hd0
  intro mean mg mb dp un gd cn cs ad ccd cl outer A₀ base h₀ L m s Q E B F X N T hk hdp hu hret
  refine wpAny_call ?_
  k_dflt cell_enter
  k_steps
  · have e : a = b := eq_of_beq (by assumption)
    refine hret _ _ _ _ ?_ ?_ ⟨rfl, _, by rw [subCost, if_pos e]⟩ <;> assumption
  · have e : ¬ a = b := by simpa using ‹(a == b) = false›
    have e2 : Txt.lower a = Txt.lower b := eq_of_beq (by assumption)
    refine hret _ _ _ _ ?_ ?_ ⟨rfl, _, by rw [subCost, if_neg e, if_pos e2]⟩ <;> assumption
  · have e : ¬ a = b := by simpa using ‹(a == b) = false›
    have e2 : ¬ Txt.lower a = Txt.lower b := by simpa using ‹(Txt.lower a == Txt.lower b) = false›
    refine hret _ _ _ _ ?_ ?_ ⟨rfl, _, by rw [subCost, if_neg e, if_neg e2]⟩ <;> assumption
end
end Mine
end

/- part ListL -/
section
open PySem PySem.W PyProof.Rows PySem.Spec PySem.Calls PyProof.V
set_option maxRecDepth 100000
namespace Mine
section
theorem ints_of : ∀ (l : List PySem.Value) (f : Nat → Int), (∀ j v, l[j]? = some v → ∃ t, v = PySem.Value.int (f j) t) → IntsAre l ((List.range l.length).map f)
  | [], _, _ => .nil
  | v :: r, f, h => by
    obtain ⟨t, rfl⟩ := h 0 v rfl
    rw [List.length_cons, List.range_succ_eq_map, List.map_cons, List.map_map]
    exact .cons _ t (ints_of r (fun k => f (k + 1)) fun j v hj => h (j + 1) v hj)
section
variable {prog : Program} {w : World} {A : Around} {E : Value → Shared → Prop} {s : Shared} {h₀ : Heap} {L r : Addr} {m : PySem.Str → Option Value} {news : List (Addr × Obj)} {a b c : Int} {t₀ u₀ v₀ : Tok} {n : Nat} {Q : Value → Shared → Prop}
theorem list_range_step (hh : A.handled = none) (F : Fr h₀ L s.heap m) (N : News h₀ L s.heap news) (hr : IsRange s.heap r a b c t₀ u₀ v₀) (hsmall : Builtin.Range.small a b c = true) (hn : Builtin.Range.rangeSize a b c = (n : Int)) (hz : n ≤ 2 ^ 24)
    (h : ∀ D us e h' tk, Fr h₀ L h' m → News h₀ L h' ((D, listOf (List.toArray us) e) :: news) → (∀ p ∈ news, p.1 < D) → IntsAre us ((List.range n).map fun k : Nat => a + (k : Int) * c) → Q (.ref D) { s with heap := h', toks := tk }) :
    wpAny (model prog w) A (call (.type "list") [.ref r]) Q E s := by
  refine call_list_range hh hr hsmall hn hz fun h' tk acc e hk hD hI => ?_
  have hD' : h'.get? s.heap.objs.size = some (listOf (List.toArray acc.toList) e) := by
    rw [Array.toArray_toList]
    exact hD
  refine h _ acc.toList e h' tk (F.keeps hk) (news_pushed F N hk hD' rfl) (fun p hp => Heap.lt_size (N p hp).1) ?_
  have q := ints_of acc.toList (fun k : Nat => a + (k : Int) * c) fun j v hj => hI.2 j v (by rw [← hj, Array.getElem?_toList])
  have z : acc.toList.length = n := by rw [Array.length_toList]; exact hI.1
  rw [z] at q
  exact q
end
end
end Mine
end

/- part Lev2 -/
section
open PySem PySem.W PyProof.Rows
namespace Mine
section
-- the closing of an end by its letters: the word is left

theorem row_small : ∀ n : Nat, n ≤ 5 → Builtin.Range.small 2 (2 * ((n : Int) + 1)) 2 = true ∧ Builtin.Range.rangeSize 2 (2 * ((n : Int) + 1)) 2 = (n : Int) := by decide
theorem rng_small : ∀ n : Nat, n ≤ 5 → Builtin.Range.small 0 (n : Int) 1 = true ∧ Builtin.Range.rangeSize 0 (n : Int) 1 = (n : Int) := by decide
theorem ltMin (r x : Int) : (if x < r then x else r) = min r x := by
  rw [Int.min_def]
  by_cases h : r ≤ x
  · rw [if_neg (Int.not_lt.mpr h), if_pos h]
  · rw [if_pos (Int.not_le.mp h), if_neg h]
theorem minV (r x s : Int) : (if s < (if x < r then x else r) + 2 then s else (if x < r then x else r) + 2) = min (min r x + 2) s := by
  rw [ltMin r x, ltMin]
theorem row_is (n : Nat) : ((List.range n).map fun k : Nat => (2 : Int) + (k : Int) * 2) = (List.range n).map (fun k : Nat => 2 * ((k : Int) + 1)) := by
  apply List.map_congr_left
  intro i _
  omega
theorem inM_len (a bc : PySem.Str) (s : DP) : ∀ n, (inM a bc n s).row.length = s.row.length
  | 0 => rfl
  | n + 1 => by rw [inM, inStep]; simp only [List.length_set]; exact inM_len a bc s n
theorem outM_len (a b : PySem.Str) : ∀ n, (outM a b n).1.length = a.length
  | 0 => by simp [outM]
  | n + 1 => by rw [outM, outStep]; simp only [inM_len]; exact outM_len a b n
theorem min_cut {n : Nat} {j : Int} (h0 : j < 0) (h1 : -(n : Int) ≤ j) : ((min (j + n - 0).toNat n : Nat) : Int) = n + j := by
  have e1 : ((j + n - 0).toNat : Int) = n + j := by
    rw [Int.sub_zero, Int.add_comm]
    exact Int.toNat_of_nonneg (Int.le_add_of_sub_left_le ((Int.zero_sub (n : Int)).symm ▸ h1))
  rw [Nat.min_eq_left (Int.ofNat_le.mp (e1 ▸ Int.le_of_lt (show (n : Int) + j < n from Int.add_lt_add_left h0 n)))]
  exact e1
theorem cut_len {x : PySem.Str} {j : Int} (h0 : j < 0) (h1 : -(x.length : Int) ≤ j) : ((Txt.slice x none (some j)).length : Int) = x.length + j := by
  have e : Txt.slice x none (some j) = ⟨((x.cps.toList.drop 0).take (j + x.length - 0).toNat).toArray⟩ := StrLaws.sliceText_to_neg h0 h1
  rw [e]
  simp only [PySem.Str.length, List.size_toArray, List.length_take, List.drop_zero, Array.length_toList] at h1 ⊢
  exact min_cut h0 h1
theorem cut_nn (x : PySem.Str) : Txt.slice x none none = x := by
  have e : (Builtin.Str.strSliceIndices none none 1 x.length).length = x.length := by
    rw [StrLaws.sliceIdx_none_lo, StrLaws.sliceIdx_none_hi]
    have q := StrLaws.strSliceIndices_plain (a := 0) (b := x.length) (Nat.zero_le _) (Nat.le_refl x.length)
    have q' : Builtin.Str.strSliceIndices (some 0) (some (x.length : Int)) 1 x.length = _ := q
    rw [q']
    simp
  unfold Txt.slice
  rw [if_pos (by simp [e])]
theorem cutM_z {a : PySem.Str} {p : Int} (h : p = 0) : cutM a p = Txt.slice a none none := by rw [cutM, if_pos h]
theorem cutM_n {a : PySem.Str} {p : Int} (h : p ≠ 0) : cutM a p = Txt.slice a none (some p) := by rw [cutM, if_neg h]
theorem pre6 {k : Int} (h0 : 0 ≤ k) (h5 : k ≤ 5) : 6 - k.toNat = 6 - (k + 1).toNat + 1 := by
  obtain ⟨n, rfl⟩ := Int.eq_ofNat_of_zero_le h0
  have hn : n ≤ 5 := Int.ofNat_le.mp h5
  show 6 - n = 6 - (n + 1) + 1
  exact (Nat.succ_pred_eq_of_pos (Nat.sub_pos_of_lt (Nat.lt_succ_of_le hn))).symm
theorem post6 {k : Int} (h0 : k ≤ 0) (h5 : -5 ≤ k) : 6 - (-k).toNat = 6 - (-(k - 1)).toNat + 1 := by
  rw [show -(k - 1) = -k + 1 by omega]
  exact pre6 (by omega) (by omega)
theorem post_step {a b : PySem.Str} {k : Int} (h0 : k ≤ 0) (h5 : -5 < k) (h1 : (cutM a k).length ≠ 0) (h2 : (cutM b k).length ≠ 0) (h3 : Txt.item a (k - 1) = Txt.item b (k - 1)) :
    postM a b (6 - (-k).toNat) k = postM a b (6 - (-(k - 1)).toNat) (k - 1) := by
  have e := post6 h0 (Int.le_of_lt h5)
  rw [e, postM, if_neg h1, if_neg h2, if_pos h3]
theorem post_stop {a b : PySem.Str} {k : Int} (h0 : k ≤ 0) (h5 : -5 ≤ k) (h : (cutM a k).length = 0 ∨ (cutM b k).length = 0 ∨ Txt.item a (k - 1) ≠ Txt.item b (k - 1)) :
    postM a b (6 - (-k).toNat) k = k := by
  have e := post6 h0 h5
  rw [e, postM]
  rcases h with h | h | h
  · rw [if_pos h]
  · rw [if_pos h]; split <;> rfl
  · rw [if_neg h]; split
    · rfl
    · split <;> rfl

theorem sl_h4 {n a : Nat} {k : Int} (ha : a = 5) (h : (0 ≤ k → k ≤ (a : Int) → (n : Int) = a - k) ∧ ((a : Int) ≤ k → (n : Int) = 0)) (hn : (n : Int) ≠ 0) : k ≤ 4 := by
  subst ha
  exact Int.le_of_lt_add_one (Int.not_le.mp fun q => hn (h.2 q))
theorem sl_ne {n a : Nat} {k : Int} (ha : a = 5) (h0 : 0 ≤ k) (h4 : k ≤ 4) (h : (0 ≤ k → k ≤ (a : Int) → (n : Int) = a - k) ∧ ((a : Int) ≤ k → (n : Int) = 0)) : n ≠ 0 := by
  subst ha
  intro e
  have q := h.1 h0 (Int.le_trans h4 (by decide))
  rw [e] at q
  exact Int.ne_of_gt (Int.sub_pos_of_lt (Int.lt_of_le_of_lt h4 (by decide))) q.symm
theorem nat_ne {n : Nat} (h : (n : Int) ≠ 0) : n ≠ 0 := fun e => h (congrArg Nat.cast e)
theorem dn_6 {k : Int} (h : k ≤ 4) : (6 - (k + 1)).toNat < (6 - k).toNat := (Int.toNat_lt_toNat (Int.sub_pos_of_lt (Int.lt_of_le_of_lt h (by decide)))).mpr (Int.sub_lt_sub_left (Int.lt_add_one_of_le (Int.le_refl k)) 6)
theorem up_6 {k : Int} (h : -5 < k) : (k - 1 + 6).toNat < (k + 6).toNat := (Int.toNat_lt_toNat (Int.lt_trans (by decide : (0 : Int) < -5 + 6) (Int.add_lt_add_right h 6))).mpr (Int.add_lt_add_right (Int.sub_lt_self k (by decide)) 6)
theorem pre_step {a b : PySem.Str} {k : Int} (h0 : 0 ≤ k) (h5 : k ≤ 4) (h1 : (Txt.slice a (some k) none).length ≠ 0) (h2 : (Txt.slice b (some k) none).length ≠ 0) (h3 : Txt.item a k = Txt.item b k) :
    preM a b (6 - k.toNat) k = preM a b (6 - (k + 1).toNat) (k + 1) := by
  have e := pre6 h0 (Int.le_trans h5 (by decide))
  rw [e, preM, if_neg h1, if_neg h2, if_pos h3]
theorem pre_stop {a b : PySem.Str} {k : Int} (h0 : 0 ≤ k) (h5 : k ≤ 5) (h : (Txt.slice a (some k) none).length = 0 ∨ (Txt.slice b (some k) none).length = 0 ∨ Txt.item a k ≠ Txt.item b k) :
    preM a b (6 - k.toNat) k = k := by
  have e := pre6 h0 h5
  rw [e, preM]
  rcases h with h | h | h
  · rw [if_pos h]
  · rw [if_pos h]; split <;> rfl
  · rw [if_neg h]; split
    · rfl
    · split <;> rfl
theorem fr_tok {h₀ h : Heap} {L : Addr} {m : PySem.Str → Option Value} {x v : PySem.Str} (_F : Fr h₀ L h m) (t : Tok) (e : m x = some (.str v t)) : ∃ t, m x = some (.str v t) := ⟨t, e⟩
theorem elimL {P : List Value × (Int × Tok) × (Int × Tok) × (Int × Tok) → Prop} (h : ∀ us d td r tr m tm, P (us, (d, td), (r, tr), (m, tm))) : ∀ c, P c := fun ⟨us, ⟨d, td⟩, ⟨r, tr⟩, ⟨m, tm⟩⟩ => h us d td r tr m tm
set_option maxRecDepth 100000 in
set_option maxHeartbeats 8000000 in
theorem lev_cl (w : World) (a b : PySem.Str) (ta tb tm : Tok) (news : List (Addr × Obj)) (hd0 : hd.heap_39 w.params = hd.heap_39 w.params) (ha : a.length = 5) (hb : b.length = 5) (hl1 : (sa a b).length = (sb a b).length) (hl2 : a ≠ b → 1 ≤ (sa a b).length) (hl3 : (sa a b).length ≤ 5) (hmin : ∀ i, i < (sb a b).length → minAt (sa a b) (sb a b) i (outM (sa a b) (sb a b) i) ≤ 10) :
   Cl 2 w (hd.heap_39 w.params) topProg 71 news [.str a ta, .str b tb, .int 10 tm] (fun r news' => news' = news ∧ ∃ t, r = .int (levM a b) t) := by
  w_top off
  k_with_none
  k_with "st8" => (repeat' (first | (k_unfold; (try dsimp only)) | (k_end; wrow_close) | ((with_reducible show wpAny _ _ (PySem.exec _ _) _ _ _); k_fold; walk1) | walk1 | (dsimp only; walk1) | (leave1; walk_say "STEP leave1"; try dsimp only) | fail "no step"))
  k_with "all8" => (assumption)
  k_with "exec For Name Call cons nil" => (rename HoldMark 4 => hmk; refine' hold_it ?_)
  k_with "LEq" => (dsimp only [LEq]; (try k_unfold); (try dsimp only))
  k_with "LEf" => (refine ⟨rfl, ?_⟩)
  k_with "le0" => ((rename News _ _ _ _ => nE'q9); (rename Fr _ _ _ _ => fE'q9); (refine' LE.intro () fE'q9 nE'q9 ?k1z4 ?k2z4 ?k3z4 ?_); (case k1z4 => kst_in); (case k2z4 => (intro pq9 hpq9; cases hpq9)); (case k3z4 => kst_all))
  k_with "le1" => ((rename News _ _ _ _ => nE'q9); (rename Fr _ _ _ _ => fE'q9); (refine' LE.intro _ fE'q9 nE'q9 ?k1z5 ?k2z5 ?k3z5 ?_); (case k1z5 => kst_in); (case k2z5 => (intro pq9 hpq9; cases hpq9)); (case k3z5 => kst_all))
  k_with "le2" => ((rename News _ _ _ _ => nE'q9); (rename Fr _ _ _ _ => fE'q9); (refine' LE.intro (_, _) fE'q9 nE'q9 ?k1z6 ?k2z6 ?k3z6 ?_); (case k1z6 => kst_in); (case k2z6 => (intro pq9 hpq9; cases hpq9)); (case k3z6 => kst_all))
  k_with "subscriptTail Name Slice str ref" => ((with_reducible show wpAny _ _ (subscriptTail _ (Expr.Slice none (some (Expr.BoolOp _ _ _)) none _) _ _) _ _ _); (with_reducible rename Fr _ _ _ _ => F'q9); (with_reducible rename News _ _ _ _ => N'q9); (first | (refine slice_strN_nn (hsz := ?hszz7) (s := ⟨_, _, _, _, _⟩) F'q9 N'q9 ?_) | (refine slice_strN_ns (hsz := ?hszz7) (s := ⟨_, _, _, _, _⟩) F'q9 N'q9 ?_)); (case hszz7 => size_fits); intro _ _ _ _ _)
  k_with "eval Constant none" => (exfalso; omega)
  k_with "exec Return some" => (exfalso; omega)
  k_with "exec Assign cons Tuple" => (exfalso; omega)
  k_with "rng3" => ((rename IsRange _ _ _ _ _ _ _ _ => rgXq9); (refine' RangeIs.intro (_, _, _) rgXq9 ?_ ?_ (by assumption) (by assumption) ?k1z11 ?k2z11 ?_); (case k1z11 => kst_in); (case k2z11 => kst_all))
  k_with "rng7" => ((rename IsRange _ _ _ _ _ _ _ _ => rgXq9); (refine' RangeIs.intro (_, (_, _), (_, _), (_, _)) rgXq9 ?_ ?_ (by assumption) (by assumption) ?k1z12 ?k2z12 ?_); (case k1z12 => kst_in); (case k2z12 => (dsimp only; repeat (first | exact List.forall_mem_nil _ | (refine List.forall_mem_cons.mpr ⟨by first | with_unfolding_all rfl | assumption, ?_⟩)))))
  k_with "le7" => ((rename News _ _ _ _ => nE'q9); (rename Fr _ _ _ _ => fE'q9); (refine' LE.intro (_, (_, _), (_, _), (_, _)) fE'q9 nE'q9 ?k1z13 ?_ ?k3z13 ?_); (case k1z13 => kst_in); (case k3z13 => kst_all))
  k_with "le3o" => ((rename News _ _ _ _ => nE'q9); (rename Fr _ _ _ _ => fE'q9); (refine' LE.intro (_, _, _) fE'q9 nE'q9 ?k1z14 ?_ ?k3z14 ?_); (case k1z14 => kst_in); (case k3z14 => kst_all))
  k_with "le3" => ((rename News _ _ _ _ => nE'q9); (rename Fr _ _ _ _ => fE'q9); (refine' LE.intro (_, _, _) fE'q9 nE'q9 ?k1z15 ?k2z15 ?k3z15 ?_); (case k1z15 => kst_in); (case k2z15 => (intro pq9 hpq9; cases hpq9)); (case k3z15 => kst_all))
  k_with "call ref" => (k_here; (with_reducible show wpAny _ _ (call (Value.ref 64) _) _ _ _); (with_unfolding_all refine' Cl.use ?k1z16 ?k2z16 ?k3z16 ?k4z16 ?k5z16 (sub_cl _ _ _ _ _ _ rfl ?kaz16 ?kbz16) ?k6z16 ?k7z16 ?k8z16 ?_); (case k1z16 => k_asm); (case k2z16 => k_asm); (case k3z16 => k_asm); (case k4z16 => k_asm); (case k5z16 => k_asm); (case kaz16 => omega); (case kbz16 => omega); (case k6z16 => first | exact rfl | assumption); (case k7z16 => ktr_room); (case k8z16 => ktr_units); intro r9q9 n9q9 h9q9 tk9q9 F9q9 N9q9 hP9q9; (obtain ⟨hn9q9, t9q9, hr9q9⟩ := hP9q9; subst hn9q9 hr9q9); (try dsimp only); (try k_fold))
  unfold Cl
  k_fill
  clear hd0
  intro mean mg mb dp un gd cn cs ad ccd cl outer A₀ base h₀ L m s Q E B F X N T hk hdp hun hret
  refine wpAny_call ?_
  k_dflt cell_enter
  -- if a == b: return 0
  refine wpAny_execs_cons ?_
  (rename Fr _ _ _ _ => lF'); (rename News _ _ _ _ => lN')
  refine cutQ (σ := Unit) lF' (fun _ => news) (fun _ => [(Str.ofString "a", .str a ta), (Str.ofString "b", .str b tb), (Str.ofString "max_cost", .int 10 tm)]) [] (fun _ => a ≠ b) ?_ ?_
  · k_steps
    · have e : a = b := eq_of_beq (by assumption)
      refine hret _ _ _ _ ?_ ?_ ⟨rfl, _, by rw [levM, if_pos e]⟩ <;> assumption
    · walk_at "le0"
      intro e; subst e; simp_all
  rintro _ u1 h1 tk1 hne F1 N1
  clear lF' lN'
  dsimp only
  -- pre = 0
  refine wpAny_execs_cons ?_
  refine cutQ (σ := Tok) F1 (fun _ => news) (fun t => [(Str.ofString "pre", .int 0 t), (Str.ofString "a", .str a ta), (Str.ofString "b", .str b tb), (Str.ofString "max_cost", .int 10 tm)]) [] (fun _ => True) ?_ ?_
  · k_steps
    walk_at "le1"
    trivial
  rintro t2 u2 h2 tk2 - F2 N2
  clear F1 N1
  dsimp only
  refine wpAny_execs_cons ?_
  refine whileG (σ := Int × Tok) (fun _ => news) (fun c => [(Str.ofString "pre", .int c.1 c.2), (Str.ofString "a", .str a ta), (Str.ofString "b", .str b tb), (Str.ofString "max_cost", .int 10 tm)]) [] (fun c => 0 ≤ c.1 ∧ c.1 ≤ 5 ∧ preM a b (6 - c.1.toNat) c.1 = preM a b 6 0) (fun c => c.1 = preM a b 6 0 ∧ 0 ≤ c.1 ∧ c.1 ≤ 5) (fun c => (6 - c.1).toNat) (0, t2) F2 N2 (by kst_all) (by simp) ?_ ?_
  · rintro ⟨pre, tp⟩ u3 h3 tk3 ⟨i1, i2, i3⟩ F3 N3
    clear F2 N2
    dsimp only at F3 i1 i2 i3 ⊢
    k_steps
    · walk_at "le2"
      have hx : (Txt.slice a (some pre) none).length ≠ 0 := nat_ne (by with_reducible assumption)
      have h4 : pre ≤ 4 := sl_h4 (n := (Txt.slice a (some pre) none).length) (a := a.length) (by with_reducible assumption) (by with_reducible assumption) (by with_reducible assumption)
      have hy : (Txt.slice b (some pre) none).length ≠ 0 := sl_ne (n := (Txt.slice b (some pre) none).length) (a := b.length) (by with_reducible assumption) i1 h4 (by with_reducible assumption)
      have hz : Txt.item a pre = Txt.item b pre := eq_of_beq (by assumption)
      exact ⟨⟨Int.le_of_lt (Int.lt_add_one_of_le i1), Int.add_le_add_right h4 1, (pre_step i1 h4 hx hy hz).symm.trans i3⟩, dn_6 h4⟩
    · walk_at "le2"
      exact ⟨(pre_stop i1 i2 (.inr (.inr (by simpa using ‹(Txt.item a pre == Txt.item b pre) = false›)))).symm.trans i3, i1, i2⟩
    · walk_at "le2"
      exact ⟨(pre_stop i1 i2 (.inl (by omega))).symm.trans i3, i1, i2⟩
  rintro ⟨pre, tp⟩ u3 h3 tk3 ⟨i1, i2, i3⟩ F3 N3
  clear F2 N2
  dsimp only at F3 i1 i2 i3 ⊢
  -- a = a[pre:]; b = b[pre:]
  refine wpAny_execs_cons ?_
  refine cutQ (σ := Tok) F3 (fun _ => news) (fun t => [(Str.ofString "a", .str (Txt.slice a (some pre) none) t), (Str.ofString "b", .str b tb), (Str.ofString "pre", .int pre tp), (Str.ofString "max_cost", .int 10 tm)]) [] (fun _ => (Txt.slice a (some pre) none).length ≤ 5) ?_ ?_
  · k_steps
    walk_at "le1"
    omega
  rintro t4 u4 h4 tk4 la F4 N4
  clear F3 N3
  dsimp only
  refine wpAny_execs_cons ?_
  refine cutQ (σ := Tok) F4 (fun _ => news) (fun t => [(Str.ofString "b", .str (Txt.slice b (some pre) none) t), (Str.ofString "a", .str (Txt.slice a (some pre) none) t4), (Str.ofString "max_cost", .int 10 tm)]) [] (fun _ => (Txt.slice b (some pre) none).length ≤ 5) ?_ ?_
  · k_steps
    walk_at "le1"
    omega
  rintro t5 u5 h5 tk5 lb F5 N5
  clear F4 N4
  dsimp only
  have hsa : sa a b = cutM (Txt.slice a (some pre) none) (postM (Txt.slice a (some pre) none) (Txt.slice b (some pre) none) 6 0) := by rw [i1]; rfl
  have hsb : sb a b = cutM (Txt.slice b (some pre) none) (postM (Txt.slice a (some pre) none) (Txt.slice b (some pre) none) 6 0) := by rw [i1]; rfl
  generalize Txt.slice a (some pre) none = a2 at *
  generalize Txt.slice b (some pre) none = b2 at *
  -- post = 0
  refine wpAny_execs_cons ?_
  refine cutQ (σ := Tok) F5 (fun _ => news) (fun t => [(Str.ofString "post", .int 0 t), (Str.ofString "a", .str a2 t4), (Str.ofString "b", .str b2 t5), (Str.ofString "max_cost", .int 10 tm)]) [] (fun _ => True) ?_ ?_
  · k_steps
    walk_at "le1"
    trivial
  rintro t6 u6 h6 tk6 - F6 N6
  clear F5 N5
  dsimp only
  refine wpAny_execs_cons ?_
  refine whileG (σ := Int × Tok) (fun _ => news) (fun c => [(Str.ofString "post", .int c.1 c.2), (Str.ofString "a", .str a2 t4), (Str.ofString "b", .str b2 t5), (Str.ofString "max_cost", .int 10 tm)]) [] (fun c => c.1 ≤ 0 ∧ -(a2.length : Int) ≤ c.1 ∧ -(b2.length : Int) ≤ c.1 ∧ postM a2 b2 (6 - (-c.1).toNat) c.1 = postM a2 b2 6 0) (fun c => c.1 = postM a2 b2 6 0 ∧ c.1 ≤ 0 ∧ -(a2.length : Int) ≤ c.1 ∧ -(b2.length : Int) ≤ c.1) (fun c => (c.1 + 6).toNat) (0, t6) F6 N6 (by kst_all) (by simp) ?_ ?_
  · rintro ⟨post, tp⟩ u7 h7 tk7 ⟨j1, j2, j4, j3⟩ F7 N7
    clear F6 N6
    dsimp only at F7 j1 j2 j3 j4 ⊢
    by_cases hz : post = 0
    · subst hz
      have c1 : cutM a2 0 = Txt.slice a2 none none := cutM_z rfl
      have c2 : cutM b2 0 = Txt.slice b2 none none := cutM_z rfl
      have d1 : (Txt.slice a2 none none).length = a2.length := by rw [cut_nn]
      have d2 : (Txt.slice b2 none none).length = b2.length := by rw [cut_nn]
      k_steps
      · walk_at "le2"
        have hz : Txt.item a2 (0 - 1) = Txt.item b2 (0 - 1) := eq_of_beq (by assumption)
        exact ⟨⟨by dsimp only; omega, by dsimp only; omega, by dsimp only; omega, (post_step j1 (by omega) (by rw [c1]; omega) (by rw [c2]; omega) hz).symm.trans j3⟩, up_6 (by omega)⟩
      · walk_at "le2"
        exact ⟨(post_stop j1 (by omega) (.inr (.inr (by simpa using ‹(Txt.item a2 (0 - 1) == Txt.item b2 (0 - 1)) = false›)))).symm.trans j3, j1, j2, j4⟩
      · walk_at "le2"
        exact ⟨(post_stop j1 (by omega) (.inr (.inl (by rw [c2]; omega)))).symm.trans j3, j1, j2, j4⟩
      · walk_at "le2"
        exact ⟨(post_stop j1 (by omega) (.inl (by rw [c1]; omega))).symm.trans j3, j1, j2, j4⟩
    · have c1 : cutM a2 post = Txt.slice a2 none (some post) := cutM_n hz
      have c2 : cutM b2 post = Txt.slice b2 none (some post) := cutM_n hz
      have d1 := cut_len (x := a2) (j := post) (by omega) j2
      have d2 := cut_len (x := b2) (j := post) (by omega) j4
      k_steps
      · walk_at "le2"
        have hz : Txt.item a2 (post - 1) = Txt.item b2 (post - 1) := eq_of_beq (by assumption)
        exact ⟨⟨by dsimp only; omega, by dsimp only; omega, by dsimp only; omega, (post_step j1 (by omega) (by rw [c1]; omega) (by rw [c2]; omega) hz).symm.trans j3⟩, up_6 (by omega)⟩
      · walk_at "le2"
        exact ⟨(post_stop j1 (by omega) (.inr (.inr (by simpa using ‹(Txt.item a2 (post - 1) == Txt.item b2 (post - 1)) = false›)))).symm.trans j3, j1, j2, j4⟩
      · walk_at "le2"
        exact ⟨(post_stop j1 (by omega) (.inr (.inl (by rw [c2]; omega)))).symm.trans j3, j1, j2, j4⟩
      · walk_at "le2"
        exact ⟨(post_stop j1 (by omega) (.inl (by rw [c1]; omega))).symm.trans j3, j1, j2, j4⟩
  rintro ⟨post, tp⟩ u7 h7 tk7 ⟨j1, j2, j3, j4⟩ F7 N7
  clear F6 N6
  dsimp only at F7 j1 j2 j3 j4 ⊢
  rw [← j1] at hsa hsb
  obtain ⟨A, hA⟩ : ∃ A, A = cutM a2 post := ⟨_, rfl⟩
  obtain ⟨B', hB⟩ : ∃ B', B' = cutM b2 post := ⟨_, rfl⟩
  refine wpAny_execs_cons ?_
  refine cutQ (σ := Tok) F7 (fun _ => news) (fun t => [(Str.ofString "a", .str A t), (Str.ofString "b", .str b2 t5), (Str.ofString "post", .int post tp), (Str.ofString "max_cost", .int 10 tm)]) [] (fun _ => True) ?_ ?_
  · by_cases hz : post = 0
    · have c1 : A = Txt.slice a2 none none := hA.trans (cutM_z hz)
      clear hA hB hsa hsb hl1 hl2 hl3 hmin j1
      subst hz c1
      k_steps
      walk_at "le1"
      trivial
    · have c1 : A = Txt.slice a2 none (some post) := hA.trans (cutM_n hz)
      clear hA hB hsa hsb hl1 hl2 hl3 hmin j1
      subst c1
      k_steps
      walk_at "le1"
      trivial
  rintro t8 u8 h8 tk8 - F8 N8
  clear F7 N7
  dsimp only
  refine wpAny_execs_cons ?_
  refine cutQ (σ := Tok) F8 (fun _ => news) (fun t => [(Str.ofString "b", .str B' t), (Str.ofString "a", .str A t8), (Str.ofString "max_cost", .int 10 tm)]) [] (fun _ => True) ?_ ?_
  · by_cases hz : post = 0
    · have c1 : B' = Txt.slice b2 none none := hB.trans (cutM_z hz)
      clear hA hB hsa hsb hl1 hl2 hl3 hmin j1
      subst hz c1
      k_steps
      walk_at "le1"
      trivial
    · have c1 : B' = Txt.slice b2 none (some post) := hB.trans (cutM_n hz)
      clear hA hB hsa hsb hl1 hl2 hl3 hmin j1
      subst c1
      k_steps
      walk_at "le1"
      trivial
  rintro t9 u9 h9 tk9 - F9 N9
  clear F8 N8
  dsimp only
  rw [← hA] at hsa
  rw [← hB] at hsb
  have hlev : levM a b = (outM A B' B'.length).2 := by rw [levM, if_neg hne, hsa, hsb]
  rw [hsa, hsb] at hl1 hmin
  rw [hsa] at hl2 hl3
  have hl4 := hl2 hne
  clear hl2 hsa hsb hA hB j1 j2 j3 j4 i1 i2 i3 la lb ha hb
  -- the four ifs
  refine wpAny_execs_cons ?_
  refine cutQ (σ := Unit) F9 (fun _ => news) (fun t => [(Str.ofString "a", .str A t8), (Str.ofString "b", .str B' t9), (Str.ofString "max_cost", .int 10 tm)]) [] (fun _ => True) ?_ ?_
  · k_steps
    walk_at "le0"
    trivial
  rintro _ v1 g1 q1 - G1 M1
  clear F9 N9
  dsimp only
  refine wpAny_execs_cons ?_
  refine cutQ (σ := Unit) G1 (fun _ => news) (fun t => [(Str.ofString "a", .str A t8), (Str.ofString "b", .str B' t9), (Str.ofString "max_cost", .int 10 tm)]) [] (fun _ => True) ?_ ?_
  · k_steps
    walk_at "le0"
    trivial
  rintro _ v2 g2 q2 - G2 M2
  clear G1 M1
  dsimp only
  refine wpAny_execs_cons ?_
  refine cutQ (σ := Unit) G2 (fun _ => news) (fun t => [(Str.ofString "a", .str A t8), (Str.ofString "b", .str B' t9), (Str.ofString "max_cost", .int 10 tm)]) [] (fun _ => True) ?_ ?_
  · k_steps
    walk_at "le0"
    trivial
  rintro _ v3 g3 q3 - G3 M3
  clear G2 M2
  dsimp only
  refine wpAny_execs_cons ?_
  refine cutQ (σ := Unit) G3 (fun _ => news) (fun t => [(Str.ofString "a", .str A t8), (Str.ofString "b", .str B' t9), (Str.ofString "max_cost", .int 10 tm)]) [] (fun _ => True) ?_ ?_
  · k_steps
    walk_at "le0"
    trivial
  rintro _ v4 g4 q4 - G4 M4
  clear G3 M3
  dsimp only
  -- row = list(range(2, 2 * (len(a) + 1), 2))
  refine wpAny_execs_cons ?_
  obtain ⟨hsm, hsz⟩ := row_small A.length hl3
  refine cutQ (σ := Addr × List Value × Nat) G4 (fun c => (c.1, listOf (List.toArray c.2.1) c.2.2) :: news) (fun c => [(Str.ofString "row", .ref c.1), (Str.ofString "a", .str A t8), (Str.ofString "b", .str B' t9), (Str.ofString "max_cost", .int 10 tm)]) [] (fun c => (∀ p ∈ news, p.1 < c.1) ∧ IntsAre c.2.1 (outM A B' 0).1) ?_ ?_
  · k_with "call type:list" => (rename IsRange _ _ _ _ _ _ _ _ => rgX; refine' list_range_step (n := A.length) rfl (by k_asm) (by k_asm) rgX ?_ ?_ ?_ ?_; (exact hsm); (exact hsz); (omega); (k_whole); intro D us e h' tk F' N' l1 hI)
    k_steps
    walk_at "le3"
    exact ⟨l1, by rw [row_is] at hI; exact hI⟩
  rintro ⟨D, us, e⟩ v5 g5 q5 ⟨hD, hI⟩ G5 M5
  clear G4 M4
  dsimp only at G5 M5 hD hI ⊢
  refine wpAny_execs_cons ?_
  refine cutQ (σ := Tok) G5 (fun c => (D, listOf (List.toArray us) e) :: news) (fun t => [(Str.ofString "result", .int 0 t), (Str.ofString "row", .ref D), (Str.ofString "a", .str A t8), (Str.ofString "b", .str B' t9), (Str.ofString "max_cost", .int 10 tm)]) [] (fun c => True) ?_ ?_
  · k_steps
    walk_at "le1"
    trivial
  rintro tr v6 g6 q6 - G6 M6
  clear G5 M5
  dsimp only
  refine wpAny_execs_cons ?_
  have hbl : B'.length ≤ 5 := by omega
  obtain ⟨hs1, hs2⟩ := rng_small B'.length hbl
  obtain ⟨hs3, hs4⟩ := rng_small A.length hl3
  refine forRangeG (σ := List Value × Int × Tok) G6 (fun c => (D, listOf (List.toArray c.1) e) :: news) (fun c => [(Str.ofString "result", .int c.2.1 c.2.2), (Str.ofString "row", .ref D), (Str.ofString "a", .str A t8), (Str.ofString "b", .str B' t9), (Str.ofString "max_cost", .int 10 tm)])
    [Str.ofString "bindex", Str.ofString "bchar", Str.ofString "distance", Str.ofString "minimum", Str.ofString "index", Str.ofString "substitute", Str.ofString "insert_delete"]
    (fun i c => IntsAre c.1 (outM A B' i).1 ∧ c.2.1 = (outM A B' i).2) 0 B'.length rfl rfl ?_ ?_ ?_
  · k_steps
    walk_at "rng3"
    · exact hs1
    · exact hs2
    · exact ⟨hI, rfl⟩
  · rintro i ⟨us1, r1, tr1⟩ u9 I t s1 hi ⟨p1, p2⟩ - hoff F9 N9
    clear G6 M6
    dsimp only at p1 p2 F9 N9 hoff ⊢
    rw [Int.zero_add]
    have hrow := outM_len A B' i
    have hDI : @Ne Nat D I := hoff _ (.head _)
    have hnI : ∀ p ∈ news, p.1 ≠ I := fun p hp => hoff p (.tail _ hp)
    have hnD : ∀ p ∈ news, p.1 ≠ D := fun p hp => Nat.ne_of_lt (hD p hp)
    generalize itR ((0 : Int) + ((i + 1 : Nat) : Int)) ((B'.length : Int) - ((i + 1 : Nat) : Int)) = it at *
    have hmk : HoldMark 4 := trivial
    k_steps
    clear hmk
    refine Hold.intro ?_
    (rename Fr _ _ _ _ => fI)
    obtain ⟨tbc, hbc⟩ := fr_tok (x := Str.ofString "bchar") (v := Txt.item B' i) fI _ (by with_unfolding_all rfl)
    refine forRangeG (σ := List Value × (Int × Tok) × (Int × Tok) × (Int × Tok)) fI (fun c => (D, listOf (List.toArray c.1) e) :: (I, it) :: news) (fun c => [(Str.ofString "distance", .int c.2.1.1 c.2.1.2), (Str.ofString "result", .int c.2.2.1.1 c.2.2.1.2), (Str.ofString "minimum", .int c.2.2.2.1 c.2.2.2.2), (Str.ofString "row", .ref D), (Str.ofString "bchar", .str (Txt.item B' i) tbc), (Str.ofString "a", .str A t8), (Str.ofString "b", .str B' t9), (Str.ofString "max_cost", .int 10 tm)])
        [Str.ofString "index", Str.ofString "substitute", Str.ofString "insert_delete"]
        (fun j c => IntsAre c.1 (inM A (Txt.item B' i) j ⟨(outM A B' i).1, 2 * i, 2 * i, 9223372036854775807⟩).row ∧ c.2.1.1 = (inM A (Txt.item B' i) j ⟨(outM A B' i).1, 2 * i, 2 * i, 9223372036854775807⟩).d ∧ c.2.2.1.1 = (inM A (Txt.item B' i) j ⟨(outM A B' i).1, 2 * i, 2 * i, 9223372036854775807⟩).r ∧ c.2.2.2.1 = (inM A (Txt.item B' i) j ⟨(outM A B' i).1, 2 * i, 2 * i, 9223372036854775807⟩).m) 0 A.length rfl rfl ?_ ?_ ?_
    · k_steps
      walk_at "rng7"
      · exact hs3
      · exact hs4
      · exact ⟨p1, by simp only [inM]; omega, by simp only [inM]; omega, rfl⟩
    · intro j
      refine elimL (fun us2 d2 td2 r2 tr2 m2 tm2 => ?_)
      intro u10 J t2 s2 hj hR9 hx9 hoffJ F10 N10
      clear hx9
      have q1 := hR9.1
      have q2 := hR9.2.1
      have q3 := hR9.2.2.1
      have q4 := hR9.2.2.2
      clear hR9
      clear fI
      dsimp only at q1 q2 q3 q4 hoffJ F10 N10 ⊢
      rw [Int.zero_add]
      have hDJ : @Ne Nat D J := hoffJ _ (.head _)
      have hIJ : @Ne Nat I J := hoffJ _ (.tail _ (.head _))
      have hrow2 := (inM_len A (Txt.item B' i) ⟨(outM A B' i).1, 2 * i, 2 * i, 9223372036854775807⟩ j).trans hrow
      have hnJ : ∀ p ∈ news, p.1 ≠ J := fun p hp => hoffJ p (.tail _ (.tail _ hp))
      subst q2 q3 q4
      k_steps
      · walk_at "le7"
        · intro p hp q hq
          rw [List.mem_singleton.mp hp]
          rcases List.mem_cons.mp hq with rfl | hq
          · exact hDJ.symm
          rcases List.mem_cons.mp hq with rfl | hq
          · exact hIJ.symm
          exact fun z => hnJ q hq z.symm
        · rename IntsAre (List.set us2 _ _) _ => hi9
          rename _ < (inM A (Txt.item B' i) j ⟨(outM A B' i).1, 2 * i, 2 * i, 9223372036854775807⟩).m => hlt9
          simp only [Int.toNat_natCast, minV] at hi9 hlt9 ⊢
          exact ⟨hi9, rfl, rfl, (if_pos hlt9).symm⟩
      · walk_at "le7"
        · intro p hp q hq
          rw [List.mem_singleton.mp hp]
          rcases List.mem_cons.mp hq with rfl | hq
          · exact hDJ.symm
          rcases List.mem_cons.mp hq with rfl | hq
          · exact hIJ.symm
          exact fun z => hnJ q hq z.symm
        · rename IntsAre (List.set us2 _ _) _ => hi9
          rename ¬ _ < (inM A (Txt.item B' i) j ⟨(outM A B' i).1, 2 * i, 2 * i, 9223372036854775807⟩).m => hlt9
          simp only [Int.toNat_natCast, minV] at hi9 hlt9 ⊢
          exact ⟨hi9, rfl, rfl, (if_neg hlt9).symm⟩
    · refine elimL (fun us3 d3 td3 r3 tr3 m3 tm3 => ?_)
      intro u11 h11 tk11 hR9 F11 N11
      have q1 := hR9.1
      have q2 := hR9.2.1
      have q3 := hR9.2.2.1
      have q4 := hR9.2.2.2
      clear hR9
      clear fI
      dsimp only at q1 q2 q3 q4 F11 N11 ⊢
      have hm := hmin i hi
      unfold minAt at hm
      rw [← q4] at hm
      k_steps
      walk_at "le3o"
      · intro p hp q hq
        rw [List.mem_singleton.mp hp]
        rcases List.mem_cons.mp hq with rfl | hq
        · exact hDI.symm
        exact fun z => hnI q hq z.symm
      · exact ⟨q1, q3⟩
  · rintro ⟨us4, r4, tr4⟩ u12 h12 tk12 ⟨q1, q2⟩ F12 N12
    clear G6 M6
    dsimp only at q1 q2 F12 N12 ⊢
    k_steps
    rename News h₀ L _ _ => nR
    rename Fr h₀ L _ m => fR
    exact hret _ news _ _ fR (fun p hp => nR p (.tail _ hp)) ⟨rfl, _, by rw [hlev, ← q2]⟩
end
end Mine
end

/- part Bis1 -/
section
open PySem PySem.W PyProof.Rows
namespace Mine
section
section


noncomputable def Sorted (ns : List Int) : Prop := ∀ i j : Nat, i ≤ j → j < ns.length → ns.getD i 0 ≤ ns.getD j 0
/-- the function that stands at an address -/
noncomputable def fdAt (K : Frag) (a : Addr) : FuncData := match K.lookup a with
  | some ⟨_, _, .func fd, _⟩ => fd
  | _ => default
/-- the arguments lay the five names of a bisect -/
noncomputable def BArgs (w : World) (f l : Addr) (x : Int) (tx T : Tok) (args : List Value) : Prop :=
  ∀ S, peek (hd.heap_39 w.params) S (bindArgs (fdAt (hd.heap_39 w.params) f) ⟨args, []⟩) = some [(Str.ofString "a", .ref l), (Str.ofString "x", .int x tx), (Str.ofString "lo", .int 0 T), (Str.ofString "hi", .none), (Str.ofString "key", .none)]
section
set_option maxHeartbeats 2000000
theorem bargs2_32 (w : World) (l : Addr) (x : Int) (tx : Tok) : BArgs w 32 l x tx 202 [.ref l, .int x tx] := by
  intro S
  with_unfolding_all rfl
theorem bargs4_32 (w : World) (l : Addr) (x : Int) (tx t0 : Tok) : BArgs w 32 l x tx t0 [.ref l, .int x tx, .int 0 t0, .none] := by
  intro S
  with_unfolding_all rfl
theorem bargs2_50 (w : World) (l : Addr) (x : Int) (tx : Tok) : BArgs w 50 l x tx 229 [.ref l, .int x tx] := by
  intro S
  with_unfolding_all rfl
theorem bargs4_50 (w : World) (l : Addr) (x : Int) (tx t0 : Tok) : BArgs w 50 l x tx t0 [.ref l, .int x tx, .int 0 t0, .none] := by
  intro S
  with_unfolding_all rfl
end
theorem mid_lo {lo hi : Int} (h : lo < hi) : lo ≤ (lo + hi).fdiv 2 := by
  rw [Int.fdiv_eq_ediv_of_nonneg _ (by decide)]
  exact (Int.le_ediv_iff_mul_le (by decide)).mpr (show lo * 2 ≤ lo + hi by omega)
theorem mid_hi {lo hi : Int} (h : lo < hi) : (lo + hi).fdiv 2 < hi := by
  rw [Int.fdiv_eq_ediv_of_nonneg _ (by decide)]
  exact Int.ediv_lt_of_lt_mul (by decide) (show lo + hi < hi * 2 by omega)
theorem mid_a {lo m hi : Int} (h1 : lo ≤ m) (h2 : m < hi) : (m - lo).toNat < (hi - lo).toNat := (Int.toNat_lt_toNat (Int.sub_pos_of_lt (Int.lt_of_le_of_lt h1 h2))).mpr (Int.sub_lt_sub_right h2 lo)
theorem mid_b {lo m hi : Int} (h1 : lo ≤ m) (h2 : m < hi) : (hi - (m + 1)).toNat < (hi - lo).toNat := (Int.toNat_lt_toNat (Int.sub_pos_of_lt (Int.lt_of_le_of_lt h1 h2))).mpr (Int.sub_lt_sub_left (Int.lt_add_one_of_le h1) hi)
theorem mid_1 {m : Int} {i : Nat} (h0 : 0 ≤ m) (h : (i : Int) < m + 1) : i ≤ m.toNat := (Int.le_toNat h0).mpr (Int.le_of_lt_add_one h)
theorem mid_2 {m hi : Int} {n : Nat} (h0 : 0 ≤ m) (h : m < hi) (hn : hi ≤ n) : m.toNat < n := (Int.toNat_lt h0).mpr (Int.lt_of_lt_of_le h hn)
theorem elim4 {P : (Int × Tok) × (Int × Tok) → Prop} (k : ∀ lo tlo hi thi, P ((lo, tlo), (hi, thi))) : ∀ c, P c := fun ⟨⟨a, b⟩, ⟨c, d⟩⟩ => k a b c d
/-- what bisect_right tells -/
noncomputable def BisR (ns : List Int) (x r : Int) : Prop := 0 ≤ r ∧ r ≤ ns.length ∧ (∀ i : Nat, (i : Int) < r → ns.getD i 0 ≤ x) ∧ ∀ i : Nat, r ≤ i → i < ns.length → x < ns.getD i 0
noncomputable def BisL (ns : List Int) (x r : Int) : Prop := 0 ≤ r ∧ r ≤ ns.length ∧ (∀ i : Nat, (i : Int) < r → ns.getD i 0 < x) ∧ ∀ i : Nat, r ≤ i → i < ns.length → x ≤ ns.getD i 0

set_option maxRecDepth 100000 in
set_option maxHeartbeats 8000000 in
theorem bisr_core (w : World) (l : Addr) (vs : List Value) (ns : List Int) (e : Nat) (x : Int) (tx T0 : Tok) (args : List Value) (hargs : BArgs w 32 l x tx T0 args) (rest : List (Addr × Obj)) (hd0 : hd.heap_39 w.params = hd.heap_39 w.params) (hi : IntsAre vs ns) (hlen : ns.length ≤ 100) (hs : Sorted ns) :
   Cl 1 w (hd.heap_39 w.params) topProg 32 ((l, listOf vs.toArray e) :: rest) args (fun r news' => news' = (l, listOf vs.toArray e) :: rest ∧ ∃ k t, r = .int k t ∧ BisR ns x k) := by
  w_top off
  k_with_none
  k_with "st8" => (repeat' (first | (k_unfold; (try dsimp only)) | (k_end; wrow_close) | ((with_reducible show wpAny _ _ (PySem.exec _ _) _ _ _); k_fold; walk1) | walk1 | (dsimp only; walk1) | (leave1; walk_say "STEP leave1"; try dsimp only) | fail "no step"))
  k_with "all8" => (assumption)
  k_with "exec While Compare cons nil" => (rename HoldMark 4 => hmk; refine' hold_it ?_)
  k_with "LEq" => (dsimp only [LEq]; (try k_unfold); (try dsimp only))
  k_with "LEf" => (refine ⟨rfl, ?_⟩)
  k_with "le4" => ((rename News _ _ _ _ => nE'q9); (rename Fr _ _ _ _ => fE'q9); (refine' LE.intro ((_, _), (_, _)) fE'q9 nE'q9 ?k1z20 ?k2z20 ?k3z20 ?_); (case k1z20 => kst_in); (case k2z20 => (intro pq9 hpq9; cases hpq9)); (case k3z20 => kst_all))
  k_with "enter_kw" => (refine' code_def ?k1z21 ?k2z21 ?k3z21 ?k4z21 ?k5z21 ?kAz21 ?kFz21 ?kKz21 ?k6z21 ?k7z21 ?k8z21 ?k9z21 ?kBz21 ?_ ?c2z21 ?c3z21 ?c4z21 ?c5z21; (case kAz21 => exact rfl); (case kFz21 => exact rfl); (case kKz21 => assumption); (case k1z21 => k_asm); (case k2z21 => k_asm); (case k3z21 => k_asm); (case k4z21 => k_asm); (case k5z21 => k_asm); (case k6z21 => k_is); (case k7z21 => k_is); (case k8z21 => ktr_room); (case k9z21 => exact kp_binds (by k_in) hargs); (case c5z21 => decide); (case kBz21 => exact locs rfl); (case c2z21 => exact rfl); (case c3z21 => exact rfl); (case c4z21 => exact rfl); k_whole; intro g'q9 L'q9 h'q9 FG'q9 F'q9 N'q9 B'q9 X'q9 T'q9; (try dsimp only); (try k_lift B'q9); (try k_fold))
  unfold Cl
  k_fill
  clear hd0
  intro mean mg mb dp un gd cn cs ad ccd cl outer A₀ base h₀ L m s Q E B F X N T hk hdp hu hret
  have hmk : HoldMark 4 := trivial
  refine wpAny_call ?_
  k_dflt (walk_at "enter_kw")
  k_steps
  refine Hold.intro ?_
  (rename Fr _ _ _ _ => lF'); (rename News _ _ _ _ => lN')
  refine whileG (σ := (Int × Tok) × (Int × Tok)) (fun _ => (l, listOf vs.toArray e) :: rest) (fun c => [(Str.ofString "lo", .int c.1.1 c.1.2), (Str.ofString "hi", .int c.2.1 c.2.2), (Str.ofString "a", .ref l), (Str.ofString "x", .int x tx), (Str.ofString "key", .none)]) [Str.ofString "mid"]
    (fun c => 0 ≤ c.1.1 ∧ c.1.1 ≤ c.2.1 ∧ c.2.1 ≤ ns.length ∧ (∀ i : Nat, (i : Int) < c.1.1 → ns.getD i 0 ≤ x) ∧ ∀ i : Nat, c.2.1 ≤ i → i < ns.length → x < ns.getD i 0)
    (fun c => BisR ns x c.1.1) (fun c => (c.2.1 - c.1.1).toNat) ((0, _), ((ns.length : Int), _)) lF' lN' (by kst_all) ?_ ?_ ?_
  · exact ⟨Int.le_refl _, by simp, Int.le_refl _, fun i hlt => absurd hlt (by simp), fun i h1 h2 => absurd h1 (by simp; omega)⟩
  · refine elim4 fun lo tlo hi9 thi u9 h9 tk9 hI9 F9 N9 => ?_
    clear lF' lN'
    have b0 := hI9.1
    have b1 := hI9.2.1
    have b2 := hI9.2.2.1
    have b3 := hI9.2.2.2.1
    have b4 := hI9.2.2.2.2
    clear hI9
    dsimp only at b0 b1 b2 b3 b4 F9 N9 ⊢
    have hm : (lo + hi9).fdiv 2 = (lo + hi9) / 2 := Int.fdiv_eq_ediv_of_nonneg _ (by decide)
    k_steps
    · walk_at "le4"
      rename x < _ => hlt
      rename lo < hi9 => hlh
      refine ⟨⟨b0, mid_lo hlh, Int.le_trans (Int.le_of_lt (mid_hi hlh)) b2, b3, fun i h1 h2 => ?_⟩, mid_a (mid_lo hlh) (mid_hi hlh)⟩
      dsimp only at h1
      exact Int.lt_of_lt_of_le hlt (hs _ i (Int.toNat_le.mpr h1) h2)
    · walk_at "le4"
      rename ¬ x < _ => hlt
      rename lo < hi9 => hlh
      refine ⟨⟨Int.le_of_lt (Int.lt_add_one_of_le (Int.le_trans b0 (mid_lo hlh))), Int.add_one_le_of_lt (mid_hi hlh), b2, fun i h1 => ?_, b4⟩, mid_b (mid_lo hlh) (mid_hi hlh)⟩
      dsimp only at h1
      exact Int.le_trans (hs i _ (mid_1 (Int.le_trans b0 (mid_lo hlh)) h1) (mid_2 (Int.le_trans b0 (mid_lo hlh)) (mid_hi hlh) b2)) (Int.not_lt.mp hlt)
    · walk_at "le4"
      rename ¬ lo < hi9 => hlh
      exact ⟨b0, Int.le_trans b1 b2, b3, fun i h1 h2 => b4 i (Int.le_trans (Int.not_lt.mp hlh) h1) h2⟩
  · refine elim4 fun lo tlo hi9 thi u9 h9 tk9 hB F9 N9 => ?_
    clear lF' lN'
    dsimp only at hB F9 N9 ⊢
    k_steps
    rename News h₀ L _ _ => nR
    rename Fr h₀ L _ m => fR
    exact hret _ _ _ _ fR nR ⟨rfl, _, _, rfl, hB⟩
theorem bisr_cl (w : World) (l : Addr) (vs : List Value) (ns : List Int) (e : Nat) (x : Int) (tx t0 : Tok) (args : List Value) (hargs : args = [.ref l, .int x tx] ∨ args = [.ref l, .int x tx, .int 0 t0, .none]) (rest : List (Addr × Obj)) (_hd0 : hd.heap_39 w.params = hd.heap_39 w.params) (hi : IntsAre vs ns) (hlen : ns.length ≤ 100) (hs : Sorted ns) :
   Cl 1 w (hd.heap_39 w.params) topProg 32 ((l, listOf vs.toArray e) :: rest) args (fun r news' => news' = (l, listOf vs.toArray e) :: rest ∧ ∃ k t, r = .int k t ∧ BisR ns x k) := by
  rcases hargs with rfl | rfl
  · exact bisr_core w l vs ns e x tx 202 _ (bargs2_32 w l x tx) rest rfl hi hlen hs
  · exact bisr_core w l vs ns e x tx t0 _ (bargs4_32 w l x tx t0) rest rfl hi hlen hs
set_option maxRecDepth 100000 in
set_option maxHeartbeats 8000000 in
theorem bisl_core (w : World) (l : Addr) (vs : List Value) (ns : List Int) (e : Nat) (x : Int) (tx T0 : Tok) (args : List Value) (hargs : BArgs w 50 l x tx T0 args) (rest : List (Addr × Obj)) (hd0 : hd.heap_39 w.params = hd.heap_39 w.params) (hi : IntsAre vs ns) (hlen : ns.length ≤ 100) (hs : Sorted ns) :
   Cl 1 w (hd.heap_39 w.params) topProg 50 ((l, listOf vs.toArray e) :: rest) args (fun r news' => news' = (l, listOf vs.toArray e) :: rest ∧ ∃ k t, r = .int k t ∧ BisL ns x k) := by
  w_top off
  k_with_none
  k_with "st8" => (repeat' (first | (k_unfold; (try dsimp only)) | (k_end; wrow_close) | ((with_reducible show wpAny _ _ (PySem.exec _ _) _ _ _); k_fold; walk1) | walk1 | (dsimp only; walk1) | (leave1; walk_say "STEP leave1"; try dsimp only) | fail "no step"))
  k_with "all8" => (assumption)
  k_with "exec While Compare cons nil" => (rename HoldMark 4 => hmk; refine' hold_it ?_)
  k_with "LEq" => (dsimp only [LEq]; (try k_unfold); (try dsimp only))
  k_with "LEf" => (refine ⟨rfl, ?_⟩)
  k_with "le4" => ((rename News _ _ _ _ => nE'q9); (rename Fr _ _ _ _ => fE'q9); (refine' LE.intro ((_, _), (_, _)) fE'q9 nE'q9 ?k1z20 ?k2z20 ?k3z20 ?_); (case k1z20 => kst_in); (case k2z20 => (intro pq9 hpq9; cases hpq9)); (case k3z20 => kst_all))
  k_with "enter_kw" => (refine' code_def ?k1z21 ?k2z21 ?k3z21 ?k4z21 ?k5z21 ?kAz21 ?kFz21 ?kKz21 ?k6z21 ?k7z21 ?k8z21 ?k9z21 ?kBz21 ?_ ?c2z21 ?c3z21 ?c4z21 ?c5z21; (case kAz21 => exact rfl); (case kFz21 => exact rfl); (case kKz21 => assumption); (case k1z21 => k_asm); (case k2z21 => k_asm); (case k3z21 => k_asm); (case k4z21 => k_asm); (case k5z21 => k_asm); (case k6z21 => k_is); (case k7z21 => k_is); (case k8z21 => ktr_room); (case k9z21 => exact kp_binds (by k_in) hargs); (case c5z21 => decide); (case kBz21 => exact locs rfl); (case c2z21 => exact rfl); (case c3z21 => exact rfl); (case c4z21 => exact rfl); k_whole; intro g'q9 L'q9 h'q9 FG'q9 F'q9 N'q9 B'q9 X'q9 T'q9; (try dsimp only); (try k_lift B'q9); (try k_fold))
  unfold Cl
  k_fill
  clear hd0
  intro mean mg mb dp un gd cn cs ad ccd cl outer A₀ base h₀ L m s Q E B F X N T hk hdp hu hret
  have hmk : HoldMark 4 := trivial
  refine wpAny_call ?_
  k_dflt (walk_at "enter_kw")
  k_steps
  refine Hold.intro ?_
  (rename Fr _ _ _ _ => lF'); (rename News _ _ _ _ => lN')
  refine whileG (σ := (Int × Tok) × (Int × Tok)) (fun _ => (l, listOf vs.toArray e) :: rest) (fun c => [(Str.ofString "lo", .int c.1.1 c.1.2), (Str.ofString "hi", .int c.2.1 c.2.2), (Str.ofString "a", .ref l), (Str.ofString "x", .int x tx), (Str.ofString "key", .none)]) [Str.ofString "mid"]
    (fun c => 0 ≤ c.1.1 ∧ c.1.1 ≤ c.2.1 ∧ c.2.1 ≤ ns.length ∧ (∀ i : Nat, (i : Int) < c.1.1 → ns.getD i 0 < x) ∧ ∀ i : Nat, c.2.1 ≤ i → i < ns.length → x ≤ ns.getD i 0)
    (fun c => BisL ns x c.1.1) (fun c => (c.2.1 - c.1.1).toNat) ((0, _), ((ns.length : Int), _)) lF' lN' (by kst_all) ?_ ?_ ?_
  · exact ⟨Int.le_refl _, by simp, Int.le_refl _, fun i hlt => absurd hlt (by simp), fun i h1 h2 => absurd h1 (by simp; omega)⟩
  · refine elim4 fun lo tlo hi9 thi u9 h9 tk9 hI9 F9 N9 => ?_
    clear lF' lN'
    have b0 := hI9.1
    have b1 := hI9.2.1
    have b2 := hI9.2.2.1
    have b3 := hI9.2.2.2.1
    have b4 := hI9.2.2.2.2
    clear hI9
    dsimp only at b0 b1 b2 b3 b4 F9 N9 ⊢
    have hm : (lo + hi9).fdiv 2 = (lo + hi9) / 2 := Int.fdiv_eq_ediv_of_nonneg _ (by decide)
    k_steps
    · walk_at "le4"
      rename ns.getD _ _ < x => hlt
      rename lo < hi9 => hlh
      refine ⟨⟨Int.le_of_lt (Int.lt_add_one_of_le (Int.le_trans b0 (mid_lo hlh))), Int.add_one_le_of_lt (mid_hi hlh), b2, fun i h1 => ?_, b4⟩, mid_b (mid_lo hlh) (mid_hi hlh)⟩
      dsimp only at h1
      exact Int.lt_of_le_of_lt (hs i _ (mid_1 (Int.le_trans b0 (mid_lo hlh)) h1) (mid_2 (Int.le_trans b0 (mid_lo hlh)) (mid_hi hlh) b2)) hlt
    · walk_at "le4"
      rename ¬ ns.getD _ _ < x => hlt
      rename lo < hi9 => hlh
      refine ⟨⟨b0, mid_lo hlh, Int.le_trans (Int.le_of_lt (mid_hi hlh)) b2, b3, fun i h1 h2 => ?_⟩, mid_a (mid_lo hlh) (mid_hi hlh)⟩
      dsimp only at h1
      exact Int.le_trans (Int.not_lt.mp hlt) (hs _ i (Int.toNat_le.mpr h1) h2)
    · walk_at "le4"
      rename ¬ lo < hi9 => hlh
      exact ⟨b0, Int.le_trans b1 b2, b3, fun i h1 h2 => b4 i (Int.le_trans (Int.not_lt.mp hlh) h1) h2⟩
  · refine elim4 fun lo tlo hi9 thi u9 h9 tk9 hB F9 N9 => ?_
    clear lF' lN'
    dsimp only at hB F9 N9 ⊢
    k_steps
    rename News h₀ L _ _ => nR
    rename Fr h₀ L _ m => fR
    exact hret _ _ _ _ fR nR ⟨rfl, _, _, rfl, hB⟩
theorem bisl_cl (w : World) (l : Addr) (vs : List Value) (ns : List Int) (e : Nat) (x : Int) (tx t0 : Tok) (args : List Value) (hargs : args = [.ref l, .int x tx] ∨ args = [.ref l, .int x tx, .int 0 t0, .none]) (rest : List (Addr × Obj)) (_hd0 : hd.heap_39 w.params = hd.heap_39 w.params) (hi : IntsAre vs ns) (hlen : ns.length ≤ 100) (hs : Sorted ns) :
   Cl 1 w (hd.heap_39 w.params) topProg 50 ((l, listOf vs.toArray e) :: rest) args (fun r news' => news' = (l, listOf vs.toArray e) :: rest ∧ ∃ k t, r = .int k t ∧ BisL ns x k) := by
  rcases hargs with rfl | rfl
  · exact bisl_core w l vs ns e x tx 229 _ (bargs2_50 w l x tx) rest rfl hi hlen hs
  · exact bisl_core w l vs ns e x tx t0 _ (bargs4_50 w l x tx t0) rest rfl hi hlen hs

end
end
end Mine
end

/- part Ins1 -/
section
open PySem PySem.W PyProof.Rows
namespace Mine
section
theorem fits_of {k : Int} (h0 : 0 ≤ k) (h1 : k ≤ 1000) : Builtin.List.listFitsIndex k = true := by
  unfold Builtin.List.listFitsIndex
  simp only [Bool.and_eq_true, decide_eq_true_eq]
  omega
theorem size_of {vs : List Value} {ns : List Int} (hi : IntsAre vs ns) (h : ns.length ≤ 100) : vs.toArray.toList.length ≤ sizeLine := by
  have := hi.length
  rw [sizeLine_eq]
  show vs.length ≤ _
  omega
/-- the ints where one is put in at k -/
noncomputable def insI (ns : List Int) (k x : Int) : List Int := ns.take k.toNat ++ x :: ns.drop k.toNat
theorem ints_append : ∀ {as bs : List Value} {ms ns : List Int}, IntsAre as ms → IntsAre bs ns → IntsAre (as ++ bs) (ms ++ ns)
  | _, _, _, _, .nil, h => h
  | _, _, _, _, .cons n t g, h => .cons n t (ints_append g h)
theorem ints_take : ∀ {as : List Value} {ms : List Int}, IntsAre as ms → ∀ k, IntsAre (as.take k) (ms.take k)
  | _, _, .nil, k => by simpa using IntsAre.nil
  | _, _, .cons n t g, 0 => .nil
  | _, _, .cons n t g, k + 1 => .cons n t (ints_take g k)
theorem ints_drop : ∀ {as : List Value} {ms : List Int}, IntsAre as ms → ∀ k, IntsAre (as.drop k) (ms.drop k)
  | _, _, .nil, k => by simpa using IntsAre.nil
  | _, _, .cons n t g, 0 => .cons n t g
  | _, _, .cons n t g, k + 1 => ints_drop g k
theorem ints_ins {vs : List Value} {ns : List Int} (hi : IntsAre vs ns) {k x : Int} {t : Tok} (h0 : 0 ≤ k) (h1 : k ≤ ns.length) : IntsAre (kl_ins vs k (.int x t)) (insI ns k x) := by
  unfold kl_ins insI
  have hl := hi.length
  rw [if_neg (by omega), show min k.toNat vs.length = k.toNat by omega]
  exact ints_append (ints_take hi _) (.cons x t (ints_drop hi _))
section

set_option maxRecDepth 100000 in
set_option maxHeartbeats 8000000 in
theorem insr_cl (w : World) (l : Addr) (vs : List Value) (ns : List Int) (e : Nat) (x : Int) (tx : Tok) (rest : List (Addr × Obj)) (hd0 : hd.heap_39 w.params = hd.heap_39 w.params) (hi : IntsAre vs ns) (hlen : ns.length ≤ 100) (hs : Sorted ns) (hoff : ∀ p ∈ rest, p.1 ≠ l) :
   Cl 2 w (hd.heap_39 w.params) topProg 23 ((l, listOf vs.toArray e) :: rest) [.ref l, .int x tx] (fun r news' => ∃ k vs', r = .none ∧ news' = (l, listOf (List.toArray vs') (e + 1)) :: rest ∧ IntsAre vs' (insI ns k x) ∧ BisR ns x k) := by
  w_top off
  k_with_none
  k_with "st8" => (repeat' (first | (k_unfold; (try dsimp only)) | (k_end; wrow_close) | ((with_reducible show wpAny _ _ (PySem.exec _ _) _ _ _); k_fold; walk1) | walk1 | (dsimp only; walk1) | (leave1; walk_say "STEP leave1"; try dsimp only) | fail "no step"))
  k_with "all8" => (assumption)
  k_with "enter_kw" => (refine' code_def ?k1z22 ?k2z22 ?k3z22 ?k4z22 ?k5z22 ?kAz22 ?kFz22 ?kKz22 ?k6z22 ?k7z22 ?k8z22 ?k9z22 ?kBz22 ?_ ?c2z22 ?c3z22 ?c4z22 ?c5z22; (case kAz22 => exact rfl); (case kFz22 => exact rfl); (case kKz22 => assumption); (case k1z22 => k_asm); (case k2z22 => k_asm); (case k3z22 => k_asm); (case k4z22 => k_asm); (case k5z22 => k_asm); (case k6z22 => k_is); (case k7z22 => k_is); (case k8z22 => ktr_room); (case k9z22 => (refine' kp_binds ?kxz22 ?kez22; (case kxz22 => k_in); (case kez22 => exact fun _ => rfl))); (case c5z22 => decide); (case kBz22 => exact locs rfl); (case c2z22 => exact rfl); (case c3z22 => exact rfl); (case c4z22 => exact rfl); k_whole; intro g'q9 L'q9 h'q9 FG'q9 F'q9 N'q9 B'q9 X'q9 T'q9; (try dsimp only); (try k_lift B'q9); (try k_fold))
  k_with "call ref" => (k_here; (with_reducible show wpAny _ _ (call (Value.ref 32) _) _ _ _); (with_unfolding_all refine' Cl.use ?k1z23 ?k2z23 ?k3z23 ?k4z23 ?k5z23 (bisr_cl _ _ _ _ _ _ _ _ _ (.inr rfl) _ rfl ?kaz23 ?kbz23 ?kcz23) ?k6z23 ?k7z23 ?k8z23 ?_); (case k1z23 => k_asm); (case k2z23 => k_asm); (case k3z23 => k_asm); (case k4z23 => k_asm); (case k5z23 => k_asm); (case kaz23 => assumption); (case kbz23 => assumption); (case kcz23 => assumption); (case k6z23 => first | exact rfl | assumption); (case k7z23 => ktr_room); (case k8z23 => ktr_units); intro r9q9 n9q9 h9q9 tk9q9 F9q9 N9q9 hP9q9; (obtain ⟨hn9q9, k9q9, t9q9, hr9q9, hB9q9⟩ := hP9q9; subst hn9q9 hr9q9); (try dsimp only); (try k_fold))
  k_with "call builtin:list.insert" => (k_here; (with_reducible show wpAny _ _ (call (Value.builtin _) [Value.ref _, Value.int _ _, _]) _ _ _); (rename BisR _ _ _ => hB9q9); (rename IntsAre _ _ => hI9q9); (rename _ ≤ 100 => hl9q9); k_dflt (refine' kl_insert ?Fz24 ?Nz24 ?fz24 ?ez24 ?Uz24 ?zz24 ?_; (case Fz24 => k_asm); (case Nz24 => k_asm); (case ez24 => exact rfl); (case Uz24 => k_upd); (case fz24 => exact fits_of hB9q9.1 (by have q9 := hB9q9.2.1; omega)); (case zz24 => exact size_of hI9q9 hl9q9)); intro h'q9 F'q9 N'q9; (try dsimp only))
  unfold Cl
  k_fill
  clear hd0
  intro mean mg mb dp un gd cn cs ad ccd cl outer A₀ base h₀ L m s Q E B F X N T hk hdp hu hret
  refine wpAny_call ?_
  k_dflt (walk_at "enter_kw")
  k_steps
  rename News h₀ L _ _ => nR
  rename Fr h₀ L _ m => fR
  rename BisR _ _ _ => hB
  exact hret _ _ _ _ fR nR ⟨_, _, rfl, rfl, ints_ins (by assumption) hB.1 hB.2.1, hB⟩
end
end
end Mine
end

/- part Split1 -/
section
open PySem PySem.W PyProof.Rows
namespace Mine
section
noncomputable def spl (ms : List Int) : Int := let part := (ms.map fun n => (2 : Int) ^ n.toNat).sum; if part.fmod 2 = 1 then 31 - part else part
noncomputable def In04 (ms : List Int) : Prop := ∀ n ∈ ms, 0 ≤ n ∧ n ≤ 4
theorem In04.get {ms : List Int} (h : In04 ms) {k : Int} (hk : k ∈ ms) : 0 ≤ k ∧ k ≤ 4 := h k hk
section
set_option maxRecDepth 100000 in
set_option maxHeartbeats 3000000 in
theorem split_cl (w : World) (l : Addr) (vs : List Value) (ms : List Int) (e : Nat) (rest : List (Addr × Obj)) (hd0 : hd.heap_39 w.params = hd.heap_39 w.params) (hi : IntsAre vs ms) (hlen : ms.length ≤ 100) (hr : In04 ms) :
   Cl 2 w (hd.heap_39 w.params) topProg 76 ((l, listOf vs.toArray e) :: rest) [.ref l] (fun r news' => news' = (l, listOf vs.toArray e) :: rest ∧ ∃ t, r = .int (spl ms) t) := by
  w_top off
  k_with_none
  k_with "st8" => (repeat' (first | (k_unfold; (try dsimp only)) | (k_end; wrow_close) | ((with_reducible show wpAny _ _ (PySem.exec _ _) _ _ _); k_fold; walk1) | walk1 | (dsimp only; walk1) | (leave1; walk_say "STEP leave1"; try dsimp only) | fail "no step"))
  k_with "eval ListComp" => (k_here; k_dflt (refine LCg.ListComp_U (F₀ := by k_asm) (by with_unfolding_all rfl) (by decide) (by rfl) (by decide) (by rfl) ?_))
  k_with "CompSrc" => (k_here; k_dflt (refine LCg.CompSrc.ledger (by rfl) (by k_asm) (by k_asm) (by k_mem) (by exact size_of (by assumption) (by assumption)) ?_; intro g'q9; (refine' kcf_list _ (by first | assumption | l_ints) (fun k' t' I' oI' C' oC' D' m' ys' h' tk' E' hk' hC' hx' F' N' off' ne' hMark' => ?_) ?_); (all_goals (try (simp only [LCg.Off3, and_true] at off'))); kcf_last))
  k_with "binaryOp Pow int int" => (k_here; (with_reducible refine pow_int_small ?kb1z27 ?kb2z27 ?kb3z27 ?_); (case kb1z27 => exact (In04.get (by with_reducible assumption) (by with_reducible assumption)).1); (case kb2z27 => exact Int.le_trans (In04.get (by with_reducible assumption) (by with_reducible assumption)).2 (by decide)); (case kb3z27 => decide))
  unfold Cl
  k_fill
  clear hd0
  intro mean mg mb dp un gd cn cs ad ccd cl outer A₀ base h₀ L m s Q E B F X N T hk hdp hu hret
  refine wpAny_call ?_
  k_dflt cell_enter
  k_steps
  · rename News h₀ L _ _ => nR
    rename Fr h₀ L _ m => fR
    exact hret _ _ _ _ fR (by first | exact nR | exact fun p hp => nR p (List.mem_cons_of_mem _ hp)) ⟨rfl, _, by unfold spl; dsimp only; rw [if_pos (by assumption)]⟩
  · rename News h₀ L _ _ => nR
    rename Fr h₀ L _ m => fR
    exact hret _ _ _ _ fR (by first | exact nR | exact fun p hp => nR p (List.mem_cons_of_mem _ hp)) ⟨rfl, _, by unfold spl; dsimp only; rw [if_neg (by assumption)]⟩
end
theorem News.sub {h₀ h : Heap} {L : Addr} {a b : List (Addr × Obj)} (N : News h₀ L h a) (hs : ∀ p ∈ b, p ∈ a) : News h₀ L h b := fun p hp => N p (hs p hp)
theorem split_use (w : World) (l : Addr) (vs : List Value) (ms : List Int) (e : Nat) (news : List (Addr × Obj)) (hm : (l, listOf vs.toArray e) ∈ news) (hi : IntsAre vs ms) (hlen : ms.length ≤ 100) (hr : In04 ms) :
   Cl 2 w (hd.heap_39 w.params) topProg 76 news [.ref l] (fun r news' => news' = news ∧ ∃ t, r = .int (spl ms) t) := by
  have c := split_cl w l vs ms e news rfl hi hlen hr
  unfold Cl at c ⊢
  intro mean mg mb dp un gd cn cs ad ccd cl outer A₀ base h₀ L m s Q E B F X N T hk hdp hu hret
  refine c mean mg mb dp un gd cn cs ad ccd cl outer A₀ base h₀ L m s Q E B F X (fun p hp => ?_) T hk hdp hu fun r news' h' tk' F' N' hP => ?_
  · rcases List.mem_cons.mp hp with rfl | hp
    · exact N _ hm
    · exact N _ hp
  · obtain ⟨rfl, t, rfl⟩ := hP
    exact hret _ _ _ _ F' (fun p hp => N' p (List.mem_cons_of_mem _ hp)) ⟨rfl, t, rfl⟩
end
end Mine
end

/- part Law0 -/
section
open PySem PySem.W PyProof.Rows
namespace Mine
section
/-- none of these addresses is d -/
noncomputable def NeL (d : Nat) : List Nat → Prop
  | [] => True
  | a :: r => @Ne Nat a d ∧ NeL d r
theorem NeL.get {d : Nat} : ∀ {l : List Nat}, NeL d l → ∀ {a : Nat}, a ∈ l → @Ne Nat a d
  | _ :: _, h, _, .head _ => h.1
  | _ :: _, h, _, .tail _ q => NeL.get h.2 q
theorem fmod_rng (a : Int) {n : Int} (h : 0 < n) : 0 ≤ a.fmod n ∧ a.fmod n < n := by
  rw [Int.fmod_eq_emod_of_nonneg _ (Int.le_of_lt h)]
  exact ⟨Int.emod_nonneg _ (by omega), Int.emod_lt_of_pos _ h⟩
noncomputable def ringI (s : Int) : List Int := insI (insI (insI (insI [0] ((s.fdiv 1).fmod (1 + 1)) 1) ((s.fdiv 2).fmod (2 + 1)) 2) ((s.fdiv 6).fmod (3 + 1)) 3) ((s.fdiv 24).fmod (4 + 1)) 4
theorem insI_len (ns : List Int) {k : Int} (x : Int) (h0 : 0 ≤ k) (h1 : k ≤ ns.length) : (insI ns k x).length = ns.length + 1 := by
  unfold insI
  have hk : k.toNat ≤ ns.length := Int.toNat_le.mpr h1
  rw [List.length_append, List.length_cons, List.length_take, List.length_drop, Nat.min_eq_left hk, ← Nat.add_assoc, Nat.add_sub_cancel' hk]
theorem ring_l1 (s : Int) : (insI [0] ((s.fdiv 1).fmod (1 + 1)) 1).length = 2 :=
  insI_len [0] 1 (fmod_rng (s.fdiv 1) (n := 1 + 1) (by decide)).1 (Int.le_of_lt_add_one (fmod_rng (s.fdiv 1) (n := 1 + 1) (by decide)).2)
theorem ring_b2 (s : Int) : (s.fdiv 2).fmod (2 + 1) ≤ ((insI [0] ((s.fdiv 1).fmod (1 + 1)) 1).length : Int) := by
  rw [ring_l1]; exact Int.le_of_lt_add_one (fmod_rng (s.fdiv 2) (n := 2 + 1) (by decide)).2
theorem ring_l2 (s : Int) : (insI (insI [0] ((s.fdiv 1).fmod (1 + 1)) 1) ((s.fdiv 2).fmod (2 + 1)) 2).length = 3 := by
  rw [insI_len _ 2 (fmod_rng (s.fdiv 2) (n := 2 + 1) (by decide)).1 (ring_b2 s), ring_l1]
theorem ring_b3 (s : Int) : (s.fdiv 6).fmod (3 + 1) ≤ ((insI (insI [0] ((s.fdiv 1).fmod (1 + 1)) 1) ((s.fdiv 2).fmod (2 + 1)) 2).length : Int) := by
  rw [ring_l2]; exact Int.le_of_lt_add_one (fmod_rng (s.fdiv 6) (n := 3 + 1) (by decide)).2
theorem ring_l3 (s : Int) : (insI (insI (insI [0] ((s.fdiv 1).fmod (1 + 1)) 1) ((s.fdiv 2).fmod (2 + 1)) 2) ((s.fdiv 6).fmod (3 + 1)) 3).length = 4 := by
  rw [insI_len _ 3 (fmod_rng (s.fdiv 6) (n := 3 + 1) (by decide)).1 (ring_b3 s), ring_l2]
theorem ring_b4 (s : Int) : (s.fdiv 24).fmod (4 + 1) ≤ ((insI (insI (insI [0] ((s.fdiv 1).fmod (1 + 1)) 1) ((s.fdiv 2).fmod (2 + 1)) 2) ((s.fdiv 6).fmod (3 + 1)) 3).length : Int) := by
  rw [ring_l3]; exact Int.le_of_lt_add_one (fmod_rng (s.fdiv 24) (n := 4 + 1) (by decide)).2
theorem ring_ints (s : Int) (t0 t1 t2 t3 t4 : Tok) : IntsAre (kl_ins (kl_ins (kl_ins (kl_ins [PySem.Value.int 0 t0] ((s.fdiv 1).fmod (1 + 1)) (.int 1 t1)) ((s.fdiv 2).fmod (2 + 1)) (.int 2 t2)) ((s.fdiv 6).fmod (3 + 1)) (.int 3 t3)) ((s.fdiv 24).fmod (4 + 1)) (.int 4 t4)) (ringI s) := by
  exact ints_ins (ints_ins (ints_ins (ints_ins (.cons 0 _ .nil) (fmod_rng (s.fdiv 1) (n := 1 + 1) (by decide)).1 (Int.le_of_lt_add_one (fmod_rng (s.fdiv 1) (n := 1 + 1) (by decide)).2)) (fmod_rng (s.fdiv 2) (n := 2 + 1) (by decide)).1 (ring_b2 s)) (fmod_rng (s.fdiv 6) (n := 3 + 1) (by decide)).1 (ring_b3 s)) (fmod_rng (s.fdiv 24) (n := 4 + 1) (by decide)).1 (ring_b4 s)
theorem ringI_len (s : Int) : (ringI s).length = 5 := by
  unfold ringI
  rw [insI_len _ 4 (fmod_rng (s.fdiv 24) (n := 4 + 1) (by decide)).1 (ring_b4 s), ring_l3]
/-- the names that place j marks -/
noncomputable def mkd (ds rs : List Int) (j : Nat) : List Int := (List.range (((ds.getD j 0).fdiv 5 - ds.getD j 0).fmod 5).toNat).map fun t : Nat => rs.getD ((ds.getD j 0 + (t : Int)).fmod 5).toNat 0
noncomputable def fig (ms : List Int) (j : Nat) (n : Int) : Int := if n ∈ ms then 2 * j + 2 else 2 * j + 1
noncomputable def numAt (ds rs : List Int) (n : Int) : Nat → Int
  | 0 => 0
  | j + 1 => numAt ds rs n j * 16 + fig (mkd ds rs j) j n
noncomputable def txtAt (ds rs : List Int) (n : Int) : Nat → PySem.Str
  | 0 => Str.ofString ""
  | j + 1 => txtAt ds rs n j ++ Txt.item (Str.ofString "ABCDEFGHIJK") (fig (mkd ds rs j) j n)
noncomputable def partsAt (ds rs : List Int) : Nat → List Int
  | 0 => []
  | j + 1 => if mkd ds rs j = [] then partsAt ds rs j else spl (mkd ds rs j) :: partsAt ds rs j
theorem txtAt_len (ds rs : List Int) (n : Int) : ∀ j, (txtAt ds rs n j).length = j
  | 0 => by simp only [txtAt]; decide
  | j + 1 => by
    simp only [txtAt]
    rw [PySem.Str.length_append, txtAt_len ds rs n j]
    rfl
theorem fig_T {ms : List Int} {j : Nat} {n : Int} (h : (ms.any fun x => x == n) = true) : fig ms j n = 2 * (0 + (j : Int)) + 2 := by
  unfold fig
  obtain ⟨x, hx, e⟩ := List.any_eq_true.mp h
  have e2 : x = n := eq_of_beq e
  rw [if_pos (e2 ▸ hx), Int.zero_add]
theorem fig_F {ms : List Int} {j : Nat} {n : Int} (h : (ms.any fun x => x == n) = false) : fig ms j n = 2 * (0 + (j : Int)) + 1 := by
  unfold fig
  rw [if_neg (fun hx => by have z := List.any_eq_false.mp h n hx; simp at z), Int.zero_add]
theorem numAt_T {ds rs : List Int} {n m : Int} {i : Nat} (hm : m = numAt ds rs n i) (h : ((mkd ds rs i).any fun x => x == n) = true) : m * 16 + (2 * (0 + (i : Int)) + 2) = numAt ds rs n (i + 1) := by
  rw [hm]; show _ = numAt ds rs n i * 16 + fig _ _ _; rw [fig_T h]
theorem numAt_F {ds rs : List Int} {n m : Int} {i : Nat} (hm : m = numAt ds rs n i) (h : ((mkd ds rs i).any fun x => x == n) = false) : m * 16 + (2 * (0 + (i : Int)) + 1) = numAt ds rs n (i + 1) := by
  rw [hm]; show _ = numAt ds rs n i * 16 + fig _ _ _; rw [fig_F h]
theorem txtAt_T {ds rs : List Int} {n : Int} {m : PySem.Str} {i : Nat} (hm : m = txtAt ds rs n i) (h : ((mkd ds rs i).any fun x => x == n) = true) : m ++ Txt.item (Str.ofString "ABCDEFGHIJK") (2 * (0 + (i : Int)) + 2) = txtAt ds rs n (i + 1) := by
  rw [hm]; show _ = txtAt ds rs n i ++ Txt.item _ (fig _ _ _); rw [fig_T h]
theorem txtAt_F {ds rs : List Int} {n : Int} {m : PySem.Str} {i : Nat} (hm : m = txtAt ds rs n i) (h : ((mkd ds rs i).any fun x => x == n) = false) : m ++ Txt.item (Str.ofString "ABCDEFGHIJK") (2 * (0 + (i : Int)) + 1) = txtAt ds rs n (i + 1) := by
  rw [hm]; show _ = txtAt ds rs n i ++ Txt.item _ (fig _ _ _); rw [fig_F h]
theorem draws_len (ns : List Int) : (List.map (fun a : Int => a.fmod 25) (List.take (Int.toNat 5) ns ++ List.drop ((List.take (Int.toNat 5) ns).length : Int).toNat [10, 21, 2, 23, 8])).length = 5 := by
  simp only [List.length_map, List.length_append, List.length_take, List.length_drop, List.length_cons, List.length_nil]
  omega
theorem draws_rng (l : List Int) : ∀ d ∈ List.map (fun a : Int => a.fmod 25) l, 0 ≤ d ∧ d < 25 := by
  intro d hd
  obtain ⟨a, _, rfl⟩ := List.mem_map.mp hd
  exact fmod_rng a (by decide)
theorem neL_of {I : Addr} : ∀ {l : List (Addr × Obj)}, (∀ p ∈ l, p.1 ≠ I) → NeL I (l.map (·.1))
  | [], _ => trivial
  | p :: _, h => ⟨h p (.head _), neL_of fun q hq => h q (.tail _ hq)⟩
theorem startW {prog : Program} {w : World} {A : Around} {t : Sem Flow} {Q : Flow → Shared → Prop} {E : Value → Shared → Prop} {s : Shared} {h₀ : Heap} {L : Addr} {m : PySem.Str → Option Value} (_F : Fr h₀ L s.heap m)
    (hQ : ∀ h' tk' m' news' vs, Fr h₀ L h' m' → News h₀ L h' news' → (92, tabObj vs) ∈ news' → Q (.ret (.bool true)) { s with heap := h', toks := tk' })
    (h : ∀ Q' : Flow → Shared → Prop, (∀ h' tk' m' news' vs, Fr h₀ L h' m' → News h₀ L h' news' → (92, tabObj vs) ∈ news' → Q' (.ret (.bool true)) { s with heap := h', toks := tk' }) → wpAny (model prog w) A t Q' E s) : wpAny (model prog w) A t Q E s := h Q hQ

theorem compEnd1 {h₀ : Heap} {L I C D : Addr} {m : PySem.Str → Option Value} {s₁ : Shared} {oI oC oD : Obj} {S : List (Addr × Obj) → Prop} {rest : Value → List (Addr × Obj) → Prop} {y : Value} {h' : Heap} {tk : Nat} {p : Addr × Obj} {all old : List (Addr × Obj)}
    (F : Fr h₀ L h' m) (N : News h₀ L h' (p :: all)) (off : LCg.Off3 I C D old) (hp : @Ne Nat p.1 I ∧ @Ne Nat p.1 C ∧ @Ne Nat p.1 D) (sub : ∀ q ∈ (I, oI) :: (C, oC) :: (D, oD) :: p :: old, q ∈ p :: all) (hS : S (p :: old)) (r : rest y (p :: old)) :
    LCg.CompEnd h₀ L m s₁ I oI C oC D oD S rest y { s₁ with heap := h', toks := tk } := LCg.CompEnd.intro F N (p :: old) sub ⟨hp, off⟩ hS r
theorem mem_insI {ns : List Int} {k x n : Int} (h : n ∈ insI ns k x) : n = x ∨ n ∈ ns := by
  unfold insI at h
  rcases List.mem_append.mp h with h | h
  · exact .inr (List.mem_of_mem_take h)
  · rcases List.mem_cons.mp h with h | h
    · exact .inl h
    · exact .inr (List.mem_of_mem_drop h)
theorem insI_perm (ns : List Int) (k x : Int) : (insI ns k x).Perm (x :: ns) := by
  unfold insI
  refine List.perm_middle.trans ?_
  rw [List.take_append_drop]
theorem insI_getD {ns : List Int} {k x : Int} (h0 : 0 ≤ k) (h1 : k ≤ ns.length) (i : Nat) : (insI ns k x).getD i 0 = if (i : Int) < k then ns.getD i 0 else if (i : Int) = k then x else ns.getD (i - 1) 0 := by
  obtain ⟨m, rfl⟩ : ∃ m : Nat, k = m := ⟨k.toNat, by omega⟩
  unfold insI
  simp only [Int.toNat_natCast, List.getD_eq_getElem?_getD, List.getElem?_append, List.length_take]
  have hm : min m ns.length = m := by omega
  rw [hm]
  by_cases a : i < m
  · rw [if_pos a, if_pos (by omega), List.getElem?_take, if_pos a]
  · rw [if_neg a, if_neg (by omega)]
    by_cases b : i = m
    · subst b; simp
    · rw [if_neg (by omega)]
      obtain ⟨d, hd⟩ : ∃ d, i - m = d + 1 := ⟨i - m - 1, by omega⟩
      have hi : i = d + 1 + m := (Nat.sub_eq_iff_eq_add (Nat.le_of_not_lt a)).mp hd
      rw [hd, List.getElem?_cons_succ, List.getElem?_drop, show m + d = i - 1 by rw [hi, Nat.add_right_comm, Nat.add_sub_cancel, Nat.add_comm]]
theorem sorted_ins {ns : List Int} {k x : Int} (hs : Sorted ns) (h : BisR ns x k) : Sorted (insI ns k x) := by
  obtain ⟨h0, h1, hl, hr⟩ := h
  intro i j hij hj
  rw [insI_len ns x h0 h1] at hj
  rw [insI_getD h0 h1, insI_getD h0 h1]
  split
  · rename_i a
    split
    · exact hs i j hij (by omega)
    · split
      · exact hl i a
      · exact hs i (j - 1) (by omega) (by omega)
  · split
    · rw [if_neg (by omega)]
      split
      · exact Int.le_refl _
      · exact Int.le_of_lt (hr (j - 1) (by omega) (by omega))
    · rw [if_neg (by omega), if_neg (by omega)]
      exact hs (i - 1) (j - 1) (by omega) (by omega)
theorem ring04 (s : Int) : In04 (ringI s) := by
  intro n hn
  unfold ringI at hn
  rcases mem_insI hn with rfl | hn
  · decide
  rcases mem_insI hn with rfl | hn
  · decide
  rcases mem_insI hn with rfl | hn
  · decide
  rcases mem_insI hn with rfl | hn
  · decide
  rw [List.mem_singleton.mp hn]
  decide
theorem mkd_04 (ds : List Int) (s : Int) (j : Nat) : In04 (mkd ds (ringI s) j) := by
  intro n hn
  obtain ⟨t, _, rfl⟩ := List.mem_map.mp hn
  have b := fmod_rng (ds.getD j 0 + (t : Int)) (n := 5) (by decide)
  refine ring04 s _ ?_
  have hl := ringI_len s
  rw [List.getD_eq_getElem?_getD, List.getElem?_eq_getElem (by omega)]
  exact List.getElem_mem _
theorem mkd_len (ds rs : List Int) (j : Nat) : (mkd ds rs j).length ≤ 100 := by
  unfold mkd
  rw [List.length_map, List.length_range]
  exact Nat.le_trans (Int.toNat_le.mpr (Int.le_of_lt (fmod_rng ((ds.getD j 0).fdiv 5 - ds.getD j 0) (n := 5) (by decide)).2)) (by decide)
theorem mkd_of (ds rs : List Int) (i : Nat) : List.map (fun k' => rs.getD ((ds.getD (0 + (i : Int)).toNat 0 + k').fmod 5).toNat 0) (rangeKs 0 (((ds.getD (0 + (i : Int)).toNat 0).fdiv 5 - ds.getD (0 + (i : Int)).toNat 0).fmod 5 - 0).toNat) = mkd ds rs i := by
  have e : (0 + (i : Int)).toNat = i := by omega
  rw [e, Int.sub_zero]
  unfold mkd rangeKs
  rw [List.map_map]
  refine List.map_congr_left fun t _ => ?_
  simp only [Function.comp, Int.zero_add]
end
end Mine
end

/- part Ring2 -/
section
open PySem PySem.W PyProof.Rows
namespace Mine
section
variable {prog : Program} {w : World} {A₀ A : Around} {s : Shared} {base h₀ : Heap} {outer : List Env} {L : Addr} {m mg mb : PySem.Str → Option Value} {env : Env} {K : Frag} {p : Program} {loose : List PySem.Str} {mean : ExcName → Option Value}
/-- a call whose callee walks over the whole heap of the call: all that stood stays -/
theorem code_nil {R : Result → Shared → Prop} {name qual : PySem.Str} {params : Arguments} {body : List Stmt} {scope : Scope} {dV kV doc pm cdv ct oc : Value} {an od : Option Addr} {osl : Array (Option Value)} {f : Addr} {args : Args} {binds : List (PySem.Str × Value)}
    (B : Below A₀ base outer h₀) (F : Fr h₀ L s.heap m) (X₀ : K.In h₀) (T : Top p loose mean mg mb h₀) (hA : A.frames = some (env :: outer)) (hf : env.frame = some L) (hke : env.scope.kind = .function)
    (ho : K.lookup f = some ⟨oc, od, .func (fnOf name qual params body scope dV kV doc pm an cdv ct), osl⟩) (hcd : codeIn K cdv qual = true) (hroom : A.depth < recursionLimit)
    (hbind : BindsTo s (fnOf name qual params body scope dV kV doc pm an cdv ct) args binds) (hloc : ∀ y ∈ binds, scope.names.lookup y.1 = some .local)
    (h : ∀ L' h₁, Fr s.heap L' h₁ (fun y => binds.reverse.lookup y) → News s.heap L' h₁ [] → Below A base (env :: outer) s.heap → K.In s.heap → Top p loose mean mg mb s.heap →
      wpAny (model prog w) (A.deeper (envOf qual scope L' f cdv)) (execs body (envOf qual scope L' f cdv))
        (fun fl s' => R (.ok (.ret (match fl with | .ret v => v | _ => .none))) s')
        (fun e s' => wpAny (model prog w) (A.deeper (envOf qual scope L' f cdv)) (leaving (envOf qual scope L' f cdv) e) (fun _ s'' => R (.error e) s'') (fun e' s'' => R (.error e') s'') s')
        { s with heap := h₁, toks := s.toks + binds.length })
    (hco : scope.isCoroutine = false) (hgen : scope.isGenerator = false) (hk : scope.kind = .function)
    (hcell : ∀ x ∈ scope.names, x.2 ≠ .cell) : codeAny (model prog w) A (.call (.ref f) args) R s := by
  obtain ⟨-, BG, st, -⟩ := groundX (R := R) B F News.nil hA hf hke
  exact codeAny_call_def hroom (F.keep _ _ (X₀ _ _ ho)) rfl (T.nolimit.keeps F.keep) (codeRec_of (X₀.keeps F.keep) hcd) rfl hbind hcell hloc
    (fun h₁ hns hk₁ => h _ h₁ ⟨hns, hk₁, Nat.le_refl _⟩ News.nil BG (X₀.keeps st) (T.keeps st)) hco hgen hk
end
theorem news_none {h₀ h : Heap} {L c : Addr} {o : Obj} {news : List (Addr × Obj)} (N : News h₀ L h news) (hm : (c, o) ∈ news) : h₀.get? c = none := (N _ hm).2.2
/-- a contract of a function over the whole heap: all that stood stays -/
noncomputable def ClN (k : Nat) (w : World) (K : Frag) (p : Program) (f : Addr) (vs : List Value) (Post : Heap → Heap → Value → Prop) : Prop :=
  ∀ (mean : ExcName → Option Value) (mg mb : PySem.Str → Option Value) (dp un : Nat) (gd : Option (List Code)) (cn : PySem.Str) (cs : Scope) (a : Addr) (ccd : Value) (cl : List (PySem.Str × Addr)) (outer : List Env) (A₀ : Around) (base h₀ : Heap) (L : Addr) (m : PySem.Str → Option Value) (s : Shared) (Q E : Value → Shared → Prop),
    Below A₀ base outer h₀ → Fr h₀ L s.heap m → K.In h₀ → Top p LS mean mg mb h₀ → cs.kind = .function → dp + k < recursionLimit → un + 8 * k < cLine →
    (∀ r h' tk', (∀ b o, s.heap.get? b = some o → h'.get? b = some o) → Post s.heap h' r → Q r { s with heap := h', toks := tk' }) →
    wpAny (model PySem.Challenge.rw_sr0044_01.row.prog w) (ktrTop dp un gd cn cs L a ccd cl outer) (call (.ref f) vs) Q E s
section
set_option maxRecDepth 100000 in
set_option maxHeartbeats 4000000 in
theorem ring_cl (w : World) (x : Int) (tx : Tok) (hd0 : hd.heap_39 w.params = hd.heap_39 w.params) :
   ClN 1 w (hd.heap_39 w.params) topProg 83 [.int x tx] (fun h h' r => ∃ l vs e, r = .ref l ∧ h'.get? l = some (listOf (List.toArray vs) e) ∧ h.get? l = none ∧ IntsAre vs (ringI x)) := by
  w_top off
  k_with_none
  k_with "st8" => (repeat' (first | (k_unfold; (try dsimp only)) | (k_end; wrow_close) | ((with_reducible show wpAny _ _ (PySem.exec _ _) _ _ _); k_fold; walk1) | walk1 | (dsimp only; walk1) | (leave1; walk_say "STEP leave1"; try dsimp only) | fail "no step"))
  k_with "call builtin:list.insert" => (k_here; (with_reducible show wpAny _ _ (call (Value.builtin _) [Value.ref _, Value.int _ _, _]) _ _ _); k_dflt (refine' kl_insert ?Fz12 ?Nz12 ?fz12 ?ez12 ?Uz12 ?zz12 ?_; (case Fz12 => k_asm); (case Nz12 => k_asm); (case ez12 => exact rfl); (case Uz12 => k_upd); (case fz12 => exact fits_of (fmod_rng _ (by decide)).1 (Int.le_of_lt (Int.lt_trans (fmod_rng _ (by decide)).2 (by decide)))); (case zz12 => (simp only [kl_ins_length, List.length_cons, List.length_nil]; decide))); intro h'q9 F'q9 N'q9; (try dsimp only))
  k_with "enter_kw" => (refine' code_nil (binds := [(Str.ofString "spread", .int x tx)]) ?k1z21 ?k2z21 ?k3z21 ?k5z21 ?kAz21 ?kFz21 ?kKz21 ?k6z21 ?k7z21 ?k8z21 ?k9z21 ?kBz21 ?_ ?c2z21 ?c3z21 ?c4z21 ?c5z21; (case kAz21 => exact rfl); (case kFz21 => exact rfl); (case kKz21 => assumption); (case k1z21 => k_asm); (case k2z21 => k_asm); (case k3z21 => k_asm); (case k5z21 => k_asm); (case k6z21 => k_is); (case k7z21 => k_is); (case k8z21 => ktr_room); (case k9z21 => (refine' kp_binds ?kxz21 ?kez21; (case kxz21 => k_in); (case kez21 => exact fun _ => rfl))); (case c5z21 => decide); (case kBz21 => exact locs rfl); (case c2z21 => exact rfl); (case c3z21 => exact rfl); (case c4z21 => exact rfl); k_whole; intro L'q9 h'q9 F'q9 N'q9 B'q9 X'q9 T'q9; (try dsimp only); (try k_lift B'q9); (try k_fold))
  unfold ClN
  k_fill
  clear hd0
  intro mean mg mb dp un gd cn cs ad ccd cl outer A₀ base h₀ L m s Q E B F X T hk hdp hun hret
  refine wpAny_call ?_
  k_dflt (walk_at "enter_kw")
  k_steps
  rename Fr s.heap _ _ _ => fR
  rename News s.heap _ _ _ => nR
  exact hret _ _ _ fR.keep ⟨_, _, _, rfl, nR.get (by k_mem), news_none nR (by k_mem), ring_ints _ _ _ _ _ _⟩
end
theorem neL_off {l : Addr} : ∀ {news : List (Addr × Obj)}, (∀ p ∈ news, p.1 ≠ l) → NeL l (news.map Prod.fst)
  | [], _ => trivial
  | p :: r, h => ⟨h p (.head _), neL_off fun q hq => h q (.tail _ hq)⟩
theorem ring_use {w : World} {mean : ExcName → Option Value} {mg mb : PySem.Str → Option Value} {cn : PySem.Str} {cs : Scope} {a : Addr} {ccd : Value} {h₀ : Heap} {L : Addr} {m : PySem.Str → Option Value} {s : Shared} {Q E : Value → Shared → Prop} {news : List (Addr × Obj)} {x : Int} {tx : Tok}
    (B : Below callerA h₀ [] h₀) (F : Fr h₀ L s.heap m) (X : (hd.heap_39 w.params).In h₀) (N : News h₀ L s.heap news) (T : Top topProg LS mean mg mb h₀) (hk : cs.kind = .function)
    (ret : ∀ l vs e h' tk', Fr h₀ L h' m → News h₀ L h' ((l, listOf (List.toArray vs) e) :: news) → NeL l (news.map Prod.fst) → IntsAre vs (ringI x) → Q (.ref l) { s with heap := h', toks := tk' }) :
    wpAny (model PySem.Challenge.rw_sr0044_01.row.prog w) (callerA.deeper (envOfC cn cs L a ccd)) (call (.ref 83) [.int x tx]) Q E s := by
  have e : callerA.deeper (envOfC cn cs L a ccd) = ktrTop (callerA.deeper (envOfC cn cs L a ccd)).depth (callerA.deeper (envOfC cn cs L a ccd)).units (callerA.deeper (envOfC cn cs L a ccd)).guards cn cs L a ccd (cellsFrom (L + 1) cs.names []) [] := rfl
  rw [e]
  refine ring_cl w x tx rfl _ _ _ _ _ _ _ _ _ _ _ _ callerA h₀ h₀ L m s Q E B F X T hk ?_ ?_ ?_
  · ktr_room
  · ktr_units
  rintro r h' tk' kp ⟨l, vs, n, rfl, g1, g2, hi⟩
  obtain ⟨oL, es, ep, hL, r2⟩ := F.ns
  refine ret l vs n h' tk' ⟨⟨oL, es, ep, kp _ _ hL, r2⟩, fun b o e => kp _ _ (F.keep b o e), F.above⟩ (fun p hp => ?_) (neL_off fun p hp z => ?_) hi
  · rcases List.mem_cons.mp hp with rfl | hp
    · refine ⟨g1, fun z => ?_, ?_⟩
      · rw [← z] at hL
        exact absurd (hL.symm.trans g2) (by simp)
      · cases q : h₀.get? l with
        | none => rfl
        | some o => exact absurd ((F.keep _ _ q).symm.trans g2) (by simp)
    · exact ⟨kp _ _ (N p hp).1, (N p hp).2⟩
  · have q := (N p hp).1
    rw [z] at q
    exact absurd (q.symm.trans g2) (by simp)
end Mine
end

/- part Ap0 -/
section
open PySem PySem.W PyProof.Rows PySem.Spec PySem.Calls PyProof.V
namespace Mine
section
/-- the loop of Int2AP -/
noncomputable def apM : Nat → Nat → List UInt8 → List UInt8
  | 0, _, v => v
  | f + 1, n, v => if n = 0 then v else apM f (n / 16) (UInt8.ofNat (65 + n % 16) :: v)
noncomputable def AP0 : Array UInt8 := #[65, 66, 67, 68, 69, 70, 71, 72, 73, 74, 75, 76, 77, 78, 79, 80]
theorem ap_pickN : ∀ n : Nat, n < 16 → KBy.whole AP0 (some (n : Int)) (some ((n : Int) + 1)) = false ∧ KBy.picked AP0 (some (n : Int)) (some ((n : Int) + 1)) = [UInt8.ofNat (65 + n)].toArray := by decide +kernel
theorem ap_pick {r : Int} (h0 : 0 ≤ r) (h1 : r < 16) : KBy.whole AP0 (some r) (some (r + 1)) = false ∧ KBy.picked AP0 (some r) (some (r + 1)) = [UInt8.ofNat (65 + r.toNat)].toArray := by
  obtain ⟨n, rfl⟩ := Int.eq_ofNat_of_zero_le h0
  exact ap_pickN n (Int.ofNat_lt.mp h1)
section
variable {prog : Program} {w : World} {A : Around} {E : Value → Shared → Prop} {s : Shared} {value slice : PySem.Expr} {t : Tok} {h₀ : Heap} {L : Addr} {m : PySem.Str → Option Value} {news : List (Addr × Obj)} {Q : Value → Shared → Prop}
theorem apSlice {r : Int} {t1 t2 : Tok} (hF : Fr h₀ L s.heap m) (hN : News h₀ L s.heap news) (hr : 0 ≤ r ∧ r < 16)
    (h : ∀ h' t' k, Fr h₀ L h' m → News h₀ L h' news → Q (.bytes [UInt8.ofNat (65 + r.toNat)].toArray t') { s with heap := h', toks := k })
    (hs : subscripted slice false (.bytes AP0 t) (.ref s.heap.objs.size) = operate [.ref s.heap.objs.size, .bytes AP0 t] (getItem (.bytes AP0 t) (.ref s.heap.objs.size)) := by with_unfolding_all rfl)
    (ht : ∀ r, letTemporaryGo value (.bytes AP0 t) r = pure () := by intro _; with_unfolding_all rfl) :
    wpAny (model prog w) A (subscriptTail value slice (.bytes AP0 t) (.ref s.heap.objs.size)) Q E { s with heap := s.heap.push { cls := .type "slice", data := .fields #[.int r t1, .int (r + 1) t2, .none] } } := by
  obtain ⟨a, b⟩ := ap_pick hr.1 hr.2
  exact KBy.slice_N hF hN (by constructor) (by constructor) a (by rw [b]; exact Nat.le_of_ble_eq_true rfl) (fun h' t' k F N => by rw [b]; exact h h' t' k F N) hs ht
end
theorem addB {prog : Program} {w : World} {A : Around} {E : Value → Shared → Prop} {s : Shared} {t u : Tok} {Q : Value → Shared → Prop} {a : UInt8} {v : List UInt8} (hsz : v.length ≤ 8) (h : ∀ t' k, Q (.bytes (a :: v).toArray t') { s with toks := k }) :
    wpAny (model prog w) A (binaryOp .Add (.bytes [a].toArray t) (.bytes v.toArray u)) Q E s :=
  KBy.add_bytes (by simp only [List.size_toArray, List.length_cons, List.length_nil]; omega) (fun t' k => by rw [show [a].toArray ++ v.toArray = (a :: v).toArray by simp]; exact h t' k)
theorem ap_step {f : Nat} {n : Int} {v : List UInt8} (h0 : 0 ≤ n) (h1 : n ≠ 0) (hf : n < 16 ^ f) : ∃ g, f = g + 1 ∧ 0 ≤ n.fdiv 16 ∧ n.fdiv 16 < 16 ^ g ∧ apM g (n.fdiv 16).toNat (UInt8.ofNat (65 + (n.fmod 16).toNat) :: v) = apM f n.toNat v := by
  obtain ⟨k, rfl⟩ : ∃ k : Nat, n = k := ⟨n.toNat, by omega⟩
  cases f with
  | zero => simp at hf; omega
  | succ g =>
    refine ⟨g, rfl, ?_, ?_, ?_⟩
    · rw [Int.fdiv_eq_ediv_of_nonneg _ (by decide)]; omega
    · rw [Int.fdiv_eq_ediv_of_nonneg _ (by decide), Int.pow_succ] at *
      omega
    · rw [Int.fdiv_eq_ediv_of_nonneg _ (by decide), Int.fmod_eq_emod_of_nonneg _ (by decide)]
      have a : ((k : Int) / 16).toNat = k / 16 := by omega
      have b : ((k : Int) % 16).toNat = k % 16 := by omega
      rw [a, b, Int.toNat_natCast, apM, if_neg (by omega)]
end
end Mine
end

/- part Ap1 -/
section
open PySem PySem.W PyProof.Rows
namespace Mine
section
section
set_option maxRecDepth 100000 in
theorem fr_bytes {h₀ h : Heap} {L : Addr} {m : PySem.Str → Option Value} {x : PySem.Str} {v : Array UInt8} (_F : Fr h₀ L h m) (t : Tok) (e : m x = some (.bytes v t)) : ∃ t, m x = some (.bytes v t) := ⟨t, e⟩
set_option maxHeartbeats 2000000 in
theorem ap_cl (w : World) (news : List (Addr × Obj)) (x : Int) (tx : Tok) (hd0 : hd.heap_39 w.params = hd.heap_39 w.params) (hx : x.natAbs < 16 ^ 8) :
   Cl 1 w (hd.heap_39 w.params) topProg 57 news [.int x tx] (fun r news' => news' = news ∧ ∃ t, r = .bytes (apM 8 x.natAbs []).toArray t) := by
  w_top off
  k_with_none
  k_with "st8" => (repeat' (first | (k_unfold; (try dsimp only)) | (k_end; wrow_close) | ((with_reducible show wpAny _ _ (PySem.exec _ _) _ _ _); k_fold; walk1) | walk1 | (dsimp only; walk1) | (leave1; walk_say "STEP leave1"; try dsimp only) | fail "no step"))
  k_with "all8" => (assumption)
  k_with "exec While Name cons nil" => (rename HoldMark 4 => hmk; refine' hold_it ?_)
  k_with "LEq" => (dsimp only [LEq]; (try k_unfold); (try dsimp only))
  k_with "LEf" => (refine ⟨rfl, ?_⟩)
  k_with "subscriptTail" => (k_here; (with_reducible show wpAny _ _ (subscriptTail _ (Expr.Slice _ _ none _) (Value.bytes _ _) (Value.ref _)) _ _ _); (with_reducible rename Fr _ _ _ _ => F'q9); (with_reducible rename News _ _ _ _ => N'q9); k_dflt (refine apSlice (s := ⟨_, _, _, _, _⟩) F'q9 N'q9 (fmod_rng _ (by decide)) ?_); intro _ _ _ _ _)
  k_with "binaryOp Add bytes bytes" => (k_here; (with_reducible show wpAny _ _ (binaryOp Operator.Add (Value.bytes _ _) (Value.bytes _ _)) _ _ _); k_dflt (refine addB (by assumption) ?_); intro _ _)
  unfold Cl
  k_fill
  clear hd0
  intro mean mg mb dp un gd cn cs ad ccd cl outer A₀ base h₀ L m s Q E B F X N T hk hdp hu hret
  refine wpAny_call ?_
  k_dflt cell_enter
  have hmk : HoldMark 4 := trivial
  k_steps
  refine Hold.intro ?_
  clear hmk
  (rename Fr _ _ _ _ => lF'); (rename News _ _ _ _ => lN')
  obtain ⟨tap, hap⟩ := fr_bytes (x := Str.ofString "AP") (v := AP0) lF' _ (by with_unfolding_all rfl)
  refine whileG (σ := Nat × (Int × Tok) × (List UInt8 × Tok)) (fun _ => news) (fun c => [(Str.ofString "num", .int c.2.1.1 c.2.1.2), (Str.ofString "val", .bytes c.2.2.1.toArray c.2.2.2), (Str.ofString "AP", .bytes AP0 tap)]) [Str.ofString "mod"]
    (fun c => 0 ≤ c.2.1.1 ∧ c.2.1.1 < 16 ^ c.1 ∧ c.2.2.1.length + c.1 ≤ 8 ∧ apM c.1 c.2.1.1.toNat c.2.2.1 = apM 8 x.natAbs [])
    (fun c => c.2.2.1 = apM 8 x.natAbs []) (fun c => c.1) (8, (if x < 0 then -x else x, _), ([], _)) lF' lN' (List.forall_mem_cons.mpr ⟨by with_unfolding_all rfl, List.forall_mem_cons.mpr ⟨by with_unfolding_all rfl, List.forall_mem_cons.mpr ⟨hap, List.forall_mem_nil _⟩⟩⟩) ?_ ?_ ?_
  · dsimp only
    have e : (if x < 0 then -x else x) = (x.natAbs : Int) := by split <;> omega
    rw [e]
    refine ⟨by omega, ?_, by simp, by rw [Int.toNat_natCast]⟩
    exact_mod_cast hx
  · rintro ⟨f, ⟨n, tn⟩, v, tv⟩ u9 h9 tk9 ⟨b0, b1, b2, b3⟩ F9 N9
    clear lF' lN'
    dsimp only at b0 b1 b2 b3 F9 N9 ⊢
    have hv : v.length ≤ 8 := by omega
    k_steps
    · obtain ⟨g, rfl, e0, e1, e2⟩ := ap_step (v := v) b0 (by assumption) b1
      (rename News _ _ _ _ => nE')
      (rename Fr _ _ _ _ => fE')
      refine' LE.intro (g, (n.fdiv 16, _), (UInt8.ofNat (65 + (n.fmod 16).toNat) :: v, _)) fE' nE' ?k1 ?k2 ?k3 ?k5
      case k1 => exact fun p hp => .tail _ hp
      case k2 => (intro p hp; cases hp)
      case k3 => kst_all
      case k5 => exact ⟨⟨e0, e1, by dsimp only [List.length_cons]; omega, e2.trans b3⟩, Nat.lt_succ_self _⟩
    · rename n = 0 => hn0
      (rename News _ _ _ _ => nE')
      (rename Fr _ _ _ _ => fE')
      refine' LE.intro (f, (n, tn), (v, tv)) fE' nE' ?k1 ?k2 ?k3 ?k5
      case k1 => exact fun p hp => hp
      case k2 => (intro p hp; cases hp)
      case k3 => kst_all
      case k5 =>
        subst hn0
        rw [← b3]
        cases f <;> rfl
  · rintro ⟨f, ⟨n, tn⟩, v, tv⟩ u9 h9 tk9 b0 F9 N9
    clear lF' lN'
    dsimp only at b0 F9 N9 ⊢
    k_steps
    exact hret _ _ _ _ (by assumption) (by assumption) ⟨rfl, _, by rw [b0]⟩
end
end
end Mine
end

/- part Dec0 -/
section
open PySem PySem.W PyProof.Rows PySem.Spec PySem.Calls PyProof.V
namespace Mine
section
open Builtin
noncomputable def b2n (b : Bool) : Nat := if b then 1 else 0
/-- a word's number, its text -/
noncomputable def num5 (a b c d e : Bool) : Nat := ((((1 + b2n a) * 16 + (3 + b2n b)) * 16 + (5 + b2n c)) * 16 + (7 + b2n d)) * 16 + (9 + b2n e)
noncomputable def txt5 (a b c d e : Bool) : PySem.Str := ⟨#[66 + b2n a, 68 + b2n b, 70 + b2n c, 72 + b2n d, 74 + b2n e]⟩
noncomputable def byt5 (a b c d e : Bool) : List UInt8 := [UInt8.ofNat (66 + b2n a), UInt8.ofNat (68 + b2n b), UInt8.ofNat (70 + b2n c), UInt8.ofNat (72 + b2n d), UInt8.ofNat (74 + b2n e)]
theorem ap_num (a b c d e : Bool) : apM 8 (num5 a b c d e) [] = byt5 a b c d e := by
  cases a <;> cases b <;> cases c <;> cases d <;> cases e <;> rfl
set_option maxRecDepth 100000 in
theorem dec5 (a b c d e : Bool) (id : String) : _codecs.runDecoder id _codecs.asciiDecoder none true (byt5 a b c d e).toArray 0 [] = pure ((txt5 a b c d e).cps, 5) := by
  cases a <;> cases b <;> cases c <;> cases d <;> cases e <;> kernel_rfl
section
variable {b : Array UInt8} {c : UInt8} {cs : List UInt8} {t : Tok} {x : PySem.Str} {n : Nat}
theorem roadA {id : String} : _codecs.decodeRoad id b (PySem.Str.ofString "ascii") none [] = (_codecs.runDecoder id _codecs.asciiDecoder none true b 0 [] >>= fun r => mkStr ⟨r.1⟩) := by kernel_rfl
theorem textA {t1 t2 : Tok} {d : PySem.Str} (hd : ∀ id, _codecs.runDecoder id _codecs.asciiDecoder none true b 0 [] = pure (x.cps, n)) :
    Meets («_codecs.decode.text» ⟨[.bytes b t, .str (PySem.Str.ofString "ascii") t1, .none, .str d t2], []⟩) (fun _ R s => x.length ≤ sizeLine ∧ R (.ok (.ret (.str x s.toks))) { s with toks := s.toks + 1 }) := by
  refine .of_wp fun prog w A R s hS => ?_
  obtain ⟨hsz, h⟩ := hS
  show wpAny _ _ (Bytes.bytesLike _ (.bytes b t) >>= fun r => _) _ _ s
  refine wpAny_bind (wpAny_of_eq KBd.like_eq ?_)
  refine wpAny_bind (wpAny_of_eq KBd.held_eq ?_)
  show wpAny _ _ (_codecs.decodeRoad _ b (PySem.Str.ofString "ascii") none [] >>= fun v => _) _ _ s
  rw [roadA, hd]
  refine wpAny_bind (wpAny_bind (wpAny_pure ?_))
  exact wpAny_mkStr (wpAny_pure ⟨_, rfl, h⟩) hsz
theorem args_d2 (a b : Value) : argsOk "bytes.decode" ⟨[a, b], []⟩ := by
  unfold argsOk; rw [signature?_of (id := "bytes.decode") (n := ['e', 'd', 'o', 'c', 'e', 'd']) (o := ['s', 'e', 't', 'y', 'b']) (by kernel_rfl) FB.owner_bytes]; kernel_rfl
theorem entA {t1 : Tok} : «bytes.decode» ⟨[.bytes (c :: cs).toArray t, .str (PySem.Str.ofString "ascii") t1], []⟩ = (mkStr (PySem.Str.ofString "utf-8") >>= fun _ => mkStr (PySem.Str.ofString "ascii") >>= fun e => mkStr (PySem.Str.ofString "bytes.decode") >>= fun d =>
    call (.builtin "_codecs.decode.text") [.bytes (c :: cs).toArray t, e, .none, d] >>= fun v => ret v) := by kernel_rfl
theorem meetsA {t1 : Tok} (hd : ∀ id, _codecs.runDecoder id _codecs.asciiDecoder none true (c :: cs).toArray 0 [] = pure (x.cps, n)) :
    Meets («bytes.decode» ⟨[.bytes (c :: cs).toArray t, .str (PySem.Str.ofString "ascii") t1], []⟩) (fun _ R s => x.length ≤ sizeLine ∧ ∀ t' k, R (.ok (.ret (.str x t'))) { s with toks := k }) := by
  refine .of_wp fun prog w A R s hS => ?_
  obtain ⟨hsz, h⟩ := hS
  rw [entA]
  refine wpAny_bind (wpAny_mkStr ?_ (by decide))
  refine wpAny_bind (wpAny_mkStr ?_ (by decide))
  refine wpAny_bind (wpAny_mkStr ?_ (by decide))
  exact wpAny_bind (call_function_meets KBd.kind_text KBd.plain_text KBd.entry_text (KBd.args_text _ _ _ _) (textA hd) ⟨hsz, wpAny_pure ⟨_, rfl, h _ _⟩⟩)
end
theorem decodeA {prog : Program} {w : World} {A : Around} {E : Value → Shared → Prop} {s : Shared} {t t1 : Tok} {Q : Value → Shared → Prop} {N : Nat} {a b c d e : Bool} (hN : N = num5 a b c d e) (h : ∀ t' k, Q (.str (txt5 a b c d e) t') { s with toks := k }) :
    wpAny (model prog w) A (call (.builtin "bytes.decode") [.bytes (apM 8 N []).toArray t, .str (PySem.Str.ofString "ascii") t1]) Q E s := by
  subst hN
  rw [ap_num]
  exact call_meets FB.slot_bytes_decode (typeIs_bytes _ _ _) FB.entry_bytes_decode (args_d2 _ _) (meetsA (x := txt5 a b c d e) (n := 5) (dec5 a b c d e)) ⟨by rw [sizeLine_eq]; show 5 ≤ _; decide, h⟩
end
end Mine
end

/- part Wrd0 -/
section
open PySem PySem.W PyProof.Rows
namespace Mine
section
/-- is the name marked at the place -/
noncomputable def bt (ds rs : List Int) (n : Int) (j : Nat) : Bool := decide (n ∈ mkd ds rs j)
/-- twice the places where the names' marks part -/
noncomputable def dst (ds rs : List Int) (x y : Int) : Int := 2 * ((b2n (bt ds rs x 0 != bt ds rs y 0) + b2n (bt ds rs x 1 != bt ds rs y 1) + b2n (bt ds rs x 2 != bt ds rs y 2) + b2n (bt ds rs x 3 != bt ds rs y 3) + b2n (bt ds rs x 4 != bt ds rs y 4) : Nat) : Int)
theorem num5_lt (a b c d e : Bool) : num5 a b c d e < 16 ^ 8 := by
  cases a <;> cases b <;> cases c <;> cases d <;> cases e <;> decide
theorem fig_bt (ds rs : List Int) (n : Int) (j : Nat) : fig (mkd ds rs j) j n = 2 * j + 1 + b2n (bt ds rs n j) := by
  unfold fig bt b2n
  by_cases h : n ∈ mkd ds rs j <;> simp [h] <;> omega
theorem num_bt (ds rs : List Int) (n : Int) : numAt ds rs n 5 = num5 (bt ds rs n 0) (bt ds rs n 1) (bt ds rs n 2) (bt ds rs n 3) (bt ds rs n 4) := by
  simp only [numAt, fig_bt]
  unfold num5
  push_cast
  omega
theorem txt_bt (ds rs : List Int) (n : Int) : txtAt ds rs n 5 = txt5 (bt ds rs n 0) (bt ds rs n 1) (bt ds rs n 2) (bt ds rs n 3) (bt ds rs n 4) := by
  simp only [txtAt, fig_bt]
  generalize bt ds rs n 0 = a
  generalize bt ds rs n 1 = b
  generalize bt ds rs n 2 = c
  generalize bt ds rs n 3 = d
  generalize bt ds rs n 4 = e
  cases a <;> cases b <;> cases c <;> cases d <;> cases e <;> decide
theorem strOk5 (a b c d e : Bool) : PyData.strOk (txt5 a b c d e) = true := by
  cases a <;> cases b <;> cases c <;> cases d <;> cases e <;> decide +kernel
theorem shp5 {a b c d e : PySem.Str} (ha : PyData.strOk a = true) (hb : PyData.strOk b = true) (hc : PyData.strOk c = true) (hd : PyData.strOk d = true) (he : PyData.strOk e = true) :
    PySem.SeqAt.shaped (.list [.str a, .str b, .str c, .str d, .str e]) = true := by
  simp [PySem.SeqAt.shaped, PyData.canLay0, PyData.canLayAll0, PyData.depth, PyData.depthAll, ha, hb, hc, hd, he]
end
end Mine
end

/- part Lev3 -/
section
open PySem PySem.W PyProof.Rows
namespace Mine
section
noncomputable def LevOK (a b : PySem.Str) (d : Int) : Prop := a.length = 5 ∧ b.length = 5 ∧ (sa a b).length = (sb a b).length ∧ (a ≠ b → 1 ≤ (sa a b).length) ∧ (sa a b).length ≤ 5 ∧ (∀ i, i < (sb a b).length → minAt (sa a b) (sb a b) i (outM (sa a b) (sb a b) i) ≤ 10) ∧ levM a b = d
theorem lev_use (w : World) (a b : PySem.Str) (ta tb tm : Tok) (d : Int) (news : List (Addr × Obj)) (h : LevOK a b d) :
   Cl 2 w (hd.heap_39 w.params) topProg 71 news [.str a ta, .str b tb, .int 10 tm] (fun r news' => news' = news ∧ ∃ t, r = .int d t) := by
  obtain ⟨h1, h2, h3, h4, h5, h6, rfl⟩ := h
  exact lev_cl w a b ta tb tm news rfl h1 h2 h3 h4 h5 h6
end
end Mine
end

/- part Pl0 -/
section
open PySem PySem.W PyProof.Rows
namespace Mine
section
noncomputable def lowA (x : PySem.Str) : PySem.Str := if x.cps.toList.all (fun c => decide (c < 128)) = true then ⟨x.cps.map lo1⟩ else Txt.lower x
theorem lowA_eq (x : PySem.Str) : Txt.lower x = lowA x := by
  unfold lowA
  split
  · rename_i h
    exact lower_ascii fun c hc => of_decide_eq_true (List.all_eq_true.mp h c hc)
  · rfl
noncomputable def subCost2 (a b : PySem.Str) : Int := if a = b then 0 else if lowA a = lowA b then 1 else 2
theorem subCost_eq : subCost = subCost2 := by
  funext a b
  unfold subCost subCost2
  rw [lowA_eq, lowA_eq]
noncomputable def inStep2 (a bc : PySem.Str) (i : Nat) (s : DP) : DP :=
  let sub := s.d + subCost2 bc (Txt.item a i)
  let d := s.row.getD i 0
  let r := min (min s.r d + 2) sub
  ⟨s.row.set i r, d, r, if r < s.m then r else s.m⟩
theorem inStep_eq : inStep = inStep2 := by
  funext a bc i s
  unfold inStep inStep2
  rw [subCost_eq]
noncomputable def inM2 (a bc : PySem.Str) : Nat → DP → DP
  | 0, s => s
  | n + 1, s => inStep2 a bc n (inM2 a bc n s)
theorem inM_eq (a bc : PySem.Str) (n : Nat) (s : DP) : inM a bc n s = inM2 a bc n s := by
  induction n with
  | zero => rfl
  | succ n ih =>
    show inStep a bc n (inM a bc n s) = inStep2 a bc n (inM2 a bc n s)
    rw [ih, inStep_eq]
noncomputable def outM2 (a b : PySem.Str) : Nat → DP
  | 0 => ⟨(List.range a.length).map (fun k : Nat => 2 * ((k : Int) + 1)), 0, 0, 0⟩
  | n + 1 => inM2 a (Txt.item b n) a.length ⟨(outM2 a b n).row, 2 * n, 2 * n, 9223372036854775807⟩
theorem outM_eq (a b : PySem.Str) (n : Nat) : outM a b n = ((outM2 a b n).row, (outM2 a b n).r) := by
  induction n with
  | zero => rfl
  | succ n ih =>
    show outStep a b n (outM a b n) = _
    unfold outStep
    rw [ih, inM_eq]
    rfl
theorem minAt_eq (a b : PySem.Str) (i : Nat) : minAt a b i (outM a b i) = (outM2 a b (i + 1)).m := by
  unfold minAt
  rw [outM_eq, inM_eq]
  rfl
noncomputable def lowAt (a b : PySem.Str) : Nat → Bool
  | 0 => true
  | i + 1 => lowAt a b i && decide ((outM2 a b (i + 1)).m ≤ 10)
theorem lowAt_get {a b : PySem.Str} : ∀ {n i : Nat}, lowAt a b n = true → i < n → (outM2 a b (i + 1)).m ≤ 10
  | n + 1, i, h, hi => by
    unfold lowAt at h
    rw [Bool.and_eq_true] at h
    rcases Nat.lt_or_ge i n with hl | hl
    · exact lowAt_get h.1 hl
    · obtain rfl : i = n := by omega
      exact of_decide_eq_true h.2
noncomputable def seg (p n : Nat) (x : Nat → Bool) : PySem.Str := ⟨((List.range n).map fun i => 66 + 2 * (p + i) + b2n (x (p + i))).toArray⟩
noncomputable def nb5 (a b c d e : Bool) : Nat → Bool
  | 0 => a
  | 1 => b
  | 2 => c
  | 3 => d
  | _ => e
noncomputable def fstE (e : Nat → Bool) : Nat := if e 0 then 0 else if e 1 then 1 else if e 2 then 2 else if e 3 then 3 else if e 4 then 4 else 5
noncomputable def lstE (e : Nat → Bool) : Nat := if e 4 then 5 else if e 3 then 4 else if e 2 then 3 else if e 1 then 2 else if e 0 then 1 else 0
theorem seg_len (p n : Nat) (x : Nat → Bool) : (seg p n x).length = n := by
  unfold seg PySem.Str.length
  simp
theorem seg_item (p : Nat) {n i : Nat} (x : Nat → Bool) (h : i < n) : Txt.item (seg p n x) (i : Int) = ⟨#[66 + 2 * (p + i) + b2n (x (p + i))]⟩ := by
  refine item_meets (Int.natCast_nonneg _) ?_
  rw [Int.toNat_natCast]
  unfold seg
  simp [h]
theorem let_eq (k : Nat) (u v : Bool) : (⟨#[66 + 2 * k + b2n u]⟩ : PySem.Str) = ⟨#[66 + 2 * k + b2n v]⟩ ↔ (u != v) = false := by
  constructor
  · intro h
    have h : [66 + 2 * k + b2n u] = [66 + 2 * k + b2n v] := congrArg (fun s : PySem.Str => s.cps.toList) h
    simp only [List.cons.injEq, and_true, Nat.add_left_cancel_iff] at h
    revert h
    cases u <;> cases v <;> decide
  · intro h
    have e : u = v := by revert h; cases u <;> cases v <;> decide
    rw [e]
theorem from_seg (x : Nat → Bool) {k : Nat} (h : k ≤ 5) : Txt.slice (seg 0 5 x) (some (k : Int)) none = seg k (5 - k) x := by
  obtain rfl | rfl | rfl | rfl | rfl | rfl : k = 0 ∨ k = 1 ∨ k = 2 ∨ k = 3 ∨ k = 4 ∨ k = 5 := by omega
  all_goals kernel_rfl
theorem cut_seg (x : Nat → Bool) {k j : Nat} (hk : k ≤ 5) (hj : j ≤ 5 - k) : cutM (seg k (5 - k) x) (-(j : Int)) = seg k (5 - k - j) x := by
  obtain rfl | rfl | rfl | rfl | rfl | rfl : k = 0 ∨ k = 1 ∨ k = 2 ∨ k = 3 ∨ k = 4 ∨ k = 5 := by omega
  all_goals
    obtain rfl | rfl | rfl | rfl | rfl | rfl : j = 0 ∨ j = 1 ∨ j = 2 ∨ j = 3 ∨ j = 4 ∨ j = 5 := by omega
    all_goals first | (exfalso; omega) | kernel_rfl
theorem last_seg (x : Nat → Bool) {k j : Nat} (hk : k ≤ 5) (hj : j < 5 - k) : Txt.item (seg k (5 - k) x) (-(j : Int) - 1) = ⟨#[66 + 2 * (4 - j) + b2n (x (4 - j))]⟩ := by
  obtain rfl | rfl | rfl | rfl | rfl | rfl : k = 0 ∨ k = 1 ∨ k = 2 ∨ k = 3 ∨ k = 4 ∨ k = 5 := by omega
  all_goals
    obtain rfl | rfl | rfl | rfl | rfl | rfl : j = 0 ∨ j = 1 ∨ j = 2 ∨ j = 3 ∨ j = 4 ∨ j = 5 := by omega
    all_goals first | (exfalso; omega) | kernel_rfl
noncomputable def preE (m : Nat → Bool) : Nat → Nat → Nat
  | 0, k => k
  | f + 1, k => if k = 5 then k else if m k = false then preE m f (k + 1) else k
noncomputable def postE (m : Nat → Bool) (k : Nat) : Nat → Nat → Nat
  | 0, j => j
  | f + 1, j => if 5 - k - j = 0 then j else if m (4 - j) = false then postE m k f (j + 1) else j
theorem pre_seg {x y m : Nat → Bool} (hm : ∀ i, m i = (x i != y i)) : ∀ f k : Nat, k ≤ 5 → preM (seg 0 5 x) (seg 0 5 y) f (k : Int) = (preE m f k : Int) ∧ preE m f k ≤ 5
  | 0, k, hk => ⟨rfl, hk⟩
  | f + 1, k, hk => by
    unfold preM preE
    rw [from_seg x hk, from_seg y hk, seg_len, seg_len]
    by_cases h5 : k = 5
    · rw [if_pos (by omega), if_pos h5]
      exact ⟨rfl, hk⟩
    · rw [if_neg (by omega), if_neg (by omega), if_neg h5, seg_item 0 x (by omega), seg_item 0 y (by omega)]
      have e := let_eq (0 + k) (x (0 + k)) (y (0 + k))
      rw [show (x (0 + k) != y (0 + k)) = m k by rw [hm, Nat.zero_add]] at e
      by_cases hmk : m k = false
      · rw [if_pos (e.mpr hmk), if_pos hmk]
        exact pre_seg hm f (k + 1) (by omega)
      · rw [if_neg fun z => hmk (e.mp z), if_neg hmk]
        exact ⟨rfl, hk⟩
theorem post_seg {x y m : Nat → Bool} (hm : ∀ i, m i = (x i != y i)) {k : Nat} (hk : k ≤ 5) : ∀ f j : Nat, j ≤ 5 - k → postM (seg k (5 - k) x) (seg k (5 - k) y) f (-(j : Int)) = -(postE m k f j : Int) ∧ postE m k f j ≤ 5 - k
  | 0, j, hj => ⟨rfl, hj⟩
  | f + 1, j, hj => by
    unfold postM postE
    rw [cut_seg x hk hj, cut_seg y hk hj, seg_len, seg_len]
    by_cases h5 : 5 - k - j = 0
    · rw [if_pos h5, if_pos h5]
      exact ⟨rfl, hj⟩
    · rw [if_neg h5, if_neg h5, if_neg h5, last_seg x hk (Nat.lt_of_le_of_ne hj fun e => h5 (by rw [e, Nat.sub_self])), last_seg y hk (Nat.lt_of_le_of_ne hj fun e => h5 (by rw [e, Nat.sub_self]))]
      have e := let_eq (4 - j) (x (4 - j)) (y (4 - j))
      rw [← hm] at e
      by_cases hmk : m (4 - j) = false
      · rw [if_pos (e.mpr hmk), if_pos hmk, show -(j : Int) - 1 = -((j + 1 : Nat) : Int) by omega]
        exact post_seg hm hk f (j + 1) (by omega)
      · rw [if_neg fun z => hmk (e.mp z), if_neg hmk]
        exact ⟨rfl, hj⟩
theorem ends5 : ∀ a b c d e : Bool, preE (nb5 a b c d e) 6 0 = fstE (nb5 a b c d e) ∧ 5 - preE (nb5 a b c d e) 6 0 - postE (nb5 a b c d e) (preE (nb5 a b c d e) 6 0) 6 0 = lstE (nb5 a b c d e) - fstE (nb5 a b c d e) := by decide +kernel
theorem saT {a b c d e a' b' c' d' e' : Bool} {x y : Nat → Bool} (hm : ∀ i, nb5 (a != a') (b != b') (c != c') (d != d') (e != e') i = (x i != y i)) :
    sa (seg 0 5 x) (seg 0 5 y) = seg (fstE (nb5 (a != a') (b != b') (c != c') (d != d') (e != e'))) (lstE (nb5 (a != a') (b != b') (c != c') (d != d') (e != e')) - fstE (nb5 (a != a') (b != b') (c != c') (d != d') (e != e'))) x ∧
    sb (seg 0 5 x) (seg 0 5 y) = seg (fstE (nb5 (a != a') (b != b') (c != c') (d != d') (e != e'))) (lstE (nb5 (a != a') (b != b') (c != c') (d != d') (e != e')) - fstE (nb5 (a != a') (b != b') (c != c') (d != d') (e != e'))) y := by
  obtain ⟨e1, e2⟩ := ends5 (a != a') (b != b') (c != c') (d != d') (e != e')
  generalize nb5 (a != a') (b != b') (c != c') (d != d') (e != e') = m at *
  obtain ⟨p1, p2⟩ := pre_seg hm 6 0 (by omega)
  have p1 : preM (seg 0 5 x) (seg 0 5 y) 6 0 = (preE m 6 0 : Int) := p1
  obtain ⟨r1, r2⟩ := post_seg hm p2 6 0 (by omega)
  have r1 : postM (seg (preE m 6 0) (5 - preE m 6 0) x) (seg (preE m 6 0) (5 - preE m 6 0) y) 6 0 = -(postE m (preE m 6 0) 6 0 : Int) := r1
  unfold sa sb
  dsimp only
  rw [p1, from_seg x p2, from_seg y p2, r1, cut_seg x p2 r2, cut_seg y p2 r2, e2, e1]
  exact ⟨rfl, rfl⟩
noncomputable def inC (c : Nat → Int) : Nat → DP → DP
  | 0, s => s
  | n + 1, s =>
    let s := inC c n s
    let sub := s.d + c n
    let d := s.row.getD n 0
    let r := min (min s.r d + 2) sub
    ⟨s.row.set n r, d, r, if r < s.m then r else s.m⟩
theorem inM2_C {a bc : PySem.Str} {c : Nat → Int} (s : DP) : ∀ n : Nat, (∀ i : Nat, i < n → subCost2 bc (Txt.item a i) = c i) → inM2 a bc n s = inC c n s
  | 0, _ => rfl
  | n + 1, h => by
    have ih := inM2_C (a := a) (bc := bc) (c := c) s n fun i hi => h i (by omega)
    show inStep2 a bc n (inM2 a bc n s) = _
    rw [ih]
    unfold inStep2
    rw [h n (by omega)]
    rfl
noncomputable def outC (e : Nat → Bool) (n : Nat) : Nat → DP
  | 0 => ⟨(List.range n).map (fun k : Nat => 2 * ((k : Int) + 1)), 0, 0, 0⟩
  | k + 1 => inC (fun i => if i = k ∧ e i = false then 0 else 2) n ⟨(outC e n k).row, 2 * k, 2 * k, 9223372036854775807⟩
theorem outM2_C {s t : PySem.Str} {e : Nat → Bool} {n : Nat} (hs : s.length = n) (hc : ∀ j < n, ∀ i < n, subCost2 (Txt.item t j) (Txt.item s i) = if i = j ∧ e i = false then 0 else 2) : ∀ k, k ≤ n → outM2 s t k = outC e n k
  | 0, _ => by
    show DP.mk _ _ _ _ = DP.mk _ _ _ _
    rw [hs]
  | k + 1, hk => by
    show inM2 s (Txt.item t k) s.length ⟨(outM2 s t k).row, 2 * k, 2 * k, 9223372036854775807⟩ = _
    rw [outM2_C hs hc k (by omega), hs, inM2_C (c := fun i => if i = k ∧ e i = false then 0 else 2) _ n (hc k (by omega))]
    rfl
theorem cost_let : ∀ i < 5, ∀ j < 5, ∀ x y : Bool, subCost2 ⟨#[66 + 2 * j + b2n y]⟩ ⟨#[66 + 2 * i + b2n x]⟩ = if i = j ∧ (x != y) = false then 0 else 2 := by decide +kernel
noncomputable def okE (a b c d e : Bool) : Bool :=
  let m := nb5 a b c d e
  let p := fstE m
  let n := lstE m - fstE m
  decide (p + n ≤ 5) && (List.range n).all (fun k => decide ((outC (fun i => m (p + i)) n (k + 1)).m ≤ 10)) && ((n == 0) == (b2n a + b2n b + b2n c + b2n d + b2n e == 0)) && (outC (fun i => m (p + i)) n n).r == 2 * ((b2n a + b2n b + b2n c + b2n d + b2n e : Nat) : Int)
set_option maxRecDepth 100000 in
theorem okEs : ∀ a b c d e : Bool, okE a b c d e = true := by decide +kernel
theorem nb_xor (a b c d e a' b' c' d' e' : Bool) (i : Nat) : nb5 (a != a') (b != b') (c != c') (d != d') (e != e') i = (nb5 a b c d e i != nb5 a' b' c' d' e' i) := by
  rcases i with _ | _ | _ | _ | i <;> rfl
theorem b2n_x (a a' : Bool) : b2n (a != a') = 0 ↔ a = a' := by cases a <;> cases a' <;> decide
theorem lev5 (a b c d e a' b' c' d' e' : Bool) : LevOK (txt5 a b c d e) (txt5 a' b' c' d' e') (2 * ((b2n (a != a') + b2n (b != b') + b2n (c != c') + b2n (d != d') + b2n (e != e') : Nat) : Int)) := by
  have s := saT (a := a) (b := b) (c := c) (d := d) (e := e) (a' := a') (b' := b') (c' := c') (d' := d') (e' := e') (nb_xor a b c d e a' b' c' d' e')
  have q := okEs (a != a') (b != b') (c != c') (d != d') (e != e')
  unfold okE at q
  dsimp only at q
  rw [Bool.and_eq_true, Bool.and_eq_true, Bool.and_eq_true, beq_iff_eq, beq_iff_eq, decide_eq_true_eq, List.all_eq_true] at q
  obtain ⟨s1, s2⟩ := s
  obtain ⟨⟨⟨q1, q2⟩, q3⟩, q4⟩ := q
  have t1 : sa (txt5 a b c d e) (txt5 a' b' c' d' e') = _ := s1
  have t2 : sb (txt5 a b c d e) (txt5 a' b' c' d' e') = _ := s2
  clear s1 s2
  have s1 := t1
  have s2 := t2
  clear t1 t2
  have hsum : (b2n (a != a') + b2n (b != b') + b2n (c != c') + b2n (d != d') + b2n (e != e') = 0) ↔ txt5 a b c d e = txt5 a' b' c' d' e' := by
    constructor
    · intro h
      have h1 := (b2n_x a a').mp (by omega)
      have h2 := (b2n_x b b').mp (by omega)
      have h3 := (b2n_x c c').mp (by omega)
      have h4 := (b2n_x d d').mp (by omega)
      have h5 := (b2n_x e e').mp (by omega)
      rw [h1, h2, h3, h4, h5]
    · intro h
      have h : [66 + b2n a, 68 + b2n b, 70 + b2n c, 72 + b2n d, 74 + b2n e] = [66 + b2n a', 68 + b2n b', 70 + b2n c', 72 + b2n d', 74 + b2n e'] := congrArg (fun s : PySem.Str => s.cps.toList) h
      simp only [List.cons.injEq, and_true, Nat.add_left_cancel_iff] at h
      have inj : ∀ x y : Bool, b2n x = b2n y → x = y := by decide
      obtain ⟨h1, h2, h3, h4, h5⟩ := h
      have h1 := inj _ _ h1
      have h2 := inj _ _ h2
      have h3 := inj _ _ h3
      have h4 := inj _ _ h4
      have h5 := inj _ _ h5
      subst h1 h2 h3 h4 h5
      simp [b2n]
  have hx := fun i => nb_xor a b c d e a' b' c' d' e' i
  generalize hm : nb5 (a != a') (b != b') (c != c') (d != d') (e != e') = m at *
  generalize nb5 a b c d e = x at *
  generalize nb5 a' b' c' d' e' = y at *
  generalize b2n (a != a') + b2n (b != b') + b2n (c != c') + b2n (d != d') + b2n (e != e') = sm at *
  generalize fstE m = p at *
  generalize lstE m - p = n at *
  have hc : ∀ j : Nat, j < n → ∀ i : Nat, i < n → subCost2 (Txt.item (seg p n y) j) (Txt.item (seg p n x) i) = if i = j ∧ m (p + i) = false then 0 else 2 := by
    intro j hj i hi
    rw [seg_item p y hj, seg_item p x hi, cost_let (p + i) (by omega) (p + j) (by omega)]
    by_cases h : i = j
    · subst h
      rw [hx]
      simp
    · rw [if_neg (fun z => h (by omega)), if_neg (fun z => h z.1)]
  have hout := outM2_C (s := seg p n x) (t := seg p n y) (e := fun i => m (p + i)) (seg_len p n x) hc
  refine ⟨rfl, rfl, ?_, fun hne => ?_, ?_, fun i hi => ?_, ?_⟩
  · rw [s1, s2, seg_len, seg_len]
  · rw [s1, seg_len]
    rcases Nat.eq_zero_or_pos n with h | h
    · rw [h] at q3
      exact absurd (hsum.mp (by simpa using q3.symm)) hne
    · exact h
  · rw [s1, seg_len]; omega
  · rw [s2, seg_len] at hi
    rw [minAt_eq, s1, s2, hout (i + 1) hi]
    exact of_decide_eq_true (q2 i (List.mem_range.mpr hi))
  · unfold levM
    split
    · rename_i h
      rw [hsum.mpr h]
      rfl
    · rw [s1, s2, seg_len, outM_eq, hout n (Nat.le_refl _), q4]
end
end Mine
end

/- part FiltL -/
section
open PySem PySem.W PyProof.Rows PySem.Spec PySem.Calls PyProof.V
namespace Mine
section
/-- does the parting z part the names i and k -/
noncomputable def sepB (i k : Int) (z : Int) : Bool := (z.fdiv (2 ^ i.toNat)).fmod 2 != (z.fdiv (2 ^ k.toNat)).fmod 2
/-- the end of a comprehension's test over the ledger -/
noncomputable def TestEnd (h₀ : Heap) (L : Addr) (m : PySem.Str → Option Value) (s₁ : Shared) (all : List (Addr × Obj)) (pk ok : Bool) (s₂ : Shared) : Prop :=
  ok = pk ∧ ∃ h' tk', s₂ = { s₁ with heap := h', toks := tk' } ∧ Fr h₀ L h' m ∧ News h₀ L h' all
theorem TestEnd.intro {h₀ h' : Heap} {L : Addr} {m : PySem.Str → Option Value} {s₁ : Shared} {all nw : List (Addr × Obj)} {pk ok : Bool} {tk' : Nat} (F : Fr h₀ L h' m) (N : News h₀ L h' nw) (sub : ∀ p ∈ all, p ∈ nw) (e : ok = pk) :
    TestEnd h₀ L m s₁ all pk ok { s₁ with heap := h', toks := tk' } := ⟨e, h', tk', rfl, F, fun p hp => N p (sub p hp)⟩
section
variable {prog : Program} {w : World} {A : Around} {h₀ : Heap} {L : Addr} {m : PySem.Str → Option Value} {env : Env} {ct : Expr} {x : PySem.Str} {pos : Pos} {scope : Scope} {cl : List (PySem.Str × Addr)} {s : Shared} {S : List (Addr × Obj) → Prop} {Fin : List Value → List (Addr × Obj) → Prop} {news : List (Addr × Obj)}
theorem filt_list {vs : List Value} {ns : List Int} (p : Int → Bool) (hi : IntsAre vs ns) (hS0 : S news)
    (turn : ∀ k t I oI C oC D m₂ ys h tk (E' : Value → Shared → Prop), k ∈ ns → LCg.NsObj oC m₂ → m₂ x = some (.int k t) → Fr h₀ L h m → News h₀ L h ((I, oI) :: (C, oC) :: (D, LCg.lst ys) :: news) →
      wpAny (model prog w) A (isTrue ct (compEnvC scope cl C env) (eval ct (compEnvC scope cl C env))) (TestEnd h₀ L m { s with heap := h, toks := tk } ((I, oI) :: (C, oC) :: (D, LCg.lst ys) :: news) (p k)) E' { s with heap := h, toks := tk })
    (fin : Hold (∀ ys, IntsAre ys (ns.filter p) → Fin ys news))
    (hk : ∀ C, (compEnvC scope cl C env).scope.kind = .function := by intro _; rfl) (hl : ∀ C, (compEnvC scope cl C env).kindOf x = some .local := by intro _; rfl) (hd : (x == ("__debug__" : PySem.Str)) = false := by decide) :
    LCt.CompRestT prog w A h₀ L m env ct (.Name x pos) x scope cl s S (fun i v => vs.toArray[i]? = some v) Fin vs.toArray.size 0 [] news := by
  have fin : ∀ ys, IntsAre ys (ns.filter p) → Fin ys news := fin
  have hn : vs.toArray.size = ns.length := by rw [List.size_toArray]; exact hi.length
  have key : ∀ (j i : Nat) (ys : List Value), i + j = ns.length → IntsAre ys ((ns.take i).filter p) → LCt.CompRestT prog w A h₀ L m env ct (.Name x pos) x scope cl s S (fun i v => vs.toArray[i]? = some v) Fin j i ys news := by
    intro j
    induction j with
    | zero =>
      intro i ys hij hy
      have e : i = ns.length := by omega
      subst e
      rw [List.take_length] at hy
      exact LCt.CompRestT.zero (fin ys hy)
    | succ j ih =>
      intro i ys hij hy
      refine LCt.CompRestT.succ ?_
      intro v I oI C oC D m₂ h tk E' hv hC hx F N off ne
      obtain ⟨k, t, e, hk'⟩ := IntsAre.at hi i v (by simpa using hv)
      rw [e] at hx
      refine wpAny_mono (turn k t I oI C oC D m₂ ys h tk E' (List.mem_of_getElem? hk') hC hx F N) (fun ok s₂ q => ?_) fun _ _ z => z
      obtain ⟨rfl, h', tk', rfl, F', N'⟩ := q
      have ht : (ns.take (i + 1)).filter p = (ns.take i).filter p ++ (if p k then [k] else []) := by
        rw [List.take_add_one, hk', List.filter_append]
        cases hp : p k <;> simp [hp]
      cases hp : p k with
      | true =>
        simp only [if_true]
        refine LCgL.ld_own (oC := oC) (m₂ := m₂) N' (List.mem_cons_of_mem _ List.mem_cons_self) hC hx ?_ (hk C) (hl C) hd
        refine LCg.CompEnd.intro F' N' news (fun q hq => hq) off hS0 (ih (i + 1) _ (by omega) ?_)
        rw [ht, hp]
        exact IntsAre.append hy (.cons k t .nil)
      | false =>
        simp only [Bool.false_eq_true, if_false]
        refine LCg.CompEnd.intro F' N' news (fun q hq => hq) off hS0 (ih (i + 1) _ (by omega) ?_)
        rw [ht, hp]
        simpa using hy
  rw [hn]
  exact key ns.length 0 [] (by omega) (by simp only [List.take_zero, List.filter_nil]; exact .nil)
end
/-- the start with both ends hidden -/
theorem startE {prog : Program} {w : World} {A : Around} {ss : List Stmt} {env : Env} {Q : Flow → Shared → Prop} {E : Value → Shared → Prop} {s : Shared} (hE : PassesOwn (model prog w) A env E)
    (h : ∀ E' : Value → Shared → Prop, PassesOwn (model prog w) A env E' → wpAny (model prog w) A (execs ss env) Q E' s) : wpAny (model prog w) A (execs ss env) Q E s := h E hE
noncomputable def FastMark : Prop := True
end
end Mine
end

/- part Far0 -/
section
open PySem PySem.W PyProof.Rows PySem.Spec PySem.Calls PyProof.V
namespace Mine
section
/-- row a of the distances, told up to (i, k) -/
noncomputable def rowI (D : Int → Int → Int) (i k a : Nat) : List Int := (List.range 5).map fun b => if a ≠ b ∧ (max a b < i ∨ (max a b = i ∧ min a b < k)) then D (max a b : Nat) (min a b : Nat) else 0
theorem rowI_len (D : Int → Int → Int) (i k a : Nat) : (rowI D i k a).length = 5 := by unfold rowI; rw [List.length_map, List.length_range]
theorem rowI_start (D : Int → Int → Int) (a : Nat) : rowI D 0 0 a = [0, 0, 0, 0, 0] := by
  unfold rowI
  have e : ∀ b ∈ List.range 5, (if a ≠ b ∧ (max a b < 0 ∨ (max a b = 0 ∧ min a b < 0)) then D (max a b : Nat) (min a b : Nat) else 0) = 0 := fun b _ => if_neg (by omega)
  rw [List.map_congr_left e]
  rfl
set_option synthInstance.maxSize 2000 in
set_option synthInstance.maxHeartbeats 400000 in
theorem cR_n : ∀ i < 5, ∀ a < 5, ∀ b < 5, ((a ≠ b ∧ (max a b < (i + 1) ∨ (max a b = (i + 1) ∧ min a b < 0))) ↔ (a ≠ b ∧ (max a b < i ∨ (max a b = i ∧ min a b < i)))) := by decide
set_option synthInstance.maxSize 2000 in
set_option synthInstance.maxHeartbeats 400000 in
theorem cR_o : ∀ i < 5, ∀ k < i, ∀ a < 5, a ≠ i → a ≠ k → ∀ b < 5, ((a ≠ b ∧ (max a b < i ∨ (max a b = i ∧ min a b < (k + 1)))) ↔ (a ≠ b ∧ (max a b < i ∨ (max a b = i ∧ min a b < k)))) := by decide
set_option synthInstance.maxSize 2000 in
set_option synthInstance.maxHeartbeats 400000 in
theorem cR_i : ∀ i < 5, ∀ k < i, ∀ b < 5, b ≠ k → ((i ≠ b ∧ (max i b < i ∨ (max i b = i ∧ min i b < (k + 1)))) ↔ (i ≠ b ∧ (max i b < i ∨ (max i b = i ∧ min i b < k)))) := by decide
set_option synthInstance.maxSize 2000 in
set_option synthInstance.maxHeartbeats 400000 in
theorem cR_k : ∀ i < 5, ∀ k < i, ∀ b < 5, b ≠ i → ((k ≠ b ∧ (max k b < i ∨ (max k b = i ∧ min k b < (k + 1)))) ↔ (k ≠ b ∧ (max k b < i ∨ (max k b = i ∧ min k b < k)))) := by decide
theorem if_iff {p q : Prop} [Decidable p] [Decidable q] {x y : Int} (h : q ↔ p) : (if p then x else y) = if q then x else y := by
  by_cases c : p
  · rw [if_pos c, if_pos (h.mpr c)]
  · rw [if_neg c, if_neg fun z => c (h.mp z)]
theorem rowI_next (D : Int → Int → Int) {i a : Nat} (hi : i < 5) (ha : a < 5) : rowI D i i a = rowI D (i + 1) 0 a :=
  List.map_congr_left fun b hb => if_iff (cR_n i hi a ha b (List.mem_range.mp hb))
theorem rowI_o (D : Int → Int → Int) {i k a : Nat} (hk : k < i) (h5 : i < 5) (ha : a < 5) (hi : a ≠ i) (hk2 : a ≠ k) : rowI D i (k + 1) a = rowI D i k a :=
  (List.map_congr_left fun b hb => if_iff (cR_o i h5 k hk a ha hi hk2 b (List.mem_range.mp hb))).symm
theorem rowI_getD (D : Int → Int → Int) (i k a : Nat) {b : Nat} (hb : b < 5) : (rowI D i k a).getD b 0 = if a ≠ b ∧ (max a b < i ∨ (max a b = i ∧ min a b < k)) then D (max a b : Nat) (min a b : Nat) else 0 := by
  unfold rowI
  rw [List.getD_eq_getElem?_getD, List.getElem?_map, List.getElem?_range hb]
  rfl
theorem list5_ext {l r : List Int} (hl : l.length = 5) (hr : r.length = 5) (h : ∀ b, b < 5 → l.getD b 0 = r.getD b 0) : l = r := by
  refine List.ext_getElem (by omega) fun b h1 h2 => ?_
  have z := h b (by omega)
  rw [List.getD_eq_getElem?_getD, List.getD_eq_getElem?_getD, List.getElem?_eq_getElem h1, List.getElem?_eq_getElem h2] at z
  exact z
theorem set_getD {l : List Int} {k b : Nat} {d : Int} (hk : k < l.length) : (l.set k d).getD b 0 = if b = k then d else l.getD b 0 := by
  rw [List.getD_eq_getElem?_getD, List.getD_eq_getElem?_getD, List.getElem?_set]
  by_cases h : b = k
  · subst h; simp [hk]
  · rw [if_neg (fun e => h e.symm), if_neg h]
theorem rowI_i (D : Int → Int → Int) {i k : Nat} (hk : k < i) (hi : i < 5) : (rowI D i k i).set k (D i k) = rowI D i (k + 1) i := by
  refine list5_ext (by rw [List.length_set, rowI_len]) (rowI_len _ _ _ _) fun b hb => ?_
  rw [set_getD (by rw [rowI_len]; omega), rowI_getD _ _ _ _ hb, rowI_getD _ _ _ _ hb]
  by_cases h : b = k
  · subst h
    rw [if_pos rfl, if_pos (by omega), show max i b = i by omega, show min i b = b by omega]
  · rw [if_neg h]
    exact if_iff (cR_i i hi k hk b hb h)
theorem rowI_k (D : Int → Int → Int) {i k : Nat} (hk : k < i) (hi : i < 5) : (rowI D i k k).set i (D i k) = rowI D i (k + 1) k := by
  refine list5_ext (by rw [List.length_set, rowI_len]) (rowI_len _ _ _ _) fun b hb => ?_
  rw [set_getD (by rw [rowI_len]; omega), rowI_getD _ _ _ _ hb, rowI_getD _ _ _ _ hb]
  by_cases h : b = i
  · subst h
    rw [if_pos rfl, if_pos (by omega), show max k b = b by omega, show min k b = k by omega]
  · rw [if_neg h]
    exact if_iff (cR_k i hi k hk b hb h)
theorem ints_set {vs : List Value} {ns : List Int} (h : IntsAre vs ns) (k : Nat) (d : Int) (t : Tok) : IntsAre (vs.set k (.int d t)) (ns.set k d) := by
  induction h generalizing k with
  | nil => exact .nil
  | cons n t' r ih =>
    cases k with
    | zero => exact .cons d t r
    | succ k => exact .cons n t' (ih k)
theorem setL_of : ∀ {l : List Value} {n : Nat} {v : Value}, n < l.length → ki_setL l n v = some (l.set n v)
  | [], _, _, h => absurd h (Nat.not_lt_zero _)
  | x :: r, 0, v, _ => rfl
  | x :: r, n + 1, v, h => by
    have z := setL_of (l := r) (n := n) (v := v) (by simpa using h)
    simp only [ki_setL, z, List.set_cons_succ]
theorem pow2_ok {i : Nat} (h : i < 5) : (2 : Int) ^ ((i : Int).toNat) ≠ 0 ∧ ((2 : Int) ^ ((i : Int).toNat)).natAbs.log2 < 9000 := by
  have e : i = 0 ∨ i = 1 ∨ i = 2 ∨ i = 3 ∨ i = 4 := by omega
  rcases e with rfl | rfl | rfl | rfl | rfl <;> exact ⟨by decide, by decide +kernel⟩
/-- the other rows -/
noncomputable def othR (f : Nat → Addr) (e : Nat → Nat) (V : Nat → List Value) (i k : Nat) : List (Addr × Obj) := ((List.range 5).filter fun a => a != i && a != k).map fun a => (f a, listOf (V a).toArray (e a))
theorem othR_mem {f : Nat → Addr} {e : Nat → Nat} {V : Nat → List Value} {i k a : Nat} (ha : a < 5) (hi : a ≠ i) (hk : a ≠ k) : (f a, listOf (V a).toArray (e a)) ∈ othR f e V i k := by
  unfold othR
  refine List.mem_map.mpr ⟨a, List.mem_filter.mpr ⟨List.mem_range.mpr ha, ?_⟩, rfl⟩
  simp [hi, hk]
theorem othR_of {f : Nat → Addr} {e : Nat → Nat} {V : Nat → List Value} {i k : Nat} {p : Addr × Obj} (h : p ∈ othR f e V i k) : ∃ a, a < 5 ∧ a ≠ i ∧ a ≠ k ∧ p = (f a, listOf (V a).toArray (e a)) := by
  unfold othR at h
  obtain ⟨a, ha, rfl⟩ := List.mem_map.mp h
  obtain ⟨h1, h2⟩ := List.mem_filter.mp ha
  simp at h2
  exact ⟨a, List.mem_range.mp h1, h2.1, h2.2, rfl⟩
theorem rows_mem {f : Nat → Addr} {e : Nat → Nat} {V : Nat → List Value} {a : Nat} (ha : a < 5) : (f a, listOf (V a).toArray (e a)) ∈ [(f 0, listOf (V 0).toArray (e 0)), (f 1, listOf (V 1).toArray (e 1)), (f 2, listOf (V 2).toArray (e 2)), (f 3, listOf (V 3).toArray (e 3)), (f 4, listOf (V 4).toArray (e 4))] := by
  have h : a = 0 ∨ a = 1 ∨ a = 2 ∨ a = 3 ∨ a = 4 := by omega
  rcases h with rfl | rfl | rfl | rfl | rfl <;> simp
theorem rows_of {f : Nat → Addr} {e : Nat → Nat} {V : Nat → List Value} {p : Addr × Obj} (h : p ∈ [(f 0, listOf (V 0).toArray (e 0)), (f 1, listOf (V 1).toArray (e 1)), (f 2, listOf (V 2).toArray (e 2)), (f 3, listOf (V 3).toArray (e 3)), (f 4, listOf (V 4).toArray (e 4))]) : ∃ a, a < 5 ∧ p = (f a, listOf (V a).toArray (e a)) := by
  simp only [List.mem_cons, List.not_mem_nil, or_false] at h
  rcases h with rfl | rfl | rfl | rfl | rfl
  · exact ⟨0, by decide, rfl⟩
  · exact ⟨1, by decide, rfl⟩
  · exact ⟨2, by decide, rfl⟩
  · exact ⟨3, by decide, rfl⟩
  · exact ⟨4, by decide, rfl⟩
theorem refs_at {f : Nat → Addr} {a : Nat} (ha : a < 5) : [Value.ref (f 0), Value.ref (f 1), Value.ref (f 2), Value.ref (f 3), Value.ref (f 4)][((a : Int)).toNat]? = some (.ref (f a)) := by
  have h : a = 0 ∨ a = 1 ∨ a = 2 ∨ a = 3 ∨ a = 4 := by omega
  rcases h with rfl | rfl | rfl | rfl | rfl <;> rfl
theorem words_at {p0 p1 p2 p3 p4 : PySem.Str} {v0 v1 v2 v3 v4 : Tok} {ds rs : List Int} (c0 : p0 = txtAt ds rs 0 5) (c1 : p1 = txtAt ds rs 1 5) (c2 : p2 = txtAt ds rs 2 5) (c3 : p3 = txtAt ds rs 3 5) (c4 : p4 = txtAt ds rs 4 5) {a : Nat} (ha : a < 5) :
    ∃ t, [Value.str p0 v0, Value.str p1 v1, Value.str p2 v2, Value.str p3 v3, Value.str p4 v4][((a : Int)).toNat]? = some (.str (txtAt ds rs a 5) t) := by
  subst c0 c1 c2 c3 c4
  have h : a = 0 ∨ a = 1 ∨ a = 2 ∨ a = 3 ∨ a = 4 := by omega
  rcases h with rfl | rfl | rfl | rfl | rfl <;> exact ⟨_, rfl⟩
abbrev rows5 (f : Nat → Addr) (e : Nat → Nat) (V : Nat → List Value) : List (Addr × Obj) := [(f 0, listOf (List.toArray (V 0)) (e 0)), (f 1, listOf (List.toArray (V 1)) (e 1)), (f 2, listOf (List.toArray (V 2)) (e 2)), (f 3, listOf (List.toArray (V 3)) (e 3)), (f 4, listOf (List.toArray (V 4)) (e 4))]
theorem news_split {h₀ h : Heap} {L : Addr} {base : List (Addr × Obj)} {f : Nat → Addr} {e : Nat → Nat} {V : Nat → List Value} {i k : Nat} (N : News h₀ L h (base ++ rows5 f e V)) (hi : i < 5) (hk : k < 5) :
    News h₀ L h ((f i, listOf (List.toArray (V i)) (e i)) :: (f k, listOf (List.toArray (V k)) (e k)) :: (base ++ othR f e V i k)) := by
  intro p hp
  rcases List.mem_cons.mp hp with rfl | hp
  · exact N _ (List.mem_append_right _ (rows_mem hi))
  rcases List.mem_cons.mp hp with rfl | hp
  · exact N _ (List.mem_append_right _ (rows_mem hk))
  rcases List.mem_append.mp hp with hp | hp
  · exact N _ (List.mem_append_left _ hp)
  · obtain ⟨a, ha, _, _, rfl⟩ := othR_of hp
    exact N _ (List.mem_append_right _ (rows_mem ha))
theorem news_join {h₀ h : Heap} {L : Addr} {all : List (Addr × Obj)} {f : Nat → Addr} {e : Nat → Nat} {V : Nat → List Value} {i k : Nat} {Vi Vk : List Value} (N : News h₀ L h all) (base : List (Addr × Obj)) (hb : ∀ p ∈ base, p ∈ all)
    (hi : (f i, listOf (List.toArray Vi) (e i)) ∈ all) (hk : (f k, listOf (List.toArray Vk) (e k)) ∈ all) (ho : ∀ p ∈ othR f e V i k, p ∈ all) :
    News h₀ L h (base ++ rows5 f e (fun a => if a = i then Vi else if a = k then Vk else V a)) := by
  intro p hp
  rcases List.mem_append.mp hp with hp | hp
  · exact N _ (hb _ hp)
  · obtain ⟨a, ha, rfl⟩ := rows_of (f := f) (e := e) (V := fun a => if a = i then Vi else if a = k then Vk else V a) hp
    dsimp only
    by_cases h1 : a = i
    · subst h1
      rw [if_pos rfl]
      exact N _ hi
    · rw [if_neg h1]
      by_cases h2 : a = k
      · subst h2
        rw [if_pos rfl]
        exact N _ hk
      · rw [if_neg h2]
        exact N _ (ho _ (othR_mem ha h1 h2))
theorem rows_step {D : Int → Int → Int} {V : Nat → List Value} {i k : Nat} (hR : ∀ a, a < 5 → IntsAre (V a) (rowI D i k a)) (hk : k < i) (hi : i < 5) (t t' : Tok) :
    ∀ a, a < 5 → IntsAre ((fun a => if a = i then (V i).set k (.int (D i k) t) else if a = k then (V k).set i (.int (D i k) t') else V a) a) (rowI D i (k + 1) a) := by
  intro a ha
  dsimp only
  by_cases h1 : a = i
  · subst h1
    rw [if_pos rfl, ← rowI_i D hk hi]
    exact ints_set (hR _ hi) _ _ _
  · rw [if_neg h1]
    by_cases h2 : a = k
    · subst h2
      rw [if_pos rfl, ← rowI_k D hk hi]
      exact ints_set (hR _ ha) _ _ _
    · rw [if_neg h2, rowI_o D hk hi ha h1 h2]
      exact hR _ ha
theorem rows_end {h₀ h : Heap} {L : Addr} {all : List (Addr × Obj)} {f : Nat → Addr} {e : Nat → Nat} {V : Nat → List Value} {i k : Nat} {D : Int → Int → Int} {t t' : Tok} (N : News h₀ L h all) (base : List (Addr × Obj)) (hb : ∀ p ∈ base, p ∈ all)
    (hi : (f i, listOf (List.toArray ((V i).set k (.int (D i k) t))) (e i)) ∈ all) (hk : (f k, listOf (List.toArray ((V k).set i (.int (D i k) t'))) (e k)) ∈ all) (ho : ∀ p ∈ othR f e V i k, p ∈ all)
    (hR : ∀ a, a < 5 → IntsAre (V a) (rowI D i k a)) (hki : k < i) (hi5 : i < 5) :
    ∃ V' : Nat → List Value, (∀ a, a < 5 → IntsAre (V' a) (rowI D i (k + 1) a)) ∧ News h₀ L h (base ++ rows5 f e V') :=
  ⟨_, rows_step hR hki hi5 t t', news_join N base hb hi hk ho⟩
theorem rng_ok {i : Nat} (h : i < 5) : Builtin.Range.small 0 (i : Int) 1 = true ∧ Builtin.Range.rangeSize 0 (i : Int) 1 = (i : Int) := by
  have e : i = 0 ∨ i = 1 ∨ i = 2 ∨ i = 3 ∨ i = 4 := by omega
  rcases e with rfl | rfl | rfl | rfl | rfl <;> exact ⟨by decide, by decide⟩
theorem get_setK {l : List Value} {k : Nat} {v : Value} (h : k < l.length) : (l.set k v)[((k : Int)).toNat]? = some v := by
  rw [Int.toNat_natCast, List.getElem?_set_self h]
section
variable {prog : Program} {w : World} {A : Around} {E : Value → Shared → Prop} {s : Shared} {h₀ : Heap} {L D : Addr} {m : PySem.Str → Option Value} {news news' : List (Addr × Obj)}
theorem ki_setV {l : List Value} {n k : Nat} {t : Tok} {v : Value} {Q : Unit → Shared → Prop} (F : Fr h₀ L s.heap m) (N : News h₀ L s.heap news) (hk : k < l.length) (hfit : k < 5) (U : Upd D (listOf l.toArray n) (listOf (l.set k v).toArray n) news news')
    (h : ∀ h', Fr h₀ L h' m → News h₀ L h' news' → Q () { s with heap := h' }) : wpAny (model prog w) A (setItem (.ref D) (.int (k : Int) t) v) Q E s :=
  ki_set (its := l.toArray) F N (by omega) (by omega) (by rw [Int.toNat_natCast]; exact setL_of hk) U h
end
end
end Mine
end

/- part Ways0 -/
section
open PySem PySem.W PyProof.Rows
namespace Mine
section
noncomputable def wCond (a b c : Int) : Bool := decide (a ≠ b) && (decide (a ≠ c) && (decide (b ≠ c) && decide (a < 10 - a - b - c)))
noncomputable def wC (a b : Int) : Nat → List (List Int)
  | 0 => []
  | k + 1 => if wCond a b (1 + (k : Int)) then wC a b k ++ [[0, a, b, 1 + (k : Int), 10 - a - b - (1 + (k : Int))]] else wC a b k
noncomputable def wB (a : Int) : Nat → List (List Int)
  | 0 => []
  | k + 1 => wB a k ++ wC a (1 + (k : Int)) 4
noncomputable def wA : Nat → List (List Int)
  | 0 => []
  | k + 1 => wA k ++ wB (1 + (k : Int)) 4
/-- a way's list on the ledger: where, its count of changes, its values, its ints -/
abbrev WayO := Addr × Nat × List Value × List Int
abbrev wRefs (c : List WayO) : List Value := c.map fun q => .ref q.1
abbrev wObjs (c : List WayO) : List (Addr × Obj) := c.map fun q => (q.1, listOf (List.toArray q.2.2.1) q.2.1)
noncomputable def WOk (wy : Addr) (news : List (Addr × Obj)) (c : List WayO) (l : List (List Int)) : Prop := c.map (fun q => q.2.2.2) = l ∧ (∀ q ∈ c, IntsAre q.2.2.1 q.2.2.2) ∧ (∀ q ∈ c, @Ne Nat q.1 wy) ∧ (c.map (·.1)).Nodup ∧ ∀ q ∈ c, ∀ p ∈ news, @LT.lt Nat _ p.1 q.1
theorem WOk.nil (wy : Addr) (news : List (Addr × Obj)) : WOk wy news [] [] := ⟨rfl, fun q h => absurd h (List.not_mem_nil), fun q h => absurd h (List.not_mem_nil), List.nodup_nil, fun q h => absurd h (List.not_mem_nil)⟩
theorem wC_le (a b : Int) : ∀ k, (wC a b k).length ≤ k
  | 0 => Nat.le_refl 0
  | k + 1 => by
    have z := wC_le a b k
    simp only [wC]
    split
    · rw [List.length_append]; simp; exact z
    · omega
theorem wB_le (a : Int) : ∀ k, (wB a k).length ≤ 4 * k
  | 0 => Nat.le_refl 0
  | k + 1 => by
    have z := wB_le a k
    have y := wC_le a (1 + (k : Int)) 4
    simp only [wB, List.length_append]
    omega
theorem wA_le : ∀ k, (wA k).length ≤ 16 * k
  | 0 => Nat.le_refl 0
  | k + 1 => by
    have z := wA_le k
    have y := wB_le (1 + (k : Int)) 4
    simp only [wA, List.length_append]
    omega
theorem WOk.len {wy : Addr} {news : List (Addr × Obj)} {c : List WayO} {l : List (List Int)} (h : WOk wy news c l) : (wRefs c).length = l.length := by
  rw [← h.1, List.length_map, List.length_map]
theorem WOk.snoc {wy lw : Addr} {news : List (Addr × Obj)} {c : List WayO} {l : List (List Int)} {vs : List Value} {ns : List Int} {e : Nat} (h : WOk wy news c l) (hi : IntsAre vs ns) (hw : @Ne Nat lw wy) (hn : ∀ p ∈ wObjs c ++ news, @LT.lt Nat _ p.1 lw) : WOk wy news (c ++ [(lw, e, vs, ns)]) (l ++ [ns]) := by
  obtain ⟨h1, h2, h3, h4, h5⟩ := h
  refine ⟨by rw [List.map_append, h1]; rfl, fun q hq => ?_, fun q hq => ?_, ?_, fun q hq => ?_⟩
  · rcases List.mem_append.mp hq with hq | hq
    · exact h2 q hq
    · rw [List.mem_singleton.mp hq]; exact hi
  · rcases List.mem_append.mp hq with hq | hq
    · exact h3 q hq
    · rw [List.mem_singleton.mp hq]; exact hw
  · rw [List.map_append, List.nodup_append]
    refine ⟨h4, by simp, fun a ha b hb => ?_⟩
    obtain ⟨q, hq, rfl⟩ := List.mem_map.mp ha
    have hb' : b = lw := by simpa using hb
    rw [hb']
    exact Nat.ne_of_lt (hn (q.1, _) (List.mem_append_left _ (List.mem_map_of_mem hq)))
  · rcases List.mem_append.mp hq with hq | hq
    · exact h5 q hq
    · rw [List.mem_singleton.mp hq]
      exact fun p hp => hn p (List.mem_append_right _ hp)
theorem allLt_mem {d : Nat} : ∀ {l : List (Addr × Obj)}, AllLt d l → ∀ p ∈ l, @LT.lt Nat _ p.1 d
  | [], _, p, h => absurd h List.not_mem_nil
  | x :: r, h, p, hp => by
    rcases List.mem_cons.mp hp with rfl | hp
    · exact h.1
    · exact allLt_mem h.2 p hp
theorem wC_skip {a b : Int} {k : Nat} (h : ¬ (a ≠ b ∧ a ≠ 1 + (k : Int) ∧ b ≠ 1 + (k : Int) ∧ a < 10 - a - b - (1 + (k : Int)))) : wC a b (k + 1) = wC a b k := by
  simp only [wC]
  rw [if_neg]
  intro z
  simp only [wCond, Bool.and_eq_true, decide_eq_true_eq] at z
  exact h z
theorem wC_add {a b : Int} {k : Nat} (h1 : a ≠ b) (h2 : a ≠ 1 + (k : Int)) (h3 : b ≠ 1 + (k : Int)) (h4 : a < 10 - a - b - (1 + (k : Int))) : wC a b (k + 1) = wC a b k ++ [[0, a, b, 1 + (k : Int), 10 - a - b - (1 + (k : Int))]] := by
  simp only [wC]
  rw [if_pos]
  simp only [wCond, Bool.and_eq_true, decide_eq_true_eq]
  exact ⟨h1, h2, h3, h4⟩
theorem ways_sub {ck : List WayO} {lw wy : Addr} {e n : Nat} {ws : List Value} {ns : List Int} {x3 x2 x1 : Addr × Obj} {news : List (Addr × Obj)} : ∀ p ∈ [x3] ++ (x2 :: x1 :: (wy, listOf (List.toArray (wRefs (ck ++ [(lw, e, ws, ns)]))) n) :: (wObjs (ck ++ [(lw, e, ws, ns)]) ++ news)),
    p ∈ (lw, listOf (List.toArray ws) e) :: x3 :: x2 :: x1 :: (wy, listOf ((List.toArray (wRefs ck)).push (.ref lw)) n) :: (wObjs ck ++ news) := by
  intro p hp
  have e1 : (List.toArray (wRefs ck)).push (.ref lw) = List.toArray (wRefs (ck ++ [(lw, e, ws, ns)])) := by simp [wRefs]
  rw [e1]
  simp only [wObjs, List.map_append, List.map_cons, List.map_nil, List.append_assoc, List.singleton_append, List.mem_cons, List.mem_append] at hp ⊢
  rcases hp with h | h | h | h | h | h | h
  all_goals simp [h]
theorem ways_apart {ck : List WayO} {lw wy d : Addr} {e : Nat} {ws : List Value} {ns : List Int} {x2 x1 : Addr × Obj} {o o' : Obj} {news : List (Addr × Obj)} (hoff : ∀ p ∈ x2 :: x1 :: (wy, o) :: (wObjs ck ++ news), p.1 ≠ d) (hl : @Ne Nat lw d) :
    ∀ q ∈ x2 :: x1 :: (wy, o') :: (wObjs (ck ++ [(lw, e, ws, ns)]) ++ news), d ≠ q.1 := by
  intro q hq
  rcases List.mem_cons.mp hq with rfl | hq
  · exact (hoff _ List.mem_cons_self).symm
  rcases List.mem_cons.mp hq with rfl | hq
  · exact (hoff _ (List.mem_cons_of_mem _ List.mem_cons_self)).symm
  rcases List.mem_cons.mp hq with rfl | hq
  · exact (hoff (wy, o) (List.mem_cons_of_mem _ (List.mem_cons_of_mem _ List.mem_cons_self))).symm
  · simp only [wObjs, List.map_append, List.map_cons, List.map_nil, List.append_assoc, List.singleton_append, List.mem_append, List.mem_cons] at hq
    rcases hq with h | h | h
    · exact (hoff _ (List.mem_cons_of_mem _ (List.mem_cons_of_mem _ (List.mem_cons_of_mem _ (List.mem_append_left _ h))))).symm
    · rw [h]; exact hl.symm
    · exact (hoff _ (List.mem_cons_of_mem _ (List.mem_cons_of_mem _ (List.mem_cons_of_mem _ (List.mem_append_right _ h))))).symm
theorem ways_ne {ck : List WayO} {lw d : Addr} {e : Nat} {ws : List Value} {ns : List Int} (h : ∀ q ∈ ck, @Ne Nat q.1 d) (hl : @Ne Nat lw d) : ∀ q ∈ ck ++ [(lw, e, ws, ns)], @Ne Nat q.1 d := by
  intro q hq
  rcases List.mem_append.mp hq with hq | hq
  · exact h q hq
  · rw [List.mem_singleton.mp hq]; exact hl
theorem objs_ne {ck : List WayO} {news : List (Addr × Obj)} {d : Addr} (h : ∀ q ∈ ck, @Ne Nat q.1 d) (hn : ∀ p ∈ news, @Ne Nat p.1 d) : ∀ p ∈ wObjs ck ++ news, p.1 ≠ d := by
  intro p hp
  rcases List.mem_append.mp hp with hp | hp
  · obtain ⟨q, hq, rfl⟩ := List.mem_map.mp hp
    exact h q hq
  · exact hn p hp
theorem ne_objs {ck : List WayO} {news : List (Addr × Obj)} {d : Addr} (h : ∀ p ∈ wObjs ck ++ news, p.1 ≠ d) : ∀ q ∈ ck, @Ne Nat q.1 d :=
  fun q hq => h (q.1, _) (List.mem_append_left _ (List.mem_map_of_mem hq))
end
end Mine
end

/- part Ways1 -/
section
open PySem PySem.W PyProof.Rows
namespace Mine
section
section
set_option maxRecDepth 100000 in
set_option maxHeartbeats 4000000 in
theorem ways_cl (w : World) (news : List (Addr × Obj)) (hd0 : hd.heap_39 w.params = hd.heap_39 w.params) :
   Cl 1 w (hd.heap_39 w.params) topProg 90 news [] (fun r news' => ∃ (wy : Addr) (e : Nat) (c : List WayO), r = .ref wy ∧ news' = (wy, listOf (List.toArray (wRefs c)) e) :: (wObjs c ++ news) ∧ WOk wy news c (wA 4) ∧ ∀ p ∈ news, @LT.lt Nat _ p.1 wy) := by
  w_top off
  k_with_none
  k_with "st8" => (repeat' (first | (k_unfold; (try dsimp only)) | (k_end; wrow_close) | ((with_reducible show wpAny _ _ (PySem.exec _ _) _ _ _); k_fold; walk1) | walk1 | (dsimp only; walk1) | (leave1; walk_say "STEP leave1"; try dsimp only) | fail "no step"))
  k_with "all8" => (focus ((repeat (first | exact List.forall_mem_nil _ | with_reducible assumption | refine' List.forall_mem_cons.mpr ⟨by k_ne, ?_⟩)); done))
  k_with "execs cons" => (rename HoldMark 1 => hmk; refine' hold_it ?_)
  k_with "LEq" => (dsimp only [LEq]; (try k_unfold); (try dsimp only))
  k_with "LEf" => (refine ⟨rfl, ?_⟩)
  k_with "call builtin:list.append" => (k_here; (with_reducible show wpAny _ _ (call (Value.builtin _) [Value.ref _, _]) _ _ _); k_dflt (refine' append_K ?k1z36 ?k2z36 ?k3z36 ?_ ?zz36; (case k1z36 => k_asm); (case k2z36 => k_asm); (case k3z36 => k_upd); (case zz36 => (rw [List.size_toArray, sizeLine_eq]; exact Nat.le_trans (by with_reducible assumption) (by decide)))); intro h'q9 F'q9 N'q9)
  k_with "own_apart" => (intro pq9 hpq9; cases hpq9)
  unfold Cl
  k_fill
  clear hd0
  intro mean mg mb dp un gd cn cs ad ccd cl outer A₀ base h₀ L m s Q E B F X N T hk hdp hu hret
  refine wpAny_call ?_
  k_dflt cell_enter
  refine wpAny_execs_cons ?_
  (rename Fr _ _ _ _ => F1)
  (rename News _ _ _ _ => N1)
  refine cutQ (σ := Addr) F1 (fun c => (c, listOf (List.toArray []) 0) :: news) (fun c => [(Str.ofString "ways", .ref c)]) [] (fun c => ∀ p ∈ news, p.1 < c) ?_ ?_
  · k_steps
    (rename News _ _ _ _ => nE')
    (rename Fr _ _ _ _ => fE')
    refine' LE.intro _ fE' nE' ?k1 ?k2 ?k3 ?k5
    case k1 => exact fun p hp => by simpa using hp
    case k2 => (intro p hp; cases hp)
    case k3 => kst_all
    case k5 => assumption
  rintro wy u2 g2 q2 hwy F2 N2
  clear F1 N1
  dsimp only at hwy F2 N2 ⊢
  refine wpAny_execs_cons ?_
  refine forRangeG (σ := Nat × List WayO) F2 (fun c => ((wy, listOf (List.toArray (wRefs c.2)) c.1) :: (wObjs c.2 ++ news))) (fun c => [(Str.ofString "ways", .ref wy)]) [Str.ofString "a", Str.ofString "b", Str.ofString "c", Str.ofString "d"] (fun i c => WOk wy news c.2 (wA i)) 1 4 rfl rfl ?_ ?_ ?_
  · k_steps
    (rename IsRange _ _ _ _ _ _ _ _ => rgX)
    (rename News _ _ _ _ => nE')
    (rename Fr _ _ _ _ => fE')
    refine' RangeIs.intro (0, []) rgX ?ks ?kn fE' nE' ?k1 ?k2 ?k4
    case k1 => exact fun p hp => by simpa using hp
    case k2 => kst_all
    case ks => decide
    case kn => decide
    case k4 => exact WOk.nil _ _

  · rintro i ⟨ei, ci⟩ u3 J1 ti si hi hP1 ⟨_, hlti⟩ hoffi F3 N3
    dsimp only at hP1 hoffi F3 N3 ⊢

    have hmk : HoldMark 1 := trivial
    k_steps
    refine Hold.intro ?_
    clear hmk
    (rename Fr _ _ _ _ => F4)
    (rename News _ _ _ _ => N4)

    refine wpAny_execs_cons ?_
    refine forRangeG (σ := Nat × List WayO) F4 (fun c => ((J1, itR (1 + ((i + 1 : Nat) : Int)) (((4 : Nat) : Int) - ((i + 1 : Nat) : Int))) :: (wy, listOf (List.toArray (wRefs c.2)) c.1) :: (wObjs c.2 ++ news))) (fun c => [(Str.ofString "ways", .ref wy), (Str.ofString "a", .int (1 + (i : Int)) ti)]) [Str.ofString "b", Str.ofString "c", Str.ofString "d"] (fun j c => WOk wy news c.2 (wA i ++ wB (1 + (i : Int)) j) ∧ ∀ q ∈ c.2, @Ne Nat q.1 J1) 1 4 rfl rfl ?_ ?_ ?_
    · k_steps
      (rename IsRange _ _ _ _ _ _ _ _ => rgX)
      (rename News _ _ _ _ => nE')
      (rename Fr _ _ _ _ => fE')
      refine' RangeIs.intro (ei, ci) rgX ?ks ?kn fE' nE' ?k1 ?k2 ?k4
      case k1 => exact fun p hp => by simpa using hp
      case k2 => kst_all
      case ks => decide
      case kn => decide
      case k4 => exact ⟨by simpa [wB] using hP1, ne_objs fun p hp => hoffi p (.tail _ hp)⟩

    · rintro j ⟨ej, cj⟩ u4 J2 tj sj hj hP2 ⟨_, hltj⟩ hoffj F5 N5
      dsimp only at hP2 hoffj F5 N5 ⊢

      have hmk : HoldMark 1 := trivial
      k_steps
      refine Hold.intro ?_
      clear hmk
      (rename Fr _ _ _ _ => F6)
      (rename News _ _ _ _ => N6)

      refine wpAny_execs_cons ?_
      refine forRangeG (σ := Nat × List WayO) F6 (fun c => ((J2, itR (1 + ((j + 1 : Nat) : Int)) (((4 : Nat) : Int) - ((j + 1 : Nat) : Int))) :: (J1, itR (1 + ((i + 1 : Nat) : Int)) (((4 : Nat) : Int) - ((i + 1 : Nat) : Int))) :: (wy, listOf (List.toArray (wRefs c.2)) c.1) :: (wObjs c.2 ++ news))) (fun c => [(Str.ofString "ways", .ref wy), (Str.ofString "a", .int (1 + (i : Int)) ti), (Str.ofString "b", .int (1 + (j : Int)) tj)]) [Str.ofString "c", Str.ofString "d"] (fun k c => WOk wy news c.2 (wA i ++ (wB (1 + (i : Int)) j ++ wC (1 + (i : Int)) (1 + (j : Int)) k)) ∧ (∀ q ∈ c.2, @Ne Nat q.1 J1) ∧ ∀ q ∈ c.2, @Ne Nat q.1 J2) 1 4 rfl rfl ?_ ?_ ?_
      · k_steps
        (rename IsRange _ _ _ _ _ _ _ _ => rgX)
        (rename News _ _ _ _ => nE')
        (rename Fr _ _ _ _ => fE')
        refine' RangeIs.intro (ej, cj) rgX ?ks ?kn fE' nE' ?k1 ?k2 ?k4
        case k1 => exact fun p hp => by simpa using hp
        case k2 => kst_all
        case ks => decide
        case kn => decide
        case k4 => exact ⟨by simpa [wC] using hP2.1, hP2.2, ne_objs fun p hp => hoffj p (.tail _ (.tail _ hp))⟩

      · rintro k ⟨ekv, ck⟩ u5 J3 tk sk hk hP3 ⟨_, hltk⟩ hoffk F7 N7
        dsimp only at hP3 hoffk F7 N7 ⊢

        have hvs : (wRefs ck).length ≤ 100 := by
          rw [hP3.1.len]
          have z1 := wA_le i
          have z2 := wB_le (1 + (i : Int)) j
          have z3 := wC_le (1 + (i : Int)) (1 + (j : Int)) k
          simp only [List.length_append]
          omega
        have hTw : ∀ p ∈ wObjs ck ++ news, p.1 ≠ wy := objs_ne hP3.1.2.2.1 fun p hp => Nat.ne_of_lt (hwy p hp)
        have q1 : @LT.lt Nat _ J2 J3 := hltk (J2, _) (.head _)
        have q2 : @LT.lt Nat _ J1 J3 := hltk (J1, _) (.tail _ (.head _))
        have q3 : @LT.lt Nat _ wy J3 := hltk (wy, _) (.tail _ (.tail _ (.head _)))
        have q4 : @LT.lt Nat _ J1 J2 := hltj (J1, _) (.head _)
        have q5 : @LT.lt Nat _ wy J2 := hltj (wy, _) (.tail _ (.head _))
        have q6 : @LT.lt Nat _ wy J1 := hlti (wy, _) (.head _)
        generalize hT : wObjs ck ++ news = T at N7 hTw
        generalize hV : wRefs ck = vs at N7 hvs
        clear hlti hltj hltk
        k_steps
        · (rename News _ _ _ _ => nE')
          (rename Fr _ _ _ _ => fE')
          (rename @LT.lt Nat _ J3 _ ∧ _ => l1)
          subst hT hV
          have lT := allLt_mem l1.2.2.2.2
          refine' LE.intro (ekv + 1, ck ++ [(_, 0, _, [0, 1 + (i : Int), 1 + (j : Int), 1 + (k : Int), 10 - (1 + (i : Int)) - (1 + (j : Int)) - (1 + (k : Int))])]) fE' nE' ways_sub ?k2 ?k3 ?k5
          case k2 =>
            intro p hp q hq
            rw [List.mem_singleton.mp hp]
            exact ways_apart hoffk (Nat.ne_of_gt l1.1) q hq
          case k3 => kst_all
          case k5 =>
            refine ⟨?_, ways_ne hP3.2.1 (Nat.ne_of_gt l1.2.2.1), ways_ne hP3.2.2 (Nat.ne_of_gt l1.2.1)⟩
            dsimp only
            rw [wC_add (by assumption) (by assumption) (by assumption) (by assumption), ← List.append_assoc, ← List.append_assoc]
            have z := hP3.1
            rw [← List.append_assoc] at z
            exact WOk.snoc z (.cons _ _ (.cons _ _ (.cons _ _ (.cons _ _ (.cons _ _ .nil))))) (Nat.ne_of_gt l1.2.2.2.1) lT
        all_goals
          (rename News _ _ _ _ => nE')
          (rename Fr _ _ _ _ => fE')
          subst hT hV
          refine' LE.intro (ekv, ck) fE' nE' ?k1 ?k2 ?k3 ?k5
          case k1 => exact fun p hp => hp
          case k2 =>
            intro p hp q hq
            rw [List.mem_singleton.mp hp]
            exact fun z => hoffk q hq z.symm
          case k3 => kst_all
          case k5 =>
            refine ⟨?_, hP3.2.1, hP3.2.2⟩
            dsimp only
            rw [wC_skip (by omega)]
            exact hP3.1
      · rintro ⟨ekv, ck⟩ u5 g5 q5 hP3 F7 N7
        dsimp only at hP3 F7 N7 ⊢
        k_steps
        (rename News _ _ _ _ => nE')
        (rename Fr _ _ _ _ => fE')
        refine' LE.intro (ekv, ck) fE' nE' ?k1 ?k2 ?k3 ?k5
        case k1 => exact fun p hp => hp
        case k2 =>
          intro p hp q hq
          rw [List.mem_singleton.mp hp]
          rcases List.mem_cons.mp hq with rfl | hq
          · exact fun z => hoffj (J1, _) (.head _) z.symm
          rcases List.mem_cons.mp hq with rfl | hq
          · exact fun z => hoffj (wy, _) (.tail _ (.head _)) z.symm
          · exact (objs_ne hP3.2.2 (fun p hp => hoffj p (.tail _ (.tail _ (List.mem_append_right _ hp)))) q hq).symm
        case k3 => kst_all
        case k5 => exact ⟨hP3.1, hP3.2.1⟩
    · rintro ⟨ekv, ck⟩ u5 g5 q5 hP3 F7 N7
      dsimp only at hP3 F7 N7 ⊢
      k_steps
      (rename News _ _ _ _ => nE')
      (rename Fr _ _ _ _ => fE')
      refine' LE.intro (ekv, ck) fE' nE' ?k1 ?k2 ?k3 ?k5
      case k1 => exact fun p hp => hp
      case k2 =>
        intro p hp q hq
        rw [List.mem_singleton.mp hp]
        rcases List.mem_cons.mp hq with rfl | hq
        · exact fun z => hoffi (wy, _) (.head _) z.symm
        · exact (objs_ne hP3.2 (fun p hp => hoffi p (.tail _ (List.mem_append_right _ hp))) q hq).symm
      case k3 => kst_all
      case k5 => exact hP3.1
  · rintro ⟨ekv, ck⟩ u5 g5 q5 hP3 F7 N7
    dsimp only at hP3 F7 N7 ⊢
    k_steps
    exact hret _ _ _ _ (by assumption) (by assumption) ⟨_, _, _, rfl, rfl, hP3, hwy⟩
end
end
end Mine
end

/- part MapW -/
section
open PySem PySem.W PyProof.Rows PySem.Spec PySem.Calls PyProof.V
namespace Mine
section
/-- the end of one turn of a comprehension that makes ints -/
noncomputable def MapEnd (h₀ : Heap) (L : Addr) (m : PySem.Str → Option Value) (s₁ : Shared) (all : List (Addr × Obj)) (g : Int) (y : Value) (s₂ : Shared) : Prop :=
  (∃ t, y = .int g t) ∧ ∃ h' tk', s₂ = { s₁ with heap := h', toks := tk' } ∧ Fr h₀ L h' m ∧ News h₀ L h' all
theorem MapEnd.intro {h₀ h' : Heap} {L : Addr} {m : PySem.Str → Option Value} {s₁ : Shared} {all nw : List (Addr × Obj)} {g r : Int} {t : Tok} {tk' : Nat} (F : Fr h₀ L h' m) (N : News h₀ L h' nw) (sub : ∀ p ∈ all, p ∈ nw) (e : r = g) :
    MapEnd h₀ L m s₁ all g (.int r t) { s₁ with heap := h', toks := tk' } := ⟨⟨t, e ▸ rfl⟩, h', tk', rfl, F, fun p hp => N p (sub p hp)⟩
theorem mapEnd_elim {h₀ : Heap} {L : Addr} {m : PySem.Str → Option Value} {s₁ : Shared} {all : List (Addr × Obj)} {g : Int} {P : Value → Shared → Prop}
    (c : ∀ t h' tk', Fr h₀ L h' m → News h₀ L h' all → P (.int g t) { s₁ with heap := h', toks := tk' }) (y : Value) (s₂ : Shared) (h : MapEnd h₀ L m s₁ all g y s₂) : P y s₂ := by
  obtain ⟨⟨t, rfl⟩, h', tk', rfl, F, N⟩ := h
  exact c t h' tk' F N
theorem cell_own {x : PySem.Str} {a : Addr} {cl : List (PySem.Str × Addr)} {c : List (PySem.Str × Addr)} (e : c = (x, a) :: cl) : c.lookup x = some a := by
  subst e; simp
theorem off1_of {D : Addr} : ∀ {l : List (Addr × Obj)}, (∀ p ∈ l, @Ne Nat p.1 D) → LCg.Off1 D l
  | [], _ => trivial
  | _ :: _, h => ⟨h _ List.mem_cons_self, off1_of fun p hp => h p (List.mem_cons_of_mem _ hp)⟩
theorem nw_cons {h₀ h : Heap} {L a : Addr} {o : Obj} {news : List (Addr × Obj)} (e : h.get? a = some o) (k : a ≠ L ∧ h₀.get? a = none) (N : News h₀ L h news) : News h₀ L h ((a, o) :: news) :=
  List.forall_mem_cons.mpr ⟨⟨e, k⟩, N⟩
theorem nw_but {h₀ h h' : Heap} {L D : Addr} {news : List (Addr × Obj)} (N : News h₀ L h news) (k : ∀ b o, b ≠ D → h.get? b = some o → h'.get? b = some o) (hD : ∀ p ∈ news, p.1 ≠ D) : News h₀ L h' news :=
  fun p hp => ⟨k _ _ (hD p hp) (N p hp).1, (N p hp).2⟩
theorem nw_mono {h₀ h h' : Heap} {L : Addr} {news : List (Addr × Obj)} (N : News h₀ L h news) (k : ∀ b o, h.get? b = some o → h'.get? b = some o) : News h₀ L h' news :=
  fun p hp => ⟨k _ _ (N p hp).1, (N p hp).2⟩
theorem off_gt {I k : Nat} {news : List (Addr × Obj)} (h : ∀ p ∈ news, @LT.lt Nat _ p.1 I) : ∀ p ∈ news, p.1 ≠ I + k := fun p hp => Nat.ne_of_lt (Nat.lt_of_lt_of_le (h p hp) (Nat.le_add_right _ _))
theorem off_1 {I : Nat} {news : List (Addr × Obj)} {o1 o2 o3 : Obj} (h : ∀ p ∈ news, @LT.lt Nat _ p.1 I) : ∀ p ∈ (I + 2, o1) :: (I + 3, o2) :: (I + 1, o3) :: news, p.1 ≠ I :=
  List.forall_mem_cons.mpr ⟨Nat.ne_of_gt (Nat.lt_add_of_pos_right (by decide)), List.forall_mem_cons.mpr ⟨Nat.ne_of_gt (Nat.lt_add_of_pos_right (by decide)), List.forall_mem_cons.mpr ⟨Nat.ne_of_gt (Nat.lt_add_of_pos_right (by decide)), off_gt (k := 0) h⟩⟩⟩
theorem ne_add {I a b : Nat} (h : a ≠ b) : I + a ≠ I + b := fun e => h (Nat.add_left_cancel e)
theorem off_2 {I : Nat} {news : List (Addr × Obj)} {o3 : Obj} (h : ∀ p ∈ news, @LT.lt Nat _ p.1 I) : ∀ p ∈ (I + 1, o3) :: news, p.1 ≠ I + 3 :=
  List.forall_mem_cons.mpr ⟨ne_add (by decide), off_gt h⟩
theorem off_3 {I : Nat} {o1 o2 : Obj} : ∀ p ∈ [(I + 2, o1), (I + 3, o2)], p.1 ≠ I + 1 :=
  List.forall_mem_cons.mpr ⟨ne_add (by decide), List.forall_mem_cons.mpr ⟨ne_add (by decide), List.forall_mem_nil _⟩⟩
theorem off_4 {I : Nat} {news : List (Addr × Obj)} {o3 : Obj} (h : ∀ p ∈ news, @LT.lt Nat _ p.1 I) : ∀ p ∈ (I + 1, o3) :: news, p.1 ≠ I + 2 :=
  List.forall_mem_cons.mpr ⟨ne_add (by decide), off_gt h⟩
abbrev nsObj0 : Obj := { cls := .type "dict", data := .dict #[] }
section
variable {prog : Program} {w : World} {A : Around} {h₀ : Heap} {L : Addr} {m : PySem.Str → Option Value} {s₁ : Shared} {news : List (Addr × Obj)}
/-- the state before turn i -/
structure MapAt (h₀ : Heap) (L : Addr) (m : PySem.Str → Option Value) (vs : List Value) (ax : Addr) (news : List (Addr × Obj)) (G : Nat → Int) (I : Addr) (i : Nat) (h' : Heap) (ys : List Value) (oW : Obj) : Prop where
  le : i ≤ vs.length
  it : h'.IsListIter I ax i ∧ h'.IsList ax vs.toArray
  F : Fr h₀ L h' m
  N : News h₀ L h' ((I + 2, nsObj0) :: (I + 3, oW) :: (I + 1, LCg.lst ys) :: news)
  c : ∃ v0, oW.data = .cell v0
  ys : IntsAre ys ((List.range i).map G)
def MapInv (h₀ : Heap) (L : Addr) (m : PySem.Str → Option Value) (vs : List Value) (ax : Addr) (news : List (Addr × Obj)) (G : Nat → Int) (I : Addr) (s₁ : Shared) (k : Nat) (s' : Shared) : Prop :=
  ∃ h' tk i ys oW, s' = { s₁ with heap := h', toks := tk } ∧ k = vs.length + 1 - i ∧ MapAt h₀ L m vs ax news G I i h' ys oW
theorem MapInv.elim {vs : List Value} {ax : Addr} {G : Nat → Int} {I : Addr} {P : Nat → Shared → Prop}
    (c : ∀ h' tk i ys oW, MapAt h₀ L m vs ax news G I i h' ys oW → P (vs.length + 1 - i) { s₁ with heap := h', toks := tk }) (k : Nat) (s' : Shared) (h : MapInv h₀ L m vs ax news G I s₁ k s') : P k s' := by
  obtain ⟨h', tk, i, ys, oW, rfl, rfl, hM⟩ := h
  exact c h' tk i ys oW hM
end
section
variable {prog : Program} {w : World} {A : Around} {E : Value → Shared → Prop} {h₀ : Heap} {L : Addr} {m : PySem.Str → Option Value} {env : Env} {elt iter : Expr} {x : PySem.Str} {px pos : Pos} {scope : Scope} {cl : List (PySem.Str × Addr)} {s : Shared} {news : List (Addr × Obj)} {Q : Value → Shared → Prop}
/-- a comprehension over a list whose own name is a cell -/
theorem mapW_list {vs : List Value} {ax : Addr} {k0 : Nat} (G : Nat → Int) (F : Fr h₀ L s.heap m) (N : News h₀ L s.heap news) (hm : (ax, listOf vs.toArray k0) ∈ news) (hsz : vs.length ≤ 100) (hh : A.handled = none)
    (hclos : closureFor scope env = pure cl) (hkind : scope.kind = .function) (hnames : ∀ y ∈ scope.names, y.2 = .local → scope.names.lookup y.1 = some .local)
    (hnf : newFunctionEnv scope env.globals cl [] env.qual none .none (some env) = (do
      let C ← alloc nsObj0
      let W ← alloc { cls := .type "cell", data := .cell none }
      pure { scope, locals := C, globals := env.globals, cells := (x, W) :: cl, qual := env.qual, func := none, code := env.code, frame := env.frame, builtins := env.builtins }))
    (hx : ∀ C W, (compEnvC scope ((x, W) :: cl) C env).kindOf x = some .cell)
    (hiter : wpAny (model prog w) A (eval iter env) (fun xv s₁ => xv = .ref ax ∧ s₁ = s) E s)
    (turn : ∀ i v I oI C W oW D ys h tk (E' : Value → Shared → Prop), i < vs.length → vs[i]? = some v → oW.data = .cell (some v) → Fr h₀ L h m → News h₀ L h ((I, oI) :: (C, nsObj0) :: (W, oW) :: (D, LCg.lst ys) :: news) → (∀ p ∈ news, @LT.lt Nat _ p.1 I) → @LT.lt Nat _ I D → @LT.lt Nat _ D C → @LT.lt Nat _ C W →
      wpAny (model prog w) A (eval elt (compEnvC scope ((x, W) :: cl) C env)) (MapEnd h₀ L m { s with heap := h, toks := tk } ((I, oI) :: (C, nsObj0) :: (W, oW) :: (D, LCg.lst ys) :: news) (G i)) E' { s with heap := h, toks := tk })
    (fin : Hold (∀ ys, IntsAre ys ((List.range vs.length).map G) → LCg.FinE h₀ L m s Q ys news))
    (hs : ∀ x, foldedSetIterable iter env x = pure x := by intro _; rfl) :
    wpAny (model prog w) A (eval (.ListComp elt [⟨.Name x px, iter, [], 0⟩] scope pos) env) Q E s := by
  have fin : ∀ ys, IntsAre ys ((List.range vs.length).map G) → LCg.FinE h₀ L m s Q ys news := fin
  rw [eval_ListComp]
  refine wpAny_comprehension_free (use := none) rfl hs hclos hkind hnames (wpAny_mono hiter (fun xv s₁ h₁ => ?_) fun _ _ e => e)
  obtain ⟨rfl, rfl⟩ := h₁
  have hN := N _ hm
  have hl : s₁.heap.IsList ax vs.toArray := ⟨_, hN.1, rfl, _, rfl⟩
  have hlt : ax < s₁.heap.objs.size := Heap.lt_size hN.1
  refine wpAny_pyIter_list hl ?_
  refine wpAny_newObj_type ?_
  rw [hnf]
  refine wpAny_bind (wpAny_alloc (wpAny_bind (wpAny_alloc (wpAny_pure ?_))))
  dsimp only
  generalize hI : s₁.heap.objs.size = I at *
  have z1 : (s₁.heap.push { cls := .type "list_iterator", data := .fields #[.ref ax, .int 0 0] }).objs.size = I + 1 := by rw [Heap.size_push, hI]
  generalize hH1 : s₁.heap.push { cls := .type "list_iterator", data := .fields #[.ref ax, .int 0 0] } = H1 at *
  have z2 : (H1.push { cls := .type "list", dict := none, data := .seq #[] }).objs.size = I + 2 := by rw [Heap.size_push, z1]
  generalize hH2 : H1.push { cls := .type "list", dict := none, data := .seq #[] } = H2 at *
  have z3 : (H2.push nsObj0).objs.size = I + 3 := by rw [Heap.size_push, z2]
  generalize hH3 : H2.push nsObj0 = H3 at *
  rw [z1, z2, z3]
  have o3 : ∀ b o, H3.get? b = some o → (H3.push { cls := .type "cell", data := .cell none }).get? b = some o := fun b o e => Heap.get?_push_of_some _ e
  have o2 : ∀ b o, H2.get? b = some o → H3.get? b = some o := fun b o e => hH3 ▸ Heap.get?_push_of_some _ e
  have o1 : ∀ b o, H1.get? b = some o → H2.get? b = some o := fun b o e => hH2 ▸ Heap.get?_push_of_some _ e
  have o0 : ∀ b o, s₁.heap.get? b = some o → H1.get? b = some o := fun b o e => hH1 ▸ Heap.get?_push_of_some _ e
  have gI : H1.get? I = some { cls := .type "list_iterator", data := .fields #[.ref ax, .int 0 0] } := by rw [← hH1, ← hI]; exact Heap.get?_push_size _ rfl
  have gD : H2.get? (I + 1) = some (LCg.lst []) := by rw [← hH2, ← z1]; exact Heap.get?_push_size _ rfl
  have gC : H3.get? (I + 2) = some nsObj0 := by rw [← hH3, ← z2]; exact Heap.get?_push_size _ rfl
  have gW : (H3.push { cls := .type "cell", data := .cell none }).get? (I + 3) = some ({ cls := .type "cell", data := .cell none } : Obj) := by rw [← z3]; exact Heap.get?_push_size _ rfl
  generalize hH4 : H3.push { cls := .type "cell", data := .cell none } = H4 at *
  have up : ∀ b o, s₁.heap.get? b = some o → H4.get? b = some o := fun b o e => o3 _ _ (o2 _ _ (o1 _ _ (o0 _ _ e)))
  have fresh₀ : ∀ a, I ≤ a → h₀.get? a = none := fun a ha => by
    cases e : h₀.get? a with
    | none => rfl
    | some o' =>
      have q := Heap.lt_size (F.keep a o' e)
      rw [hI] at q
      exact absurd q (Nat.not_lt.mpr ha)
  have hLI : @LT.lt Nat _ L I := hI ▸ F.ns.lt
  have nlt : ∀ p ∈ news, @LT.lt Nat _ p.1 I := fun p hp => hI ▸ Heap.lt_size (N p hp).1
  have haxI : @LT.lt Nat _ ax I := nlt _ hm
  have W := Walks.list (prog := prog) (w := w) (A := A) hh I ax (Nat.ne_of_lt haxI) vs.toArray
  have hst0 : H4.IsListIter I ax 0 ∧ H4.IsList ax vs.toArray := ⟨⟨_, o3 _ _ (o2 _ _ (o1 _ _ gI)), rfl, rfl⟩, ⟨_, up _ _ hN.1, rfl, _, rfl⟩⟩
  have hn : vs.toArray.size = vs.length := List.size_toArray ..
  have loop : codeAny (model prog w) A (.compLoop (.ListComp elt [⟨.Name x px, iter, [], 0⟩] scope pos) 0 (.ref I) (.ref (I + 1)) (compEnvC scope ((x, I + 3) :: cl) (I + 2) env))
      (compPost (model prog w) A E none Q (.ref (I + 1)) (I + 2)) { s₁ with heap := H4 } := by
    refine codeAny_compLoop_tests (MapInv h₀ L m vs ax news G I s₁) (MapInv.elim fun h' tk i ys oW M => ?_) (vs.length + 1)
      ⟨H4, _, 0, [], { cls := .type "cell", data := .cell none }, rfl, rfl, Nat.zero_le _, hst0, F.keeps up, nw_cons (o3 _ _ gC) ⟨Nat.ne_of_gt (Nat.lt_add_right 2 hLI), fresh₀ _ (Nat.le_add_right _ _)⟩ (nw_cons gW ⟨Nat.ne_of_gt (Nat.lt_add_right 3 hLI), fresh₀ _ (Nat.le_add_right _ _)⟩ (nw_cons (o3 _ _ (o2 _ _ gD)) ⟨Nat.ne_of_gt (Nat.lt_add_right 1 hLI), fresh₀ _ (Nat.le_add_right _ _)⟩ (nw_mono N up))), ⟨none, rfl⟩, .nil⟩
    have hylen : ys.length = i := M.ys.length.trans ((List.length_map ..).trans List.length_range)
    by_cases hlt : i < vs.length
    · refine W.item i _ _ _ (lt_of_lt_of_eq hlt hn.symm) M.it fun v h₂ tk₂ hPv hst₂ hk₂ => ?_
      have kI : ∀ b o, b ≠ I → h'.get? b = some o → h₂.get? b = some o := fun b o hb => hk₂ b o (fun q => hb (List.mem_singleton.mp q))
      have N₂ : News h₀ L h₂ ((I + 2, nsObj0) :: (I + 3, oW) :: (I + 1, LCg.lst ys) :: news) := nw_but M.N kI (off_1 nlt)
      have F₂ : Fr h₀ L h₂ m := LCg.fr_but M.F hk₂ (Nat.ne_of_lt hLI) (fresh₀ _ (Nat.le_refl _))
      refine M.c.elim fun v0 hv0 => ?_
      refine wpAny_assign_Name (wpAny_storeName_cell (c := I + 3) (v₀ := v0) (by simp [compEnvC, relabel, hkind]) (hx _ _) (cell_own rfl) ⟨oW, (N₂ (I + 3, oW) (.tail _ (.head _))).1, hv0⟩ (fun h₃ hc₃ hs₃ => ?_))
      refine wpAny_tests_nil ?_
      simp only [if_true]
      refine hc₃.elim fun oW' eW => ?_
      have keep3 : ∀ b o, b ≠ I + 3 → h₂.get? b = some o → h₃.get? b = some o := fun b o hb e => hs₃.extBut b o hb e
      have hst₃ : h₃.IsListIter I ax (i + 1) ∧ h₃.IsList ax vs.toArray := W.frame _ _ _ hst₂ (List.forall_mem_cons.mpr ⟨fun o => keep3 I o (Nat.ne_of_lt (Nat.lt_add_of_pos_right (by decide))), List.forall_mem_cons.mpr ⟨fun o => keep3 ax o (Nat.ne_of_lt (Nat.lt_add_right 3 haxI)), List.forall_mem_nil _⟩⟩)
      refine hst₃.1.elim fun oI eI => ?_
      have F₃ : Fr h₀ L h₃ m := F₂.change hs₃ (Nat.ne_of_gt (Nat.lt_add_right 3 hLI)) (fresh₀ _ (Nat.le_add_right _ _))
      have N₃ : News h₀ L h₃ ((I, oI) :: (I + 2, nsObj0) :: (I + 3, oW') :: (I + 1, LCg.lst ys) :: news) :=
        nw_cons eI.1 ⟨Nat.ne_of_gt hLI, fresh₀ _ (Nat.le_refl _)⟩ (N₂.setSecond (ne_add (by decide)) (off_2 nlt) hs₃ eW.1)
      refine wpAny_mono (turn i v I oI (I + 2) (I + 3) oW' (I + 1) ys h₃ _ _ hlt (by simpa using hPv) eW.2 F₃ N₃ nlt (Nat.lt_succ_self _) (Nat.lt_succ_self _) (Nat.lt_succ_self _)) (mapEnd_elim fun t h₄ tk₄ F₄ N₄ => ?_) fun _ _ e => e
      refine append_at (hsz := by show ys.toArray.size ≤ sizeLine; rw [List.size_toArray, hylen, sizeLine_eq]; omega) (N₄ (I + 1, LCg.lst ys) (.tail _ (.tail _ (.tail _ (.head _))))).1 fun h₅ hs₅ hD₅ => ?_
      have keep5 : ∀ b o, b ≠ I + 1 → h₄.get? b = some o → h₅.get? b = some o := fun b o hb e => hs₅.extBut b o hb e
      have N₄' : News h₀ L h₄ ([(I + 2, nsObj0), (I + 3, oW')] ++ (I + 1, LCg.lst ys) :: news) := fun p hp => N₄ p (.tail _ hp)
      refine ⟨vs.length + 1 - (i + 1), by omega, h₅, tk₄, i + 1, ys ++ [.int (G i) t], oW', rfl, rfl, hlt, ⟨⟨oI, keep5 _ _ (Nat.ne_of_lt (Nat.lt_succ_self _)) (N₄ (I, oI) (.head _)).1, eI.2⟩, ⟨_, keep5 _ _ (Nat.ne_of_lt (Nat.lt_succ_of_lt haxI)) (N₄ (ax, listOf vs.toArray k0) (.tail _ (.tail _ (.tail _ (.tail _ hm))))).1, rfl, _, rfl⟩⟩, F₄.change hs₅ (Nat.ne_of_gt (Nat.lt_add_right 1 hLI)) (fresh₀ _ (Nat.le_add_right _ _)),
        N₄'.setAt off_3 (off_gt nlt) hs₅ (hD₅.trans (congrArg some (LCg.lst_snoc ys _))), ⟨_, eW.2⟩, ?_⟩
      rw [List.range_succ, List.map_append]
      exact IntsAre.append M.ys (.cons _ _ .nil)
    · have hiv : i = vs.length := Nat.le_antisymm M.le (Nat.not_lt.mp hlt)
      refine W.done _ _ _ (by rw [hn, ← hiv]; exact M.it) fun h₂ tk₂ hk₂ => ?_
      have kI : ∀ b o, b ≠ I → h'.get? b = some o → h₂.get? b = some o := fun b o hb => hk₂ b o (fun q => hb (List.mem_singleton.mp q))
      have N₂ : News h₀ L h₂ ((I + 2, nsObj0) :: (I + 3, oW) :: (I + 1, LCg.lst ys) :: news) := nw_but M.N kI (off_1 nlt)
      have F₂ : Fr h₀ L h₂ m := LCg.fr_but M.F hk₂ (Nat.ne_of_lt hLI) (fresh₀ _ (Nat.le_refl _))
      refine ⟨fun _ => none, ⟨_, #[], _, (N₂ (I + 2, nsObj0) (.head _)).1, rfl, ?_, fun _ => ?_⟩, fun h'' hs'' => fin ys (hiv ▸ M.ys) (I + 1) h'' tk₂ (F₂.change hs'' (Nat.ne_of_gt (Nat.lt_add_right 2 hLI)) (fresh₀ _ (Nat.le_add_right _ _)))
        (nw_but (fun p hp => N₂ p (.tail _ (.tail _ hp))) (fun b o hb e => hs''.extBut b o hb e) (off_4 nlt)) (off1_of (off_gt nlt))⟩
      · exact fun e he => absurd he (by simp)
      · rfl
  exact codeAny_compStart_list loop (W.self 0 _ _ _ hst0 loop)
end
end
end Mine
end

/- part Price0 -/
section
open PySem PySem.W PyProof.Rows
namespace Mine
section
/-- far, whole -/
noncomputable def FD (D : Int → Int → Int) (x y : Int) : Int := (rowI D 5 0 x.toNat).getD y.toNat 0
/-- what the way costs -/
noncomputable def wPr (D : Int → Int → Int) (w : List Int) : Int := FD D (w.getD 4 0) (w.getD 0 0) + FD D (w.getD 0 0) (w.getD 1 0) + FD D (w.getD 1 0) (w.getD 2 0) + FD D (w.getD 2 0) (w.getD 3 0) + FD D (w.getD 3 0) (w.getD 4 0)
noncomputable def prI (D : Int → Int → Int) (k : Nat) : Int := wPr D ((wA 4).getD k [])
theorem wPr_sum (D : Int → Int → Int) (x0 x1 x2 x3 x4 : Int) : FD D x4 x0 + (FD D x0 x1 + (FD D x1 x2 + (FD D x2 x3 + (FD D x3 x4 + 0)))) = wPr D [x0, x1, x2, x3, x4] := by
  show _ = FD D x4 x0 + FD D x0 x1 + FD D x1 x2 + FD D x2 x3 + FD D x3 x4
  omega
theorem off1_mem {D : Addr} : ∀ {l : List (Addr × Obj)}, LCg.Off1 D l → ∀ p ∈ l, p.1 ≠ D
  | [], _, p, h => absurd h List.not_mem_nil
  | x :: r, h, p, hp => by
    rcases List.mem_cons.mp hp with rfl | hp
    · exact h.1
    · exact off1_mem h.2 p hp
noncomputable def ways12 : List (List Nat) := [[0, 1, 2, 3, 4], [0, 1, 2, 4, 3], [0, 1, 3, 2, 4], [0, 1, 3, 4, 2], [0, 1, 4, 2, 3], [0, 1, 4, 3, 2], [0, 2, 1, 3, 4], [0, 2, 1, 4, 3], [0, 2, 3, 1, 4], [0, 2, 4, 1, 3], [0, 3, 1, 2, 4], [0, 3, 2, 1, 4]]
theorem wA4 : wA 4 = ways12.map (fun w => w.map fun (n : Nat) => (n : Int)) := by decide +kernel
theorem way_at {wy : Addr} {news : List (Addr × Obj)} {cw : List WayO} (hW : WOk wy news cw (wA 4)) {i : Nat} {v : Value} (hv : (wRefs cw)[i]? = some v) : ∃ q ∈ cw, v = .ref q.1 ∧ i < 12 ∧ IntsAre q.2.2.1 ((wA 4).getD i []) := by
  have h12 : (wA 4).length = 12 := by rw [wA4]; rfl
  unfold wRefs at hv
  rw [List.getElem?_map] at hv
  cases hq : cw[i]? with
  | none => rw [hq] at hv; cases hv
  | some q =>
    rw [hq] at hv
    have hm := List.mem_of_getElem? hq
    have hl : i < cw.length := by
      rcases Nat.lt_or_ge i cw.length with h | h
      · exact h
      · rw [List.getElem?_eq_none h] at hq; cases hq
    have e : (wA 4)[i]? = some q.2.2.2 := by rw [← hW.1, List.getElem?_map, hq]; rfl
    refine ⟨q, hm, (Option.some.inj hv).symm, ?_, ?_⟩
    · rw [← h12, ← hW.1, List.length_map]; exact hl
    · rw [List.getD_eq_getElem?_getD, e]
      exact hW.2.1 q hm
theorem row_at {D : Int → Int → Int} {vs : List Value} {a b : Nat} (h : IntsAre vs (rowI D 5 0 a)) (hb : b < 5) : ∃ t, vs[((b : Int)).toNat]? = some (.int (FD D a b) t) := by
  obtain ⟨t, ht⟩ := h.get b (FD D a b) (by
    rw [List.getElem?_eq_getElem (by rw [rowI_len]; exact hb)]
    unfold FD
    rw [Int.toNat_natCast, Int.toNat_natCast, List.getD_eq_getElem?_getD, List.getElem?_eq_getElem (by rw [rowI_len]; exact hb)]
    rfl)
  exact ⟨t, by rw [Int.toNat_natCast]; exact ht⟩
end
end Mine
end

/- part Bis2 -/
section
open PySem PySem.W PyProof.Rows
namespace Mine
section
/-- a contract of a call with keywords -/
noncomputable def ClK (k : Nat) (w : World) (K : Frag) (p : Program) (f : Addr) (news : List (Addr × Obj)) (vs : List Value) (kws : List (PySem.Str × Value)) (Post : Value → List (Addr × Obj) → Prop) : Prop :=
  ∀ (mean : ExcName → Option Value) (mg mb : PySem.Str → Option Value) (dp un : Nat) (gd : Option (List Code)) (cn : PySem.Str) (cs : Scope) (a : Addr) (ccd : Value) (cl : List (PySem.Str × Addr)) (outer : List Env) (A₀ : Around) (base h₀ : Heap) (L : Addr) (m : PySem.Str → Option Value) (s : Shared) (Q E : Value → Shared → Prop),
    Below A₀ base outer h₀ → Fr h₀ L s.heap m → K.In h₀ → News h₀ L s.heap news → Top p LS mean mg mb h₀ → cs.kind = .function → dp + k < recursionLimit → un + 8 * k < cLine →
    (∀ r news' h' tk', Fr h₀ L h' m → News h₀ L h' news' → Post r news' → Q r { s with heap := h', toks := tk' }) →
    wpAny (model PySem.Challenge.rw_sr0044_01.row.prog w) (ktrTop dp un gd cn cs L a ccd cl outer) (call (.ref f) vs kws) Q E s
theorem ClK.use {k : Nat} {w : World} {K : Frag} {p : Program} {f : Addr} {news : List (Addr × Obj)} {vs : List Value} {kws : List (PySem.Str × Value)} {Post : Value → List (Addr × Obj) → Prop}
    {mean : ExcName → Option Value} {mg mb : PySem.Str → Option Value} {dp un : Nat} {gd : Option (List Code)} {cn : PySem.Str} {cs : Scope} {a : Addr} {ccd : Value} {cl : List (PySem.Str × Addr)} {outer : List Env} {A₀ : Around} {base h₀ : Heap} {L : Addr} {m : PySem.Str → Option Value} {s : Shared} {Q E : Value → Shared → Prop}
    (B : Below A₀ base outer h₀) (F : Fr h₀ L s.heap m) (X : K.In h₀) (N : News h₀ L s.heap news) (T : Top p LS mean mg mb h₀) (C : ClK k w K p f news vs kws Post) (hk : cs.kind = .function) (hd : dp + k < recursionLimit) (hu : un + 8 * k < cLine)
    (ret : ∀ r news' h' tk', Fr h₀ L h' m → News h₀ L h' news' → Post r news' → Q r { s with heap := h', toks := tk' }) :
    wpAny (model PySem.Challenge.rw_sr0044_01.row.prog w) (ktrTop dp un gd cn cs L a ccd cl outer) (call (.ref f) vs kws) Q E s := C _ _ _ _ _ _ _ _ _ _ _ _ _ _ _ _ _ _ _ _ B F X N T hk hd hu ret
/-- the key at q tells G -/
noncomputable def KeyOK (w : World) (q : Addr) (news : List (Addr × Obj)) (G : Int → Int) : Prop :=
  ∀ v tv, 0 ≤ v ∧ v < 12 → Cl 1 w (hd.heap_39 w.params) topProg q news [.int v tv] (fun r news' => news' = news ∧ ∃ t, r = .int (G v) t)
noncomputable def KeyF (q : Addr) (news : List (Addr × Obj)) : Prop := ∃ oc od fd sl, (q, (⟨oc, od, .func fd, sl⟩ : Obj)) ∈ news
theorem keyF_at {h₀ h : Heap} {L q : Addr} {news : List (Addr × Obj)} (N : News h₀ L h news) (k : KeyF q news) : FnAt q h := by
  obtain ⟨oc, od, fd, sl, hm⟩ := k
  exact FnAt.of N hm
noncomputable def In12 (ns : List Int) : Prop := ∀ i : Nat, i < ns.length → 0 ≤ ns.getD i 0 ∧ ns.getD i 0 < 12
noncomputable def SortedG (G : Int → Int) (ns : List Int) : Prop := ∀ i j : Nat, i ≤ j → j < ns.length → G (ns.getD i 0) ≤ G (ns.getD j 0)
/-- what bisect_left tells by a key -/
noncomputable def BisLK (G : Int → Int) (ns : List Int) (x r : Int) : Prop := 0 ≤ r ∧ r ≤ ns.length ∧ (∀ i : Nat, (i : Int) < r → G (ns.getD i 0) < x) ∧ ∀ i : Nat, r ≤ i → i < ns.length → x ≤ G (ns.getD i 0)
section
set_option maxRecDepth 100000 in
set_option maxHeartbeats 3000000 in
theorem bislK_cl (w : World) (l q : Addr) (vs : List Value) (ns : List Int) (G : Int → Int) (e : Nat) (x : Int) (tx t0 : Tok) (rest : List (Addr × Obj)) (hd0 : hd.heap_39 w.params = hd.heap_39 w.params) (hi : IntsAre vs ns) (hlen : ns.length ≤ 100) (hs : SortedG G ns) (hn : In12 ns) (hq : KeyOK w q ((l, listOf vs.toArray e) :: rest) G) (hF : KeyF q ((l, listOf vs.toArray e) :: rest)) :
   ClK 2 w (hd.heap_39 w.params) topProg 50 ((l, listOf vs.toArray e) :: rest) [.ref l, .int x tx, .int 0 t0, .none] [(Str.ofString "key", .ref q)] (fun r news' => news' = (l, listOf vs.toArray e) :: rest ∧ ∃ k t, r = .int k t ∧ BisLK G ns x k) := by
  w_top off
  k_with_none
  k_with "st8" => (repeat' (first | (k_unfold; (try dsimp only)) | (k_end; wrow_close) | ((with_reducible show wpAny _ _ (PySem.exec _ _) _ _ _); k_fold; walk1) | walk1 | (dsimp only; walk1) | (leave1; walk_say "STEP leave1"; try dsimp only) | fail "no step"))
  k_with "all8" => (assumption)
  k_with "exec While Compare cons nil" => (rename HoldMark 4 => hmk; refine' hold_it ?_)
  k_with "LEq" => (dsimp only [LEq]; (try k_unfold); (try dsimp only))
  k_with "LEf" => (refine ⟨rfl, ?_⟩)
  k_with "le4" => ((rename News _ _ _ _ => nE'q9); (rename Fr _ _ _ _ => fE'q9); (refine' LE.intro ((_, _), (_, _)) fE'q9 nE'q9 ?k1z41 ?k2z41 ?k3z41 ?_); (case k1z41 => kst_in); (case k2z41 => (intro pq9 hpq9; cases hpq9)); (case k3z41 => kst_all))
  k_with "enter_kw" => (refine' code_def ?k1z42 ?k2z42 ?k3z42 ?k4z42 ?k5z42 ?kAz42 ?kFz42 ?kKz42 ?k6z42 ?k7z42 ?k8z42 ?k9z42 ?kBz42 ?_ ?c2z42 ?c3z42 ?c4z42 ?c5z42; (case kAz42 => exact rfl); (case kFz42 => exact rfl); (case kKz42 => assumption); (case k1z42 => k_asm); (case k2z42 => k_asm); (case k3z42 => k_asm); (case k4z42 => k_asm); (case k5z42 => k_asm); (case k6z42 => k_is); (case k7z42 => k_is); (case k8z42 => ktr_room); (case k9z42 => (refine' kp_binds ?kxz42 ?kez42; (case kxz42 => k_in); (case kez42 => exact fun _ => rfl))); (case c5z42 => decide); (case kBz42 => exact locs rfl); (case c2z42 => exact rfl); (case c3z42 => exact rfl); (case c4z42 => exact rfl); k_whole; intro g'q9 L'q9 h'q9 FG'q9 F'q9 N'q9 B'q9 X'q9 T'q9; (try dsimp only); (try k_lift B'q9); (try k_fold))
  k_with "callWith ref" => (k_here; (with_reducible show wpAny _ _ (callWith _ (Value.ref _) _ (backTo _ (starEach (_ :: _) _)) []) _ _ _); (rename KeyF _ _ => hF9q9); k_dflt (refine' callWith_F ?k1z43 ?_; (case k1z43 => exact keyF_at (by k_asm) hF9q9)))
  k_with "And" => ((with_reducible show FnAt _ _ ∧ _); refine ⟨keyF_at (by k_asm) (by assumption), ?_⟩)
  k_with "call ref" => (k_here; (with_reducible show wpAny _ _ (call (Value.ref _) [Value.int _ _]) _ _ _); (rename KeyOK _ _ _ _ => hK9q9); k_dflt (refine' Cl.use ?k1z45 ?k2z45 ?k3z45 ?k4z45 ?k5z45 (hK9q9 _ _ ?kaz45) ?k6z45 ?k7z45 ?k8z45 ?_; (case k1z45 => k_asm); (case k2z45 => k_asm); (case k3z45 => k_asm); (case k4z45 => k_asm); (case k5z45 => k_asm); (case kaz45 => first | assumption | ((rename In12 _ => hI9q9); exact hI9q9 _ (by omega))); (case k6z45 => first | exact rfl | assumption); (case k7z45 => ktr_room); (case k8z45 => ktr_units)); intro r9q9 n9q9 h9q9 tk9q9 F9q9 N9q9 hP9q9; (obtain ⟨hn9q9, t9q9, hr9q9⟩ := hP9q9; subst hn9q9 hr9q9); (try dsimp only); (try k_fold))
  unfold ClK
  k_fill
  clear hd0
  intro mean mg mb dp un gd cn cs ad ccd cl outer A₀ base h₀ L m s Q E B F X N T hk hdp hu hret
  have hmk : HoldMark 4 := trivial
  refine wpAny_call ?_
  k_dflt (walk_at "enter_kw")
  k_steps
  refine Hold.intro ?_
  (rename Fr _ _ _ _ => lF'); (rename News _ _ _ _ => lN')
  refine whileG (σ := (Int × Tok) × (Int × Tok)) (fun _ => (l, listOf vs.toArray e) :: rest) (fun c => [(Str.ofString "lo", .int c.1.1 c.1.2), (Str.ofString "hi", .int c.2.1 c.2.2), (Str.ofString "a", .ref l), (Str.ofString "x", .int x tx), (Str.ofString "key", .ref q)]) [Str.ofString "mid"]
    (fun c => 0 ≤ c.1.1 ∧ c.1.1 ≤ c.2.1 ∧ c.2.1 ≤ ns.length ∧ (∀ i : Nat, (i : Int) < c.1.1 → G (ns.getD i 0) < x) ∧ ∀ i : Nat, c.2.1 ≤ i → i < ns.length → x ≤ G (ns.getD i 0))
    (fun c => BisLK G ns x c.1.1) (fun c => (c.2.1 - c.1.1).toNat) ((0, _), ((ns.length : Int), _)) lF' lN' (by kst_all) ?_ ?_ ?_
  · exact ⟨Int.le_refl _, by simp, Int.le_refl _, fun i hlt => absurd hlt (by simp), fun i h1 h2 => absurd h1 (by simp; omega)⟩
  · refine elim4 fun lo tlo hi9 thi u9 h9 tk9 hI9 F9 N9 => ?_
    clear lF' lN'
    have b0 := hI9.1
    have b1 := hI9.2.1
    have b2 := hI9.2.2.1
    have b3 := hI9.2.2.2.1
    have b4 := hI9.2.2.2.2
    clear hI9
    dsimp only at b0 b1 b2 b3 b4 F9 N9 ⊢
    have hm : (lo + hi9).fdiv 2 = (lo + hi9) / 2 := Int.fdiv_eq_ediv_of_nonneg _ (by decide)
    k_steps
    · walk_at "le4"
      rename G (ns.getD _ _) < x => hlt
      rename lo < hi9 => hlh
      refine ⟨⟨Int.le_of_lt (Int.lt_add_one_of_le (Int.le_trans b0 (mid_lo hlh))), Int.add_one_le_of_lt (mid_hi hlh), b2, fun i h1 => ?_, b4⟩, mid_b (mid_lo hlh) (mid_hi hlh)⟩
      dsimp only at h1
      exact Int.lt_of_le_of_lt (hs i _ (mid_1 (Int.le_trans b0 (mid_lo hlh)) h1) (mid_2 (Int.le_trans b0 (mid_lo hlh)) (mid_hi hlh) b2)) hlt
    · walk_at "le4"
      rename ¬ G (ns.getD _ _) < x => hlt
      rename lo < hi9 => hlh
      refine ⟨⟨b0, mid_lo hlh, Int.le_trans (Int.le_of_lt (mid_hi hlh)) b2, b3, fun i h1 h2 => ?_⟩, mid_a (mid_lo hlh) (mid_hi hlh)⟩
      dsimp only at h1
      exact Int.le_trans (Int.not_lt.mp hlt) (hs _ i (Int.toNat_le.mpr h1) h2)
    · walk_at "le4"
      rename ¬ lo < hi9 => hlh
      exact ⟨b0, Int.le_trans b1 b2, b3, fun i h1 h2 => b4 i (Int.le_trans (Int.not_lt.mp hlh) h1) h2⟩
  · refine elim4 fun lo tlo hi9 thi u9 h9 tk9 hB F9 N9 => ?_
    clear lF' lN'
    dsimp only at hB F9 N9 ⊢
    k_steps
    rename News h₀ L _ _ => nR
    rename Fr h₀ L _ m => fR
    exact hret _ _ _ _ fR nR ⟨rfl, _, _, rfl, hB⟩
end
end
end Mine
end

/- part Ins2 -/
section
open PySem PySem.W PyProof.Rows
namespace Mine
section
section
set_option maxRecDepth 100000 in
set_option maxHeartbeats 3000000 in
theorem inslK_cl (w : World) (l q : Addr) (vs : List Value) (ns : List Int) (G : Int → Int) (e : Nat) (x : Int) (tx : Tok) (rest : List (Addr × Obj)) (hd0 : hd.heap_39 w.params = hd.heap_39 w.params) (hi : IntsAre vs ns) (hlen : ns.length ≤ 100) (hs : SortedG G ns) (hn : In12 ns) (hx : 0 ≤ x ∧ x < 12) (hq : KeyOK w q ((l, listOf vs.toArray e) :: rest) G) (hF : KeyF q ((l, listOf vs.toArray e) :: rest)) (hoff : ∀ p ∈ rest, p.1 ≠ l) :
   ClK 3 w (hd.heap_39 w.params) topProg 41 ((l, listOf vs.toArray e) :: rest) [.ref l, .int x tx] [(Str.ofString "key", .ref q)] (fun r news' => ∃ k vs', r = .none ∧ news' = (l, listOf (List.toArray vs') (e + 1)) :: rest ∧ IntsAre vs' (insI ns k x) ∧ BisLK G ns (G x) k) := by
  w_top off
  k_with_none
  k_with "st8" => (repeat' (first | (k_unfold; (try dsimp only)) | (k_end; wrow_close) | ((with_reducible show wpAny _ _ (PySem.exec _ _) _ _ _); k_fold; walk1) | walk1 | (dsimp only; walk1) | (leave1; walk_say "STEP leave1"; try dsimp only) | fail "no step"))
  k_with "all8" => (assumption)
  k_with "LEq" => (dsimp only [LEq]; (try k_unfold); (try dsimp only))
  k_with "LEf" => (refine ⟨rfl, ?_⟩)
  k_with "le4" => ((rename News _ _ _ _ => nE'q9); (rename Fr _ _ _ _ => fE'q9); (refine' LE.intro ((_, _), (_, _)) fE'q9 nE'q9 ?k1z49 ?k2z49 ?k3z49 ?_); (case k1z49 => kst_in); (case k2z49 => (intro pq9 hpq9; cases hpq9)); (case k3z49 => kst_all))
  k_with "enter_kw" => (refine' code_def ?k1z50 ?k2z50 ?k3z50 ?k4z50 ?k5z50 ?kAz50 ?kFz50 ?kKz50 ?k6z50 ?k7z50 ?k8z50 ?k9z50 ?kBz50 ?_ ?c2z50 ?c3z50 ?c4z50 ?c5z50; (case kAz50 => exact rfl); (case kFz50 => exact rfl); (case kKz50 => assumption); (case k1z50 => k_asm); (case k2z50 => k_asm); (case k3z50 => k_asm); (case k4z50 => k_asm); (case k5z50 => k_asm); (case k6z50 => k_is); (case k7z50 => k_is); (case k8z50 => ktr_room); (case k9z50 => (refine' kp_binds ?kxz50 ?kez50; (case kxz50 => k_in); (case kez50 => exact fun _ => rfl))); (case c5z50 => decide); (case kBz50 => exact locs rfl); (case c2z50 => exact rfl); (case c3z50 => exact rfl); (case c4z50 => exact rfl); k_whole; intro g'q9 L'q9 h'q9 FG'q9 F'q9 N'q9 B'q9 X'q9 T'q9; (try dsimp only); (try k_lift B'q9); (try k_fold))
  k_with "callWith ref" => (k_here; (with_reducible show wpAny _ _ (callWith _ (Value.ref _) _ (backTo _ (starEach (_ :: _) _)) []) _ _ _); (rename KeyF _ _ => hF9q9); k_dflt (refine' callWith_F ?k1z51 ?_; (case k1z51 => exact keyF_at (by k_asm) hF9q9)))
  k_with "And" => ((with_reducible show FnAt _ _ ∧ _); refine ⟨keyF_at (by k_asm) (by assumption), ?_⟩)
  k_with "call ref" => (k_here; (with_reducible show wpAny _ _ (call (Value.ref _) [Value.int _ _]) _ _ _); (rename KeyOK _ _ _ _ => hK9q9); k_dflt (refine' Cl.use ?k1z53 ?k2z53 ?k3z53 ?k4z53 ?k5z53 (hK9q9 _ _ ?kaz53) ?k6z53 ?k7z53 ?k8z53 ?_; (case k1z53 => k_asm); (case k2z53 => k_asm); (case k3z53 => k_asm); (case k4z53 => k_asm); (case k5z53 => k_asm); (case kaz53 => first | assumption | ((rename In12 _ => hI9q9); exact hI9q9 _ (by omega))); (case k6z53 => first | exact rfl | assumption); (case k7z53 => ktr_room); (case k8z53 => ktr_units)); intro r9q9 n9q9 h9q9 tk9q9 F9q9 N9q9 hP9q9; (obtain ⟨hn9q9, t9q9, hr9q9⟩ := hP9q9; subst hn9q9 hr9q9); (try dsimp only); (try k_fold))
  k_with "call builtin:list.insert" => (k_here; (with_reducible show wpAny _ _ (call (Value.builtin _) [Value.ref _, Value.int _ _, _]) _ _ _); (rename BisLK _ _ _ _ => hB9q9); (rename IntsAre _ _ => hI8q9); (rename _ ≤ 100 => hl9q9); k_dflt (refine' kl_insert ?Fz54 ?Nz54 ?fz54 ?ez54 ?Uz54 ?zz54 ?_; (case Fz54 => k_asm); (case Nz54 => k_asm); (case ez54 => exact rfl); (case Uz54 => k_upd); (case fz54 => exact fits_of hB9q9.1 (by have q9 := hB9q9.2.1; omega)); (case zz54 => exact size_of hI8q9 hl9q9)); intro h'q9 F'q9 N'q9; (try dsimp only))
  k_with "call ref" => (k_here; (with_reducible show wpAny _ _ (call (Value.ref 50) _ _) _ _ _); k_dflt (refine' ClK.use ?k1z55 ?k2z55 ?k3z55 ?k4z55 ?k5z55 (bislK_cl _ _ _ _ _ _ _ _ _ _ _ rfl ?kaz55 ?kbz55 ?kcz55 ?kdz55 ?kez55 ?kfz55) ?k6z55 ?k7z55 ?k8z55 ?_; (case k1z55 => k_asm); (case k2z55 => k_asm); (case k3z55 => k_asm); (case k4z55 => k_asm); (case k5z55 => k_asm); (case kaz55 => assumption); (case kbz55 => assumption); (case kcz55 => assumption); (case kdz55 => assumption); (case kez55 => assumption); (case kfz55 => assumption); (case k6z55 => first | exact rfl | assumption); (case k7z55 => ktr_room); (case k8z55 => ktr_units)); intro r9q9 n9q9 h9q9 tk9q9 F9q9 N9q9 hP9q9; (obtain ⟨hn9q9, k9q9, t9q9, hr9q9, hB9q9⟩ := hP9q9; subst hn9q9 hr9q9); (try dsimp only); (try k_fold))
  unfold ClK
  k_fill
  clear hd0
  intro mean mg mb dp un gd cn cs ad ccd cl outer A₀ base h₀ L m s Q E B F X N T hk hdp hu hret
  refine wpAny_call ?_
  k_dflt (walk_at "enter_kw")
  k_steps
  rename News h₀ L _ _ => nR
  rename Fr h₀ L _ m => fR
  rename BisLK _ _ _ _ => hB
  exact hret _ _ _ _ fR nR ⟨_, _, rfl, rfl, ints_ins (by assumption) hB.1 hB.2.1, hB⟩
end
end
end Mine
end

/- part Lam1 -/
section
open PySem PySem.W PyProof.Rows PySem.Spec PySem.Calls PyProof.V
namespace Mine
section
theorem ClK.useC {k : Nat} {w : World} {K : Frag} {p : Program} {f : Addr} {news : List (Addr × Obj)} {vs : List Value} {kws : List (PySem.Str × Value)} {Post : Value → List (Addr × Obj) → Prop}
    {mean : ExcName → Option Value} {mg mb : PySem.Str → Option Value} {cn : PySem.Str} {cs : Scope} {a : Addr} {ccd : Value} {h₀ : Heap} {L : Addr} {m : PySem.Str → Option Value} {s : Shared} {Q E : Value → Shared → Prop}
    (B : Below callerA h₀ [] h₀) (F : Fr h₀ L s.heap m) (X : K.In h₀) (N : News h₀ L s.heap news) (T : Top p LS mean mg mb h₀) (C : ClK k w K p f news vs kws Post) (hk : cs.kind = .function) (hk4 : k ≤ 4)
    (ret : ∀ r news' h' tk', Fr h₀ L h' m → News h₀ L h' news' → Post r news' → Q r { s with heap := h', toks := tk' }) :
    wpAny (model PySem.Challenge.rw_sr0044_01.row.prog w) (callerA.deeper (envOfC cn cs L a ccd)) (call (.ref f) vs kws) Q E s := by
  have e : callerA.deeper (envOfC cn cs L a ccd) = ktrTop (callerA.deeper (envOfC cn cs L a ccd)).depth (callerA.deeper (envOfC cn cs L a ccd)).units (callerA.deeper (envOfC cn cs L a ccd)).guards cn cs L a ccd (cellsFrom (L + 1) cs.names []) [] := rfl
  rw [e]
  refine C _ _ _ _ _ _ _ _ _ _ _ _ callerA h₀ h₀ L m s Q E B F X N T hk ?_ ?_ ret
  · ktr_room
  · ktr_units
section
set_option maxRecDepth 100000 in
set_option maxHeartbeats 3000000 in
theorem lam_key (w : World) {all : List (Addr × Obj)} {f c' cell pr : Addr} {oc oP : Obj} {vsc : Array Value} {t : Tok} {qual : PySem.Str} {pm ctv : Value} {p1 p2 p3 p4 : Pos} {e : Nat} {pvs : List Value} {pns : List Int} (hd0 : hd.heap_39 w.params = hd.heap_39 w.params)
    (hm : (f, kla_obj (Str.ofString "<lambda>") qual { posonlyargs := [], args := [{ arg := Str.ofString "one", annotation := none, pos := p1 }], vararg := none, kwonlyargs := [], kw_defaults := [], kwarg := none, defaults := [] } ((PySem.Expr.Name (Str.ofString "price") p2).Subscript (PySem.Expr.Name (Str.ofString "one") p3) p4) { kind := ScopeKind.function, names := [(Str.ofString "one", NameKind.local), (Str.ofString "price", NameKind.free)], isGenerator := false, isCoroutine := false } [(Str.ofString "price", cell)] pm c' ctv) ∈ all)
    (hc : (c', oc) ∈ all) (hdc : oc.data = .fields vsc) (hvc : vsc[1]? = some (.str qual t)) (hcell : (cell, oP) ∈ all) (hP : oP.data = .cell (some (.ref pr))) (hpr : (pr, listOf pvs.toArray e) ∈ all) (hi : IntsAre pvs pns) (hl : pns.length = 12) : KeyOK w f all (fun v => pns.getD v.toNat 0) := by
  w_top off
  k_with_none
  k_with "st8" => (repeat' (first | (k_unfold; (try dsimp only)) | (k_end; wrow_close) | ((with_reducible show wpAny _ _ (PySem.exec _ _) _ _ _); k_fold; walk1) | walk1 | (dsimp only; walk1) | (leave1; walk_say "STEP leave1"; try dsimp only) | fail "no step"))
  k_with "subscriptTail" => (k_here; (with_reducible show wpAny _ _ (subscriptTail _ _ (Value.ref _) (Value.int _ _)) _ _ _); k_dflt (refine' item_anyK ?k1z56 ?k2z56 ?k3z56 ?k4z56 ?k5z56 ?_ ?k6z56; (case k1z56 => exact News.isList (by k_asm) (by assumption)); (case k2z56 => assumption); (case k3z56 => omega); (case k4z56 => omega); (case k5z56 => omega); (case k6z56 => with_unfolding_all rfl); k_whole); intro _)
  k_with "eval Name" => (k_here; k_dflt (refine' nameX_F ?Nz57 ?cz57 ?mz57 ?dz57 ?_ ?az57 ?bz57; (case az57 => rfl); (case bz57 => rfl); (case Nz57 => k_asm); (case cz57 => rfl); (case mz57 => assumption); (case dz57 => assumption); k_whole))
  intro v tv hv2
  obtain ⟨hv0, hv1⟩ := hv2
  unfold Cl
  k_fill
  clear hd0
  intro mean mg mb dp un gd cn cs ad ccd cl outer A₀ base h₀ L m s Q E B F X N T hk hdp hu hret
  refine wpAny_call ?_
  refine' kla_code B F X N T (by exact rfl) (by exact rfl) hk hm (codeRec_news N hc hdc hvc) ?k8 (by exact rfl) (by exact locs rfl) (fun g' L' h' FG' F' N' B' X' T' => ?_) (by exact rfl) (by exact rfl) (by exact rfl) (by decide)
  case k8 => ktr_room
  try dsimp only
  try k_lift B'
  try k_fold
  k_steps
  rename Fr h₀ L _ m => fR
  rename News h₀ L _ _ => nR
  exact hret _ _ _ _ fR nR ⟨rfl, _, rfl⟩
end
end
end Mine
end

/- part Row0 -/
section
open PySem PySem.W PyProof.Rows
namespace Mine
section
noncomputable def Bef (G : Int → Int) (a b : Int) : Prop := G a < G b ∨ (G a = G b ∧ b < a)
/-- the row so far: the ways 0 .. k-1, by price, among equals the later first -/
noncomputable def RowOK (G : Int → Int) (k : Nat) (ns : List Int) : Prop := ns.length = k ∧ (∀ n ∈ ns, 0 ≤ n ∧ n < k) ∧ ns.Nodup ∧ ns.Pairwise (Bef G)
theorem RowOK.nil (G : Int → Int) : RowOK G 0 [] := ⟨rfl, fun _ h => absurd h List.not_mem_nil, List.nodup_nil, List.Pairwise.nil⟩
theorem RowOK.sorted {G : Int → Int} {k : Nat} {ns : List Int} (h : RowOK G k ns) : SortedG G ns := by
  intro i j hij hj
  rcases Nat.lt_or_ge i j with hl | hl
  · have z := List.pairwise_iff_getElem.mp h.2.2.2 i j (by omega) hj hl
    rw [List.getD_eq_getElem?_getD, List.getD_eq_getElem?_getD, List.getElem?_eq_getElem (by omega), List.getElem?_eq_getElem hj]
    rcases z with z | z
    · exact Int.le_of_lt z
    · exact Int.le_of_eq z.1
  · obtain rfl : i = j := by omega
    exact Int.le_refl _
theorem RowOK.in12 {G : Int → Int} {k : Nat} {ns : List Int} (h : RowOK G k ns) (hk : k ≤ 12) : In12 ns := by
  intro i hi
  rw [List.getD_eq_getElem?_getD, List.getElem?_eq_getElem hi]
  have z := h.2.1 _ (List.getElem_mem hi)
  exact ⟨z.1, by show ns[i] < 12; omega⟩
theorem RowOK.step {G : Int → Int} {k : Nat} {ns : List Int} {r : Int} (h : RowOK G k ns) (hb : BisLK G ns (G k) r) : RowOK G (k + 1) (insI ns r k) := by
  obtain ⟨h1, h2, h3, h4⟩ := h
  obtain ⟨b0, b1, b2, b3⟩ := hb
  have hp := insI_perm ns r (k : Int)
  refine ⟨by rw [insI_len ns _ b0 b1, h1], fun n hn => ?_, ?_, ?_⟩
  · rcases mem_insI hn with rfl | hn
    · exact ⟨Int.natCast_nonneg _, by omega⟩
    · have z := h2 n hn
      exact ⟨z.1, by omega⟩
  · refine hp.nodup_iff.mpr (List.nodup_cons.mpr ⟨fun hm => ?_, h3⟩)
    have z := h2 _ hm
    omega
  · unfold insI
    have e : ns = ns.take r.toNat ++ ns.drop r.toNat := (List.take_append_drop _ _).symm
    have h5 := h4
    rw [e, List.pairwise_append] at h5
    have lt : ∀ a ∈ ns.take r.toNat, G a < G k := by
      intro a ha
      obtain ⟨i, hi, rfl⟩ := List.getElem_of_mem ha
      rw [List.length_take] at hi
      have z := b2 i (by omega)
      rw [List.getD_eq_getElem?_getD, List.getElem?_eq_getElem (by omega)] at z
      rw [List.getElem_take]
      exact z
    have gt : ∀ a ∈ ns.drop r.toNat, Bef G k a := by
      intro a ha
      have hk := (h2 a (List.mem_of_mem_drop ha)).2
      obtain ⟨i, hi, rfl⟩ := List.getElem_of_mem ha
      rw [List.length_drop] at hi
      have z := b3 (r.toNat + i) (by omega) (by omega)
      rw [List.getD_eq_getElem?_getD, List.getElem?_eq_getElem (by omega)] at z
      rw [List.getElem_drop] at hk ⊢
      rcases Int.lt_or_eq_of_le z with y | y
      · exact .inl y
      · exact .inr ⟨y, hk⟩
    rw [List.pairwise_append]
    refine ⟨h5.1, List.pairwise_cons.mpr ⟨gt, h5.2.1⟩, fun a ha b hb => ?_⟩
    rcases List.mem_cons.mp hb with rfl | hb
    · exact .inl (lt a ha)
    · exact h5.2.2 a ha b hb
/-- the lambda's code is on the ledger, and the table tells of it -/
noncomputable def LamAt (rw9 : Addr) (TT : List (Addr × Obj)) (tab : Array Value) (codes : List (Addr × Obj)) : Prop :=
  ∃ (c1 : Addr) (oc1 : Obj) (vc1 : Array Value) (t1 : Tok), tab = #[rawInt 157, rawInt 32, .ref c1] ∧ codes = [(c1, oc1)] ∧ oc1.data = .fields vc1 ∧ vc1[1]? = some (.str (Str.ofString "law.<locals>." ++ Str.ofString "<lambda>") t1) ∧ @LT.lt Nat _ rw9 c1
end
end Mine
end

/- part Stab -/
section
set_option autoImplicit false
open PySem PyProof.Rows
namespace Mine
section
/-- the item's own number -/
noncomputable def jOf : Option Keyed → Int
  | some p => numOf p.2
  | none => 0
noncomputable def J (xs : Array Keyed) (i : Nat) : Int := jOf xs[i]?
/-- key first, among equals the greater item first, as one number -/
noncomputable def CC (xs : Array Keyed) (i : Nat) : Int := K xs i * 100 - J xs i
noncomputable def SortedC (xs : Array Keyed) (k : Nat) : Prop := ∀ i j, i < j → j < k → CC xs i < CC xs j
noncomputable def DecC (xs : Array Keyed) (k : Nat) : Prop := ∀ i j, i < j → j < k → CC xs j < CC xs i
/-- from x on untouched: each less than all ahead of it -/
noncomputable def OffJ (xs : Array Keyed) (x : Nat) : Prop := ∀ i j, i < j → x ≤ j → j < xs.size → J xs j < J xs i
noncomputable def JB (xs : Array Keyed) : Prop := ∀ p ∈ xs.toList, 0 ≤ numOf p.2 ∧ numOf p.2 < 100
theorem J_congr {xs ys : Array Keyed} {i j : Nat} (h : xs[i]? = ys[j]?) : J xs i = J ys j := by unfold J; rw [h]
theorem CC_congr {xs ys : Array Keyed} {i j : Nat} (h : xs[i]? = ys[j]?) : CC xs i = CC ys j := by unfold CC; rw [K_congr h, J_congr h]
theorem JB.at {xs a₀ : Array Keyed} (h : JB a₀) (hp : xs.Perm a₀) {i : Nat} (hi : i < xs.size) : 0 ≤ J xs i ∧ J xs i < 100 := by
  have hm : xs[i] ∈ a₀.toList := (Array.perm_iff_toList_perm.mp hp).mem_iff.mp (by simp)
  unfold J
  rw [getElem?_pos xs i hi]
  exact h _ hm
theorem J_bubble {xs : Array Keyed} {src d : Nat} (hs : src < xs.size) (hd : d ≤ src) (k : Nat) :
    ∃ k', J (bubble xs src d) k = J xs k' ∧ CC (bubble xs src d) k = CC xs k' ∧ (k' = if k = src - d then src else if src - d < k ∧ k ≤ src then k - 1 else k) := by
  have e := getElem?_bubble hs d hd k
  by_cases h1 : k = src - d
  · rw [if_pos h1] at e; exact ⟨_, J_congr e, CC_congr e, by rw [if_pos h1]⟩
  · rw [if_neg h1] at e
    by_cases h2 : src - d < k ∧ k ≤ src
    · rw [if_pos h2] at e; exact ⟨_, J_congr e, CC_congr e, by rw [if_neg h1, if_pos h2]⟩
    · rw [if_neg h2] at e; exact ⟨_, J_congr e, CC_congr e, by rw [if_neg h1, if_neg h2]⟩
theorem J_mirror {xs : Array Keyed} {i j : Nat} (hj : j ≤ xs.size) (k : Nat) :
    ∃ k', J (mirror xs i j ((j - i) / 2)) k = J xs k' ∧ CC (mirror xs i j ((j - i) / 2)) k = CC xs k' ∧ K (mirror xs i j ((j - i) / 2)) k = K xs k' ∧ (k' = if i ≤ k ∧ k < j then i + j - 1 - k else k) := by
  have e := getElem?_mirror_all (i := i) hj k
  by_cases h1 : i ≤ k ∧ k < j
  · rw [if_pos h1] at e; exact ⟨_, J_congr e, CC_congr e, K_congr e, by rw [if_pos h1]⟩
  · rw [if_neg h1] at e; exact ⟨_, J_congr e, CC_congr e, K_congr e, by rw [if_neg h1]⟩
theorem OffJ.mirror {xs : Array Keyed} {i j x : Nat} (h : OffJ xs x) (hj : j ≤ x) (hx : x ≤ xs.size) : OffJ (mirror xs i j ((j - i) / 2)) x := by
  intro a b hab hxb hb
  rw [mirror_size] at hb
  obtain ⟨a', ea, _, _, ha⟩ := J_mirror (i := i) (Nat.le_trans hj hx) a
  obtain ⟨b', eb, _, _, hb'⟩ := J_mirror (i := i) (Nat.le_trans hj hx) b
  rw [ea, eb]
  rw [if_neg (by omega)] at hb'
  subst hb'
  refine h a' b' ?_ hxb hb
  rw [ha]; split <;> omega
theorem half_lt {l r : Nat} (h : l < r) : (l + r) / 2 < r := Nat.div_lt_of_lt_mul (by rw [Nat.two_mul]; exact Nat.add_lt_add_right h r)
theorem half_le {l r : Nat} (h : l < r) : l ≤ (l + r) / 2 := (Nat.le_div_iff_mul_le (by decide)).mpr (by rw [Nat.mul_two]; exact Nat.add_le_add_left (Nat.le_of_lt h) l)
theorem mir_lt {c x i j : Nat} (hij : i < j) (hj : j < x) : c + x - 1 - j < c + x - 1 - i :=
  Nat.sub_lt_sub_left (Nat.lt_of_lt_of_le hij (Nat.le_trans (Nat.le_sub_one_of_lt hj) (Nat.sub_le_sub_right (Nat.le_add_left x c) 1))) hij
theorem mir_lo {c x j : Nat} (hj : j < x) : c ≤ c + x - 1 - j := by
  rw [Nat.sub_sub]
  exact Nat.le_sub_of_add_le (Nat.add_le_add_left (by rw [Nat.add_comm]; exact hj) c)
theorem mir_hi {c x j : Nat} (hc : c ≤ j) (hj : j < x) : c + x - 1 - j < x := by
  rw [Nat.sub_sub]
  exact Nat.sub_lt_right_of_lt_add (Nat.le_trans (by rw [Nat.add_comm]; exact hj) (Nat.le_add_left x c)) (by omega)
theorem half1 {l r k x : Nat} (h : l < r) (hm : r - l ≤ k - x) : (l + r) / 2 - l ≤ k - (x + 1) := by
  have a : (l + r) / 2 - l ≤ r - 1 - l := Nat.sub_le_sub_right (Nat.le_sub_one_of_lt (half_lt h)) l
  rw [Nat.sub_right_comm] at a
  exact Nat.le_trans a (Nat.le_trans (Nat.sub_le_sub_right hm 1) (Nat.le_of_eq (Nat.sub_sub k x 1)))
theorem half2 {l r k x : Nat} (h : l < r) (hm : r - l ≤ k - x) : r - ((l + r) / 2 + 1) ≤ k - (x + 1) := by
  have a : r - ((l + r) / 2 + 1) ≤ r - (l + 1) := Nat.sub_le_sub_left (Nat.succ_le_succ (half_le h)) r
  rw [Nat.sub_add_eq] at a
  exact Nat.le_trans a (Nat.le_trans (Nat.sub_le_sub_right hm 1) (Nat.le_of_eq (Nat.sub_sub k x 1)))
section
variable {prog : Program} {w : World} {A : Around} {E : Value → Shared → Prop} {s : Shared} {a₀ : Array Keyed}
theorem wpS_ltC {st : SortSt} {i j : Nat} {Q : Option Bool → SortSt → Prop} (hB : SBase a₀ st) (h0 : IntKeys a₀) (hJ : JB a₀) (hi : i < a₀.size) (hj : j < a₀.size) (hlt : J (arrOf st) i < J (arrOf st) j)
    (h : Q (some (decide (CC (arrOf st) i < CC (arrOf st) j))) st) : wpS (model prog w) A E s (ltAt' i j) Q st := by
  refine wpS_ltK hB h0 hi hj ?_
  have b1 := hJ.at hB.perm (i := i) (by rw [hB.size]; exact hi)
  have b2 := hJ.at hB.perm (i := j) (by rw [hB.size]; exact hj)
  have e : decide (K (arrOf st) i < K (arrOf st) j) = decide (CC (arrOf st) i < CC (arrOf st) j) := by
    unfold CC
    apply decide_eq_decide.mpr
    omega
  rw [e]
  exact h
theorem wpS_binS {st : SortSt} {n ok : Nat} {Q : Bool → SortSt → Prop} (h0 : IntKeys a₀) (hJ : JB a₀) (hn : n ≤ a₀.size) (hok : ok ≤ n) (hok1 : 1 ≤ ok) (hB : SBase a₀ st) (hs : SortedC (arrOf st) ok) (ho : OffJ (arrOf st) ok)
    (h : ∀ st', SBase a₀ st' → SortedC (arrOf st') n → Q true st') : wpS (model prog w) A E s (binarySort' 0 n ok) Q st := by
  rw [binarySort'_eq]
  simp only [Nat.zero_add]
  refine wpS_bind (wpS_mono (wpS_forRange (I := fun k c st' => c = (none, ()) ∧ SBase a₀ st' ∧ SortedC (arrOf st') (min k n) ∧ OffJ (arrOf st') (min k n))
    (Q := fun c st' => c = (none, ()) ∧ SBase a₀ st' ∧ SortedC (arrOf st') n) ?step ?fin ?init) ?post)
  case post =>
    rintro c st' ⟨rfl, hB', hs'⟩
    exact wpS_pure (h st' hB' hs')
  case init =>
    rw [show min (max ok 1) n = ok by omega]
    exact ⟨rfl, hB, hs, ho⟩
  case fin =>
    rintro c st' ⟨hc, hB', hs', _⟩
    refine ⟨hc, hB', ?_⟩
    rwa [show min (max (max ok 1) n) n = n by omega] at hs'
  case step =>
    rintro k c st' hak hkn ⟨rfl, hB', hs', ho'⟩
    rw [show min k n = k by omega] at hs' ho'
    have hk : k < a₀.size := by omega
    have hks : k < (arrOf st').size := by rw [hB'.size]; exact hk
    refine wpS_bind (wpS_mono (wpS_forRange (I := fun x c st'' => st'' = st' ∧ ∃ l r, c = (none, l, r) ∧ l ≤ r ∧ r ≤ k ∧ r - l ≤ k - x ∧
        (∀ i, i < l → CC (arrOf st') i < CC (arrOf st') k) ∧ (∀ i, r ≤ i → i < k → CC (arrOf st') k < CC (arrOf st') i))
      (Q := fun c st'' => st'' = st' ∧ ∃ l r, c = (none, l, r) ∧ l ≤ k ∧
        (∀ i, i < l → CC (arrOf st') i < CC (arrOf st') k) ∧ (∀ i, l ≤ i → i < k → CC (arrOf st') k < CC (arrOf st') i)) ?istep ?ifin ?iinit) ?ipost)
    case iinit => exact ⟨rfl, 0, k, rfl, by omega, by omega, by omega, fun i hi => by omega, fun i h1 h2 => by omega⟩
    case ifin =>
      rintro c st'' ⟨rfl, l, r, rfl, hlr, hrk, hm, hlo, hhi⟩
      have : l = r := by omega
      subst this
      exact ⟨rfl, l, l, rfl, hrk, hlo, hhi⟩
    case istep =>
      rintro x c st'' _ hxk ⟨rfl, l, r, rfl, hlr, hrk, hm, hlo, hhi⟩
      dsimp only
      by_cases hge : l ≥ r
      · rw [if_pos hge]
        have : l = r := by omega
        subst this
        exact wpS_pure ⟨rfl, l, l, rfl, hrk, hlo, hhi⟩
      · rw [if_neg hge]
        have hJk := ho' ((l + r) / 2) k (by omega) (Nat.le_refl _) hks
        refine wpS_bind (wpS_ltC hB' h0 hJ hk (by omega) hJk ?_)
        by_cases hless : CC (arrOf st'') k < CC (arrOf st'') ((l + r) / 2)
        · rw [decide_eq_true hless]
          simp only [if_true]
          refine wpS_pure ⟨rfl, l, (l + r) / 2, rfl, half_le (Nat.lt_of_not_le hge), Nat.le_trans (Nat.le_of_lt (half_lt (Nat.lt_of_not_le hge))) hrk, half1 (Nat.lt_of_not_le hge) hm, hlo, fun i h1 h2 => ?_⟩
          rcases Nat.lt_or_ge ((l + r) / 2) i with hq | hq
          · exact Int.lt_trans hless (hs' _ _ hq h2)
          · have : i = (l + r) / 2 := by omega
            subst this; exact hless
        · rw [decide_eq_false hless]
          simp only [Bool.false_eq_true, if_false]
          have hne : CC (arrOf st'') ((l + r) / 2) < CC (arrOf st'') k := by
            have b1 := hJ.at hB'.perm (i := k) hks
            have b2 := hJ.at hB'.perm (i := (l + r) / 2) (by omega)
            unfold CC at hless ⊢
            omega
          refine wpS_pure ⟨rfl, (l + r) / 2 + 1, r, rfl, half_lt (Nat.lt_of_not_le hge), hrk, half2 (Nat.lt_of_not_le hge) hm, fun i h1 => ?_, hhi⟩
          rcases Nat.lt_or_ge i ((l + r) / 2) with hq | hq
          · exact Int.lt_trans (hs' _ _ hq (by omega)) hne
          · have : i = (l + r) / 2 := by omega
            subst this; exact hne
    case ipost =>
      rintro c st'' ⟨rfl, l, r, rfl, hlk, hlo, hhi⟩
      show wpS _ _ _ _ (do moveDown' k l; pure (ForInStep.yield (none, ()))) _ _
      rw [moveDown'_eq]
      refine wpS_bind (wpS_modify (wpS_pure ⟨rfl, hB'.setArr (bubble_perm _ _ _), ?_, ?_⟩))
      · rw [show min (k + 1) n = k + 1 by omega]
        intro i j hij hj
        show CC (bubble (arrOf st'') k (k - l)) i < CC (bubble (arrOf st'') k (k - l)) j
        obtain ⟨i', _, ei, hi'⟩ := J_bubble (d := k - l) hks (by omega) i
        obtain ⟨j', _, ej, hj'⟩ := J_bubble (d := k - l) hks (by omega) j
        rw [ei, ej]
        rw [Nat.sub_sub_self hlk] at hi' hj'
        have hi2 : (i = l ∧ i' = k) ∨ (l < i ∧ i' = i - 1) ∨ (i < l ∧ i' = i) := by
          rw [hi']; split
          · left; omega
          · split
            · right; left; omega
            · right; right; omega
        have hj2 : (j = l ∧ j' = k) ∨ (l < j ∧ j' = j - 1) ∨ (j < l ∧ j' = j) := by
          rw [hj']; split
          · left; omega
          · split
            · right; left; omega
            · right; right; omega
        clear hi' hj' ei ej
        rcases hi2 with ⟨a, rfl⟩ | ⟨a, rfl⟩ | ⟨a, rfl⟩ <;> rcases hj2 with ⟨b, rfl⟩ | ⟨b, rfl⟩ | ⟨b, rfl⟩
        · omega
        · exact hhi _ (by omega) (by omega)
        · omega
        · omega
        · exact hs' _ _ (by omega) (by omega)
        · omega
        · exact hlo _ (by omega)
        · rcases Nat.lt_or_ge i' (j - 1) with hq | hq
          · exact hs' _ _ hq (by omega)
          · omega
        · exact hs' _ _ (by omega) (by omega)
      · rw [show min (k + 1) n = k + 1 by omega]
        intro i j hij hkj hj
        show J (bubble (arrOf st'') k (k - l)) j < J (bubble (arrOf st'') k (k - l)) i
        have hjs : j < (arrOf st'').size := by
          have z : j < (bubble (arrOf st'') k (k - l)).size := hj
          rwa [bubble_size] at z
        obtain ⟨i', ei, _, hi'⟩ := J_bubble (d := k - l) hks (by omega) i
        obtain ⟨j', ej, _, hj'⟩ := J_bubble (d := k - l) hks (by omega) j
        rw [ei, ej]
        rw [if_neg (by omega), if_neg (by omega)] at hj'
        subst hj'
        refine ho' i' j' ?_ (by omega) hjs
        rw [hi']; split
        · omega
        · split <;> omega
end
end
end Mine
end

/- part Stab2 -/
section
set_option autoImplicit false
open PySem PyProof.Rows
namespace Mine
section
section
variable {prog : Program} {w : World} {A : Around} {E : Value → Shared → Prop} {s : Shared} {a₀ : Array Keyed}
theorem OffJ.succ {xs : Array Keyed} {x : Nat} (h : OffJ xs x) : OffJ xs (x + 1) := fun i j hij hx hj => h i j hij (by omega) hj
theorem OffJ.le {xs : Array Keyed} {x y : Nat} (h : OffJ xs x) (hy : x ≤ y) : OffJ xs y := fun i j hij hx hj => h i j hij (by omega) hj
theorem wpS_ascS {st : SortSt} {a nrem : Nat} {Q : AscSt → SortSt → Prop} (h0 : IntKeys a₀) (hJ : JB a₀) (hn : nrem ≤ a₀.size) (ha : 1 ≤ a) (han : a ≤ nrem) (hB : SBase a₀ st)
    (hs : SortedC (arrOf st) a) (ho : OffJ (arrOf st) a)
    (h : ∀ n, a ≤ n → n ≤ nrem → SortedC (arrOf st) n → OffJ (arrOf st) n → (n = nrem ∨ K (arrOf st) n < K (arrOf st) (n - 1)) → Q (none, n) st) :
    wpS (model prog w) A E s (ascLoop a nrem) Q st := by
  unfold ascLoop
  refine wpS_forRange (I := fun x c st' => st' = st ∧ c = (none, x) ∧ SortedC (arrOf st) x ∧ OffJ (arrOf st) x) ?step ?fin ⟨rfl, rfl, hs, ho⟩
  case fin =>
    rintro c st' ⟨rfl, rfl, hs', ho'⟩
    rw [show max a nrem = nrem by omega] at hs' ho' ⊢
    exact h nrem han (Nat.le_refl _) hs' ho' (.inl rfl)
  case step =>
    rintro x c st' hax hxn ⟨rfl, rfl, hs', ho'⟩
    dsimp only
    have hxs : x < (arrOf st').size := by rw [hB.size]; omega
    refine wpS_bind (wpS_ltK hB h0 (by omega) (by omega) ?_)
    by_cases hless : K (arrOf st') x < K (arrOf st') (x - 1)
    · rw [decide_eq_true hless]
      simp only [if_true]
      exact wpS_pure (h x hax (by omega) hs' ho' (.inr hless))
    · rw [decide_eq_false hless]
      simp only [Bool.false_eq_true, if_false]
      refine wpS_pure ⟨rfl, rfl, fun i j hij hj => ?_, ho'.succ⟩
      by_cases hjx : j < x
      · exact hs' i j hij hjx
      · have hj' : j = x := by omega
        subst hj'
        have hJ1 := ho' (j - 1) j (by omega) (Nat.le_refl _) hxs
        have step : CC (arrOf st') (j - 1) < CC (arrOf st') j := by unfold CC; omega
        rcases Nat.lt_or_ge i (j - 1) with hq | hq
        · exact Int.lt_trans (hs' i (j - 1) hq (by omega)) step
        · have : i = j - 1 := by omega
          subst this; exact step
theorem wpS_tail3S {st : SortSt} {n nrem : Nat} {Q : Option Nat → SortSt → Prop} (h0 : IntKeys a₀) (hJ : JB a₀) (hn : nrem ≤ a₀.size) (h1 : 1 ≤ n) (hnn : n ≤ nrem) (hB : SBase a₀ st)
    (hs : DecC (arrOf st) n) (ho : OffJ (arrOf st) n) (h : ∀ m st', SBase a₀ st' → 1 ≤ m → m ≤ nrem → SortedC (arrOf st') m → OffJ (arrOf st') m → Q (some m) st') :
    wpS (model prog w) A E s (tail3 n nrem) Q st := by
  unfold tail3
  have hsz : n ≤ (arrOf st).size := by rw [hB.size]; omega
  refine wpS_bind (wpS_reverse ?_)
  have hB' : SBase a₀ (setArr st (mirror (arrOf st) 0 n ((n - 0) / 2))) := hB.setArr (mirror_perm _ _ _ _)
  refine wpS_bind (wpS_ascS h0 hJ hn h1 hnn hB' ?_ (ho.mirror (Nat.le_refl _) hsz) fun m hm1 hm2 hsm hom _ => wpS_pure (h m _ hB' (by omega) hm2 hsm hom))
  intro i j hij hj
  show CC (mirror (arrOf st) 0 n ((n - 0) / 2)) i < CC (mirror (arrOf st) 0 n ((n - 0) / 2)) j
  obtain ⟨i', _, ei, _, hi'⟩ := J_mirror (i := 0) hsz i
  obtain ⟨j', _, ej, _, hj'⟩ := J_mirror (i := 0) hsz j
  rw [ei, ej]
  rw [if_pos (by omega)] at hi' hj'
  rw [hi', hj']
  exact hs _ _ (mir_lt hij hj) (mir_hi (Nat.zero_le _) (Nat.lt_trans hij hj))
/-- strictly down but for the last block of equal keys, which stands as it stood -/
noncomputable def DecB (xs : Array Keyed) (x neq : Nat) : Prop := neq + 1 ≤ x ∧ (∀ i j, i < j → j < x → i < x - (neq + 1) → CC xs j < CC xs i) ∧ (∀ i, x - (neq + 1) ≤ i → i < x → K xs i = K xs (x - 1)) ∧ (∀ i j, x - (neq + 1) ≤ i → i < j → j < x → J xs j < J xs i) ∧ ∀ i, i < x - (neq + 1) → K xs (x - 1) < K xs i
theorem DecB.flip {xs : Array Keyed} {x neq : Nat} (h : DecB xs x neq) (hx : x ≤ xs.size) : DecC (mirror xs (x - (neq + 1)) x ((x - (x - (neq + 1))) / 2)) x := by
  obtain ⟨h1, h2, h3, h4, _⟩ := h
  intro i j hij hj
  obtain ⟨i', _, ei, _, hi'⟩ := J_mirror (i := x - (neq + 1)) hx i
  obtain ⟨j', _, ej, _, hj'⟩ := J_mirror (i := x - (neq + 1)) hx j
  rw [ei, ej]
  by_cases a : x - (neq + 1) ≤ i
  · rw [if_pos (by omega)] at hi' hj'
    subst hi' hj'
    have k1 := h3 _ (mir_lo (Nat.lt_trans hij hj)) (mir_hi a (Nat.lt_trans hij hj))
    have k2 := h3 _ (mir_lo hj) (mir_hi (Nat.le_trans a (Nat.le_of_lt hij)) hj)
    have j1 := h4 (x - (neq + 1) + x - 1 - j) (x - (neq + 1) + x - 1 - i) (mir_lo hj) (mir_lt (c := x - (neq + 1)) hij hj) (mir_hi a (Nat.lt_trans hij hj))
    unfold CC
    omega
  · rw [if_neg (by omega)] at hi'
    subst hi'
    refine h2 i' j' ?_ ?_ (by omega)
    · rw [hj']
      split
      · exact Nat.lt_of_lt_of_le (Nat.lt_of_not_le a) (mir_lo hj)
      · exact hij
    · rw [hj']
      split
      · exact mir_hi (by omega) hj
      · exact hj
theorem DecB.dec {xs : Array Keyed} {x : Nat} (h : DecB xs x 0) : DecC xs x := fun i j hij hj => h.2.1 i j hij hj (by omega)
theorem DecC.decB {xs : Array Keyed} {x : Nat} (h : DecC xs x) (hx : 1 ≤ x) (hk : ∀ i, i < x - 1 → K xs (x - 1) < K xs i) : DecB xs x 0 :=
  ⟨by omega, fun i j hij hj _ => h i j hij hj, fun i h1 h2 => by congr 1; omega, fun i j h1 h2 h3 => by omega, fun i hi => hk i (by omega)⟩
theorem OffJ.flip {xs : Array Keyed} {x neq : Nat} (h : OffJ xs x) (hx : x ≤ xs.size) : OffJ (PyProof.Rows.mirror xs (x - (neq + 1)) x ((x - (x - (neq + 1))) / 2)) x := h.mirror (Nat.le_refl _) hx
theorem K_flip {xs : Array Keyed} {x neq : Nat} (h : DecB xs x neq) (hx : x ≤ xs.size) (k : Nat) : K (mirror xs (x - (neq + 1)) x ((x - (x - (neq + 1))) / 2)) k = K xs k := K_mirror_equal hx h.2.2.1 k
theorem wpS_descS {st : SortSt} {n nrem : Nat} {Q : DescSt → SortSt → Prop} (h0 : IntKeys a₀) (hJ : JB a₀) (hn : nrem ≤ a₀.size) (h1 : 1 ≤ n) (hnn : n ≤ nrem) (hB : SBase a₀ st)
    (hs : DecC (arrOf st) n) (hk : ∀ i, i < n - 1 → K (arrOf st) (n - 1) < K (arrOf st) i) (ho : OffJ (arrOf st) n)
    (h : ∀ m neq st', SBase a₀ st' → n ≤ m → m ≤ nrem → DecB (arrOf st') m neq → OffJ (arrOf st') m → Q (none, m, neq) st') :
    wpS (model prog w) A E s (descLoop n nrem) Q st := by
  unfold descLoop
  refine wpS_forRange (I := fun x c st' => ∃ neq, c = (none, x, neq) ∧ SBase a₀ st' ∧ DecB (arrOf st') x neq ∧ OffJ (arrOf st') x) ?step ?fin ⟨0, rfl, hB, hs.decB h1 hk, ho⟩
  case fin =>
    rintro c st' ⟨neq, rfl, hB', hs', ho'⟩
    rw [show max n nrem = nrem by omega] at hs' ho' ⊢
    exact h nrem neq st' hB' hnn (Nat.le_refl _) hs' ho'
  case step =>
    rintro x c st' hax hxn ⟨neq, rfl, hB', hs', ho'⟩
    dsimp only
    have hsz : x ≤ (arrOf st').size := by rw [hB'.size]; omega
    have hxs : x < (arrOf st').size := by rw [hB'.size]; omega
    refine wpS_bind (wpS_ltK hB' h0 (by omega) (by omega) ?_)
    by_cases hless : K (arrOf st') x < K (arrOf st') (x - 1)
    · rw [decide_eq_true hless]
      simp only [if_true]
      have step1 : ∀ xs : Array Keyed, xs.size = (arrOf st').size → DecC xs x → (∀ k, K xs k = K (arrOf st') k) → (∀ i, i < xs.size → 0 ≤ J xs i ∧ J xs i < 100) → DecB xs (x + 1) 0 := by
        intro xs hz hd hk hb
        refine DecC.decB (fun i j hij hj => ?dd) (by omega) (fun i hi => ?kk)
        case kk =>
          rw [show x + 1 - 1 = x by omega, hk, hk]
          obtain ⟨g1, _, g3, _, g5⟩ := hs'
          rcases Nat.lt_or_ge i (x - (neq + 1)) with hq | hq
          · exact Int.lt_trans hless (g5 i hq)
          · rw [g3 i hq (by omega)]; exact hless
        by_cases hjx : j < x
        · exact hd i j hij hjx
        · have hj' : j = x := by omega
          subst hj'
          have b1 := hb j (by omega)
          have b2 := hb (j - 1) (by omega)
          have st1 : CC xs j < CC xs (j - 1) := by
            unfold CC
            rw [hk, hk]
            omega
          rcases Nat.lt_or_ge i (j - 1) with hq | hq
          · exact Int.lt_trans st1 (hd i (j - 1) hq (by omega))
          · have : i = j - 1 := by omega
            subst this; exact st1
      by_cases hneq : neq > 0
      · rw [if_pos hneq]
        have hB2 : SBase a₀ (setArr st' (mirror (arrOf st') (x - (neq + 1)) x ((x - (x - (neq + 1))) / 2))) := hB'.setArr (mirror_perm _ _ _ _)
        refine wpS_bind (wpS_reverse (wpS_pure ⟨0, rfl, hB2, step1 _ (mirror_size _ _ _ _) (hs'.flip hsz) (K_flip hs' hsz) (fun i hi => hJ.at hB2.perm hi), (ho'.flip hsz).succ⟩))
      · rw [if_neg hneq]
        obtain rfl : neq = 0 := by omega
        exact wpS_pure ⟨0, rfl, hB', step1 _ rfl hs'.dec (fun _ => rfl) (fun i hi => hJ.at hB'.perm hi), ho'.succ⟩
    · rw [decide_eq_false hless]
      simp only [Bool.false_eq_true, if_false]
      refine wpS_bind (wpS_ltK hB' h0 (by omega) (by omega) ?_)
      by_cases hlarger : K (arrOf st') (x - 1) < K (arrOf st') x
      · rw [decide_eq_true hlarger]
        simp only [if_true]
        exact wpS_pure (h x neq st' hB' hax (by omega) hs' ho')
      · rw [decide_eq_false hlarger]
        simp only [Bool.false_eq_true, if_false]
        have heqx : K (arrOf st') x = K (arrOf st') (x - 1) := by omega
        obtain ⟨g1, g2, g3, g4, g5⟩ := hs'
        refine wpS_pure ⟨neq + 1, rfl, hB', ⟨by omega, fun i j hij hj hi => ?_, fun i q1 q2 => ?_, fun i j q1 q2 q3 => ?_, fun i hi => ?_⟩, ho'.succ⟩
        · by_cases hjx : j < x
          · exact g2 i j hij hjx (by omega)
          · have hj' : j = x := by omega
            subst hj'
            have b1 := hJ.at hB'.perm (i := j) hxs
            have b2 := hJ.at hB'.perm (i := j - 1) (by omega)
            have b3 := hJ.at hB'.perm (i := i) (by omega)
            have d3 := g5 i (by omega)
            unfold CC
            omega
        · rw [show x + 1 - 1 = x by omega]
          by_cases hix : i = x
          · subst hix; rfl
          · rw [heqx]; exact g3 i (by omega) (by omega)
        · by_cases hjx : j < x
          · exact g4 i j (by omega) q2 hjx
          · have hj' : j = x := by omega
            subst hj'
            exact ho' i j q2 (Nat.le_refl _) hxs
        · rw [show x + 1 - 1 = x by omega, heqx]
          exact g5 i (by omega)
theorem wpS_descPartS {st : SortSt} {n nrem : Nat} {Q : Option Nat → SortSt → Prop} (h0 : IntKeys a₀) (hJ : JB a₀) (hn : nrem ≤ a₀.size) (hnn : n + 1 ≤ nrem) (hB : SBase a₀ st)
    (hs : DecC (arrOf st) (n + 1)) (hk : ∀ i, i < n → K (arrOf st) n < K (arrOf st) i) (ho : OffJ (arrOf st) (n + 1)) (h : ∀ m st', SBase a₀ st' → 1 ≤ m → m ≤ nrem → SortedC (arrOf st') m → OffJ (arrOf st') m → Q (some m) st') :
    wpS (model prog w) A E s (descPart n nrem) Q st := by
  unfold descPart
  refine wpS_bind (wpS_lift (wpAny_rule ⟨rfl, ?_⟩))
  refine wpS_bind (wpS_descS h0 hJ hn (by omega) hnn hB hs hk ho fun m neq st' hB' hm1 hm2 hd ho' => ?_)
  dsimp only
  have hsz : m ≤ (arrOf st').size := by rw [hB'.size]; omega
  by_cases hneq : neq > 0
  · rw [if_pos hneq]
    exact wpS_bind (wpS_reverse (wpS_tail3S h0 hJ hn (by omega) hm2 (hB'.setArr (mirror_perm _ _ _ _)) (hd.flip hsz) (ho'.flip hsz) h))
  · rw [if_neg hneq]
    obtain rfl : neq = 0 := by omega
    exact wpS_tail3S h0 hJ hn (by omega) hm2 hB' hd.dec ho' h
theorem wpS_countRunS {st : SortSt} {nrem : Nat} {Q : Option Nat → SortSt → Prop} (h0 : IntKeys a₀) (hJ : JB a₀) (hn : nrem ≤ a₀.size) (h1 : 1 ≤ nrem) (hB : SBase a₀ st) (ho : OffJ (arrOf st) 1)
    (h : ∀ m st', SBase a₀ st' → 1 ≤ m → m ≤ nrem → SortedC (arrOf st') m → OffJ (arrOf st') m → Q (some m) st') :
    wpS (model prog w) A E s (countRun' 0 nrem) Q st := by
  rw [countRun0_eq]
  refine wpS_bind (wpS_ascS h0 hJ hn (Nat.le_refl 1) h1 hB (fun i j hij hj => by omega) ho fun n hn1 hn2 hsn hon hor => ?_)
  dsimp only
  by_cases hnn : n = nrem
  · rw [if_pos (by simpa using hnn)]
    exact wpS_pure (h n st hB hn1 hn2 hsn hon)
  · rw [if_neg (by simpa using hnn)]
    have hlt : K (arrOf st) n < K (arrOf st) (n - 1) := hor.resolve_left hnn
    have hsz : n < (arrOf st).size := by rw [hB.size]; omega
    have hb : ∀ i, i < (arrOf st).size → 0 ≤ J (arrOf st) i ∧ J (arrOf st) i < 100 := fun i hi => hJ.at hB.perm hi
    by_cases hgt : n > 1
    · rw [if_pos hgt]
      refine wpS_bind (wpS_ltK hB h0 (by omega) (by omega) ?_)
      by_cases hrose : K (arrOf st) 0 < K (arrOf st) (n - 1)
      · rw [decide_eq_true hrose]
        simp only [if_true]
        exact wpS_pure (h n st hB hn1 hn2 hsn hon)
      · rw [decide_eq_false hrose]
        simp only [Bool.false_eq_true, if_false]
        have kle : ∀ i j, i < j → j < n → K (arrOf st) i ≤ K (arrOf st) j := by
          intro i j hij hj
          have c := hsn i j hij hj
          have b1 := hb i (by omega)
          have b2 := hb j (by omega)
          unfold CC at c
          omega
        have hall : ∀ k, 0 ≤ k → k < n → K (arrOf st) k = K (arrOf st) (n - 1) := by
          intro k _ hk
          rcases Nat.lt_or_ge 0 k with a | a
          · rcases Nat.lt_or_ge k (n - 1) with b | b
            · have c1 := kle 0 k a hk
              have c2 := kle k (n - 1) b (by omega)
              omega
            · have : k = n - 1 := by omega
              rw [this]
          · obtain rfl : k = 0 := by omega
            have c2 := kle 0 (n - 1) (by omega) (by omega)
            omega
        have hB2 : SBase a₀ (setArr st (PyProof.Rows.mirror (arrOf st) 0 n ((n - 0) / 2))) := hB.setArr (mirror_perm _ _ _ _)
        have hKm : ∀ k, K (PyProof.Rows.mirror (arrOf st) 0 n ((n - 0) / 2)) k = K (arrOf st) k := K_mirror_equal (Nat.le_of_lt hsz) hall
        have hbm : ∀ i, i < (arrOf st).size → 0 ≤ J (PyProof.Rows.mirror (arrOf st) 0 n ((n - 0) / 2)) i ∧ J (PyProof.Rows.mirror (arrOf st) 0 n ((n - 0) / 2)) i < 100 := fun i hi => hJ.at hB2.perm (by show i < (PyProof.Rows.mirror _ _ _ _).size; rw [mirror_size]; exact hi)
        refine wpS_bind (wpS_reverse (wpS_descPartS h0 hJ hn (by omega) hB2 ?_ ?_ ((hon.mirror (Nat.le_refl _) (Nat.le_of_lt hsz)).succ) h))
        · intro i j hij hj
          show CC (PyProof.Rows.mirror (arrOf st) 0 n ((n - 0) / 2)) j < CC (PyProof.Rows.mirror (arrOf st) 0 n ((n - 0) / 2)) i
          by_cases hjn : j < n
          · obtain ⟨i', _, ei, _, hi'⟩ := J_mirror (i := 0) (Nat.le_of_lt hsz) i
            obtain ⟨j', _, ej, _, hj'⟩ := J_mirror (i := 0) (Nat.le_of_lt hsz) j
            rw [ei, ej]
            rw [if_pos (by omega)] at hi' hj'
            rw [hi', hj']
            exact hsn _ _ (mir_lt hij hjn) (mir_hi (Nat.zero_le _) (Nat.lt_trans hij hjn))
          · have hj' : j = n := by omega
            subst hj'
            have b1 := hbm i (by omega)
            have b2 := hbm j hsz
            unfold CC
            rw [hKm, hKm, hall i (by omega) (by omega)]
            omega
        · intro i hi
          show K (PyProof.Rows.mirror (arrOf st) 0 n ((n - 0) / 2)) n < K (PyProof.Rows.mirror (arrOf st) 0 n ((n - 0) / 2)) i
          rw [hKm, hKm, hall i (by omega) hi]
          exact hlt
    · rw [if_neg hgt]
      have hn1' : n = 1 := by omega
      subst hn1'
      refine wpS_descPartS h0 hJ hn (by omega) hB (fun i j hij hj => ?_) (fun i hi => ?_) hon.succ h
      · obtain rfl : i = 0 := by omega
        obtain rfl : j = 1 := by omega
        have b1 := hb 0 (by omega)
        have b2 := hb 1 hsz
        unfold CC
        rw [show 1 - 1 = 0 from rfl] at hlt
        omega
      · obtain rfl : i = 0 := by omega
        exact hlt
noncomputable def SDoneS (a₀ : Array Keyed) (st : SortSt) : Prop :=
  (arrOf st).Perm a₀ ∧ failedOf st = none ∧ pendingOf st = #[(0, a₀.size, 0)] ∧ SortedC (arrOf st) a₀.size
theorem doneS {st : SortSt} (hB : SBase a₀ st) (hs : SortedC (arrOf st) a₀.size) : SDoneS a₀ (setPending st ((pendingOf st).push (0, a₀.size, 0))) :=
  ⟨hB.perm, hB.failed, by show (pendingOf st).push _ = _; rw [hB.pend]; rfl, hs⟩
theorem wpS_sortRunsS {st : SortSt} {Q : Unit → SortSt → Prop} (h0 : IntKeys a₀) (hJ : JB a₀) (hB : SBase a₀ st) (ho : OffJ (arrOf st) 1) (h2 : 2 ≤ a₀.size) (h64 : a₀.size < 64)
    (h : ∀ st', (arrOf st').Perm a₀ → failedOf st' = none → SortedC (arrOf st') a₀.size → Q () st') : wpS (model prog w) A E s sortRuns' Q st := by
  rw [sortRuns'_eq]
  refine wpS_bind (wpS_get ?_)
  dsimp only
  have hmr : minRun' a₀.size a₀.size 0 = a₀.size := by
    obtain ⟨f, hf⟩ : ∃ f, a₀.size = f + 1 := ⟨a₀.size - 1, by omega⟩
    have q : minRun' (f + 1) a₀.size 0 = a₀.size := by rw [minRun'_succ, if_pos h64]; rfl
    rwa [← hf] at q
  simp only [hB.size, hmr]
  refine wpS_bind (wpS_mono (wpS_forRange
    (I := fun x c st' => (x = 0 ∧ c = (none, 0) ∧ SBase a₀ st' ∧ OffJ (arrOf st') 1) ∨ (1 ≤ x ∧ c = (none, a₀.size) ∧ SDoneS a₀ st'))
    (Q := fun c st' => c = (none, a₀.size) ∧ SDoneS a₀ st') ?step ?fin (.inl ⟨rfl, rfl, hB, ho⟩)) ?post)
  case fin =>
    rintro c st' (⟨hx, _, _⟩ | ⟨_, hc, hD⟩)
    · omega
    · exact ⟨hc, hD⟩
  case step =>
    rintro x c st' _ hx (⟨rfl, rfl, hB', ho'⟩ | ⟨hx1, rfl, hD⟩)
    · dsimp only
      rw [if_neg (by omega)]
      simp only [Nat.sub_zero, Nat.min_self, Nat.zero_add]
      refine wpS_bind (wpS_countRunS h0 hJ (Nat.le_refl _) (by omega) hB' ho' fun m st2 hB2 hm1 hm2 hs2 ho2 => ?_)
      dsimp only
      by_cases hlt : m < a₀.size
      · rw [if_pos hlt]
        refine wpS_bind (wpS_lift (wpAny_rule ⟨rfl, ?_⟩))
        refine wpS_bind (wpS_binS h0 hJ (Nat.le_refl _) hm2 hm1 hB2 hs2 ho2 fun st3 hB3 hs3 => ?_)
        simp only [Bool.not_true, Bool.false_eq_true, if_false]
        refine wpS_bind (wpS_get ?_)
        have hb : (pendingOf st3).back? = none := by rw [hB3.pend]; rfl
        rw [hb]
        dsimp only
        exact wpS_bind (wpS_modify (wpS_pure (.inr ⟨by omega, rfl, doneS hB3 hs3⟩)))
      · rw [if_neg hlt]
        have hm : m = a₀.size := by omega
        subst hm
        refine wpS_bind (wpS_get ?_)
        have hb : (pendingOf st2).back? = none := by rw [hB2.pend]; rfl
        rw [hb]
        dsimp only
        exact wpS_bind (wpS_modify (wpS_pure (.inr ⟨by omega, rfl, doneS hB2 hs2⟩)))
    · dsimp only
      rw [if_pos (Nat.le_refl _)]
      exact wpS_pure ⟨rfl, hD⟩
  case post =>
    rintro c st' ⟨rfl, hD⟩
    dsimp only
    refine wpS_bind (wpS_mono (wpS_forRange (I := fun _ c st'' => st'' = st' ∧ c = (none, ())) (Q := fun c st'' => st'' = st' ∧ c = (none, ())) ?_ (fun _ _ hh => hh) ⟨rfl, rfl⟩) ?_)
    · rintro x c st'' _ _ ⟨rfl, rfl⟩
      refine wpS_bind (wpS_get ?_)
      rw [if_pos (by rw [hD.2.2.1]; exact Nat.le_refl 1)]
      exact wpS_pure ⟨rfl, rfl⟩
    · rintro c st'' ⟨rfl, rfl⟩
      exact wpS_pure (h _ hD.1 hD.2.1 hD.2.2.2)
end
end
end Mine
end

/- part StabK -/
section
set_option autoImplicit false
set_option maxRecDepth 100000
set_option maxHeartbeats 4000000
open PySem PyProof.Rows PySem.Calls
namespace Mine
section
section
variable {prog : Program} {w : World} {A : Around} {E : Value → Shared → Prop} {s : Shared}
theorem iaddR {R : Result → Shared → Prop} {r S : Addr} {a b c : Int} {t u v : Tok} {n : Nat} (hh : A.handled = none) (hr : IsRange s.heap r a b c t u v) (hsmall : Builtin.Range.small a b c = true) (hn : Builtin.Range.rangeSize a b c = n) (hlen : n ≤ 2 ^ 24)
    (hS : s.heap.get? S = some { cls := .type "list", data := .seq #[] 0 })
    (hR : ∀ h' tk acc' c', (∀ b o, b ≠ S → s.heap.get? b = some o → h'.get? b = some o) → h'.get? S = some { cls := .type "list", dict := none, data := .seq acc' c', slots := #[] } →
      ItemsOf (fun i v => ∃ t, v = .int (a + i * c) t) acc' n → R (.ok (.ret (.ref S))) { s with heap := h', toks := tk }) :
    codeAny (model prog w) A (.builtin "list.__iadd__" ⟨[.ref S, .ref r], []⟩) R s := by
  refine codeAny_builtin entry_list_iadd' ?_
  show wpAny _ _ (Builtin.List.listExtendWith (.ref S) (.ref r) (.ref S)) _ _ s
  rw [Around.under_plainId PySem.F.plain_list_iadd]
  exact wpAny_extend_range hh hr hsmall hn hlen S _ 0 hS hR
theorem collectR {Q : List Value → Shared → Prop} {r : Addr} {a b c : Int} {t u v : Tok} {n : Nat} (hh : A.handled = none) (hr : IsRange s.heap r a b c t u v) (hsmall : Builtin.Range.small a b c = true) (hn : Builtin.Range.rangeSize a b c = n) (hlen : n ≤ 2 ^ 24)
    (h : ∀ h' tk (acc : Array Value), (∀ b o, s.heap.get? b = some o → h'.get? b = some o) → ItemsOf (fun i v => ∃ t, v = .int (a + i * c) t) acc n → Q acc.toList { s with heap := h', toks := tk }) :
    wpAny (model prog w) A (collect (.ref r)) Q E s := by
  unfold collect
  refine wpAny_bind (wpAny_runValue (codeAny_builtin entry_proto_collect' ?_))
  show wpAny _ _ (do again (.builtin "list.__iadd__" ⟨[← newList [], .ref r], []⟩)) _ _ s
  refine wpAny_bind (wpAny_newList (wpAny_pure ⟨Code.quiet_builtin _ (by decide +kernel), iaddR (s := { s with heap := s.heap.push (seqObj "list" #[] 0) }) hh (Heap.get?_push_of_some _ hr) hsmall hn hlen (Heap.get?_push_size _ rfl) fun h' tk acc' c' hk hS' hacc => ?_⟩))
  dsimp only
  show wpAny (model prog w) A (do
      let o ← load s.heap.objs.size
      match o.data with
      | .seq xs _ => pure xs.toList
      | _ => unsupported "internal:collect") Q E _
  refine wpAny_bind (wpAny_load hS' ?_)
  exact wpAny_pure (h h' tk acc' (fun b o e => hk b o (Nat.ne_of_lt (Heap.lt_size e)) (Heap.get?_push_of_some _ e)) hacc)
end
/-- what a stable sort by the key hands back -/
noncomputable def OutS (kz : List Int) (vs out : List Value) : Prop :=
  ∃ ps : List (Int × Value), ps.Perm (kz.zip vs) ∧ out = ps.map Prod.snd ∧ ps.Pairwise (fun p q => p.1 * 100 - numOf p.2 < q.1 * 100 - numOf q.2)
noncomputable def DownV (vs : List Value) : Prop := ∀ i j : Nat, i < j → j < vs.length → ∀ x y, vs[i]? = some x → vs[j]? = some y → numOf y < numOf x
noncomputable def BndV (vs : List Value) : Prop := ∀ x ∈ vs, 0 ≤ numOf x ∧ numOf x < 100
theorem outS {keys : Array Value} {vs : List Value} {kz : List Int} (hk : IntsAre keys.toList kz) {xs : Array Keyed} (hp : xs.Perm (keys.zip vs.toArray)) (hs : SortedC xs xs.size) : OutS kz vs (xs.map (·.2)).toList := by
  have hl : xs.toList.Perm (keys.toList.zip vs) := by rw [← ksk_zip]; exact Array.perm_iff_toList_perm.mp hp
  refine ⟨xs.toList.map (fun p : Keyed => (numOf p.1, p.2)), ?_, ?_, ?_⟩
  · have e2 : (keys.toList.zip vs).map (fun p : Keyed => (numOf p.1, p.2)) = kz.zip vs := by
      rw [← hk.nums, List.zip_map_left]
      exact List.map_congr_left fun ⟨x, y⟩ _ => rfl
    rw [← e2]
    exact hl.map _
  · rw [Array.toList_map, List.map_map]; rfl
  · rw [List.pairwise_iff_getElem]
    intro i j hi hj hij
    have hi' : i < xs.size := by simpa using hi
    have hj' : j < xs.size := by simpa using hj
    have q := hs i j hij hj'
    unfold CC J at q
    rw [K_eq hi', K_eq hj', getElem?_pos xs i hi', getElem?_pos xs j hj'] at q
    simpa [jOf] using q
section
variable {prog : Program} {w : World} {A : Around} {E : Value → Shared → Prop} {s : Shared} {h₀ : Heap} {L : Addr} {m : PySem.Str → Option Value} {news : List (Addr × Obj)} {a kS : Addr} {vs : List Value} {kz : List Int} {keys : Array Value} {e e1 : Nat} {P : PySem.Fin → Shared → Prop}
theorem tailS {st : SortSt} (F : Fr h₀ L s.heap m) (N : News h₀ L s.heap (news ++ [(kS, seqObj "list" keys e), (a, seqObj "list" #[] e1)])) (hka : kS ≠ a) (hnk : ∀ p ∈ news, p.1 ≠ kS) (hna : ∀ p ∈ news, p.1 ≠ a)
    (hk : IntsAre keys.toList kz) (hlen : kz.length = vs.length) (h64 : vs.length < 64) (hp : (arrOf st).Perm (keys.zip vs.toArray)) (hs : SortedC (arrOf st) (arrOf st).size) (hfl : failedOf st = none)
    (h : ∀ h' tk out c, Fr h₀ L h' m → News h₀ L h' ((a, seqObj "list" out c) :: news) → OutS kz vs out.toList → P (.done (.ret .none)) { s with heap := h', toks := tk }) :
    wpAny (model prog w) A (ksk_tail a false e1 (.ref kS) st) P E s := by
  have nk := N (kS, seqObj "list" keys e) (List.mem_append_right _ (.head _))
  have na := N (a, seqObj "list" #[] e1) (List.mem_append_right _ (.tail _ (.head _)))
  have Nn : News h₀ L s.heap news := fun p hp => N p (List.mem_append_left _ hp)
  have hsz : keys.size = vs.length := by
    have h1 := hk.length
    rw [Array.length_toList] at h1
    omega
  have hsz2 : (arrOf st).size = vs.length := by rw [hp.size_eq, Array.size_zip, hsz, List.size_toArray, Nat.min_self]
  have hout : ((arrOf st).map (·.2)).size = vs.length := by rw [Array.size_map]; exact hsz2
  have s1 := Heap.SameBut.update s.heap kS (Obj.mapSeq fun _ => (#[] : Array Value))
  have na1 : (s.heap.update kS (Obj.mapSeq fun _ => (#[] : Array Value))).get? a = some (seqObj "list" #[] e1) := (s1.2 a hka.symm).trans na.1
  have s2 := Heap.SameBut.update (s.heap.update kS (Obj.mapSeq fun _ => (#[] : Array Value))) a (Obj.mapSeq fun _ => (arrOf st).map (·.2))
  obtain ⟨c2, hc2⟩ : ∃ c2, ((s.heap.update kS (Obj.mapSeq fun _ => (#[] : Array Value))).update a (Obj.mapSeq fun _ => (arrOf st).map (·.2))).get? a = some (seqObj "list" ((arrOf st).map (·.2)) c2) :=
    ⟨_, get?_update_seq na1 fun _ => (arrOf st).map (·.2)⟩
  have N2 := ksk_news (ksk_news Nn s1 hnk) s2 hna
  unfold ksk_tail
  dsimp only
  refine wpAny_bind (listUpdate_at nk.1 rfl ?_ (by rw [hsz, sizeLine_eq]; omega) (Nat.zero_le _))
  refine wpAny_bind (wpAny_letGo ?_)
  refine wpAny_bind (seqEpoch_at na1 rfl ?_)
  simp only [Bool.false_eq_true, if_false]
  refine wpAny_bind (listUpdate_at na1 rfl ?_ (Nat.zero_le _) (Nat.le_trans (Nat.le_of_eq hout) (by rw [sizeLine_eq]; omega)))
  rw [hfl]
  simp only [bne_self_eq_false, Bool.false_eq_true, if_false]
  refine wpAny_pure (h _ _ _ c2 (ksk_fr (ksk_fr F s1 nk.2.1 nk.2.2) s2 na.2.1 na.2.2) (fun p hp => ?_) (outS hk hp hs))
  rcases List.mem_cons.mp hp with rfl | hp
  · exact ⟨hc2, na.2⟩
  · exact N2 p hp
theorem endS (F : Fr h₀ L s.heap m) (N : News h₀ L s.heap (news ++ [(kS, seqObj "list" keys e), (a, seqObj "list" #[] e1)])) (hka : kS ≠ a) (hnk : ∀ p ∈ news, p.1 ≠ kS) (hna : ∀ p ∈ news, p.1 ≠ a)
    (hk : IntsAre keys.toList kz) (hlen : kz.length = vs.length) (h64 : vs.length < 64) (h2 : 2 ≤ vs.length) (hd : DownV vs) (hb : BndV vs)
    (h : ∀ h' tk out c, Fr h₀ L h' m → News h₀ L h' ((a, seqObj "list" out c) :: news) → OutS kz vs out.toList → P (.done (.ret .none)) { s with heap := h', toks := tk }) :
    wpAny (model prog w) A (ksk_end a false vs.toArray e1 (.ref kS) keys) P E s := by
  have hsz : keys.size = vs.length := by
    have h1 := hk.length
    rw [Array.length_toList] at h1
    omega
  have hzs : (keys.zip vs.toArray).size = vs.length := by rw [Array.size_zip, hsz, List.size_toArray, Nat.min_self]
  have hJv : ∀ i, i < vs.length → ∃ x, vs[i]? = some x ∧ J (keys.zip vs.toArray) i = numOf x := by
    intro i hi
    refine ⟨vs[i], List.getElem?_eq_getElem hi, ?_⟩
    unfold J
    rw [getElem?_pos (keys.zip vs.toArray) i (by rw [hzs]; exact hi)]
    simp [jOf]
  have hJB : JB (keys.zip vs.toArray) := by
    intro p hp
    rw [ksk_zip] at hp
    obtain ⟨x, y⟩ := p
    exact hb _ (List.of_mem_zip hp).2
  have hO : OffJ (keys.zip vs.toArray) 1 := by
    intro i j hij _ hj
    rw [hzs] at hj
    obtain ⟨x, hx, ex⟩ := hJv i (by omega)
    obtain ⟨y, hy, ey⟩ := hJv j hj
    rw [ex, ey]
    exact hd i j hij hj x y hx hy
  unfold ksk_end
  dsimp only
  rw [if_neg (by simp), if_neg (by rw [List.size_toArray]; omega), if_neg (by rw [List.size_toArray]; omega)]
  rw [ksk_kind hk (by rw [hsz]; omega)]
  refine wpAny_bind (wpAny_pure ?_)
  simp only [Bool.false_eq_true, if_false]
  refine wpAny_bind (wpAny_mono (wpS_sortRunsS (a₀ := keys.zip vs.toArray) (st := SortSt.mk' oneType' (keys.zip vs.toArray) #[] 7 none)
    (Q := fun _ st' => (arrOf st').Perm (keys.zip vs.toArray) ∧ failedOf st' = none ∧ SortedC (arrOf st') (keys.zip vs.toArray).size)
    (ksk_intKeys hk) hJB ⟨Array.Perm.refl _, rfl, rfl, rfl⟩ hO (by rw [hzs]; exact h2) (by rw [hzs]; exact h64) fun st' a1 a2 a3 => ⟨a1, a2, a3⟩) ?_ fun _ _ e => e)
  rintro ⟨⟨⟩, st'⟩ s' ⟨rfl, hp, hf, hs⟩
  dsimp only
  exact tailS F N hka hnk hna hk hlen h64 hp (by rw [hp.size_eq]; exact hs) hf h
/-- the keys are asked one after the other, then the sort -/
theorem restS {f : Value} (F : Fr h₀ L s.heap m) (N : News h₀ L s.heap (news ++ [(kS, seqObj "list" #[] 0), (a, seqObj "list" #[] e1)])) (hka : kS ≠ a) (hnk : ∀ p ∈ news, p.1 ≠ kS) (hna : ∀ p ∈ news, p.1 ≠ a)
    (hlen : kz.length = vs.length) (h64 : vs.length < 64) (h2 : 2 ≤ vs.length) (hd : DownV vs) (hb : BndV vs)
    (turn : ∀ (i : Nat) (v : Value) (k : Int), vs[i]? = some v → kz[i]? = some k → ∀ (h : Heap) (tk : Nat) (own : List (Addr × Obj)), Fr h₀ L h m → News h₀ L h (news ++ own) →
      wpAny (model prog w) A (call f [v]) (KskEnd h₀ L m (news ++ own) k { s with heap := h, toks := tk }) (fun _ _ => False) { s with heap := h, toks := tk })
    (h : ∀ h' tk out c, Fr h₀ L h' m → News h₀ L h' ((a, seqObj "list" out c) :: news) → OutS kz vs out.toList → P (.done (.ret .none)) { s with heap := h', toks := tk }) :
    wpAny (model prog w) A (ksk_rest a f false vs.toArray e1 (.ref kS)) P E s := by
  unfold ksk_rest
  refine wpAny_bind (wpAny_rule ?_)
  first
    | rw [List.forIn_toArray]
    | (rw [← Array.forIn_toList]; simp only [List.toList_toArray])
    | rw [← Array.forIn_toList]
  let I : Nat → Shared → Prop := fun i s' => ∃ h' tk kA e, s' = { s with heap := h', toks := tk } ∧ Fr h₀ L h' m ∧ News h₀ L h' (news ++ [(kS, seqObj "list" kA e), (a, seqObj "list" #[] e1)]) ∧ IntsAre kA.toList (kz.take i)
  have hstart : I 0 s := ⟨s.heap, s.toks, #[], 0, rfl, F, N, by simpa using IntsAre.nil⟩
  refine wpAny_bind (ksk_fold I vs 0 s hstart (fun j x s' hx hI => ?_) fun s' hI => ?_)
  · obtain ⟨h', tk, kA, e, rfl, F', N', hk⟩ := hI
    simp only [Nat.zero_add] at hk ⊢
    have hj : j < vs.length := (List.getElem?_eq_some_iff.mp hx).1
    have hkj : kz[j]? = some (kz[j]'(by omega)) := List.getElem?_eq_getElem (by omega)
    have hz : kA.size ≤ vs.length := by
      have q := hk.length
      rw [Array.length_toList, List.length_take] at q
      omega
    refine wpAny_bind (wpAny_attempt (wpAny_mono (turn j x _ hx hkj h' tk _ F' N') (fun v s'' he => ?_) fun _ _ hF => hF.elim))
    obtain ⟨g, tk2, t2, rfl, rfl, F2, N2⟩ := he
    try dsimp only
    have nk := N2 (kS, seqObj "list" kA e) (List.mem_append_right _ (.head _))
    have na := N2 (a, seqObj "list" #[] e1) (List.mem_append_right _ (.tail _ (.head _)))
    have sb := Heap.SameBut.update g kS (Obj.mapSeq (·.push (.int (kz[j]'(by omega)) t2)))
    obtain ⟨c2, hc2⟩ : ∃ c2, (g.update kS (Obj.mapSeq (·.push (.int (kz[j]'(by omega)) t2)))).get? kS = some (seqObj "list" (kA.push (.int (kz[j]'(by omega)) t2)) c2) := ⟨_, get?_update_seq nk.1 (·.push (.int (kz[j]'(by omega)) t2))⟩
    refine wpAny_bind (listUpdate_at nk.1 rfl ?_ (by rw [sizeLine_eq]; omega) (Nat.le_trans (Nat.le_of_eq (Array.size_push ..)) (by rw [sizeLine_eq]; omega)))
    refine wpAny_pure ⟨rfl, _, _, kA.push (.int (kz[j]'(by omega)) t2), c2, rfl, ksk_fr F2 sb nk.2.1 nk.2.2, fun p hp => ?_, ?_⟩
    · rcases List.mem_append.mp hp with hp | hp
      · exact ksk_news (fun q hq => N2 q (List.mem_append_left _ hq)) sb hnk p hp
      · rcases List.mem_cons.mp hp with rfl | hp
        · exact ⟨hc2, nk.2⟩
        · rw [List.mem_singleton.mp hp]
          exact ⟨(sb.2 a hka.symm).trans na.1, na.2⟩
    · rw [show kz.take (j + 1) = kz.take j ++ [kz[j]'(by omega)] by rw [List.take_add_one, hkj]; simp, show (kA.push (Value.int (kz[j]'(by omega)) t2)).toList = kA.toList ++ [Value.int (kz[j]'(by omega)) t2] by simp]
      exact ksk_snoc hk
  · obtain ⟨h', tk, kA, e, rfl, F', N', hk⟩ := hI
    rw [List.take_of_length_le (by omega)] at hk
    have nk := N' (kS, seqObj "list" kA e) (List.mem_append_right _ (.head _))
    try dsimp only
    refine wpAny_bind (listItems_at nk.1 rfl ?_)
    exact endS F' N' hka hnk hna hk hlen h64 h2 hd hb fun h3 tk3 out c F3 N3 k3 => h h3 tk3 out c F3 N3 k3
theorem sortS {f : Value} {n : Nat} (F : Fr h₀ L s.heap m) (N : News h₀ L s.heap news) (ho : s.heap.get? a = some (seqObj "list" vs.toArray n)) (haL : a ≠ L) (ha0 : h₀.get? a = none) (hna : ∀ p ∈ news, p.1 ≠ a)
    (hlen : kz.length = vs.length) (h64 : vs.length < 64) (h2 : 2 ≤ vs.length) (hd : DownV vs) (hb : BndV vs)
    (turn : ∀ (i : Nat) (v : Value) (k : Int), vs[i]? = some v → kz[i]? = some k → ∀ (h : Heap) (tk : Nat) (own : List (Addr × Obj)), Fr h₀ L h m → News h₀ L h (news ++ own) →
      wpAny (model prog w) A (call f [v]) (KskEnd h₀ L m (news ++ own) k { s with heap := h, toks := tk }) (fun _ _ => False) { s with heap := h, toks := tk })
    (h : ∀ h' tk out c, Fr h₀ L h' m → News h₀ L h' ((a, seqObj "list" out c) :: news) → OutS kz vs out.toList → P (.done (.ret .none)) { s with heap := h', toks := tk }) :
    wpAny (model prog w) A (ksk_tree a f false) P E s := by
  have ha : a < s.heap.objs.size := Heap.lt_size ho
  have hL := F.ns.lt
  have sb := Heap.SameBut.update s.heap a (Obj.mapSeq fun _ => (#[] : Array Value))
  obtain ⟨e1, ho1⟩ : ∃ e1, (s.heap.update a (Obj.mapSeq fun _ => (#[] : Array Value))).get? a = some (seqObj "list" #[] e1) := ⟨_, get?_update_seq ho fun _ => #[]⟩
  have F1 := ksk_fr F sb haL ha0
  have N1 := ksk_news N sb hna
  have hkS : ((s.heap.update a (Obj.mapSeq fun _ => (#[] : Array Value))).push (seqObj "tuple" vs.toArray 0)).objs.size = s.heap.objs.size + 1 := by rw [size_push', Heap.size_update]
  unfold ksk_tree
  refine wpAny_bind (listItems_at ho rfl ?_)
  refine wpAny_bind (listUpdate_at ho rfl ?_ (by rw [List.size_toArray, sizeLine_eq]; omega) (Nat.zero_le _))
  refine wpAny_bind (seqEpoch_at ho1 rfl ?_)
  refine wpAny_bind (wpAny_newTuple ?_ (by show vs.length ≤ _; rw [sizeLine_eq]; omega))
  refine wpAny_bind (wpAny_newList ?_ (Nat.zero_le _))
  refine wpAny_holding ?_
  refine restS (s := { s with heap := ((s.heap.update a (Obj.mapSeq fun _ => (#[] : Array Value))).push (seqObj "tuple" vs.toArray 0)).push (seqObj "list" #[] 0) }) (kS := ((s.heap.update a (Obj.mapSeq fun _ => (#[] : Array Value))).push (seqObj "tuple" vs.toArray 0)).objs.size)
    ((F1.push _).push _) (fun p hp => ?_) (by rw [hkS]; exact Nat.ne_of_gt (Nat.lt_succ_of_lt ha)) (fun p hp => by rw [hkS]; exact Nat.ne_of_lt (Nat.lt_succ_of_lt (Heap.lt_size (N p hp).1))) hna hlen h64 h2 hd hb turn h
  rcases List.mem_append.mp hp with hp | hp
  · exact ⟨Heap.get?_push_of_some _ (Heap.get?_push_of_some _ (N1 p hp).1), (N1 p hp).2⟩
  · rcases List.mem_cons.mp hp with rfl | hp
    · exact ⟨Heap.get?_push_size _ rfl, by rw [hkS]; exact Nat.ne_of_gt (Nat.lt_succ_of_lt hL), Heap.get?_none_of_le (by rw [hkS]; exact Nat.le_trans F.above (Nat.le_succ_of_le (Nat.le_of_lt hL)))⟩
    · rw [List.mem_singleton.mp hp]
      exact ⟨Heap.get?_push_of_some _ (Heap.get?_push_of_some _ ho1), haL, ha0⟩
end
theorem itemsL {P : Nat → Value → Prop} {acc : Array Value} {i : Nat} (h : ItemsOf P acc i) : acc.toList.length = i ∧ ∀ j v, acc.toList[j]? = some v → P j v :=
  ⟨by simpa using h.1, fun j v e => h.2 j v (by simpa using e)⟩
section
variable {prog : Program} {w : World} {A : Around} {E : Value → Shared → Prop} {s : Shared} {h₀ : Heap} {L : Addr} {m : PySem.Str → Option Value} {news : List (Addr × Obj)} {Q : Value → Shared → Prop}
/-- sorted(range(..), key=f) -/
theorem sortedR {r q : Addr} {a b c : Int} {t u v : Tok} {n : Nat} (G : Int → Int) (hh : A.handled = none) (F : Fr h₀ L s.heap m) (N : News h₀ L s.heap news) (hr : IsRange s.heap r a b c t u v) (hsmall : Builtin.Range.small a b c = true)
    (hn : Builtin.Range.rangeSize a b c = n) (h64 : n < 64) (h2 : 2 ≤ n) (hdn : c < 0) (hbd : ∀ i : Nat, i < n → 0 ≤ a + i * c ∧ a + i * c < 100)
    (turn : ∀ (i : Nat) (tt : Tok), i < n → ∀ (h : Heap) (tk : Nat) (own : List (Addr × Obj)), Fr h₀ L h m → News h₀ L h (news ++ own) →
      wpAny (model prog w) A.in1.in1 (call (.ref q) [.int (a + i * c) tt]) (KskEnd h₀ L m (news ++ own) (G (a + i * c)) { s with heap := h, toks := tk }) (fun _ _ => False) { s with heap := h, toks := tk })
    (h : ∀ D h' tk out e, Fr h₀ L h' m → News h₀ L h' ((D, seqObj "list" out e) :: news) → (∀ q ∈ news, q.1 < D) →
      (∃ vs, IntsAre vs ((List.range n).map fun i : Nat => a + i * c) ∧ OutS ((List.range n).map fun i : Nat => G (a + i * c)) vs out.toList) → Q (.ref D) { s with heap := h', toks := tk }) :
    wpAny (model prog w) A (call (.builtin "sorted") [.ref r] [(Str.ofString "key", .ref q)]) Q E s := by
  refine call_function_entry_kw kind_sorted plain_sorted entry_sorted (ksk_s1 _ _) ?_
  unfold Builtin.«sorted»
  refine wpAny_bind (m := checkCount "sorted" 1 1 _) (wpAny_pure ?_)
  refine wpAny_bind (collectR hh hr hsmall hn (by omega) fun h1 tk1 acc keep hit => ?_)
  obtain ⟨il, iv⟩ := itemsL hit
  have F1 : Fr h₀ L h1 m := F.kept keep
  have N1 : News h₀ L h1 news := N.grown keep
  have vget : ∀ i, i < n → ∃ tt, acc.toList[i]? = some (.int (a + i * c) tt) := by
    intro i hi
    obtain ⟨tt, e⟩ := iv i _ (List.getElem?_eq_getElem (by omega))
    exact ⟨tt, by rw [List.getElem?_eq_getElem (by omega), e]⟩
  have hd : DownV acc.toList := by
    intro i j hij hj x y hx hy
    obtain ⟨t1, e1⟩ := iv i x hx
    obtain ⟨t2, e2⟩ := iv j y hy
    rw [e1, e2]
    show a + j * c < a + i * c
    have : (i : Int) < j := by omega
    have := Int.mul_lt_mul_of_neg_right this hdn
    omega
  have hb : BndV acc.toList := by
    intro x hx
    obtain ⟨i, hi, rfl⟩ := List.getElem_of_mem hx
    obtain ⟨tt, e⟩ := iv i _ (List.getElem?_eq_getElem hi)
    rw [e]
    exact hbd i (by omega)
  have hints : IntsAre acc.toList ((List.range n).map fun i : Nat => a + i * c) := by
    have z := ints_of acc.toList (fun i : Nat => a + i * c) iv
    rw [il] at z
    exact z
  have hkl : ((List.range n).map fun i : Nat => G (a + i * c)).length = acc.toList.length := by rw [List.length_map, List.length_range, il]
  refine wpAny_bind (wpAny_newList ?_ (by rw [sizeLine_eq]; omega))
  have hoL : (h1.push (seqObj "list" acc.toList.toArray 0)).get? h1.objs.size = some (seqObj "list" acc.toList.toArray 0) := Heap.get?_push_size _ rfl
  have keep2 : ∀ b o, h1.get? b = some o → (h1.push (seqObj "list" acc.toList.toArray 0)).get? b = some o := fun b o e => Heap.get?_push_of_some _ e
  have hL1 := F1.ns.lt
  refine wpAny_bind (wpAny_holding (wpAny_call_entry_kw slot_list_sort ⟨_, hoL, rfl⟩ entry_list_sort ?body (ksk_l1 _ _)))
  show wpAny (model prog w) A.in1.in1 (Builtin.«list.sort» ⟨[.ref h1.objs.size], [(Str.ofString "key", .ref q)]⟩) _ _ _
  rw [ksk_t1]
  refine sortS (s := { s with heap := h1.push (seqObj "list" acc.toList.toArray 0), toks := tk1 }) (kz := (List.range n).map fun i : Nat => G (a + i * c)) (vs := acc.toList) (F1.kept keep2) (N1.grown keep2) hoL (Nat.ne_of_gt hL1) (Heap.get?_none_of_le (Nat.le_trans F1.above (Nat.le_of_lt hL1)))
      (fun p hp => Nat.ne_of_lt (Heap.lt_size (N1 p hp).1)) hkl (by omega) (by omega) hd hb (fun i v k hv hk h' tk own F' N' => ?_) fun h' tk out c F' N' k' => ⟨_, rfl, ?_⟩
  · have hi : i < n := by
      have := (List.getElem?_eq_some_iff.mp hv).1
      omega
    obtain ⟨tt, e⟩ := iv i v hv
    subst e
    rw [List.getElem?_map, List.getElem?_range hi] at hk
    have hk' : some (G (a + i * c)) = some k := hk
    cases hk'
    exact turn i tt hi h' tk own F' N'
  · exact wpAny_pure ⟨_, rfl, h _ h' tk out c F' N' (fun p hp => Heap.lt_size (N1 p hp).1) ⟨_, hints, k'⟩⟩
end
end
end Mine
end

/- part Row1 -/
section
open PySem PySem.W PyProof.Rows
namespace Mine
section
/-- a sign for a line of the walk -/
noncomputable def ItemMark : Prop := True
theorem len_le : ∀ (k : Nat) (l : List Int), l.Nodup → (∀ n ∈ l, 0 ≤ n ∧ n < k) → l.length ≤ k
  | 0, l, _, h => by
    cases l with
    | nil => exact Nat.le_refl _
    | cons x r =>
      have z := h x List.mem_cons_self
      omega
  | k + 1, l, hn, h => by
    by_cases hk : (k : Int) ∈ l
    · have z := len_le k (l.erase k) (hn.erase _) fun n hm => by
        have y := (List.Nodup.mem_erase_iff hn).mp hm
        have x := h n y.2
        have y1 := y.1
        omega
      rw [List.length_erase_of_mem hk] at z
      omega
    · have z := len_le k l hn fun n hm => by
        have x := h n hm
        have y : n ≠ k := fun e => hk (e ▸ hm)
        omega
      omega
theorem mem_all {k : Nat} {l : List Int} (hn : l.Nodup) (h : ∀ n ∈ l, 0 ≤ n ∧ n < k) (hl : l.length = k) {n : Int} (h0 : 0 ≤ n) (h1 : n < k) : n ∈ l := by
  by_cases hm : n ∈ l
  · exact hm
  · have z := len_le k (n :: l) (List.nodup_cons.mpr ⟨hm, hn⟩) fun x hx => by
      rcases List.mem_cons.mp hx with rfl | hx
      · exact ⟨h0, h1⟩
      · exact h x hx
    rw [List.length_cons] at z
    omega
theorem Bef.asymm {G : Int → Int} {a b : Int} (h : Bef G a b) (g : Bef G b a) : False := by
  rcases h with h | ⟨h1, h2⟩ <;> rcases g with g | ⟨g1, g2⟩ <;> omega
theorem bef_unique {G : Int → Int} : ∀ {a b : List Int}, a.Pairwise (Bef G) → b.Pairwise (Bef G) → (∀ n, n ∈ a ↔ n ∈ b) → a = b
  | [], [], _, _, _ => rfl
  | [], y :: b, _, _, h => absurd ((h y).mpr List.mem_cons_self) List.not_mem_nil
  | x :: a, [], _, _, h => absurd ((h x).mp List.mem_cons_self) List.not_mem_nil
  | x :: a, y :: b, ha, hb, h => by
    obtain ⟨ha1, ha2⟩ := List.pairwise_cons.mp ha
    obtain ⟨hb1, hb2⟩ := List.pairwise_cons.mp hb
    have e : x = y := by
      rcases List.mem_cons.mp ((h x).mp List.mem_cons_self) with e | hx
      · exact e
      · rcases List.mem_cons.mp ((h y).mpr List.mem_cons_self) with e | hy
        · exact e.symm
        · exact (Bef.asymm (hb1 x hx) (ha1 y hy)).elim
    subst e
    congr 1
    refine bef_unique ha2 hb2 fun n => ⟨fun hn => ?_, fun hn => ?_⟩
    · rcases List.mem_cons.mp ((h n).mp (List.mem_cons_of_mem _ hn)) with e | z
      · subst e
        exact (Bef.asymm (ha1 n hn) (ha1 n hn)).elim
      · exact z
    · rcases List.mem_cons.mp ((h n).mpr (List.mem_cons_of_mem _ hn)) with e | z
      · subst e
        exact (Bef.asymm (hb1 n hn) (hb1 n hn)).elim
      · exact z
theorem RowOK.unique {G : Int → Int} {k : Nat} {a b : List Int} (ha : RowOK G k a) (hb : RowOK G k b) : a = b :=
  bef_unique ha.2.2.2 hb.2.2.2 fun n => ⟨fun h => mem_all hb.2.2.1 hb.2.1 hb.1 (ha.2.1 n h).1 (ha.2.1 n h).2, fun h => mem_all ha.2.2.1 ha.2.1 ha.1 (hb.2.1 n h).1 (hb.2.1 n h).2⟩
theorem ints_map {γ : Type} (f : γ → PySem.Value) (g : γ → Int) : ∀ (l : List γ), (∀ x ∈ l, ∃ t, f x = .int (g x) t) → IntsAre (l.map f) (l.map g)
  | [], _ => .nil
  | x :: l, h => by
    obtain ⟨t, e⟩ := h x List.mem_cons_self
    rw [List.map_cons, List.map_cons, e]
    exact .cons _ t (ints_map f g l fun y hy => h y (List.mem_cons_of_mem _ hy))
theorem sorted_row {G : Int → Int} {vs out : List PySem.Value} (hi : IntsAre vs ((List.range 12).map fun i : Nat => (11 : Int) + (i : Int) * (-1))) (ho : OutS ((List.range 12).map fun i : Nat => G ((11 : Int) + (i : Int) * (-1))) vs out) :
    ∃ ns, IntsAre out ns ∧ RowOK G 12 ns := by
  obtain ⟨ps, hp, rfl, hs⟩ := ho
  have hl : vs.length = 12 := by rw [hi.length]; simp
  have key : ∀ p ∈ ps, ∃ x t, p = (G x, PySem.Value.int x t) ∧ 0 ≤ x ∧ x < 12 := by
    intro p hm
    have hm := hp.mem_iff.mp hm
    obtain ⟨i, hi', rfl⟩ := List.getElem_of_mem hm
    have hi2 : i < 12 := by
      rw [List.length_zip, hl] at hi'
      omega
    obtain ⟨t, et⟩ := hi.get i _ (List.getElem?_eq_getElem (by simpa using hi2))
    rw [List.getElem?_eq_getElem (by omega)] at et
    have et := Option.some.inj et
    rw [List.getElem_zip, et]
    simp only [List.getElem_map, List.getElem_range]
    exact ⟨_, t, rfl, by omega, by omega⟩
  have hlen : (ps.map fun p => numOf p.2).length = 12 := by
    rw [List.length_map, hp.length_eq, List.length_zip, hl]
    simp
  have hpw : (ps.map fun p => numOf p.2).Pairwise (Bef G) := by
    rw [List.pairwise_map]
    refine List.Pairwise.imp_of_mem (fun {p q} hp hq h => ?_) hs
    obtain ⟨x, t, rfl, x0, x1⟩ := key p hp
    obtain ⟨y, u, rfl, y0, y1⟩ := key q hq
    have h : G x * 100 - x < G y * 100 - y := h
    show G x < G y ∨ (G x = G y ∧ y < x)
    omega
  refine ⟨ps.map fun p => numOf p.2, ints_map _ _ _ fun p hm => ?_, hlen, fun n hn => ?_, ?_, hpw⟩
  · obtain ⟨x, t, rfl, -, -⟩ := key p hm
    exact ⟨t, rfl⟩
  · obtain ⟨p, hm, rfl⟩ := List.mem_map.mp hn
    obtain ⟨x, t, rfl, x0, x1⟩ := key p hm
    exact ⟨x0, x1⟩
  · exact hpw.imp fun {a b} h e => by
      subst e
      exact Bef.asymm h h
section
variable {w : World} {q : Addr} {all : List (Addr × Obj)} {G : Int → Int} {mean : ExcName → Option Value} {mg mb : PySem.Str → Option Value} {cn : PySem.Str} {cs : Scope} {a : Addr} {ccd : Value} {h₀ : Heap} {L : Addr} {m : PySem.Str → Option Value} {s : Shared}
theorem KeyOK.turn (hK : KeyOK w q all G) (B : Below callerA h₀ [] h₀) (F : Fr h₀ L s.heap m) (X : (hd.heap_39 w.params).In h₀) (N : News h₀ L s.heap all) (T : Top topProg LS mean mg mb h₀) (hk : cs.kind = .function) {v : Int} (tt : Tok) (hv : 0 ≤ v ∧ v < 12) :
    wpAny (model PySem.Challenge.rw_sr0044_01.row.prog w) (callerA.deeper (envOfC cn cs L a ccd)).in1.in1 (call (.ref q) [.int v tt]) (KskEnd h₀ L m all (G v) s) (fun _ _ => False) s := by
  have e : (callerA.deeper (envOfC cn cs L a ccd)).in1.in1 = ktrTop (callerA.deeper (envOfC cn cs L a ccd)).depth ((callerA.deeper (envOfC cn cs L a ccd)).units + 1 + 1) (callerA.deeper (envOfC cn cs L a ccd)).guards cn cs L a ccd (cellsFrom (L + 1) cs.names []) [] := rfl
  rw [e]
  refine hK v tt hv _ _ _ _ _ _ _ _ _ _ _ _ callerA h₀ h₀ L m s _ _ B F X N T hk ?_ ?_ fun r news' h' tk' F' N' hP => ?_
  · ktr_room
  · ktr_units
  · obtain ⟨rfl, t, rfl⟩ := hP
    exact KskEnd.intro F' N' fun p hp => hp
end
section
variable {prog : Program} {w : World} {A : Around} {E : Value → Shared → Prop} {s : Shared} {h₀ : Heap} {L : Addr} {m : PySem.Str → Option Value} {news : List (Addr × Obj)}
noncomputable def rangeO (a b c : Int) (t u v : Tok) : Obj := { cls := .type "range", dict := none, data := .fields #[.int a t, .int b u, .int c v], slots := #[] }
theorem range3_led {Q : Value → Shared → Prop} {a b c : Int} {t u v : Tok} (F : Fr h₀ L s.heap m) (N : News h₀ L s.heap news) (hc : c ≠ 0)
    (hp : Builtin.divisionGoesByPylong (b - a) c = false)
    (h : ∀ R h' tk t₁ u₁ v₁, Fr h₀ L h' m → News h₀ L h' ((R, rangeO a b c t₁ u₁ v₁) :: news) → (∀ q ∈ news, q.1 < R) → Q (.ref R) { s with heap := h', toks := tk }) :
    wpAny (model prog w) A (call (.type "range") [.int a t, .int b u, .int c v]) Q E s := by
  refine range3_rows F N hc (fun h' tk t₁ u₁ v₁ hr F' N' keep => h _ h' tk t₁ u₁ v₁ F' (news_pushed F N keep hr rfl) fun q hq => Heap.lt_size (N q hq).1) (Or.inl hp)
end
theorem News.at9 {h₀ h : Heap} {L D : Addr} {o : Obj} {news : List (Addr × Obj)} (N : News h₀ L h news) (hm : (D, o) ∈ news) : h.get? D = some o := (N _ hm).1
theorem RowOK.first {G : Int → Int} {ns : List Int} (h : RowOK G 12 ns) : ∃ x0, ns[0]? = some x0 ∧ 0 ≤ x0 ∧ x0 < 12 := by
  cases ns with
  | nil => exact absurd h.1 (by decide)
  | cons x r => exact ⟨x, rfl, h.2.1 x List.mem_cons_self⟩
theorem RowOK.least {G : Int → Int} {ns : List Int} {x0 : Int} (h : RowOK G 12 ns) (hx : ns[0]? = some x0) {n : Int} (h0 : 0 ≤ n) (h1 : n < 12) : G x0 ≤ G n := by
  have hm := mem_all h.2.2.1 h.2.1 h.1 h0 h1
  cases ns with
  | nil => exact absurd hm List.not_mem_nil
  | cons x r =>
    obtain rfl : x = x0 := Option.some.inj hx
    rcases List.mem_cons.mp hm with rfl | hm
    · exact Int.le_refl _
    · rcases (List.pairwise_cons.mp h.2.2.2).1 n hm with z | z <;> omega
theorem pr_get {f : Nat → Int} {x : Int} (h0 : 0 ≤ x) (h1 : x < 12) : ((List.range 12).map f)[x.toNat]? = some (f x.toNat) := by
  rw [List.getElem?_map, List.getElem?_range (by omega)]
  rfl
theorem mem_skip9 {α : Type} {a b c d e f g h i x p : α} {T : List α} (hp : p ∈ a :: b :: c :: d :: e :: f :: g :: h :: i :: T) : p ∈ a :: b :: c :: d :: e :: f :: g :: h :: i :: x :: T := by
  simp only [List.mem_cons] at hp ⊢
  rcases hp with h | h | h | h | h | h | h | h | h | h <;> simp [h]
theorem tab_of {h₀ h : Heap} {L : Addr} {a b c d x y z : Addr × Obj} {tb : Array Value} {rest : List (Addr × Obj)} (N : News h₀ L h (a :: b :: c :: d :: x :: y :: z :: (92, tabObj tb) :: rest)) :
    ∃ tb', News h₀ L h (a :: b :: c :: d :: x :: y :: z :: (92, tabObj tb') :: rest) := ⟨tb, N⟩
/-- the item at an index, from either end -/
noncomputable def ItemIs (vs : List Value) (k : Int) (v : Value) : Prop :=
  (0 ≤ k ∧ k < 2 ^ 63 ∧ vs[k.toNat]? = some v) ∨ (k < 0 ∧ -(vs.length : Int) ≤ k ∧ -(2 ^ 63) ≤ k ∧ vs[(k + vs.length).toNat]? = some v)
theorem item_is {prog : Program} {w : World} {A : Around} {E : Value → Shared → Prop} {s : Shared} {value slice : PySem.Expr} {l : Addr} {vs : List Value} {k : Int} {u : Tok} {v : Value} {Q : Value → Shared → Prop} (hl : s.heap.IsList l vs.toArray) (hx : ItemIs vs k v) (h : Q v s)
    (hs : subscripted slice false (.ref l) (.int k u) = operate [.ref l, .int k u] (getItem (.ref l) (.int k u)) := by with_unfolding_all rfl) :
    wpAny (model prog w) A (subscriptTail value slice (.ref l) (.int k u)) Q E s := by
  rcases hx with ⟨h0, h1, h2⟩ | ⟨h0, h1, h2, h3⟩
  · exact item_litK hl h0 h1 h2 h hs
  · exact tail_any hl.typeIs slot_list_getitem.lookup (wpAny_getItem_list_neg hl h0 (by simpa using h1) h2 (by simpa using h3) h) hs
theorem ItemIs.of {vs : List Value} {k : Int} {v : Value} (h0 : 0 ≤ k) (h1 : k < 100) (h : vs[k.toNat]? = some v) : ItemIs vs k v := .inl ⟨h0, Int.lt_trans h1 (by decide), h⟩
theorem ItemIs.nat {vs : List Value} {k : Nat} {v : Value} (h1 : k < 100) (h : vs[k]? = some v) : ItemIs vs (k : Int) v := .inl ⟨Int.natCast_nonneg _, Int.lt_trans (by omega) (show (100 : Int) < 2 ^ 63 by decide), h⟩
/-- the way's items -/
noncomputable def WayIs (wvs : List Value) (wn : Nat → Nat) : Prop := IntsAre wvs ((List.range 5).map fun i => ((wn i : Nat) : Int))
theorem WayIs.len {wvs : List Value} {wn : Nat → Nat} (h : WayIs wvs wn) : wvs.length = 5 := by rw [IntsAre.length h, List.length_map, List.length_range]
theorem WayIs.at {wvs : List Value} {wn : Nat → Nat} (h : WayIs wvs wn) {i : Nat} (hi : i < 5) : ∃ t, wvs[i]? = some (.int ((wn i : Nat) : Int) t) :=
  IntsAre.get h i _ (by rw [List.getElem?_map, List.getElem?_range hi]; rfl)
theorem WayIs.item {wvs : List Value} {wn : Nat → Nat} (h : WayIs wvs wn) {i : Nat} (hi : i < 5) : ∃ t, ItemIs wvs (i : Int) (.int ((wn i : Nat) : Int) t) := by
  obtain ⟨t, e⟩ := h.at hi
  exact ⟨t, ItemIs.nat (by omega) e⟩
theorem prev5 : ∀ i : Nat, i < 5 → i ≠ 0 → (i + 4) % 5 = i - 1 ∧ ((i : Int) - 1).toNat = i - 1 ∧ i - 1 < 5 ∧ 0 ≤ (i : Int) - 1 ∧ (i : Int) - 1 < 2 ^ 63 := by decide
theorem WayIs.prev {wvs : List Value} {wn : Nat → Nat} (h : WayIs wvs wn) {i : Nat} (hi : i < 5) : ∃ t, ItemIs wvs ((i : Int) - 1) (.int ((wn ((i + 4) % 5) : Nat) : Int) t) := by
  by_cases h0 : i = 0
  · subst h0
    obtain ⟨t, e⟩ := h.at (i := 4) (by decide)
    exact ⟨t, .inr ⟨by omega, by rw [h.len]; decide, by decide, by rw [h.len]; exact e⟩⟩
  · obtain ⟨e1, e2, e3, e4, e5⟩ := prev5 i hi h0
    obtain ⟨t, e⟩ := h.at (i := i - 1) e3
    rw [e1]
    refine ⟨t, .inl ⟨e4, e5, ?_⟩⟩
    rw [e2]
    exact e
theorem WayIs.slice {wvs : List Value} {wn : Nat → Nat} (h : WayIs wvs wn) {g k : Nat} (hg : g < k) (hk : k < 5) :
    IntsAre (slicePick wvs.toArray (some (g : Int)) (some (k : Int)) none).toList ((List.range (k - g)).map fun i => ((wn (g + i) : Nat) : Int)) := by
  have z := kmk_run h (x := (g : Int)) (y := (k : Int)) (Int.natCast_nonneg _) (Int.natCast_nonneg _)
  have e : (((List.range 5).map fun i => ((wn i : Nat) : Int)).drop (g : Int).toNat).take (min (k : Int).toNat ((List.range 5).map fun i => ((wn i : Nat) : Int)).length - (g : Int).toNat) = (List.range (k - g)).map fun i => ((wn (g + i) : Nat) : Int) := by
    rw [List.length_map, List.length_range, Int.toNat_natCast, Int.toNat_natCast, Nat.min_eq_left (by omega)]
    refine List.ext_getElem (by simp only [List.length_take, List.length_drop, List.length_map, List.length_range]; exact Nat.min_eq_left (Nat.sub_le_sub_right (Nat.le_of_lt hk) g)) fun i h1 h2 => ?_
    simp
  rw [e] at z
  exact z
end
end Mine
end

/- part Loop0 -/
section
open PySem PySem.W PyProof.Rows
namespace Mine
section
theorem bisr_use (w : World) (l : Addr) (vs : List Value) (ns : List Int) (e : Nat) (x : Int) (tx : Tok) (news : List (Addr × Obj)) (hm : (l, listOf vs.toArray e) ∈ news) (hi : IntsAre vs ns) (hlen : ns.length ≤ 100) (hs : Sorted ns) :
   Cl 1 w (hd.heap_39 w.params) topProg 32 news [.ref l, .int x tx] (fun r news' => news' = news ∧ ∃ k t, r = .int k t ∧ BisR ns x k) := by
  have c := bisr_cl w l vs ns e x tx tx [.ref l, .int x tx] (Or.inl rfl) news rfl hi hlen hs
  unfold Cl at c ⊢
  intro mean mg mb dp un gd cn cs ad ccd cl outer A₀ base h₀ L m s Q E B F X N T hk hdp hu hret
  refine c mean mg mb dp un gd cn cs ad ccd cl outer A₀ base h₀ L m s Q E B F X (fun p hp => ?_) T hk hdp hu fun r news' h' tk' F' N' hP => ?_
  · rcases List.mem_cons.mp hp with rfl | hp
    · exact N _ hm
    · exact N _ hp
  · obtain ⟨rfl, k, t, rfl, hB⟩ := hP
    exact hret _ _ _ _ F' (fun p hp => N' p (List.mem_cons_of_mem _ hp)) ⟨rfl, k, t, rfl, hB⟩
theorem bisl_use (w : World) (l : Addr) (vs : List Value) (ns : List Int) (e : Nat) (x : Int) (tx : Tok) (news : List (Addr × Obj)) (hm : (l, listOf vs.toArray e) ∈ news) (hi : IntsAre vs ns) (hlen : ns.length ≤ 100) (hs : Sorted ns) :
   Cl 1 w (hd.heap_39 w.params) topProg 50 news [.ref l, .int x tx] (fun r news' => news' = news ∧ ∃ k t, r = .int k t ∧ BisL ns x k) := by
  have c := bisl_cl w l vs ns e x tx tx [.ref l, .int x tx] (Or.inl rfl) news rfl hi hlen hs
  unfold Cl at c ⊢
  intro mean mg mb dp un gd cn cs ad ccd cl outer A₀ base h₀ L m s Q E B F X N T hk hdp hu hret
  refine c mean mg mb dp un gd cn cs ad ccd cl outer A₀ base h₀ L m s Q E B F X (fun p hp => ?_) T hk hdp hu fun r news' h' tk' F' N' hP => ?_
  · rcases List.mem_cons.mp hp with rfl | hp
    · exact N _ hm
    · exact N _ hp
  · obtain ⟨rfl, k, t, rfl, hB⟩ := hP
    exact hret _ _ _ _ F' (fun p hp => N' p (List.mem_cons_of_mem _ hp)) ⟨rfl, k, t, rfl, hB⟩
/-- the names of the way from g up to ahead of h -/
noncomputable def arcI (wn : Nat → Nat) (g h : Nat) : List Int := (List.range (h - g)).map fun i => ((wn (g + i) : Nat) : Int)
/-- how often the arc's parting is shelved -/
noncomputable def cntI (sn : List Int) (wn : Nat → Nat) (g h : Nat) : Int := ((sn.count (spl (arcI wn g h)) : Nat) : Int)
noncomputable def inS (c : Nat → Nat → Int) (g : Nat) : Nat → Int
  | 0 => 0
  | k + 1 => inS c g k + c g (g + 1 + k)
noncomputable def outT (c : Nat → Nat → Int) : Nat → Int
  | 0 => 0
  | g + 1 => outT c g + inS c g (4 - g)
/-- the i-th of the twelve ways -/
noncomputable def wayN (i j : Nat) : Nat := (ways12.getD i []).getD j 0
theorem wayN_ok : ∀ i < 12, (∀ j < 5, wayN i j < 5) ∧ (wA 4).getD i [] = (List.range 5).map fun j => ((wayN i j : Nat) : Int) := by
  rw [wA4]
  decide +kernel
theorem bis_count {ns : List Int} {x r l : Int} (hr : BisR ns x r) (hl : BisL ns x l) : r - l = ((ns.count x : Nat) : Int) := by
  obtain ⟨r0, r1, r2, r3⟩ := hr
  obtain ⟨l0, l1, l2, l3⟩ := hl
  obtain ⟨r, rfl⟩ : ∃ n : Nat, r = n := ⟨r.toNat, by omega⟩
  obtain ⟨l, rfl⟩ : ∃ n : Nat, l = n := ⟨l.toNat, by omega⟩
  have hlr : l ≤ r := by
    rcases Nat.lt_or_ge r l with h | h
    · have a := l2 r (by omega)
      have b := r3 r (by omega) (by omega)
      omega
    · exact h
  have e : ns = ns.take l ++ ((ns.drop l).take (r - l) ++ ns.drop r) := by
    have e1 : ns.drop r = (ns.drop l).drop (r - l) := by rw [List.drop_drop, show l + (r - l) = r by omega]
    rw [e1, List.take_append_drop, List.take_append_drop]
  have g : ∀ i (hi : i < ns.length), ns.getD i 0 = ns[i] := fun i hi => by rw [List.getD_eq_getElem?_getD, List.getElem?_eq_getElem hi]; rfl
  have c1 : (ns.take l).count x = 0 := by
    refine List.count_eq_zero.mpr fun hm => ?_
    obtain ⟨i, hi, ex⟩ := List.getElem_of_mem hm
    rw [List.length_take] at hi
    rw [List.getElem_take] at ex
    have z := l2 i (by omega)
    rw [g i (by omega), ex] at z
    omega
  have c2 : (ns.drop r).count x = 0 := by
    refine List.count_eq_zero.mpr fun hm => ?_
    obtain ⟨i, hi, ex⟩ := List.getElem_of_mem hm
    rw [List.length_drop] at hi
    rw [List.getElem_drop] at ex
    have z := r3 (r + i) (by omega) (by omega)
    rw [g (r + i) (by omega), ex] at z
    omega
  have c3 : ((ns.drop l).take (r - l)).count x = r - l := by
    have hlen : ((ns.drop l).take (r - l)).length = r - l := by rw [List.length_take, List.length_drop]; omega
    rw [show (((ns.drop l).take (r - l)).count x = r - l) = (((ns.drop l).take (r - l)).count x = ((ns.drop l).take (r - l)).length) by rw [hlen]]
    refine List.count_eq_length.mpr fun b hb => ?_
    obtain ⟨i, hi, ex⟩ := List.getElem_of_mem hb
    rw [hlen] at hi
    rw [List.getElem_take, List.getElem_drop] at ex
    have z := l3 (l + i) (by omega) (by omega)
    have y := r2 (l + i) (by omega)
    rw [g (l + i) (by omega), ex] at z y
    omega
  have ct : ns.count x = r - l := by
    rw [e, List.count_append, List.count_append, c1, c2, c3]
    omega
  rw [ct]
  omega
theorem rng5_ok {g : Nat} (h : g < 4) : Builtin.Range.small ((g : Int) + 1) 5 1 = true ∧ Builtin.Range.rangeSize ((g : Int) + 1) 5 1 = ((4 - g : Nat) : Int) := by
  obtain rfl | rfl | rfl | rfl : g = 0 ∨ g = 1 ∨ g = 2 ∨ g = 3 := by omega
  all_goals exact ⟨by decide, by decide⟩
theorem arc04 {wn : Nat → Nat} (hwn : ∀ j < 5, wn j < 5) {g h : Nat} (hh : h < 5) : In04 (arcI wn g h) := by
  intro n hn
  obtain ⟨i, hi, rfl⟩ := List.mem_map.mp hn
  have z := hwn (g + i) (by have := List.mem_range.mp hi; omega)
  omega
theorem arc_len {wn : Nat → Nat} {g h : Nat} (hh : h < 5) : (arcI wn g h).length ≤ 100 := by
  unfold arcI
  rw [List.length_map, List.length_range]
  omega
end
end Mine
end

/- part Pl1 -/
section
open PySem PySem.W PyProof.Rows
namespace Mine
section
noncomputable def P15 : List Int := [2, 4, 6, 8, 10, 12, 14, 16, 18, 20, 22, 24, 26, 28, 30]
/-- how often the way crosses the parting -/
noncomputable def crossI (k : Nat) (z : Int) : Nat := b2n (sepB (wayN k 4) (wayN k 0) z) + b2n (sepB (wayN k 0) (wayN k 1) z) + b2n (sepB (wayN k 1) (wayN k 2) z) + b2n (sepB (wayN k 2) (wayN k 3) z) + b2n (sepB (wayN k 3) (wayN k 4) z)
noncomputable def ringR (a b c d : Nat) : List Int := insI (insI (insI (insI [0] (a : Int) 1) (b : Int) 2) (c : Int) 3) (d : Int) 4
noncomputable def okD (k : Nat) (rs : List Int) (d : Nat) : Bool := let ms := mkd [(d : Int)] rs 0; ms.isEmpty || (P15.contains (spl ms) && crossI k (spl ms) == 2)
noncomputable def okR (a b c d : Nat) : Bool := let rs := ringR a b c d; (List.range 12).any fun k => (List.range 25).all fun x => okD k rs x
set_option maxRecDepth 100000 in
theorem enum : ((List.range 2).all fun a => (List.range 3).all fun b => (List.range 4).all fun c => (List.range 5).all fun d => okR a b c d) = true := by decide +kernel
end
end Mine
end

/- part Pl2 -/
section
open PySem PySem.W PyProof.Rows
namespace Mine
section
section
set_option maxRecDepth 100000
theorem cross_ge : ∀ k < 12, ∀ p ∈ P15, 2 ≤ crossI k p := by decide +kernel
noncomputable def q4 (k g j : Nat) (p : Int) : Bool := b2n (sepB (wayN k g) (wayN k (g + 1 + j)) p) + b2n (sepB (wayN k ((g + 4) % 5)) (wayN k ((g + 1 + j + 4) % 5)) p) ==
  b2n (sepB (wayN k g) (wayN k ((g + 1 + j + 4) % 5)) p) + b2n (sepB (wayN k ((g + 4) % 5)) (wayN k (g + 1 + j)) p) + 2 * b2n (p == spl (arcI (wayN k) g (g + 1 + j)))
theorem four : ∀ k < 12, ∀ p ∈ P15, crossI k p = 2 → ∀ g < 4, ∀ j < 4 - g, q4 k g j p = true := by decide +kernel
theorem once : ∀ k < 12, ∀ p ∈ P15, crossI k p = 2 → outT (fun g h => ((b2n (p == spl (arcI (wayN k) g h)) : Nat) : Int)) 4 = 1 := by decide +kernel
end
noncomputable def b2i (b : Bool) : Int := ((b2n b : Nat) : Int)
noncomputable def msk (a b c d e : Bool) : Int := b2i a + 2 * b2i b + 4 * b2i c + 8 * b2i d + 16 * b2i e
noncomputable def splB (a b c d e : Bool) : Int := if (msk a b c d e).fmod 2 = 1 then 31 - msk a b c d e else msk a b c d e
theorem sum_msk : ∀ ms : List Int, ms.Nodup → In04 ms → (ms.map fun n => (2 : Int) ^ n.toNat).sum = msk (decide (0 ∈ ms)) (decide (1 ∈ ms)) (decide (2 ∈ ms)) (decide (3 ∈ ms)) (decide (4 ∈ ms))
  | [], _, _ => by decide
  | n :: r, hn, h4 => by
    obtain ⟨hnr, hr⟩ := List.nodup_cons.mp hn
    have ih := sum_msk r hr fun x hx => h4 x (List.mem_cons_of_mem _ hx)
    have e : ∀ m : Int, decide (m ∈ n :: r) = (decide (m = n) || decide (m ∈ r)) := fun m => by simp
    have hf : decide (n ∈ r) = false := decide_eq_false hnr
    rw [List.map_cons, List.sum_cons, ih, e, e, e, e, e]
    obtain ⟨n0, n1⟩ := h4 n List.mem_cons_self
    clear ih e hn h4 hr hnr
    obtain rfl | rfl | rfl | rfl | rfl : n = 0 ∨ n = 1 ∨ n = 2 ∨ n = 3 ∨ n = 4 := by omega
    all_goals
      generalize decide ((0 : Int) ∈ r) = a at *
      generalize decide ((1 : Int) ∈ r) = b at *
      generalize decide ((2 : Int) ∈ r) = c at *
      generalize decide ((3 : Int) ∈ r) = d at *
      generalize decide ((4 : Int) ∈ r) = x at *
      clear n0 n1
      subst hf
    · cases b <;> cases c <;> cases d <;> cases x <;> decide
    · cases a <;> cases c <;> cases d <;> cases x <;> decide
    · cases a <;> cases b <;> cases d <;> cases x <;> decide
    · cases a <;> cases b <;> cases c <;> cases x <;> decide
    · cases a <;> cases b <;> cases c <;> cases d <;> decide
theorem spl_msk {ms : List Int} (hn : ms.Nodup) (h4 : In04 ms) : spl ms = splB (decide (0 ∈ ms)) (decide (1 ∈ ms)) (decide (2 ∈ ms)) (decide (3 ∈ ms)) (decide (4 ∈ ms)) := by
  unfold spl splB
  rw [sum_msk ms hn h4]
noncomputable def nth5 (a b c d e : Bool) : Nat → Bool
  | 0 => a
  | 1 => b
  | 2 => c
  | 3 => d
  | _ => e
theorem sep5 : ∀ a b c d e : Bool, ∀ i < 5, ∀ k < 5, sepB ((i : Nat) : Int) ((k : Nat) : Int) (splB a b c d e) = (nth5 a b c d e i != nth5 a b c d e k) := by
  decide +kernel
theorem nth_mem (ms : List Int) {i : Nat} (h : i < 5) : nth5 (decide (0 ∈ ms)) (decide (1 ∈ ms)) (decide (2 ∈ ms)) (decide (3 ∈ ms)) (decide (4 ∈ ms)) i = decide ((i : Int) ∈ ms) := by
  obtain rfl | rfl | rfl | rfl | rfl : i = 0 ∨ i = 1 ∨ i = 2 ∨ i = 3 ∨ i = 4 := by omega
  all_goals rfl
theorem sep_spl {ms : List Int} (hn : ms.Nodup) (h4 : In04 ms) {i k : Nat} (hi : i < 5) (hk : k < 5) : sepB ((i : Nat) : Int) ((k : Nat) : Int) (spl ms) = (decide ((i : Int) ∈ ms) != decide ((k : Int) ∈ ms)) := by
  rw [spl_msk hn h4, sep5 _ _ _ _ _ i hi k hk, nth_mem ms hi, nth_mem ms hk]
/-- the ring's residues -/
theorem ring_res (s : Int) : ∃ a b c d : Nat, a < 2 ∧ b < 3 ∧ c < 4 ∧ d < 5 ∧ ringI s = ringR a b c d := by
  have a1 := fmod_rng (s.fdiv 1) (n := 1 + 1) (by decide)
  have a2 := fmod_rng (s.fdiv 2) (n := 2 + 1) (by decide)
  have a3 := fmod_rng (s.fdiv 6) (n := 3 + 1) (by decide)
  have a4 := fmod_rng (s.fdiv 24) (n := 4 + 1) (by decide)
  refine ⟨((s.fdiv 1).fmod (1 + 1)).toNat, ((s.fdiv 2).fmod (2 + 1)).toNat, ((s.fdiv 6).fmod (3 + 1)).toNat, ((s.fdiv 24).fmod (4 + 1)).toNat, by omega, by omega, by omega, by omega, ?_⟩
  unfold ringR ringI
  rw [Int.toNat_of_nonneg a1.1, Int.toNat_of_nonneg a2.1, Int.toNat_of_nonneg a3.1, Int.toNat_of_nonneg a4.1]
theorem ring_nodup (s : Int) : (ringI s).Nodup := by
  have h0 : ([0] : List Int).Nodup := by decide
  have step : ∀ (ns : List Int) (k x : Int), ns.Nodup → x ∉ ns → (insI ns k x).Nodup := fun ns k x h hx => (insI_perm ns k x).nodup_iff.mpr (List.nodup_cons.mpr ⟨hx, h⟩)
  have bound : ∀ (ns : List Int) (k x m : Int), (∀ n ∈ ns, n < m) → x < m + 1 → ∀ n ∈ insI ns k x, n < m + 1 := fun ns k x m h hx n hn => by
    rcases mem_insI hn with rfl | hn
    · exact hx
    · have := h n hn; omega
  unfold ringI
  have b0 : ∀ n ∈ ([0] : List Int), n < 1 := by decide
  have b1 := bound _ ((s.fdiv 1).fmod (1 + 1)) 1 1 b0 (by decide)
  have b2 := bound _ ((s.fdiv 2).fmod (2 + 1)) 2 _ b1 (by decide)
  have b3 := bound _ ((s.fdiv 6).fmod (3 + 1)) 3 _ b2 (by decide)
  refine step _ _ _ (step _ _ _ (step _ _ _ (step _ _ _ h0 ?_) ?_) ?_) ?_
  · exact fun h => by have := b0 _ h; omega
  · exact fun h => by have := b1 _ h; omega
  · exact fun h => by have := b2 _ h; omega
  · exact fun h => by have := b3 _ h; omega
theorem mkd_nodup (ds : List Int) (s : Int) (j : Nat) : (mkd ds (ringI s) j).Nodup := by
  unfold mkd
  generalize ds.getD j 0 = D
  have b := fmod_rng (D.fdiv 5 - D) (n := 5) (by decide)
  have hl := ringI_len s
  have hr := ring_nodup s
  unfold List.Nodup
  rw [List.pairwise_map]
  refine List.Pairwise.imp_of_mem (fun {t u} ht hu h => ?_) (List.nodup_range (n := (((D).fdiv 5 - D).fmod 5).toNat))
  have ht := List.mem_range.mp ht
  have hu := List.mem_range.mp hu
  have c := fmod_rng (D + (t : Int)) (n := 5) (by decide)
  have d := fmod_rng (D + (u : Int)) (n := 5) (by decide)
  intro e
  rw [List.getD_eq_getElem?_getD, List.getD_eq_getElem?_getD, List.getElem?_eq_getElem (by omega), List.getElem?_eq_getElem (by omega)] at e
  have e2 := (List.getElem_inj hr).mp e
  rw [Int.fmod_eq_emod_of_nonneg _ (by decide), Int.fmod_eq_emod_of_nonneg _ (by decide)] at e2
  have h5 : ((D.fdiv 5 - D).fmod 5).toNat < 5 := (Int.toNat_lt b.1).mpr b.2
  have e3 := congrArg (fun n : Nat => (n : Int)) e2
  rw [Int.toNat_of_nonneg (Int.emod_nonneg _ (by decide)), Int.toNat_of_nonneg (Int.emod_nonneg _ (by decide)), Int.add_comm D, Int.add_comm D, Int.emod_add_cancel_right,
    Int.emod_eq_of_lt (b := 5) (Int.natCast_nonneg t) (Int.ofNat_lt.mpr (Nat.lt_trans ht h5)), Int.emod_eq_of_lt (b := 5) (Int.natCast_nonneg u) (Int.ofNat_lt.mpr (Nat.lt_trans hu h5))] at e3
  exact h (Int.ofNat.inj e3)
end
end Mine
end

/- part Pl3 -/
section
open PySem PySem.W PyProof.Rows
namespace Mine
section
theorem flen (q : Int → Bool) (p : Int) (r : List Int) : ((p :: r).filter q).length = b2n (q p) + (r.filter q).length := by
  rw [List.filter_cons]
  cases q p
  · simp [b2n]
  · simp [b2n]; omega
theorem ccons (x p : Int) (r : List Int) : (p :: r).count x = b2n (p == x) + r.count x := by
  rw [List.count_cons]
  cases p == x
  · simp [b2n]
  · simp [b2n]; omega
noncomputable def sumB (ds rs : List Int) (x y : Int) : Nat → Nat
  | 0 => 0
  | n + 1 => sumB ds rs x y n + b2n (bt ds rs x n != bt ds rs y n)
theorem parts_sum (ds : List Int) (s : Int) {i k : Nat} (hi : i < 5) (hk : k < 5) : ∀ n, ((partsAt ds (ringI s) n).filter (sepB (i : Int) (k : Int))).length = sumB ds (ringI s) i k n
  | 0 => rfl
  | n + 1 => by
    have ih := parts_sum ds s hi hk n
    simp only [partsAt, sumB]
    split
    · rename_i h
      rw [ih]
      unfold bt
      rw [h]
      simp [b2n]
    · rw [flen, ih, sep_spl (mkd_nodup ds s n) (mkd_04 ds s n) hi hk]
      unfold bt
      omega
theorem dst_sn {ds sn : List Int} {s : Int} (hp : sn.Perm (partsAt ds (ringI s) 5)) {i k : Nat} (hi : i < 5) (hk : k < 5) : dst ds (ringI s) (i : Int) (k : Int) = 2 * ((sn.filter (sepB (i : Int) (k : Int))).length : Int) := by
  rw [(hp.filter _).length_eq, parts_sum ds s hi hk]
  unfold dst
  simp only [sumB, Nat.zero_add]
theorem sepB_comm (i k p : Int) : sepB i k p = sepB k i p := by
  unfold sepB
  rw [bne_comm]
theorem sepB_self (i p : Int) : sepB i i p = false := by
  unfold sepB
  exact bne_self_eq_false _
theorem FD_sn {ds sn : List Int} {s : Int} (hp : sn.Perm (partsAt ds (ringI s) 5)) {a b : Nat} (ha : a < 5) (hb : b < 5) : FD (dst ds (ringI s)) (a : Int) (b : Int) = 2 * ((sn.filter (sepB (a : Int) (b : Int))).length : Int) := by
  unfold FD
  rw [Int.toNat_natCast, Int.toNat_natCast, rowI_getD _ _ _ _ hb]
  by_cases h : a = b
  · subst h
    rw [if_neg (by simp)]
    have e : sn.filter (sepB (a : Int) (a : Int)) = [] := by
      refine List.filter_eq_nil_iff.mpr fun p _ => ?_
      rw [sepB_self]
      exact Bool.false_ne_true
    rw [e]
    rfl
  · rw [if_pos ⟨h, Or.inl (by omega)⟩]
    rcases Nat.lt_or_gt_of_ne h with h | h
    · rw [show max a b = b by omega, show min a b = a by omega, dst_sn hp hb ha]
      congr 4
      funext p
      exact sepB_comm _ _ _
    · rw [show max a b = a by omega, show min a b = b by omega, dst_sn hp ha hb]
theorem cross_sum (k : Nat) : ∀ sn : List Int, (sn.filter (sepB (wayN k 4) (wayN k 0))).length + (sn.filter (sepB (wayN k 0) (wayN k 1))).length + (sn.filter (sepB (wayN k 1) (wayN k 2))).length + (sn.filter (sepB (wayN k 2) (wayN k 3))).length + (sn.filter (sepB (wayN k 3) (wayN k 4))).length = (sn.map (crossI k)).sum
  | [] => rfl
  | p :: r => by
    have ih := cross_sum k r
    rw [flen, flen, flen, flen, flen, List.map_cons, List.sum_cons, ← ih]
    unfold crossI
    omega
theorem price_sn {ds sn : List Int} {s : Int} (hp : sn.Perm (partsAt ds (ringI s) 5)) {k : Nat} (hk : k < 12) : prI (dst ds (ringI s)) k = 2 * (((sn.map (crossI k)).sum : Nat) : Int) := by
  obtain ⟨h5, hw⟩ := wayN_ok k hk
  unfold prI
  rw [hw]
  show FD _ ((wayN k 4 : Nat) : Int) ((wayN k 0 : Nat) : Int) + FD _ ((wayN k 0 : Nat) : Int) ((wayN k 1 : Nat) : Int) + FD _ ((wayN k 1 : Nat) : Int) ((wayN k 2 : Nat) : Int) + FD _ ((wayN k 2 : Nat) : Int) ((wayN k 3 : Nat) : Int) + FD _ ((wayN k 3 : Nat) : Int) ((wayN k 4 : Nat) : Int) = _
  rw [FD_sn hp (h5 4 (by decide)) (h5 0 (by decide)), FD_sn hp (h5 0 (by decide)) (h5 1 (by decide)), FD_sn hp (h5 1 (by decide)) (h5 2 (by decide)), FD_sn hp (h5 2 (by decide)) (h5 3 (by decide)), FD_sn hp (h5 3 (by decide)) (h5 4 (by decide)), ← cross_sum]
  omega
theorem mem_parts {ds rs : List Int} {p : Int} : ∀ {n}, p ∈ partsAt ds rs n → ∃ j, j < n ∧ mkd ds rs j ≠ [] ∧ p = spl (mkd ds rs j)
  | 0, h => absurd h List.not_mem_nil
  | n + 1, h => by
    simp only [partsAt] at h
    split at h
    · obtain ⟨j, hj, h⟩ := mem_parts h
      exact ⟨j, by omega, h⟩
    · rename_i hne
      rcases List.mem_cons.mp h with h | h
      · exact ⟨n, by omega, hne, h⟩
      · obtain ⟨j, hj, h⟩ := mem_parts h
        exact ⟨j, by omega, h⟩
theorem kal {ds sn : List Int} {s : Int} (hl : ds.length = 5) (hd : ∀ d ∈ ds, 0 ≤ d ∧ d < 25) (hp : sn.Perm (partsAt ds (ringI s) 5)) : ∃ k, k < 12 ∧ ∀ p ∈ sn, p ∈ P15 ∧ crossI k p = 2 := by
  obtain ⟨a, b, c, d, ha, hb, hc, hd', er⟩ := ring_res s
  have e := enum
  rw [List.all_eq_true] at e
  have e := e a (List.mem_range.mpr ha)
  rw [List.all_eq_true] at e
  have e := e b (List.mem_range.mpr hb)
  rw [List.all_eq_true] at e
  have e := e c (List.mem_range.mpr hc)
  rw [List.all_eq_true] at e
  have e := e d (List.mem_range.mpr hd')
  unfold okR at e
  obtain ⟨k, hk, e⟩ := List.any_eq_true.mp e
  rw [List.all_eq_true] at e
  refine ⟨k, List.mem_range.mp hk, fun p hm => ?_⟩
  obtain ⟨j, hj, hne, rfl⟩ := mem_parts (hp.mem_iff.mp hm)
  have hj' : j < ds.length := by omega
  have hx := hd _ (List.getElem_mem hj')
  have ex : ds.getD j 0 = ds[j] := by rw [List.getD_eq_getElem?_getD, List.getElem?_eq_getElem hj']; rfl
  have e := e (ds[j]).toNat (List.mem_range.mpr (by omega))
  have em : mkd [((ds[j].toNat : Nat) : Int)] (ringR a b c d) 0 = mkd ds (ringI s) j := by
    rw [er, Int.toNat_of_nonneg hx.1, ← ex]
    rfl
  unfold okD at e
  rw [em] at e
  simp only [Bool.or_eq_true, Bool.and_eq_true, List.isEmpty_iff, List.contains_iff_mem, beq_iff_eq] at e
  rcases e with e | e
  · exact absurd e hne
  · exact e
theorem sum_two {c : Int → Nat} : ∀ {sn : List Int}, (∀ p ∈ sn, 2 ≤ c p) → 2 * sn.length ≤ (sn.map c).sum ∧ ((sn.map c).sum ≤ 2 * sn.length → ∀ p ∈ sn, c p = 2)
  | [], _ => ⟨Nat.le_refl _, fun _ p h => absurd h List.not_mem_nil⟩
  | p :: r, h => by
    obtain ⟨h1, h2⟩ := sum_two (c := c) (sn := r) fun x hx => h x (List.mem_cons_of_mem _ hx)
    have h0 := h p List.mem_cons_self
    rw [List.map_cons, List.sum_cons, List.length_cons]
    refine ⟨by omega, fun hle x hx => ?_⟩
    rcases List.mem_cons.mp hx with rfl | hx
    · omega
    · exact h2 (by omega) x hx
theorem sum_eq {c : Int → Nat} : ∀ {sn : List Int}, (∀ p ∈ sn, c p = 2) → (sn.map c).sum = 2 * sn.length
  | [], _ => rfl
  | p :: r, h => by
    have ih := sum_eq (c := c) (sn := r) fun x hx => h x (List.mem_cons_of_mem _ hx)
    have h0 := h p List.mem_cons_self
    rw [List.map_cons, List.sum_cons, List.length_cons]
    omega
theorem four_add {x1 x2 x3 x4 c r1 r2 r3 r4 d : Nat} (q : x1 + x2 = x3 + x4 + 2 * c) (h : r1 + r2 = r3 + r4 + 2 * d) : x1 + r1 + (x2 + r2) = x3 + r3 + (x4 + r4) + 2 * (c + d) := by
  rw [Nat.add_add_add_comm x1, q, h, Nat.add_add_add_comm x3, Nat.mul_add, Nat.add_add_add_comm (x3 + x4)]
theorem four_sn {k g j : Nat} (hk : k < 12) (hg : g < 4) (hj : j < 4 - g) : ∀ {sn : List Int}, (∀ p ∈ sn, p ∈ P15 ∧ crossI k p = 2) →
    (sn.filter (sepB (wayN k g) (wayN k (g + 1 + j)))).length + (sn.filter (sepB (wayN k ((g + 4) % 5)) (wayN k ((g + 1 + j + 4) % 5)))).length =
    (sn.filter (sepB (wayN k g) (wayN k ((g + 1 + j + 4) % 5)))).length + (sn.filter (sepB (wayN k ((g + 4) % 5)) (wayN k (g + 1 + j)))).length + 2 * sn.count (spl (arcI (wayN k) g (g + 1 + j)))
  | [], _ => rfl
  | p :: r, h => by
    have ih := four_sn hk hg hj (sn := r) fun x hx => h x (List.mem_cons_of_mem _ hx)
    obtain ⟨h1, h2⟩ := h p List.mem_cons_self
    have q := four k hk p h1 h2 g hg j hj
    unfold q4 at q
    have q := eq_of_beq q
    rw [flen, flen, flen, flen, ccons]
    exact four_add q ih
theorem inS_add {c c1 c2 : Nat → Nat → Int} (h : ∀ g j, c g j = c1 g j + c2 g j) (g : Nat) : ∀ j, inS c g j = inS c1 g j + inS c2 g j
  | 0 => rfl
  | j + 1 => by
    simp only [inS]
    rw [inS_add h g j, h]
    omega
theorem outT_add {c c1 c2 : Nat → Nat → Int} (h : ∀ g j, c g j = c1 g j + c2 g j) : ∀ g, outT c g = outT c1 g + outT c2 g
  | 0 => rfl
  | g + 1 => by
    simp only [outT]
    rw [outT_add h g, inS_add h]
    omega
theorem once_sn {k : Nat} (hk : k < 12) : ∀ {sn : List Int}, (∀ p ∈ sn, p ∈ P15 ∧ crossI k p = 2) → outT (cntI sn (wayN k)) 4 = (sn.length : Int)
  | [], _ => by
    have e : cntI [] (wayN k) = fun _ _ => 0 := by funext g h; rfl
    rw [e]
    rfl
  | p :: r, h => by
    have ih := once_sn hk (sn := r) fun x hx => h x (List.mem_cons_of_mem _ hx)
    obtain ⟨h1, h2⟩ := h p List.mem_cons_self
    rw [outT_add (c1 := fun g h => ((b2n (p == spl (arcI (wayN k) g h)) : Nat) : Int)) (c2 := cntI r (wayN k)) (fun g j => by unfold cntI; rw [ccons]; omega) 4, ih, once k hk p h1 h2, List.length_cons]
    omega
theorem plain {ds sn : List Int} {s : Int} {x0 : Nat} (hl : ds.length = 5) (hd : ∀ d ∈ ds, 0 ≤ d ∧ d < 25) (hp : sn.Perm (partsAt ds (ringI s) 5)) (hx : x0 < 12) (hm : ∀ n < 12, prI (dst ds (ringI s)) x0 ≤ prI (dst ds (ringI s)) n) :
    prI (dst ds (ringI s)) x0 = 4 * (sn.length : Int) ∧
    (∀ g k : Nat, g < 4 → k < 4 - g → FD (dst ds (ringI s)) ((wayN x0 g : Nat) : Int) ((wayN x0 (g + 1 + k) : Nat) : Int) + FD (dst ds (ringI s)) ((wayN x0 ((g + 4) % 5) : Nat) : Int) ((wayN x0 ((g + 1 + k + 4) % 5) : Nat) : Int) - (FD (dst ds (ringI s)) ((wayN x0 g : Nat) : Int) ((wayN x0 ((g + 1 + k + 4) % 5) : Nat) : Int) + FD (dst ds (ringI s)) ((wayN x0 ((g + 4) % 5) : Nat) : Int) ((wayN x0 (g + 1 + k) : Nat) : Int)) = 4 * cntI sn (wayN x0) g (g + 1 + k)) ∧
    outT (cntI sn (wayN x0)) 4 = (sn.length : Int) := by
  obtain ⟨k, hk, hkp⟩ := kal hl hd hp
  have m1 := hm k hk
  rw [price_sn hp hx, price_sn hp hk, sum_eq fun p q => (hkp p q).2] at m1
  obtain ⟨t1, t2⟩ := sum_two (c := crossI x0) (sn := sn) fun p q => cross_ge x0 hx p (hkp p q).1
  have al := t2 (by omega)
  have al2 : ∀ p ∈ sn, p ∈ P15 ∧ crossI x0 p = 2 := fun p q => ⟨(hkp p q).1, al p q⟩
  obtain ⟨h5, -⟩ := wayN_ok x0 hx
  refine ⟨?_, fun g j hg hj => ?_, once_sn hx al2⟩
  · rw [price_sn hp hx, sum_eq al]
    omega
  · have f := four_sn hx hg hj al2
    rw [FD_sn hp (h5 _ (by omega)) (h5 _ (by omega)), FD_sn hp (h5 _ (by omega)) (h5 _ (by omega)), FD_sn hp (h5 _ (by omega)) (h5 _ (by omega)), FD_sn hp (h5 _ (by omega)) (h5 _ (by omega))]
    unfold cntI
    omega
theorem prG (f : Nat → Int) {n : Nat} (h : n < 12) : ((List.range 12).map f).getD n 0 = f n := by
  rw [List.getD_eq_getElem?_getD, List.getElem?_map, List.getElem?_range h]
  rfl
theorem row_least {f : Nat → Int} {ns : List Int} {x0 : Int} (h : RowOK (fun v => ((List.range 12).map f).getD v.toNat 0) 12 ns) (hx : ns[0]? = some x0) (h0 : 0 ≤ x0) (h1 : x0 < 12) : ∀ n < 12, f x0.toNat ≤ f n := by
  intro n hn
  have z := h.least hx (n := (n : Int)) (Int.natCast_nonneg _) (by omega)
  rw [Int.toNat_natCast, prG f hn, prG f (by omega)] at z
  exact z
theorem elimS4 {α β γ δ ε ζ : Type} {P : α × (β × γ × δ) × ε × ζ → Prop} (h : ∀ oJ sv sn se ns ts, P (oJ, (sv, sn, se), ns, ts)) : ∀ c, P c := fun ⟨oJ, ⟨sv, sn, se⟩, ns, ts⟩ => h oJ sv sn se ns ts
theorem elimP2 {α0 α1 : Type} {P : α0 × α1 → Prop} (h : ∀ a0 a1, P (a0, a1)) : ∀ c, P c := fun ⟨a0, a1⟩ => h a0 a1
theorem elimP3 {α0 α1 α2 : Type} {P : α0 × α1 × α2 → Prop} (h : ∀ a0 a1 a2, P (a0, a1, a2)) : ∀ c, P c := fun ⟨a0, a1, a2⟩ => h a0 a1 a2
theorem elimP4 {α0 α1 α2 α3 : Type} {P : α0 × α1 × α2 × α3 → Prop} (h : ∀ a0 a1 a2 a3, P (a0, a1, a2, a3)) : ∀ c, P c := fun ⟨a0, a1, a2, a3⟩ => h a0 a1 a2 a3
theorem elimP5 {α0 α1 α2 α3 α4 : Type} {P : α0 × α1 × α2 × α3 × α4 → Prop} (h : ∀ a0 a1 a2 a3 a4, P (a0, a1, a2, a3, a4)) : ∀ c, P c := fun ⟨a0, a1, a2, a3, a4⟩ => h a0 a1 a2 a3 a4
theorem elimP7 {α0 α1 α2 α3 α4 α5 α6 : Type} {P : α0 × α1 × α2 × α3 × α4 × α5 × α6 → Prop} (h : ∀ a0 a1 a2 a3 a4 a5 a6, P (a0, a1, a2, a3, a4, a5, a6)) : ∀ c, P c := fun ⟨a0, a1, a2, a3, a4, a5, a6⟩ => h a0 a1 a2 a3 a4 a5 a6
theorem elimFar {P : Obj × Addr × Nat × (Addr × Nat × Tok) × (Addr × Nat × Tok) × (Addr × Nat × Tok) × (Addr × Nat × Tok) × (Addr × Nat × Tok) → Prop} (h : ∀ oF fr e7 (f : Nat → Addr) (e : Nat → Nat) (o : Nat → Tok), P (oF, fr, e7, (f 0, e 0, o 0), (f 1, e 1, o 1), (f 2, e 2, o 2), (f 3, e 3, o 3), (f 4, e 4, o 4))) : ∀ c, P c := fun ⟨oF, fr, e7, ⟨f0, i0, o0⟩, ⟨f1, i1, o1⟩, ⟨f2, i2, o2⟩, ⟨f3, i3, o3⟩, ⟨f4, i4, o4⟩⟩ =>
  h oF fr e7 (fun | 0 => f0 | 1 => f1 | 2 => f2 | 3 => f3 | _ => f4) (fun | 0 => i0 | 1 => i1 | 2 => i2 | 3 => i3 | _ => i4) (fun | 0 => o0 | 1 => o1 | 2 => o2 | 3 => o3 | _ => o4)
theorem all5 {P : Nat → Prop} (h0 : P 0) (h1 : P 1) (h2 : P 2) (h3 : P 3) (h4 : P 4) : ∀ a : Nat, a < 5 → P a
  | 0, _ => h0
  | 1, _ => h1
  | 2, _ => h2
  | 3, _ => h3
  | 4, _ => h4
  | n + 5, h => absurd h (by omega)
theorem inc5 {f : Nat → Nat} (h0 : f 0 < f 1) (h1 : f 1 < f 2) (h2 : f 2 < f 3) (h3 : f 3 < f 4) (a b : Nat) (h : a < b) : b < 5 → f a < f b := by
  have st : ∀ a, a < 5 → a < 4 → f a < f (a + 1) := all5 (fun _ => h0) (fun _ => h1) (fun _ => h2) (fun _ => h3) (fun q => absurd q (Nat.lt_irrefl 4))
  induction h with
  | refl => exact fun q => st a (Nat.lt_of_succ_lt q) (Nat.lt_of_succ_lt_succ q)
  | step _ ih => exact fun q => Nat.lt_trans (ih (Nat.lt_of_succ_lt q)) (st _ (Nat.lt_of_succ_lt q) (Nat.lt_of_succ_lt_succ q))
theorem wPr_range (D : Int → Int → Int) (wn : Nat → Nat) : ((rangeKs 0 5).map fun t => FD D ((wn ((t.toNat + 4) % 5) : Nat) : Int) ((wn t.toNat : Nat) : Int)).sum = wPr D ((List.range 5).map fun j => ((wn j : Nat) : Int)) := by
  show FD D ((wn 4 : Nat) : Int) ((wn 0 : Nat) : Int) + (FD D ((wn 0 : Nat) : Int) ((wn 1 : Nat) : Int) + (FD D ((wn 1 : Nat) : Int) ((wn 2 : Nat) : Int) + (FD D ((wn 2 : Nat) : Int) ((wn 3 : Nat) : Int) + (FD D ((wn 3 : Nat) : Int) ((wn 4 : Nat) : Int) + 0)))) = _
  exact wPr_sum _ _ _ _ _ _
theorem news_front {h₀ h : Heap} {L : Addr} {news : List (Addr × Obj)} {p : Addr × Obj} (N : News h₀ L h news) (hp : p ∈ news) : News h₀ L h (p :: news) := fun q hq => by
  rcases List.mem_cons.mp hq with rfl | hq
  · exact N _ hp
  · exact N q hq
theorem news_mid {h₀ h : Heap} {L : Addr} {A W R : List (Addr × Obj)} {y : Addr × Obj} (N : News h₀ L h (y :: (W ++ (A ++ R)))) : News h₀ L h (A ++ (y :: (W ++ R))) := fun p hp => by
  rcases List.mem_append.mp hp with h | h
  · exact N p (.tail _ (List.mem_append_right _ (List.mem_append_left _ h)))
  rcases List.mem_cons.mp h with rfl | h
  · exact N _ (.head _)
  rcases List.mem_append.mp h with h | h
  · exact N p (.tail _ (List.mem_append_left _ h))
  · exact N p (.tail _ (List.mem_append_right _ (List.mem_append_right _ h)))
theorem elimS11 {α β γ δ ε ζ : Type} {P : α × (β × γ × δ) × ε × ζ → Prop} (h : ∀ oK re rvs rns tab codes, P (oK, (re, rvs, rns), tab, codes)) : ∀ c, P c := fun ⟨oK, ⟨re, rvs, rns⟩, tab, codes⟩ => h oK re rvs rns tab codes
theorem Cl.useT {k : Nat} {w : World} {K : Frag} {p : Program} {f : Addr} {news : List (Addr × Obj)} {vs : List Value}
    {mean : ExcName → Option Value} {mg mb : PySem.Str → Option Value} {cn : PySem.Str} {cs : Scope} {a : Addr} {ccd : Value} {h₀ : Heap} {L : Addr} {m : PySem.Str → Option Value} {s : Shared} {Q E : Value → Shared → Prop} {G : Tok → Value}
    (B : Below callerA h₀ [] h₀) (F : Fr h₀ L s.heap m) (X : K.In h₀) (N : News h₀ L s.heap news) (T : Top p LS mean mg mb h₀) (C : Cl k w K p f news vs (fun r news' => news' = news ∧ ∃ t, r = G t)) (hk : cs.kind = .function) (hk4 : k ≤ 4)
    (ret : ∀ t h' tk', Fr h₀ L h' m → News h₀ L h' news → Q (G t) { s with heap := h', toks := tk' }) :
    wpAny (model PySem.Challenge.rw_sr0044_01.row.prog w) (callerA.deeper (envOfC cn cs L a ccd)) (call (.ref f) vs) Q E s :=
  Cl.useC B F X N T C hk hk4 (fun r n h' tk' F' N' hP => by obtain ⟨hn, t, hr⟩ := hP; subst hn hr; exact ret t h' tk' F' N')
theorem Cl.useB {k : Nat} {w : World} {K : Frag} {p : Program} {f : Addr} {news : List (Addr × Obj)} {vs : List Value}
    {mean : ExcName → Option Value} {mg mb : PySem.Str → Option Value} {cn : PySem.Str} {cs : Scope} {a : Addr} {ccd : Value} {h₀ : Heap} {L : Addr} {m : PySem.Str → Option Value} {s : Shared} {Q E : Value → Shared → Prop} {Bq : Int → Prop}
    (B : Below callerA h₀ [] h₀) (F : Fr h₀ L s.heap m) (X : K.In h₀) (N : News h₀ L s.heap news) (T : Top p LS mean mg mb h₀) (C : Cl k w K p f news vs (fun r news' => news' = news ∧ ∃ k t, r = .int k t ∧ Bq k)) (hk : cs.kind = .function) (hk4 : k ≤ 4)
    (ret : ∀ k t h' tk', Fr h₀ L h' m → News h₀ L h' news → Bq k → Q (.int k t) { s with heap := h', toks := tk' }) :
    wpAny (model PySem.Challenge.rw_sr0044_01.row.prog w) (callerA.deeper (envOfC cn cs L a ccd)) (call (.ref f) vs) Q E s :=
  Cl.useC B F X N T C hk hk4 (fun r n h' tk' F' N' hP => by obtain ⟨hn, k, t, hr, hB⟩ := hP; subst hn hr; exact ret k t h' tk' F' N' hB)
theorem Cl.useI {k : Nat} {w : World} {K : Frag} {p : Program} {f : Addr} {news : List (Addr × Obj)} {vs : List Value}
    {mean : ExcName → Option Value} {mg mb : PySem.Str → Option Value} {cn : PySem.Str} {cs : Scope} {a : Addr} {ccd : Value} {h₀ : Heap} {L : Addr} {m : PySem.Str → Option Value} {s : Shared} {Q E : Value → Shared → Prop} {l : Addr} {e : Nat} {rest : List (Addr × Obj)} {I : Int → List Int} {Bq : Int → Prop}
    (B : Below callerA h₀ [] h₀) (F : Fr h₀ L s.heap m) (X : K.In h₀) (N : News h₀ L s.heap news) (T : Top p LS mean mg mb h₀) (C : Cl k w K p f news vs (fun r news' => ∃ k vs', r = .none ∧ news' = (l, listOf (List.toArray vs') e) :: rest ∧ IntsAre vs' (I k) ∧ Bq k)) (hk : cs.kind = .function) (hk4 : k ≤ 4)
    (ret : ∀ k vs' h' tk', Fr h₀ L h' m → News h₀ L h' ((l, listOf (List.toArray vs') e) :: rest) → IntsAre vs' (I k) → Bq k → Q .none { s with heap := h', toks := tk' }) :
    wpAny (model PySem.Challenge.rw_sr0044_01.row.prog w) (callerA.deeper (envOfC cn cs L a ccd)) (call (.ref f) vs) Q E s :=
  Cl.useC B F X N T C hk hk4 (fun r n h' tk' F' N' hP => by obtain ⟨k, v, hr, hn, hI, hB⟩ := hP; subst hn hr; exact ret k v h' tk' F' N' hI hB)
theorem Cl.useW {k : Nat} {w : World} {K : Frag} {p : Program} {f : Addr} {news : List (Addr × Obj)} {vs : List Value}
    {mean : ExcName → Option Value} {mg mb : PySem.Str → Option Value} {cn : PySem.Str} {cs : Scope} {a : Addr} {ccd : Value} {h₀ : Heap} {L : Addr} {m : PySem.Str → Option Value} {s : Shared} {Q E : Value → Shared → Prop} {W : Addr → List WayO → Prop} {O : Addr → Prop}
    (B : Below callerA h₀ [] h₀) (F : Fr h₀ L s.heap m) (X : K.In h₀) (N : News h₀ L s.heap news) (T : Top p LS mean mg mb h₀) (C : Cl k w K p f news vs (fun r news' => ∃ (wy : Addr) (e : Nat) (c : List WayO), r = .ref wy ∧ news' = (wy, listOf (List.toArray (wRefs c)) e) :: (wObjs c ++ news) ∧ W wy c ∧ O wy)) (hk : cs.kind = .function) (hk4 : k ≤ 4)
    (ret : ∀ wy e c h' tk', Fr h₀ L h' m → News h₀ L h' ((wy, listOf (List.toArray (wRefs c)) e) :: (wObjs c ++ news)) → W wy c → O wy → Q (.ref wy) { s with heap := h', toks := tk' }) :
    wpAny (model PySem.Challenge.rw_sr0044_01.row.prog w) (callerA.deeper (envOfC cn cs L a ccd)) (call (.ref f) vs) Q E s :=
  Cl.useC B F X N T C hk hk4 (fun r n h' tk' F' N' hP => by obtain ⟨wy, e, c, hr, hn, hW, hl⟩ := hP; subst hn hr; exact ret wy e c h' tk' F' N' hW hl)
noncomputable def LtMark : Prop := True
theorem lt_get {d : Addr} {news : List (Addr × Obj)} (h : ∀ p ∈ news, p.1 < d) {a : Addr} {o : Obj} (m : (a, o) ∈ news) : @LT.lt Nat _ a d := h _ m
/-- a list of five ints, of five strings, by a function of the place -/
def NumsOk (l : List Value) (f : Nat → Int) : Prop := l.length = 5 ∧ ∀ q < 5, ∃ t, l[q]? = some (.int (f q) t)
def TxtsOk (l : List Value) (f : Nat → PySem.Str) : Prop := l.length = 5 ∧ ∀ q < 5, ∃ t, l[q]? = some (.str (f q) t)
theorem NumsOk.get {l : List Value} {f : Nat → Int} (h : NumsOk l f) {k : Nat} (hk : k < 5) : ∃ t, ItemIs l (k : Int) (.int (f k) t) := by
  obtain ⟨t, e⟩ := h.2 k hk
  exact ⟨t, ItemIs.nat (by omega) e⟩
theorem TxtsOk.get {l : List Value} {f : Nat → PySem.Str} (h : TxtsOk l f) {k : Nat} (hk : k < 5) : ∃ t, ItemIs l (k : Int) (.str (f k) t) := by
  obtain ⟨t, e⟩ := h.2 k hk
  exact ⟨t, ItemIs.nat (by omega) e⟩
theorem NumsOk.lt {l : List Value} {f : Nat → Int} (h : NumsOk l f) {k : Nat} (hk : k < 5) : k < l.length := by rw [h.1]; exact hk
theorem TxtsOk.lt {l : List Value} {f : Nat → PySem.Str} (h : TxtsOk l f) {k : Nat} (hk : k < 5) : k < l.length := by rw [h.1]; exact hk
theorem NumsOk.put {l : List Value} {f g : Nat → Int} (h : NumsOk l f) {k : Nat} {v : Int} {t : Tok} (hv : g k = v) (hg : ∀ q, q ≠ k → g q = f q) : NumsOk (l.set k (.int v t)) g := by
  refine ⟨by rw [List.length_set]; exact h.1, fun q hq => ?_⟩
  by_cases e : q = k
  · subst e
    exact ⟨t, by rw [List.getElem?_set_self (by rw [h.1]; exact hq), hv]⟩
  · obtain ⟨t2, e2⟩ := h.2 q hq
    exact ⟨t2, by rw [List.getElem?_set_ne (fun z => e z.symm), e2, hg q e]⟩
theorem TxtsOk.put {l : List Value} {f g : Nat → PySem.Str} (h : TxtsOk l f) {k : Nat} {v : PySem.Str} {t : Tok} (hv : g k = v) (hg : ∀ q, q ≠ k → g q = f q) : TxtsOk (l.set k (.str v t)) g := by
  refine ⟨by rw [List.length_set]; exact h.1, fun q hq => ?_⟩
  by_cases e : q = k
  · subst e
    exact ⟨t, by rw [List.getElem?_set_self (by rw [h.1]; exact hq), hv]⟩
  · obtain ⟨t2, e2⟩ := h.2 q hq
    exact ⟨t2, by rw [List.getElem?_set_ne (fun z => e z.symm), e2, hg q e]⟩
theorem kw_cons {n : Nat} {V : Nat → Tok → Value} {P : List Value → Prop}
    (k : ∀ t us, us.length = n → (∀ q, q < n → ∃ t, us[q]? = some (V (q + 1) t)) → P (V 0 t :: us)) : ∀ us : List Value, us.length = n + 1 → (∀ q, q < n + 1 → ∃ t, us[q]? = some (V q t)) → P us
  | [], hu, _ => absurd hu (Nat.ne_of_lt (Nat.succ_pos n))
  | _ :: us, hu, hq => (hq 0 (Nat.succ_pos n)).elim fun t h => Option.some.inj h ▸ k t us (Nat.succ.inj hu) fun q h => hq (q + 1) (Nat.succ_lt_succ h)
theorem five_of {us : List Value} {V : Nat → Tok → Value} {P : List Value → Prop} (hu : us.length = 5) (hq : ∀ q, q < 5 → ∃ t, us[q]? = some (V q t))
    (k : ∀ t0 t1 t2 t3 t4, P [V 0 t0, V 1 t1, V 2 t2, V 3 t3, V 4 t4]) : P us :=
  kw_cons (fun t0 _ hu hq => kw_cons (P := fun l => P (_ :: l)) (fun t1 _ hu hq => kw_cons (P := fun l => P (_ :: _ :: l)) (fun t2 _ hu hq => kw_cons (P := fun l => P (_ :: _ :: _ :: l)) (fun t3 _ hu hq => kw_cons (P := fun l => P (_ :: _ :: _ :: _ :: l)) (fun t4 _ hu _ => (List.length_eq_zero_iff.mp hu).symm ▸ k t0 t1 t2 t3 t4) _ hu hq) _ hu hq) _ hu hq) _ hu hq) us hu hq
theorem elimN {l : List Value} {f : Nat → Int} (h : NumsOk l f) {P : List Value → Prop} (k : ∀ t0 t1 t2 t3 t4, P [.int (f 0) t0, .int (f 1) t1, .int (f 2) t2, .int (f 3) t3, .int (f 4) t4]) : P l := five_of (V := fun q t => .int (f q) t) h.1 h.2 k
theorem elimT {l : List Value} {f : Nat → PySem.Str} (h : TxtsOk l f) {P : List Value → Prop} (k : ∀ t0 t1 t2 t3 t4, P [.str (f 0) t0, .str (f 1) t1, .str (f 2) t2, .str (f 3) t3, .str (f 4) t4]) : P l := five_of (V := fun q t => .str (f q) t) h.1 h.2 k
/-- the numbers (the strings) in turn i, the names below k being through -/
noncomputable def numK (ds rs : List Int) (i k q : Nat) : Int := numAt ds rs (q : Int) (i + if q < k then 1 else 0)
noncomputable def txtK (ds rs : List Int) (i k q : Nat) : PySem.Str := txtAt ds rs (q : Int) (i + if q < k then 1 else 0)
theorem numK_0 (ds rs : List Int) (i : Nat) : numK ds rs i 0 = fun q : Nat => numAt ds rs (q : Int) i := by
  funext q
  unfold numK
  rw [if_neg (Nat.not_lt_zero _)]
  rfl
theorem txtK_0 (ds rs : List Int) (i : Nat) : txtK ds rs i 0 = fun q : Nat => txtAt ds rs (q : Int) i := by
  funext q
  unfold txtK
  rw [if_neg (Nat.not_lt_zero _)]
  rfl
theorem nums_5 {ds rs : List Int} {i : Nat} {l : List Value} (h : NumsOk l (numK ds rs i 5)) : NumsOk l (fun q : Nat => numAt ds rs (q : Int) (i + 1)) :=
  ⟨h.1, fun q hq => by obtain ⟨t, e⟩ := h.2 q hq; unfold numK at e; rw [if_pos hq] at e; exact ⟨t, e⟩⟩
theorem txts_5 {ds rs : List Int} {i : Nat} {l : List Value} (h : TxtsOk l (txtK ds rs i 5)) : TxtsOk l (fun q : Nat => txtAt ds rs (q : Int) (i + 1)) :=
  ⟨h.1, fun q hq => by obtain ⟨t, e⟩ := h.2 q hq; unfold txtK at e; rw [if_pos hq] at e; exact ⟨t, e⟩⟩
theorem numK_self (ds rs : List Int) (i k : Nat) : numK ds rs i k k = numAt ds rs (k : Int) i := by
  unfold numK; rw [if_neg (Nat.lt_irrefl _)]; rfl
theorem txtK_self (ds rs : List Int) (i k : Nat) : txtK ds rs i k k = txtAt ds rs (k : Int) i := by
  unfold txtK; rw [if_neg (Nat.lt_irrefl _)]; rfl
theorem numK_s (ds rs : List Int) (i k : Nat) : numK ds rs i (k + 1) k = numAt ds rs (k : Int) (i + 1) := by
  unfold numK; rw [if_pos (Nat.lt_succ_self _)]
theorem txtK_s (ds rs : List Int) (i k : Nat) : txtK ds rs i (k + 1) k = txtAt ds rs (k : Int) (i + 1) := by
  unfold txtK; rw [if_pos (Nat.lt_succ_self _)]
theorem numK_n (ds rs : List Int) (i k q : Nat) (h : q ≠ k) : numK ds rs i (k + 1) q = numK ds rs i k q := by
  unfold numK
  by_cases e : q < k
  · rw [if_pos e, if_pos (by omega)]
  · rw [if_neg e, if_neg (by omega)]
theorem txtK_n (ds rs : List Int) (i k q : Nat) (h : q ≠ k) : txtK ds rs i (k + 1) q = txtK ds rs i k q := by
  unfold txtK
  by_cases e : q < k
  · rw [if_pos e, if_pos (by omega)]
  · rw [if_neg e, if_neg (by omega)]
theorem nums_T {ds rs : List Int} {i k : Nat} {l : List Value} {t : Tok} (h : NumsOk l (numK ds rs i k)) (hb : ((mkd ds rs i).any fun x => x == (k : Int)) = true) : NumsOk (l.set k (.int (numK ds rs i k k * 16 + (2 * (0 + (i : Int)) + 2)) t)) (numK ds rs i (k + 1)) :=
  h.put (by rw [numK_s, ← numAt_T rfl hb, numK_self]) (numK_n ds rs i k)
theorem nums_F {ds rs : List Int} {i k : Nat} {l : List Value} {t : Tok} (h : NumsOk l (numK ds rs i k)) (hb : ((mkd ds rs i).any fun x => x == (k : Int)) = false) : NumsOk (l.set k (.int (numK ds rs i k k * 16 + (2 * (0 + (i : Int)) + 1)) t)) (numK ds rs i (k + 1)) :=
  h.put (by rw [numK_s, ← numAt_F rfl hb, numK_self]) (numK_n ds rs i k)
theorem txts_T {ds rs : List Int} {i k : Nat} {l : List Value} {t : Tok} (h : TxtsOk l (txtK ds rs i k)) (hb : ((mkd ds rs i).any fun x => x == (k : Int)) = true) : TxtsOk (l.set k (.str (txtK ds rs i k k ++ Txt.item (Str.ofString "ABCDEFGHIJK") (2 * (0 + (i : Int)) + 2)) t)) (txtK ds rs i (k + 1)) :=
  h.put (by rw [txtK_s, ← txtAt_T rfl hb, txtK_self]) (txtK_n ds rs i k)
theorem txts_F {ds rs : List Int} {i k : Nat} {l : List Value} {t : Tok} (h : TxtsOk l (txtK ds rs i k)) (hb : ((mkd ds rs i).any fun x => x == (k : Int)) = false) : TxtsOk (l.set k (.str (txtK ds rs i k k ++ Txt.item (Str.ofString "ABCDEFGHIJK") (2 * (0 + (i : Int)) + 1)) t)) (txtK ds rs i (k + 1)) :=
  h.put (by rw [txtK_s, ← txtAt_F rfl hb, txtK_self]) (txtK_n ds rs i k)
theorem txtK_len (ds rs : List Int) {i k q : Nat} (hi : i < 5) : (txtK ds rs i k q).length ≤ 10 := by
  unfold txtK
  rw [txtAt_len]
  split <;> omega
theorem nums_0 {ds rs : List Int} {t : Tok} : NumsOk [.int 0 t, .int 0 t, .int 0 t, .int 0 t, .int 0 t] (fun q : Nat => numAt ds rs (q : Int) 0) :=
  ⟨rfl, all5 ⟨t, rfl⟩ ⟨t, rfl⟩ ⟨t, rfl⟩ ⟨t, rfl⟩ ⟨t, rfl⟩⟩
theorem txts_0 {ds rs : List Int} {t : Tok} : TxtsOk [.str (Str.ofString "") t, .str (Str.ofString "") t, .str (Str.ofString "") t, .str (Str.ofString "") t, .str (Str.ofString "") t] (fun q : Nat => txtAt ds rs (q : Int) 0) :=
  ⟨rfl, all5 ⟨t, rfl⟩ ⟨t, rfl⟩ ⟨t, rfl⟩ ⟨t, rfl⟩ ⟨t, rfl⟩⟩
/-- the word of a number -/
noncomputable def WordIs (n : Int) (p : PySem.Str) : Prop := ∃ a b c d e, (-n).natAbs = num5 a b c d e ∧ p = txt5 a b c d e
theorem WordIs.of (ds rs : List Int) (k : Int) : WordIs (numAt ds rs k 5) (txtAt ds rs k 5) :=
  ⟨_, _, _, _, _, by rw [Int.natAbs_neg, num_bt]; rfl, txt_bt ds rs k⟩
theorem WordIs.lt {n : Int} {p : PySem.Str} (h : WordIs n p) : (-n).natAbs < 16 ^ 8 := by
  obtain ⟨a, b, c, d, e, h, -⟩ := h
  rw [h]
  exact num5_lt _ _ _ _ _
theorem WordIs.ok {n : Int} {p : PySem.Str} (h : WordIs n p) : PyData.strOk p = true := by
  obtain ⟨a, b, c, d, e, -, rfl⟩ := h
  exact strOk5 _ _ _ _ _
theorem decodeW {prog : Program} {w : World} {A : Around} {E : Value → Shared → Prop} {s : Shared} {t t1 : Tok} {Q : Value → Shared → Prop} {n : Int} {p : PySem.Str} (hN : WordIs n p) (h : ∀ t' k, Q (.str p t') { s with toks := k }) :
    wpAny (model prog w) A (call (.builtin "bytes.decode") [.bytes (apM 8 (-n).natAbs []).toArray t, .str (PySem.Str.ofString "ascii") t1]) Q E s := by
  obtain ⟨a, b, c, d, e, h1, rfl⟩ := hN
  exact decodeA h1 h
theorem elimW {ds rs : List Int} {P : List Value → List Value → Prop}
    (k : ∀ n0 n1 n2 n3 n4 p0 p1 p2 p3 p4 t0 t1 t2 t3 t4 u0 u1 u2 u3 u4, WordIs n0 p0 → WordIs n1 p1 → WordIs n2 p2 → WordIs n3 p3 → WordIs n4 p4 → p0 = txtAt ds rs 0 5 → p1 = txtAt ds rs 1 5 → p2 = txtAt ds rs 2 5 → p3 = txtAt ds rs 3 5 → p4 = txtAt ds rs 4 5 →
      P [.int n0 t0, .int n1 t1, .int n2 t2, .int n3 t3, .int n4 t4] [.str p0 u0, .str p1 u1, .str p2 u2, .str p3 u3, .str p4 u4]) : ∀ ns ts, NumsOk ns (fun q : Nat => numAt ds rs (q : Int) 5) → TxtsOk ts (fun q : Nat => txtAt ds rs (q : Int) 5) → P ns ts := fun ns ts hN hT =>
  elimN hN (P := fun l => P l ts) fun _ _ _ _ _ => elimT hT (P := fun l => P _ l) fun _ _ _ _ _ => k _ _ _ _ _ _ _ _ _ _ _ _ _ _ _ _ _ _ _ _ (WordIs.of ds rs _) (WordIs.of ds rs _) (WordIs.of ds rs _) (WordIs.of ds rs _) (WordIs.of ds rs _) rfl rfl rfl rfl rfl
/-- the own iterator stands off the ledger: the addresses are those of the ledger before -/
theorem off_same {l l' : List (Addr × Obj)} {I : Addr} {o : Obj} (h : ∀ p ∈ l, p.1 ≠ I) (e : l'.map Prod.fst = l.map Prod.fst) : ∀ p ∈ [(I, o)], ∀ q ∈ l', p.1 ≠ q.1 := by
  intro p hp q hq z
  rw [List.mem_singleton.mp hp] at z
  have hm : q.1 ∈ l.map Prod.fst := e ▸ List.mem_map_of_mem hq
  obtain ⟨r, hr, hr2⟩ := List.mem_map.mp hm
  exact h r hr (hr2.trans z.symm)
theorem off_of {l l' : List (Addr × Obj)} {d : Addr} (h : ∀ p ∈ l, p.1 ≠ d) (e : l'.map Prod.fst = l.map Prod.fst) : ∀ p ∈ l', p.1 ≠ d := by
  intro q hq z
  have hm : q.1 ∈ l.map Prod.fst := e ▸ List.mem_map_of_mem hq
  obtain ⟨r, hr, hr2⟩ := List.mem_map.mp hm
  exact h r hr (hr2.trans z)
theorem off_in2 {l l' t : List (Addr × Obj)} {d c : Addr} {oc : Obj} (h : ∀ p ∈ l ++ t, p.1 ≠ d) (e : l'.map Prod.fst = l.map Prod.fst) (hc : c ≠ d) : ∀ q ∈ l' ++ ((c, oc) :: t), q.1 ≠ d := by
  intro q hq
  rcases List.mem_append.mp hq with hq | hq
  · exact off_of (fun p hp => h p (List.mem_append_left _ hp)) e q hq
  · rcases List.mem_cons.mp hq with rfl | hq
    · exact hc
    · exact h q (List.mem_append_right _ hq)
theorem off_ins {l l' t : List (Addr × Obj)} {I c : Addr} {o oc : Obj} (h : ∀ p ∈ l ++ t, p.1 ≠ I) (e : l'.map Prod.fst = l.map Prod.fst) (hc : c ≠ I) : ∀ p ∈ [(I, o)], ∀ q ∈ l' ++ ((c, oc) :: t), p.1 ≠ q.1 := by
  intro p hp q hq z
  rw [List.mem_singleton.mp hp] at z
  rcases List.mem_append.mp hq with hq | hq
  · exact off_of (fun p hp => h p (List.mem_append_left _ hp)) e q hq z.symm
  · rcases List.mem_cons.mp hq with rfl | hq
    · exact hc z.symm
    · exact h q (List.mem_append_right _ hq) z.symm
section
variable {prog : Program} {w : World} {A : Around} {E : Value → Shared → Prop} {s : Shared}
theorem getItem_is {l : Addr} {vs : List Value} {k : Int} {u : Tok} {v : Value} {Q : Value → Shared → Prop} (hl : s.heap.IsList l vs.toArray) (h0 : 0 ≤ k) (hx : ItemIs vs k v) (h : Q v s) : wpAny (model prog w) A (getItem (.ref l) (.int k u)) Q E s := by
  rcases hx with ⟨_, h1, h2⟩ | ⟨h1, _⟩
  · exact getItem_listL hl h0 h1 h2 h
  · omega
end
end
end Mine
end

/- part Kw0 -/
section
open PySem PySem.W PyProof.Rows
namespace Mine
section
variable {prog : Program} {w : World} {A : Around} {h₀ : Heap} {L : Addr} {m : PySem.Str → Option Value} {env : Env} {elt : PySem.Expr} {x : PySem.Str} {scope : Scope} {cl : List (PySem.Str × Addr)} {s : Shared} {S : List (Addr × Obj) → Prop} {P : Nat → Value → Prop} {Fin : List Value → List (Addr × Obj) → Prop} {news : List (Addr × Obj)}
theorem kw_end {s₁ s₂ : Shared} {I C D : Addr} {oI oC oD : Obj} {p : PySem.Str} {y : Value} {rest : Value → List (Addr × Obj) → Prop} (k : ∀ t, rest (.str p t) news) (hq : LCg.CompEnd h₀ L m s₁ I oI C oC D oD S (fun y news' => KCtEl news p y news') y s₂) :
    LCg.CompEnd h₀ L m s₁ I oI C oC D oD S rest y s₂ := by
  obtain ⟨h', tk', nw, e, F', N', off', hS, rfl, t', rfl⟩ := hq
  exact ⟨h', tk', nw, e, F', N', off', hS, k t'⟩
theorem kw_rest {G : Nat → PySem.Str}
    (turn : ∀ k p t I oI C oC D m₂ ys h tk (E' : Value → Shared → Prop), WordIs k p → LCg.NsObj oC m₂ → m₂ x = some (.int k t) → Fr h₀ L h m → News h₀ L h ((I, oI) :: (C, oC) :: (D, LCg.lst ys) :: news) → LCg.Off3 I C D news → ((@Ne Nat I C) ∧ (@Ne Nat I D) ∧ (@Ne Nat C D)) →
      wpAny (model prog w) A (eval elt (compEnvC scope cl C env)) (LCg.CompEnd h₀ L m { s with heap := h, toks := tk } I oI C oC D (LCg.lst ys) S (fun y news' => KCtEl news p y news')) E' { s with heap := h, toks := tk }) :
    ∀ (j i : Nat) (ys : List Value), (∀ q v, i ≤ q → q < i + j → P q v → ∃ k t, v = .int k t ∧ WordIs k (G q)) → (∀ us, us.length = j → (∀ q, q < j → ∃ t, us[q]? = some (.str (G (i + q)) t)) → Fin (ys ++ us) news) → LCg.CompRest prog w A h₀ L m env elt x scope cl s S P Fin j i ys news
  | 0, i, ys, _, fin => LCg.CompRest.zero (List.append_nil ys ▸ fin [] rfl fun q hq => absurd hq (Nat.not_lt_zero q))
  | j + 1, i, ys, hP, fin => by
    refine LCg.CompRest.succ fun v I oI C oC D m₂ h tk E' hv hC hx F N off ne => ?_
    refine (hP i v (Nat.le_refl _) (Nat.lt_add_of_pos_right (Nat.succ_pos j)) hv).elim fun k hk => hk.elim fun t ht => ?_
    refine wpAny_mono (turn k (G i) t I oI C oC D m₂ ys h tk E' ht.2 hC (ht.1 ▸ hx) F N off ne) (fun y s₂ hq => kw_end (fun t' => kw_rest turn j (i + 1) _ (fun q v h1 h2 => hP q v (Nat.le_of_succ_le h1) (Nat.lt_of_lt_of_eq h2 (Nat.add_right_comm i 1 j))) fun us hu hq => ?_) hq) fun _ _ e => e
    rw [List.append_assoc]
    refine fin _ (congrArg Nat.succ hu) fun q hq' => ?_
    cases q with
    | zero => exact ⟨t', rfl⟩
    | succ q => exact Nat.add_right_comm i 1 q ▸ hq q (Nat.lt_of_succ_lt_succ hq')
theorem kw_five {n0 n1 n2 n3 n4 : Int} {p0 p1 p2 p3 p4 : PySem.Str} {t0 t1 t2 t3 t4 : Tok} (w0 : WordIs n0 p0) (w1 : WordIs n1 p1) (w2 : WordIs n2 p2) (w3 : WordIs n3 p3) (w4 : WordIs n4 p4)
    (turn : ∀ k p t I oI C oC D m₂ ys h tk (E' : Value → Shared → Prop), WordIs k p → LCg.NsObj oC m₂ → m₂ x = some (.int k t) → Fr h₀ L h m → News h₀ L h ((I, oI) :: (C, oC) :: (D, LCg.lst ys) :: news) → LCg.Off3 I C D news → ((@Ne Nat I C) ∧ (@Ne Nat I D) ∧ (@Ne Nat C D)) →
      wpAny (model prog w) A (eval elt (compEnvC scope cl C env)) (LCg.CompEnd h₀ L m { s with heap := h, toks := tk } I oI C oC D (LCg.lst ys) S (fun y news' => KCtEl news p y news')) E' { s with heap := h, toks := tk })
    (fin : ∀ v0 v1 v2 v3 v4, Fin [.str p0 v0, .str p1 v1, .str p2 v2, .str p3 v3, .str p4 v4] news) :
    LCg.CompRest prog w A h₀ L m env elt x scope cl s S (fun i v => (List.toArray [Value.int n0 t0, .int n1 t1, .int n2 t2, .int n3 t3, .int n4 t4])[i]? = some v) Fin 5 0 [] news := by
  refine kw_rest (G := fun q => [p0, p1, p2, p3, p4].getD q p4) turn 5 0 [] (fun q v _ hq hv => all5 (P := fun q => (List.toArray [Value.int n0 t0, .int n1 t1, .int n2 t2, .int n3 t3, .int n4 t4])[q]? = some v → ∃ k t, v = .int k t ∧ WordIs k ([p0, p1, p2, p3, p4].getD q p4)) ?_ ?_ ?_ ?_ ?_ q ((Nat.zero_add 5).symm ▸ hq) hv) fun us hu hq => five_of (V := fun q t => .str ([p0, p1, p2, p3, p4].getD q p4) t) (P := fun us => Fin us news) hu (fun q h => Eq.subst (motive := fun z => ∃ t, us[q]? = some (.str ([p0, p1, p2, p3, p4].getD z p4) t)) (Nat.zero_add q) (hq q h)) fin
  · exact fun hv => ⟨n0, t0, (Option.some.inj hv).symm, w0⟩
  · exact fun hv => ⟨n1, t1, (Option.some.inj hv).symm, w1⟩
  · exact fun hv => ⟨n2, t2, (Option.some.inj hv).symm, w2⟩
  · exact fun hv => ⟨n3, t3, (Option.some.inj hv).symm, w3⟩
  · exact fun hv => ⟨n4, t4, (Option.some.inj hv).symm, w4⟩
end
end Mine
end

/- part Law1 -/
section
open PySem PySem.W PyProof.Rows
namespace Mine
section
section
set_option maxRecDepth 100000 in
set_option maxHeartbeats 8000000 in
theorem main : PySem.Challenge.rw_sr0044_01.Holds := Mine.hd (by
  w_top off
  k_with_none
  k_with "KCfEl" => (rename HoldMark 6 => hmkH; refine' hold_it ?_)
  k_with "call ref" => (rename HoldMark 2 => hmkH; refine' hold_it ?_)
  k_with "call type:range" => (rename HoldMark 3 => hmkH; refine' hold_it ?_)
  k_with "callWith ref" => (rename HoldMark 5 => hmkH; refine' hold_it ?_)
  k_with "execs cons" => (rename HoldMark 1 => hmkH; refine' hold_it ?_)
  k_with "st8" => (k_dflt (repeat' (first | (k_unfold; (try dsimp only)) | (k_end; wrow_close) | ((with_reducible show wpAny _ _ (PySem.exec _ _) _ _ _); k_fold; walk1) | walk1 | (dsimp only; walk1) | (leave1; walk_say "STEP leave1"; try dsimp only) | fail "no step")))
  k_with "neL_in" => (focus ((repeat (first | exact List.mem_cons_self | refine List.mem_cons_of_mem _ ?_)); done))
  k_with "lt9" => (k_dflt (refine lt_get (news := ?_) (o := ?_) ?aa9z2 ?bb9z2; (case aa9z2 => assumption); (case bb9z2 => k_mem)))
  k_with "klt8" => (k_dflt ((with_reducible rename LtMark => ltm9q9)))
  k_with "ne8" => (k_dflt ((refine neN ?_; (try dsimp only); first | exact NeL.get (by with_reducible assumption) (by with_reducible walk_at "neL_in") | exact (NeL.get (by with_reducible assumption) (by with_reducible walk_at "neL_in")).symm | ((with_reducible rename LtMark => ltm9q9); first | (refine Nat.ne_of_lt (lt_get (news := ?_) (o := ?_) ?aa9z4 ?bb9z4); (case aa9z4 => assumption); (case bb9z4 => k_mem)) | (refine (Nat.ne_of_lt (lt_get (news := ?_) (o := ?_) ?aa9z4 ?bb9z4)).symm; (case aa9z4 => assumption); (case bb9z4 => k_mem))) | omega)))
  k_with "LEq" => (dsimp only [LEq]; (try k_unfold); (try dsimp only))
  k_with "LEf" => (refine ⟨rfl, ?_⟩)
  k_with "subscriptTail List" => (k_here; k_dflt (refine kba_turn (value' := PySem.Expr.Name (PySem.Str.ofString "_") ⟨0, 0, 0, 0⟩) (fun _ => rfl) ?_))
  k_with "storeName" => (k_here; gn_on)
  k_with "le2" => ((rename News _ _ _ _ => nE'q9); (rename Fr _ _ _ _ => fE'q9); (refine' LE.intro (_, _) fE'q9 nE'q9 ?k1z9 ?k2z9 ?k3z9 ?k5); (case k1z9 => first | exact fun pq9 hpq9 => hpq9 | exact fun pq9 hpq9 => List.mem_cons_of_mem _ hpq9 | exact fun pq9 hpq9 => List.mem_cons_of_mem _ (List.mem_cons_of_mem _ hpq9) | kst_in); (case k2z9 => (intro pq9 hpq9; cases hpq9)); (case k3z9 => kst_all))
  k_with "le3" => ((rename News _ _ _ _ => nE'q9); (rename Fr _ _ _ _ => fE'q9); (refine' LE.intro (_, _, _) fE'q9 nE'q9 ?k1z10 ?k2z10 ?k3z10 ?k5); (case k1z10 => first | exact fun pq9 hpq9 => hpq9 | exact fun pq9 hpq9 => List.mem_cons_of_mem _ hpq9 | exact fun pq9 hpq9 => List.mem_cons_of_mem _ (List.mem_cons_of_mem _ hpq9) | kst_in); (case k2z10 => (intro pq9 hpq9; cases hpq9)); (case k3z10 => kst_all))
  k_with "le5" => ((rename News _ _ _ _ => nE'q9); (rename Fr _ _ _ _ => fE'q9); (refine' LE.intro (_, _, _, _, _) fE'q9 nE'q9 ?k1z11 ?k2z11 ?k3z11 ?k5); (case k1z11 => first | exact fun pq9 hpq9 => hpq9 | exact fun pq9 hpq9 => List.mem_cons_of_mem _ hpq9 | exact fun pq9 hpq9 => List.mem_cons_of_mem _ (List.mem_cons_of_mem _ hpq9) | kst_in); (case k2z11 => (intro pq9 hpq9; cases hpq9)); (case k3z11 => kst_all))
  k_with "le4" => ((rename News _ _ _ _ => nE'q9); (rename Fr _ _ _ _ => fE'q9); (refine' LE.intro (_, _, _, _) fE'q9 nE'q9 ?k1z12 ?k2z12 ?k3z12 ?k5); (case k1z12 => first | exact fun pq9 hpq9 => hpq9 | exact fun pq9 hpq9 => List.mem_cons_of_mem _ hpq9 | exact fun pq9 hpq9 => List.mem_cons_of_mem _ (List.mem_cons_of_mem _ hpq9) | kst_in); (case k2z12 => (intro pq9 hpq9; cases hpq9)); (case k3z12 => kst_all))
  k_with "slice_z" => (refine' kmk_sz ?ziz13 ?zlz13; (case ziz13 => first | l_ints | l_intsW); (case zlz13 => (rw [sizeLine_eq]; first | omega | (simp only [List.length_cons, List.length_nil]; omega))))
  k_with "subscriptTail Name Slice ref ref" => (k_here; (with_reducible show wpAny _ _ (subscriptTail _ (PySem.Expr.Slice none (some _) none _) (Value.ref _) (Value.ref _)) _ _ _); k_dflt (refine' kmk_slice_ints ?Fz14 ?Nz14 ?lz14 ?pz14 ?qz14 ?iz14 ?mz14 ?cz14 ?_ ?sz14 ?tz14 ?zz14; (case Fz14 => k_asm); (case Nz14 => k_asm); (case lz14 => kmk_list); (case pz14 => kmk_part); (case qz14 => kmk_part); (case iz14 => first | l_ints | l_intsW); (case mz14 => (refine' kmk_upto ?giz14 ?gxz14; (case giz14 => first | l_ints | l_intsW); (case gxz14 => first | decide | omega))); (case cz14 => exact rfl); (case sz14 => with_unfolding_all rfl); (case tz14 => kmk_pure); (case zz14 => walk_at "slice_z")); intro D'q9 ws'q9 h'q9 F'q9 N'q9 l1q9 hI'q9 hC'q9 hL'q9; (try k_lt l1q9))
  k_with "subscriptTail Name Slice ref ref" => (k_here; (with_reducible show wpAny _ _ (subscriptTail _ (PySem.Expr.Slice (some _) none none _) (Value.ref _) (Value.ref _)) _ _ _); k_dflt (refine' kmk_slice_ints ?Fz15 ?Nz15 ?lz15 ?pz15 ?qz15 ?iz15 ?mz15 ?cz15 ?_ ?sz15 ?tz15 ?zz15; (case Fz15 => k_asm); (case Nz15 => k_asm); (case lz15 => kmk_list); (case pz15 => kmk_part); (case qz15 => kmk_part); (case iz15 => first | l_ints | l_intsW); (case mz15 => (refine' kmk_from ?giz15 ?gxz15; (case giz15 => first | l_ints | l_intsW); (case gxz15 => first | decide | omega))); (case cz15 => exact rfl); (case sz15 => with_unfolding_all rfl); (case tz15 => kmk_pure); (case zz15 => walk_at "slice_z")); intro D'q9 ws'q9 h'q9 F'q9 N'q9 l1q9 hI'q9 hC'q9 hL'q9; (try k_lt l1q9))
  k_with "call builtin:list.insert" => (k_here; (with_reducible show wpAny _ _ (call (Value.builtin _) [Value.ref _, Value.int _ _, _]) _ _ _); k_dflt (refine' kl_insert ?Fz16 ?Nz16 ?fz16 ?ez16 ?Uz16 ?zz16 ?_; (case Fz16 => k_asm); (case Nz16 => k_asm); (case ez16 => exact rfl); (case Uz16 => k_upd); (case fz16 => exact fits_of (fmod_rng _ (by decide)).1 (Int.le_of_lt (Int.lt_trans (fmod_rng _ (by decide)).2 (by decide)))); (case zz16 => (simp only [kl_ins_length, List.length_cons, List.length_nil]; decide))); intro h'q9 F'q9 N'q9; (try dsimp only))
  k_with "subscriptTail Name BinOp ref int" => (k_here; (with_reducible show wpAny _ _ (subscriptTail _ _ (Value.ref _) (Value.int _ _)) _ _ _); (with_unfolding_all refine' item_anyK ?k1z17 ?k2z17 ?k3z17 ?k4z17 ?k5z17 ?_ ?k6z17; (case k1z17 => exact News.isList (by k_asm) (by k_mem)); (case k2z17 => (with_reducible assumption)); (case k3z17 => exact (fmod_rng _ (by decide)).1); (case k4z17 => exact Int.lt_of_lt_of_le (fmod_rng _ (by decide)).2 (by rw [ringI_len]; decide)); (case k5z17 => exact Int.lt_trans (fmod_rng _ (by decide)).2 (by decide)); (case k6z17 => with_unfolding_all rfl); k_whole); intro _)
  k_with "setItem" => (k_here; dsimp only)
  k_with "getItem" => (k_here; dsimp only)
  k_with "getItem ref int" => (k_here; (with_reducible show wpAny _ _ (getItem (Value.ref _) (Value.int _ _)) _ _ _); k_dflt (refine' getItem_listL ?k1z20 ?k2z20 ?k3z20 ?k4z20 ?_; (case k1z20 => exact News.isList (by k_asm) (by k_mem)); (case k2z20 => decide); (case k3z20 => decide); (case k4z20 => rfl); k_whole))
  k_with "inplaceOp Add str str" => (k_here; k_dflt (refine SBL.iadd (hsz := ?hszz21) ?_; case hszz21 => (rw [sizeLine_eq]; exact Nat.le_trans (Nat.add_le_add_right (by assumption) 1) (by decide))); intro _ _ _)
  k_with "CompSrc" => (k_here; (with_reducible show LCg.CompSrc _ _ _ _ _ _ _ (PySem.Expr.Call (PySem.Expr.Attribute _ _ _) _ _ _) _ _ _ _ _ _); k_dflt (refine LCg.CompSrc.ledger (by rfl) (by k_asm) (by k_asm) (by k_mem) (by exact Nat.le_of_ble_eq_true rfl) ?_; intro g'q9; (refine' kw_five ?w0z22 ?w1z22 ?w2z22 ?w3z22 ?w4z22 (fun k' p' t' I' oI' C' oC' D' m' ys' h' tk' E' hk' hC' hx' F' N' off' ne' => ?_) (fun v0' v1' v2' v3' v4' => ?_)); (case w0z22 => assumption); (case w1z22 => assumption); (case w2z22 => assumption); (case w3z22 => assumption); (case w4z22 => assumption); kcf_last))
  k_with "CompEnd" => (k_here; (with_reducible show LCg.CompEnd _ _ _ _ _ _ _ _ _ _ _ (fun y news' => KCtEl _ _ _ _) _ _); (rename LCg.Off3 _ _ _ _ => offXq9); k_dflt (refine' LCg.CompEnd.intro ?Fz23 ?Nz23 _ ?subz23 offXq9 ?srcz23 ⟨rfl, _, rfl⟩; (case Fz23 => assumption); (case Nz23 => assumption); (case subz23 => lcg_sub); (case srcz23 => lcg_src)))
  k_with "compareOp NotEq ref ref" => (k_here; (with_reducible show wpAny _ _ (compareOp CmpOp.NotEq (Value.ref _) (Value.ref _)) _ _ _); k_dflt (refine ne_dataH (by ke_read) (by ke_read) (shp5 (by assumption) (by assumption) (by assumption) (by assumption) (by assumption)) (shp5 (by assumption) (by assumption) (by assumption) (by assumption) (by assumption)) (by ke_room) ?_); ke_norm)
  k_with "compareOp" => (k_here; dsimp only)
  k_with "CompRest" => (k_here; (with_reducible show LCg.CompRest _ _ _ _ _ _ _ (PySem.Expr.BinOp (PySem.Expr.List _ _) _ _ _) _ _ _ _ _ _ _ _ _ _ _); (with_unfolding_all refine LCg.CompRest.succ ?_); intro v'q9 I'q9 oI'q9 C'q9 oC'q9 D'q9 m'q9 h'q9 tk'q9 E'q9 hv'q9 hC'q9 hx'q9 F'q9 N'q9 off'q9 ne'q9; (first | lcg_open hv'q9 | (obtain ⟨t9'q9, hv9'q9⟩ := hv'q9; subst hv9'q9)))
  k_with "CompEnd" => (k_here; (with_reducible show LCg.CompEnd _ _ _ _ _ _ _ _ _ _ _ (fun y news' => LCg.CompRest _ _ _ _ _ _ _ (PySem.Expr.BinOp (PySem.Expr.List _ _) _ _ _) _ _ _ _ _ _ _ _ _ _ _) _ _); (rename LCg.Off3 _ _ _ _ => offXq9); (rename News _ _ _ (_ :: _) => nXq9); k_dflt (refine' compEnd1 ?Fz27 nXq9 offXq9 ⟨?n1z27, ?n2z27, ?n3z27⟩ ?subz27 ?srcz27 ?_; (case Fz27 => assumption); (case n1z27 => k_ne); (case n2z27 => k_ne); (case n3z27 => k_ne); (case subz27 => lcg_sub); (case srcz27 => lcg_src)))
  k_with "eval ListComp" => (k_here; (with_reducible show wpAny _ _ (eval (Expr.ListComp (Expr.Name _ _) _ _ _) _) _ _ _); k_dflt (refine LCt.ListComp_T (F₀ := by k_asm) (by with_unfolding_all rfl) (by decide) (by rfl) (by decide) (by rfl) ?_))
  k_with "CompSrcT" => (k_here; k_dflt (refine LCt.CompSrcT.ledger (by rfl) (by k_asm) (by k_asm) (by k_mem) (by exact size_of (by assumption) (by assumption)) ?_; intro g'q9; (refine' filt_list (sepB _ _) (by assumption) ?hSz29 (fun k' t' I' oI' C' oC' D' m' ys' h' tk' E' hk' hC' hx' F' N' => ?_) ?_); (case hSz29 => lcg_src)))
  k_with "TestEnd" => (k_here; k_dflt (refine' TestEnd.intro (by assumption) (by assumption) ?subz30 ?ez30; (case subz30 => exact fun p hp => hp); (case ez30 => exact rfl)))
  k_with "binaryOp FloorDiv int int" => (k_here; (with_reducible show wpAny _ _ (binaryOp Operator.FloorDiv (Value.int _ _) (Value.int (2 ^ _) _)) _ _ _); k_dflt (refine floordiv_int ?kbz31 ?_ (Or.inl (PyProof.noPylong_of_log2 ?kpz31)); (case kbz31 => first | decide | exact And.left (by assumption)); (case kpz31 => first | decide +kernel | exact And.right (by assumption))))
  k_with "binaryOp Pow int int" => (k_here; (with_reducible show wpAny _ _ (binaryOp Operator.Pow (Value.int 2 _) (Value.int _ _)) _ _ _); k_dflt (refine pow_int_small ?kb1z32 ?kb2z32 ?kb3z32 ?_; (case kb1z32 => first | decide | exact Int.natCast_nonneg _); (case kb2z32 => first | decide | omega); (case kb3z32 => decide)))
  k_with "call builtin:len" => (k_here; (with_reducible show wpAny _ _ (call (Value.builtin _) [Value.ref _]) _ _ _); k_dflt (refine' len_ints_fit ?k1z33 ?k2z33 ?k3z33 ?_; (case k1z33 => exact News.isList (by k_asm) (by k_mem)); (case k2z33 => with_reducible assumption); (case k3z33 => first | exact Nat.lt_of_le_of_lt (List.length_filter_le _ _) (Nat.lt_of_le_of_lt (by assumption) (by decide)) | exact Nat.lt_of_le_of_lt (by assumption) (by decide))))
  k_with "eval Name" => (k_here; (with_reducible show wpAny _ _ (eval (PySem.Expr.Name _ _) (envOfC _ _ _ _ _)) _ _ _); k_dflt (first | (refine' nameX_L ?Fz34 ?vz34 ?_ ?az34 ?bz34; (case Fz34 => k_asm); (case az34 => rfl); (case bz34 => rfl); (case vz34 => rfl); k_whole) | (refine' nameX_C ?Nz34 ?cz34 ?mz34 ?dz34 ?_ ?az34 ?bz34; (case az34 => rfl); (case bz34 => rfl); (case Nz34 => k_asm); (case cz34 => rfl); (case mz34 => k_mem); (case dz34 => k_asm); k_whole)))
  k_with "callWith ref" => (k_here; (rename FastMark => fm9q9); k_dflt (refine' callWith_K ?k1z35 ?k2z35 ?_; (case k1z35 => k_asm); (case k2z35 => k_is); k_whole))
  k_with "subscriptTail Name Name ref int" => (k_here; (with_reducible show wpAny _ _ (subscriptTail _ _ (Value.ref _) (Value.int _ _)) _ _ _); k_dflt (refine' item_litK ?k1z36 ?k2z36 ?k3z36 ?k4z36 ?_ ?k6z36; (case k1z36 => exact News.isList (by k_asm) (by k_mem)); (case k2z36 => decide); (case k3z36 => decide); (case k4z36 => exact rfl); (case k6z36 => with_unfolding_all rfl); k_whole))
  k_with "subscriptTail" => (k_here; (with_reducible show wpAny _ _ (subscriptTail _ _ (Value.ref _) (Value.int _ _)) _ _ _); k_dflt (refine' item_litK ?k1z37 ?k2z37 ?k3z37 ?k4z37 ?_ ?k6z37; (case k1z37 => exact News.isList (by k_asm) (by k_mem)); (case k2z37 => decide); (case k3z37 => decide); (case k4z37 => exact rfl); (case k6z37 => with_unfolding_all rfl); k_whole))
  k_with "setItem ref int" => (k_here; k_dflt (refine' ki_set ?Fz38 ?Nz38 ?az38 ?bz38 ?ez38 ?Uz38 ?_; (case Fz38 => k_asm); (case Nz38 => k_asm); (case Uz38 => k_upd); (case az38 => decide); (case bz38 => decide); (case ez38 => rfl)); intro h'q9 F'q9 N'q9; (try dsimp only [List.nil_append, List.cons_append] at N'q9))
  k_with "subscriptTail" => (k_here; (with_reducible show wpAny _ _ (subscriptTail _ _ (Value.ref _) (Value.int (Nat.cast _) _)) _ _ _); k_dflt (refine' item_litK ?k1z39 ?k2z39 ?k3z39 ?k4z39 ?_ ?k6z39; (case k1z39 => exact News.isList (by k_asm) (by k_mem)); (case k2z39 => exact Int.natCast_nonneg _); (case k3z39 => omega); (case k4z39 => first | with_reducible assumption | exact get_setK (by with_reducible assumption)); (case k6z39 => with_unfolding_all rfl); k_whole))
  k_with "setItem ref int" => (k_here; (with_reducible show wpAny _ _ (setItem (Value.ref _) (Value.int (Nat.cast _) _) _) _ _ _); k_dflt (refine' ki_setV ?Fz40 ?Nz40 ?az40 ?bz40 ?Uz40 ?_; (case Fz40 => k_asm); (case Nz40 => k_asm); (case Uz40 => k_upd); (case az40 => with_reducible assumption); (case bz40 => with_reducible assumption)); intro h'q9 F'q9 N'q9; (try dsimp only [List.nil_append, List.cons_append] at N'q9))
  k_with "all8" => (k_dflt ((focus ((repeat (first | exact List.forall_mem_nil _ | with_reducible assumption | refine' List.forall_mem_cons.mpr ⟨by k_ne, ?_⟩)); done))))
  k_with "CompSrc" => (k_here; (with_reducible show LCg.CompSrc _ _ _ _ _ _ _ (PySem.Expr.Subscript (PySem.Expr.Subscript _ _ _) _ _) _ _ _ _ _ _); k_dflt (refine LCg.CompSrc.range (by rfl) (by k_asm) (by k_asm) (by assumption) (by first | decide | rfl) (by first | rfl | decide) (by exact Nat.le_of_ble_eq_true rfl) ?_; intro g'q9; refine' hold_it ?_))
  k_with "subscriptTail Name BinOp ref int" => (k_here; (with_reducible show wpAny _ _ (subscriptTail _ _ (Value.ref _) (Value.int _ _)) _ _ _); k_dflt (refine' item_litK ?k1z43 ?k2z43 ?k3z43 ?k4z43 ?_ ?k6z43; (case k1z43 => exact News.isList (by k_asm) (by k_mem)); (case k2z43 => decide); (case k3z43 => decide); (case k4z43 => exact rfl); (case k6z43 => with_unfolding_all rfl); k_whole))
  k_with "front9" => (k_dflt ((repeat (refine List.forall_mem_cons.mpr ⟨by k_mem, ?_⟩)); (intro pq9 hpq9; repeat (first | exact hpq9 | refine List.mem_cons_of_mem _ ?_))))
  k_with "off9" => (k_dflt (focus ((repeat (first | assumption | refine List.forall_mem_cons.mpr ⟨by (refine neN ?_; (try dsimp only); omega), ?_⟩)); done)))
  k_with "call ref" => (k_here; (with_reducible show wpAny _ _ (call (Value.ref 90) _) _ _ _); k_dflt (refine' Cl.useW ?k1z46 ?k2z46 ?k3z46 ?k4z46 ?k5z46 (ways_cl _ _ rfl) ?k6z46 ?k7z46 ?_; (case k1z46 => k_asm); (case k2z46 => k_asm); (case k3z46 => k_asm); (case k4z46 => k_asm); (case k5z46 => k_asm); (case k6z46 => first | exact rfl | assumption); (case k7z46 => decide)); intro wy9q9 e9q9 c9q9 h9q9 tk9q9 F9q9 N9q9 hW9q9 hl9q9; (try dsimp only); (try k_fold))
  k_with "eval ListComp" => (k_here; (with_reducible show wpAny _ _ (eval (PySem.Expr.ListComp (PySem.Expr.Call (PySem.Expr.Name _ _) _ _ _) _ _ _) _) _ _ _); (refine' hold_it ?_))
  k_with "call ref" => (k_here; (with_reducible show wpAny _ _ (call (Value.ref 71) _) _ _ _); k_dflt (refine' Cl.useT ?k1z48 ?k2z48 ?k3z48 ?k4z48 ?k5z48 (lev_use _ _ _ _ _ _ _ _ ?kaz48) ?k6z48 ?k7z48 ?_; (case k1z48 => k_asm); (case k2z48 => k_asm); (case k3z48 => k_asm); (case k4z48 => k_asm); (case k5z48 => k_asm); (case kaz48 => assumption); (case k6z48 => first | exact rfl | assumption); (case k7z48 => decide)); intro t9q9 h9q9 tk9q9 F9q9 N9q9; (try dsimp only); (try k_fold))
  k_with "call ref" => (k_here; (with_reducible show wpAny _ _ (call (Value.ref 57) _) _ _ _); k_dflt (refine' Cl.useT ?k1z49 ?k2z49 ?k3z49 ?k4z49 ?k5z49 (ap_cl _ _ _ _ rfl ?kaz49) ?k6z49 ?k7z49 ?_; (case k1z49 => k_asm); (case k2z49 => k_asm); (case k3z49 => k_asm); (case k4z49 => k_asm); (case k5z49 => k_asm); (case kaz49 => exact WordIs.lt (by assumption)); (case k6z49 => first | exact rfl | assumption); (case k7z49 => decide)); intro t9q9 h9q9 tk9q9 F9q9 N9q9; (try dsimp only); (try k_fold))
  k_with "call builtin:bytes.decode" => (k_here; (with_reducible show wpAny _ _ (call (Value.builtin "bytes.decode") [Value.bytes _ _, Value.str _ _]) _ _ _); k_dflt (refine decodeW (by assumption) ?_); intro _ _)
  k_with "call ref" => (k_here; (with_reducible show wpAny _ _ (call (Value.ref 76) _) _ _ _); k_dflt (refine' Cl.useT ?k1z51 ?k2z51 ?k3z51 ?k4z51 ?k5z51 (split_use _ _ _ _ _ _ ?kaz51 ?kbz51 ?kcz51 ?kdz51) ?k6z51 ?k7z51 ?_; (case k1z51 => k_asm); (case k2z51 => k_asm); (case k3z51 => k_asm); (case k4z51 => k_asm); (case k5z51 => k_asm); (case kaz51 => k_mem); (case kbz51 => assumption); (case kcz51 => assumption); (case kdz51 => assumption); (case k6z51 => first | exact rfl | assumption); (case k7z51 => decide)); intro t9q9 h9q9 tk9q9 F9q9 N9q9; (try dsimp only); (try k_fold))
  k_with "call ref" => (k_here; (with_reducible show wpAny _ _ (call (Value.ref 23) _) _ _ _); k_dflt (refine' Cl.useI ?k1z52 ?k2z52 ?k3z52 ?k4z52 ?k5z52 (insr_cl _ _ _ _ _ _ _ _ rfl ?kaz52 ?kbz52 ?kcz52 ?kdz52) ?k6z52 ?k7z52 ?_; (case k1z52 => k_asm); (case k2z52 => k_asm); (case k3z52 => k_asm); (case k4z52 => k_asm); (case k5z52 => k_asm); (case kaz52 => assumption); (case kbz52 => assumption); (case kcz52 => assumption); (case kdz52 => assumption); (case k6z52 => first | exact rfl | assumption); (case k7z52 => decide)); intro k9q9 v9q9 h9q9 tk9q9 F9q9 N9q9 hI9q9 hB9q9; (try dsimp only); (try k_fold))
  k_with "getItem ref int" => (k_here; (rename ItemMark => im9q9); (with_reducible show wpAny _ _ (getItem (Value.ref _) (Value.int _ _)) _ _ _); k_dflt (refine' getItem_is ?k1z53 ?k2z53 ?k3z53 ?_; (case k1z53 => exact News.isList (by k_asm) (by k_mem)); (case k2z53 => exact Int.natCast_nonneg _); (case k3z53 => with_reducible assumption); k_whole))
  k_with "CompSrc" => (k_here; (with_reducible show LCg.CompSrc _ _ _ _ _ _ _ (PySem.Expr.BinOp (PySem.Expr.Name _ _) PySem.Operator.Mod _ _) _ _ _ _ _ _); (try k_fmods); (try kcf_lens); k_dflt (refine LCg.CompSrc.base (by rfl) (by k_asm) (by k_asm) (by assumption) (by size_fits) ?_; intro g'q9; (refine' kcf_list _ (by assumption) (fun k' t' I' oI' C' oC' D' m' ys' h' tk' E' hk' hC' hx' F' N' off' ne' hMark' => ?_) ?_); kcf_last))
  k_with "call ref" => (k_here; (with_reducible show wpAny _ _ (call (Value.ref 83) _) _ _ _); k_dflt (refine' ring_use ?k1z55 ?k2z55 ?k3z55 ?k4z55 ?k5z55 ?k6z55 ?_; (case k1z55 => k_asm); (case k2z55 => k_asm); (case k3z55 => k_asm); (case k4z55 => k_asm); (case k5z55 => k_asm); (case k6z55 => first | exact rfl | assumption)); intro l9q9 vs9q9 e9q9 h9q9 tk9q9 F9q9 N9q9 ne9q9 hi9q9; (try simp only [List.map_cons, List.map_nil] at ne9q9); (try dsimp only); (try k_fold))
  k_with "subscriptTail" => (k_here; (rename ItemMark => im9q9); (with_reducible show wpAny _ _ (subscriptTail _ _ (Value.ref _) (Value.int _ _)) _ _ _); k_dflt (refine' item_is ?k1z56 ?k4z56 ?_ ?k6z56; (case k1z56 => exact News.isList (by k_asm) (by k_mem)); (case k4z56 => with_reducible assumption); (case k6z56 => with_unfolding_all rfl); k_whole))
  k_with "subscriptTail Name Name ref int" => (k_here; (rename ItemMark => im9q9); (with_reducible show wpAny _ _ (subscriptTail _ _ (Value.ref _) (Value.int _ _)) _ _ _); k_dflt (refine' item_is ?k1z57 ?k4z57 ?_ ?k6z57; (case k1z57 => exact News.isList (by k_asm) (by k_mem)); (case k4z57 => with_reducible assumption); (case k6z57 => with_unfolding_all rfl); k_whole))
  k_with "subscriptTail Name BinOp ref int" => (k_here; (rename ItemMark => im9q9); (with_reducible show wpAny _ _ (subscriptTail _ _ (Value.ref _) (Value.int _ _)) _ _ _); k_dflt (refine' item_is ?k1z58 ?k4z58 ?_ ?k6z58; (case k1z58 => exact News.isList (by k_asm) (by k_mem)); (case k4z58 => with_reducible assumption); (case k6z58 => with_unfolding_all rfl); k_whole))
  k_with "subscriptTail Subscript Subscript ref int" => (k_here; (rename ItemMark => im9q9); (with_reducible show wpAny _ _ (subscriptTail _ _ (Value.ref _) (Value.int _ _)) _ _ _); k_dflt (refine' item_is ?k1z59 ?k4z59 ?_ ?k6z59; (case k1z59 => exact News.isList (by k_asm) (by k_mem)); (case k4z59 => with_reducible assumption); (case k6z59 => with_unfolding_all rfl); k_whole))
  k_with "subscriptTail Name Subscript ref int" => (k_here; (rename ItemMark => im9q9); (with_reducible show wpAny _ _ (subscriptTail _ _ (Value.ref _) (Value.int _ _)) _ _ _); k_dflt (refine' item_is ?k1z60 ?k4z60 ?_ ?k6z60; (case k1z60 => exact News.isList (by k_asm) (by k_mem)); (case k4z60 => with_reducible assumption); (case k6z60 => with_unfolding_all rfl); k_whole))
  k_with "subscriptTail Subscript Name ref int" => (k_here; (rename ItemMark => im9q9); (with_reducible show wpAny _ _ (subscriptTail _ _ (Value.ref _) (Value.int _ _)) _ _ _); k_dflt (refine' item_is ?k1z61 ?k4z61 ?_ ?k6z61; (case k1z61 => exact News.isList (by k_asm) (by k_mem)); (case k4z61 => with_reducible assumption); (case k6z61 => with_unfolding_all rfl); k_whole))
  k_with "subscriptTail Name Constant ref int" => (k_here; (rename ItemMark => im9q9); (with_reducible show wpAny _ _ (subscriptTail _ _ (Value.ref _) (Value.int _ _)) _ _ _); k_dflt (refine' item_is ?k1z62 ?k4z62 ?_ ?k6z62; (case k1z62 => exact News.isList (by k_asm) (by k_mem)); (case k4z62 => with_reducible assumption); (case k6z62 => with_unfolding_all rfl); k_whole))
  k_with "subscriptTail Subscript BinOp ref int" => (k_here; (rename ItemMark => im9q9); (with_reducible show wpAny _ _ (subscriptTail _ _ (Value.ref _) (Value.int _ _)) _ _ _); k_dflt (refine' item_is ?k1z63 ?k4z63 ?_ ?k6z63; (case k1z63 => exact News.isList (by k_asm) (by k_mem)); (case k4z63 => with_reducible assumption); (case k6z63 => with_unfolding_all rfl); k_whole))
  k_with "subscriptTail Name Slice ref ref" => (k_here; (rename ItemMark => im9q9); (with_reducible show wpAny _ _ (subscriptTail _ (PySem.Expr.Slice (some _) (some _) none _) (Value.ref _) (Value.ref _)) _ _ _); k_dflt (refine' kmk_slice_ints ?Fz64 ?Nz64 ?lz64 ?pz64 ?qz64 ?iz64 ?mz64 ?cz64 ?_ ?sz64 ?tz64 ?zz64; (case Fz64 => k_asm); (case Nz64 => k_asm); (case lz64 => exact News.isList (by k_asm) (by k_mem)); (case pz64 => kmk_part); (case qz64 => kmk_part); (case mz64 => assumption); (case iz64 => assumption); (case cz64 => exact rfl); (case sz64 => with_unfolding_all rfl); (case tz64 => kmk_pure); (case zz64 => (rw [sizeLine_eq, List.size_toArray]; omega))); intro D'q9 ws'q9 h'q9 F'q9 N'q9 l1q9 hI'q9 hC'q9 hL'q9)
  k_with "call ref" => (k_here; (with_reducible show wpAny _ _ (call (Value.ref 32) _) _ _ _); k_dflt (refine' Cl.useB ?k1z65 ?k2z65 ?k3z65 ?k4z65 ?k5z65 (bisr_use _ _ _ _ _ _ _ _ ?kaz65 ?kbz65 ?kcz65 ?kdz65) ?k6z65 ?k7z65 ?_; (case k1z65 => k_asm); (case k2z65 => k_asm); (case k3z65 => k_asm); (case k4z65 => k_asm); (case k5z65 => k_asm); (case kaz65 => k_mem); (case kbz65 => assumption); (case kcz65 => assumption); (case kdz65 => assumption); (case k6z65 => first | exact rfl | assumption); (case k7z65 => decide)); intro k9q9 t9q9 h9q9 tk9q9 F9q9 N9q9 hB9q9; (try dsimp only); (try k_fold))
  k_with "call ref" => (k_here; (with_reducible show wpAny _ _ (call (Value.ref 50) _) _ _ _); k_dflt (refine' Cl.useB ?k1z66 ?k2z66 ?k3z66 ?k4z66 ?k5z66 (bisl_use _ _ _ _ _ _ _ _ ?kaz66 ?kbz66 ?kcz66 ?kdz66) ?k6z66 ?k7z66 ?_; (case k1z66 => k_asm); (case k2z66 => k_asm); (case k3z66 => k_asm); (case k4z66 => k_asm); (case k5z66 => k_asm); (case kaz66 => k_mem); (case kbz66 => assumption); (case kcz66 => assumption); (case kdz66 => assumption); (case k6z66 => first | exact rfl | assumption); (case k7z66 => decide)); intro k9q9 t9q9 h9q9 tk9q9 F9q9 N9q9 hB9q9; (try dsimp only); (try k_fold))
  k_go0
  (all_goals try k_fold)
  rename_i w s0 s1 mg mb G Y fa o pm doc ho hg X V T B TE TW hcd ns hs hlay0 hLa hra hl2 a11 a10 sc svs a7 hL ra w1 r0 hI hr hc1 hc2 hDf h1 tk1 oP oK oI oF oJ oR oD hP hK hI2 hF hJ hR hD X0 X1 T1 B1 F0 N0 l0
  refine startW F0 (fun h' tk' m' news' vs F' N' hm => ?_) ?_
  · dsimp only
    refine ⟨?_, GrownAt.of N' hm, trivial⟩
    k_end
    kc_close
  intro Q' hQ'
  refine startE (by passes_own) ?_
  intro E' hE'
  have hns : ns.length ≤ 63 := by omega
  clear G Y ho hg X V T B TE TW hcd hs hlay0 hLa hra hl2 hL ra w1 r0 hr hc1 hc2 hDf X0 hT8 hT9
  generalize ghostOf s1.heap [(94, 92)] = h₀ at *
  generalize s1.heap.objs.size = L at *
  have hP : oP.data = Data.cell none := hP
  have hK : oK.data = Data.cell none := hK
  have hI2 : oI.data = Data.cell none := hI2
  have hF : oF.data = Data.cell none := hF
  have hJ : oJ.data = Data.cell none := hJ
  have hR : oR.data = Data.cell none := hR
  have hD : oD.data = Data.cell none := hD
  dsimp only
  -- S1: draws
  refine wpAny_execs_cons ?_
  refine cutQ (σ := Obj × Addr × List Value × Nat × List Int) F0
    (fun c => [(L + 1 + 1 + 1 + 1 + 1 + 1 + 1, oP), (L + 1 + 1 + 1 + 1 + 1 + 1, oK), (L + 1 + 1 + 1 + 1 + 1, oI), (L + 1 + 1 + 1 + 1, oF), (L + 1 + 1 + 1, oJ), (L + 1 + 1, oR), (L + 1, c.1), (92, tabObj #[]), (c.2.1, listOf (List.toArray c.2.2.1) c.2.2.2.1)])
    (fun c => [(Str.ofString "script", .ref sc)]) [] (fun c => c.1.data = Data.cell (some (.ref c.2.1)) ∧ IntsAre c.2.2.1 c.2.2.2.2 ∧ c.2.2.2.2.length = 5 ∧ (∀ d ∈ c.2.2.2.2, 0 ≤ d ∧ d < 25) ∧ NeL c.2.1 [L + 1, L + 2, L + 3, L + 4, L + 5, L + 6, L + 7, 92]) ?_ ?_
  · have ltm : LtMark := trivial
    k_steps
    walk_at "le5"
    case k5 =>
      refine ⟨by assumption, by assumption, draws_len ns, draws_rng _, ?_⟩
      simp only [NeL, and_true]
      refine ⟨?_, ?_, ?_, ?_, ?_, ?_, ?_, ?_⟩ <;> k_ne
  refine elimP5 ?_
  dsimp only
  intro oD1 dr dvs e1 ds u1 g1 q1 hR9 F1 N1
  have hD1 := hR9.1
  have hI1 := hR9.2.1
  have hds := hR9.2.2.1
  have hdr := hR9.2.2.2.1
  have hne1 := hR9.2.2.2.2
  clear hR9
  clear F0 N0 hD
  (try dsimp only at hD1 hI1 hds hdr hne1 F1 N1 ⊢)
  -- S2: ring
  refine wpAny_execs_cons ?_
  refine cutQ (σ := Obj × Addr × List Value × Nat × Int) F1
    (fun c => [(L + 1 + 1 + 1 + 1 + 1 + 1 + 1, oP), (L + 1 + 1 + 1 + 1 + 1 + 1, oK), (L + 1 + 1 + 1 + 1 + 1, oI), (L + 1 + 1 + 1 + 1, oF), (L + 1 + 1 + 1, oJ), (L + 1 + 1, c.1), (L + 1, oD1), (92, tabObj #[]), (dr, listOf (List.toArray dvs) e1), (c.2.1, listOf (List.toArray c.2.2.1) c.2.2.2.1)])
    (fun c => []) [] (fun c => c.1.data = Data.cell (some (.ref c.2.1)) ∧ IntsAre c.2.2.1 (ringI c.2.2.2.2) ∧ NeL c.2.1 [L + 1 + 1 + 1 + 1 + 1 + 1 + 1, L + 1 + 1 + 1 + 1 + 1 + 1, L + 1 + 1 + 1 + 1 + 1, L + 1 + 1 + 1 + 1, L + 1 + 1 + 1, L + 1 + 1, L + 1, 92, dr]) ?_ ?_
  · k_steps
    walk_at "le5"
    case k5 =>
      (rename NeL _ [_, _, _, _, _, _, _, _, _, _] => zz)
      exact ⟨by assumption, by assumption, zz.2⟩
  refine elimP5 ?_
  dsimp only
  intro oR1 ri rvs e2 sp u2 g2 q2 hR9 F2 N2
  have hR1 := hR9.1
  have hI3 := hR9.2.1
  have hne3 := hR9.2.2
  clear hR9
  clear F1 N1 hR lifted hI
  (try dsimp only at hR1 hI3 hne3 F2 N2 ⊢)
  -- S3: shelf, numbers, plain
  refine wpAny_execs_cons ?_
  refine cutQ (σ := Addr × Nat) F2
    (fun c => [(L + 1 + 1 + 1 + 1 + 1 + 1 + 1, oP), (L + 1 + 1 + 1 + 1 + 1 + 1, oK), (L + 1 + 1 + 1 + 1 + 1, oI), (L + 1 + 1 + 1 + 1, oF), (L + 1 + 1 + 1, oJ), (L + 1 + 1, oR1), (L + 1, oD1), (92, tabObj #[]), (dr, listOf (List.toArray dvs) e1), (ri, listOf (List.toArray rvs) e2), (c.1, listOf (List.toArray []) c.2)])
    (fun c => [(Str.ofString "shelf", .ref c.1)]) [] (fun c => @LT.lt Nat _ (L + 7) c.1 ∧ @LT.lt Nat _ dr c.1 ∧ @LT.lt Nat _ ri c.1) ?_ ?_
  · k_steps
    walk_at "le2"
    case k5 =>
      dsimp only
      exact ⟨by omega, by omega, by omega⟩
  refine elimP2 ?_
  dsimp only
  intro sh e3 u3 g3 q3 hne4 F3 N3
  clear F2 N2
  (try dsimp only at hne4 F3 N3 ⊢)
  refine wpAny_execs_cons ?_
  refine cutQ (σ := Addr × Nat × Tok) F3
    (fun c => [(L + 1 + 1 + 1 + 1 + 1 + 1 + 1, oP), (L + 1 + 1 + 1 + 1 + 1 + 1, oK), (L + 1 + 1 + 1 + 1 + 1, oI), (L + 1 + 1 + 1 + 1, oF), (L + 1 + 1 + 1, oJ), (L + 1 + 1, oR1), (L + 1, oD1), (92, tabObj #[]), (dr, listOf (List.toArray dvs) e1), (ri, listOf (List.toArray rvs) e2), (sh, listOf (List.toArray []) e3), (c.1, listOf (List.toArray [.int 0 c.2.2, .int 0 c.2.2, .int 0 c.2.2, .int 0 c.2.2, .int 0 c.2.2]) c.2.1)])
    (fun c => [(Str.ofString "numbers", .ref c.1), (Str.ofString "shelf", .ref sh)]) [] (fun c => @LT.lt Nat _ sh c.1) ?_ ?_
  · k_steps
    walk_at "le3"
    case k5 =>
      dsimp only
      omega
  refine elimP3 ?_
  dsimp only
  intro nu e4 tn u4 g4 q4 hne5 F4 N4
  clear F3 N3
  (try dsimp only at hne5 F4 N4 ⊢)
  refine wpAny_execs_cons ?_
  refine cutQ (σ := Addr × Nat × Tok) F4
    (fun c => [(L + 1 + 1 + 1 + 1 + 1 + 1 + 1, oP), (L + 1 + 1 + 1 + 1 + 1 + 1, oK), (L + 1 + 1 + 1 + 1 + 1, oI), (L + 1 + 1 + 1 + 1, oF), (L + 1 + 1 + 1, oJ), (L + 1 + 1, oR1), (L + 1, oD1), (92, tabObj #[]), (dr, listOf (List.toArray dvs) e1), (ri, listOf (List.toArray rvs) e2), (sh, listOf (List.toArray []) e3), (nu, listOf (List.toArray [.int 0 tn, .int 0 tn, .int 0 tn, .int 0 tn, .int 0 tn]) e4), (c.1, listOf (List.toArray [.str (Str.ofString "") c.2.2, .str (Str.ofString "") c.2.2, .str (Str.ofString "") c.2.2, .str (Str.ofString "") c.2.2, .str (Str.ofString "") c.2.2]) c.2.1)])
    (fun c => [(Str.ofString "plain", .ref c.1), (Str.ofString "numbers", .ref nu), (Str.ofString "shelf", .ref sh)]) [] (fun c => @LT.lt Nat _ nu c.1) ?_ ?_
  · k_steps
    walk_at "le3"
    case k5 =>
      dsimp only
      omega
  refine elimP3 ?_
  dsimp only
  intro pl e5 tp u5 g5 q5 hne6 F5 N5
  clear F4 N4
  (try dsimp only at hne6 F5 N5 ⊢)
  -- S4: the five places
  refine wpAny_execs_cons ?_
  have hne7 := hne1
  simp only [NeL, and_true] at hne7
  refine forRangeG (σ := Obj × (List Value × List Int × Nat) × List Value × List Value) F5
    (fun c => [(L + 1 + 1 + 1 + 1 + 1 + 1 + 1, oP), (L + 1 + 1 + 1 + 1 + 1 + 1, oK), (L + 1 + 1 + 1 + 1 + 1, oI), (L + 1 + 1 + 1 + 1, oF), (L + 1 + 1 + 1, c.1), (L + 1 + 1, oR1), (L + 1, oD1), (92, tabObj #[]), (dr, listOf (List.toArray dvs) e1), (ri, listOf (List.toArray rvs) e2), (sh, listOf (List.toArray c.2.1.1) c.2.1.2.2), (nu, listOf (List.toArray c.2.2.1) e4), (pl, listOf (List.toArray c.2.2.2) e5)])
    (fun c => [(Str.ofString "shelf", .ref sh), (Str.ofString "numbers", .ref nu), (Str.ofString "plain", .ref pl)]) [Str.ofString "marked", Str.ofString "name", Str.ofString "figure"]
    (fun i c => (∃ v, c.1.data = Data.cell v) ∧ IntsAre c.2.1.1 c.2.1.2.1 ∧ Sorted c.2.1.2.1 ∧ c.2.1.2.1.length ≤ i ∧ List.Perm c.2.1.2.1 (partsAt ds (ringI sp) i) ∧ NumsOk c.2.2.1 (fun q : Nat => numAt ds (ringI sp) (q : Int) i) ∧ TxtsOk c.2.2.2 (fun q : Nat => txtAt ds (ringI sp) (q : Int) i)) 0 5 rfl rfl ?_ ?_ ?_
  · k_steps
    (rename IsRange _ _ _ _ _ _ _ _ => rgX)
    (rename News _ _ _ _ => nE')
    (rename Fr _ _ _ _ => fE')
    refine' RangeIs.intro (_, ([], [], _), _, _) rgX ?ks ?kn fE' nE' ?k1 ?k2 ?k4
    case k1 => first | exact fun p hp => hp | exact fun p hp => List.mem_cons_of_mem _ hp | exact fun p hp => List.mem_cons_of_mem _ (List.mem_cons_of_mem _ hp) | kst_in
    case k2 => kst_all
    case ks => decide
    case kn => decide
    case k4 => exact ⟨⟨_, hJ⟩, .nil, fun _ _ _ h => absurd h (Nat.not_lt_zero _), Nat.le_refl 0, List.Perm.refl _, nums_0, txts_0⟩
  · intro i
    refine elimS4 ?_
    dsimp only
    intro oJ1 svs shn se ns ts u6 I t s6 hi hR9 hlt9 hoff F6 N6
    (try dsimp only at hR9 F6 N6 hoff ⊢)
    obtain ⟨_, hlt⟩ := hlt9
    obtain ⟨vJ, hJ1⟩ := hR9.1
    have hS := hR9.2.1
    have hSo := hR9.2.2.1
    have hSl := hR9.2.2.2.1
    have hSp := hR9.2.2.2.2.1
    have hNs := hR9.2.2.2.2.2.1
    have hTs := hR9.2.2.2.2.2.2
    clear hR9
    have hI9 : @LT.lt Nat _ pl I := hlt (pl, _) (by k_mem)
    clear hlt
    have hmkH : HoldMark 1 := trivial
    k_steps
    refine Hold.intro ?_
    clear hmkH
    (rename Fr _ _ _ _ => F7)
    (rename News _ _ _ _ => N7)
    refine wpAny_execs_cons ?_
    refine cutQ (σ := Obj × Addr × List Value × Nat) F7
      (fun c => [(c.2.1, listOf (List.toArray c.2.2.1) c.2.2.2), (I, itR (0 + ((i + 1 : Nat) : Int)) (((5 : Nat) : Int) - ((i + 1 : Nat) : Int))), (L + 1 + 1 + 1 + 1 + 1 + 1 + 1, oP), (L + 1 + 1 + 1 + 1 + 1 + 1, oK), (L + 1 + 1 + 1 + 1 + 1, oI), (L + 1 + 1 + 1 + 1, oF), (L + 1 + 1 + 1, c.1), (L + 1 + 1, oR1), (L + 1, oD1), (92, tabObj #[]), (dr, listOf (List.toArray dvs) e1), (ri, listOf (List.toArray rvs) e2), (sh, listOf (List.toArray svs) se), (nu, listOf (List.toArray ns) e4), (pl, listOf (List.toArray ts) e5)])
      (fun c => [(Str.ofString "marked", .ref c.2.1), (Str.ofString "shelf", .ref sh), (Str.ofString "numbers", .ref nu), (Str.ofString "plain", .ref pl)]) [] (fun c => c.1.data = Data.cell (some (.int (0 + (i : Int)) t)) ∧ IntsAre c.2.2.1 (mkd ds (ringI sp) i) ∧ NeL c.2.1 [I, L + 1 + 1 + 1 + 1 + 1 + 1 + 1, L + 1 + 1 + 1 + 1 + 1 + 1, L + 1 + 1 + 1 + 1 + 1, L + 1 + 1 + 1 + 1, L + 1 + 1 + 1, L + 1 + 1, L + 1, 92, dr, ri, sh, nu, pl]) ?_ ?_
    · have ltm : LtMark := trivial
      k_steps
      walk_at "le4"
      case k5 =>
        refine ⟨by assumption, ?_, ?_⟩
        · dsimp only
          rw [← mkd_of]
          assumption
        · dsimp only
          simp only [NeL, and_true]
          assumption
    refine elimP4 ?_
    dsimp only
    intro oJ2 mk ys em u7 g7 q7 hR9 F8 N8
    have hJ2 := hR9.1
    have hM := hR9.2.1
    have hmk := hR9.2.2
    clear hR9
    clear F7 N7 hJ1
    (try dsimp only at hJ2 hM hmk F8 N8 ⊢)
    refine wpAny_execs_cons ?_
    refine cutQ (σ := List Value × List Int × Nat) F8
      (fun c => [(mk, listOf (List.toArray ys) em), (I, itR (0 + ((i + 1 : Nat) : Int)) (((5 : Nat) : Int) - ((i + 1 : Nat) : Int))), (L + 1 + 1 + 1 + 1 + 1 + 1 + 1, oP), (L + 1 + 1 + 1 + 1 + 1 + 1, oK), (L + 1 + 1 + 1 + 1 + 1, oI), (L + 1 + 1 + 1 + 1, oF), (L + 1 + 1 + 1, oJ2), (L + 1 + 1, oR1), (L + 1, oD1), (92, tabObj #[]), (dr, listOf (List.toArray dvs) e1), (ri, listOf (List.toArray rvs) e2), (sh, listOf (List.toArray c.1) c.2.2), (nu, listOf (List.toArray ns) e4), (pl, listOf (List.toArray ts) e5)])
      (fun c => [(Str.ofString "marked", .ref mk), (Str.ofString "shelf", .ref sh), (Str.ofString "numbers", .ref nu), (Str.ofString "plain", .ref pl)]) [] (fun c => IntsAre c.1 c.2.1 ∧ Sorted c.2.1 ∧ c.2.1.length ≤ i + 1 ∧ List.Perm c.2.1 (partsAt ds (ringI sp) (i + 1))) ?_ ?_
    · have hM4 := mkd_04 ds sp i
      have hMl := mkd_len ds (ringI sp) i
      have hSl2 : shn.length ≤ 100 := by omega
      have hmkH : HoldMark 5 := trivial
      k_steps
      · (rename News _ _ _ _ => nE')
        (rename Fr _ _ _ _ => fE')
        refine' LE.intro (svs, shn, se) fE' nE' ?k1 ?k2 ?k3 ?k5
        case k1 => first | exact fun p hp => hp | exact fun p hp => List.mem_cons_of_mem _ hp | exact fun p hp => List.mem_cons_of_mem _ (List.mem_cons_of_mem _ hp) | kst_in
        case k2 => (intro p hp; cases hp)
        case k3 => kst_all
        case k5 =>
          refine ⟨hS, hSo, by dsimp only; omega, ?_⟩
          show List.Perm shn (if mkd ds (ringI sp) i = [] then _ else _)
          rw [if_pos (of_decide_eq_true (by assumption))]
          exact hSp
      · refine Hold.intro ?_
        clear hmkH
        (rename News _ _ _ _ => nX)
        have nY := News.sub nX (b := [(sh, listOf (List.toArray svs) se), (mk, listOf (List.toArray ys) em), (I, itR (0 + ((i + 1 : Nat) : Int)) (((5 : Nat) : Int) - ((i + 1 : Nat) : Int))), (L + 1 + 1 + 1 + 1 + 1 + 1 + 1, oP), (L + 1 + 1 + 1 + 1 + 1 + 1, oK), (L + 1 + 1 + 1 + 1 + 1, oI), (L + 1 + 1 + 1 + 1, oF), (L + 1 + 1 + 1, oJ2), (L + 1 + 1, oR1), (L + 1, oD1), (92, tabObj #[]), (dr, listOf (List.toArray dvs) e1), (ri, listOf (List.toArray rvs) e2), (nu, listOf (List.toArray ns) e4), (pl, listOf (List.toArray ts) e5)]) (by kst_in)
        clear nX
        have hof : ∀ p ∈ [(mk, listOf (List.toArray ys) em), (I, itR (0 + ((i + 1 : Nat) : Int)) (((5 : Nat) : Int) - ((i + 1 : Nat) : Int))), (L + 1 + 1 + 1 + 1 + 1 + 1 + 1, oP), (L + 1 + 1 + 1 + 1 + 1 + 1, oK), (L + 1 + 1 + 1 + 1 + 1, oI), (L + 1 + 1 + 1 + 1, oF), (L + 1 + 1 + 1, oJ2), (L + 1 + 1, oR1), (L + 1, oD1), (92, tabObj #[]), (dr, listOf (List.toArray dvs) e1), (ri, listOf (List.toArray rvs) e2), (nu, listOf (List.toArray ns) e4), (pl, listOf (List.toArray ts) e5)], p.1 ≠ sh := by
          simp only [List.forall_mem_cons]
          refine ⟨(NeL.get hmk (by walk_at "neL_in")).symm, ?_, ?_, ?_, ?_, ?_, ?_, ?_, ?_, ?_, ?_, ?_, ?_, ?_, fun _ h => nomatch h⟩ <;> (refine neN ?_; (try dsimp only); omega)
        k_steps
        (rename News _ _ _ _ => nE')
        (rename Fr _ _ _ _ => fE')
        (rename BisR _ _ _ => hB9)
        (rename IntsAre _ (insI _ _ _) => hI9)
        refine' LE.intro (_, insI shn _ (spl (mkd ds (ringI sp) i)), se + 1) fE' nE' ?k1 ?k2 ?k3 ⟨hI9, sorted_ins hSo hB9, ?k5, ?k6⟩
        case k1 => first | exact fun p hp => hp | exact fun p hp => List.mem_cons_of_mem _ hp | exact fun p hp => List.mem_cons_of_mem _ (List.mem_cons_of_mem _ hp) | kst_in
        case k2 => (intro p hp; cases hp)
        case k3 => kst_all
        case k5 =>
          dsimp only
          rw [insI_len _ _ hB9.1 hB9.2.1]
          omega
        case k6 =>
          show List.Perm _ (if mkd ds (ringI sp) i = [] then _ else _)
          rw [if_neg (of_decide_eq_false (by assumption))]
          exact (insI_perm _ _ _).trans (hSp.cons _)
    refine elimP3 ?_
    dsimp only
    intro svs2 shn2 se2 u8 g8 q8 hR9 F9 N9
    have hS2 := hR9.1
    have hSo2 := hR9.2.1
    have hSl2 := hR9.2.2.1
    have hSp2 := hR9.2.2.2
    clear hR9
    clear F8 N8 hS hSo hSl hSp
    (try dsimp only at hS2 hSo2 hSl2 hSp2 F9 N9 ⊢)
    refine wpAny_execs_cons ?_
    refine forRangeG (σ := List Value × List Value) F9
      (fun c => [(I, itR (0 + ((i + 1 : Nat) : Int)) (((5 : Nat) : Int) - ((i + 1 : Nat) : Int))), (L + 1 + 1 + 1 + 1 + 1 + 1 + 1, oP), (L + 1 + 1 + 1 + 1 + 1 + 1, oK), (L + 1 + 1 + 1 + 1 + 1, oI), (L + 1 + 1 + 1 + 1, oF), (L + 1 + 1 + 1, oJ2), (L + 1 + 1, oR1), (L + 1, oD1), (92, tabObj #[]), (dr, listOf (List.toArray dvs) e1), (ri, listOf (List.toArray rvs) e2), (sh, listOf (List.toArray svs2) se2), (nu, listOf (List.toArray c.1) e4), (pl, listOf (List.toArray c.2) e5), (mk, listOf (List.toArray ys) em)])
      (fun c => [(Str.ofString "marked", .ref mk), (Str.ofString "shelf", .ref sh), (Str.ofString "numbers", .ref nu), (Str.ofString "plain", .ref pl)]) [Str.ofString "name", Str.ofString "figure"]
      (fun k c => NumsOk c.1 (numK ds (ringI sp) i k) ∧ TxtsOk c.2 (txtK ds (ringI sp) i k)) 0 5 rfl rfl ?_ ?_ ?_
    · k_steps
      (rename IsRange _ _ _ _ _ _ _ _ => rgX)
      (rename News _ _ _ _ => nE')
      (rename Fr _ _ _ _ => fE')
      refine' RangeIs.intro (ns, ts) rgX ?ks ?kn fE' nE' ?k1 ?k2 ?k4
      case k1 => first | exact fun p hp => hp | exact fun p hp => List.mem_cons_of_mem _ hp | exact fun p hp => List.mem_cons_of_mem _ (List.mem_cons_of_mem _ hp) | kst_in
      case k2 => kst_all
      case ks => decide
      case kn => decide
      case k4 => exact ⟨by rw [numK_0]; exact hNs, by rw [txtK_0]; exact hTs⟩
    · intro k
      refine elimP2 ?_
      dsimp only
      intro ms rs u9 I2 t2 s9 hk5 hR9 hlt9 hoff2 F10 N10
      have hNk := hR9.1
      have hTk := hR9.2
      (try dsimp only at hNk hTk F10 N10 hoff2 ⊢)
      obtain ⟨_, hlt2⟩ := hlt9
      clear hR9
      have hI10 : @LT.lt Nat _ I I2 := hlt2 (I, _) (by k_mem)
      have hI11 : @Ne Nat mk I2 := hoff2 (mk, _) (by k_mem)
      clear hlt2 hne7 hNs hTs
      have hmn : @Ne Nat mk nu := (NeL.get hmk (by walk_at "neL_in")).symm
      have hmp : @Ne Nat mk pl := (NeL.get hmk (by walk_at "neL_in")).symm
      have hl1 := hNk.lt hk5
      have hl2 := hTk.lt hk5
      have hl3 := txtK_len ds (ringI sp) (k := k) (q := k) hi
      obtain ⟨tn9, hx9⟩ := hNk.get hk5
      obtain ⟨tp9, hy9⟩ := hTk.get hk5
      have im9 : ItemMark := trivial
      rw [Int.zero_add]
      k_steps
      · (rename News _ _ _ _ => nE')
        (rename Fr _ _ _ _ => fE')
        refine' LE.intro (_, _) fE' nE' ?k1 ?k2 ?k3 ?k5
        case k1 => first | exact fun p hp => hp | exact fun p hp => List.mem_cons_of_mem _ hp | exact fun p hp => List.mem_cons_of_mem _ (List.mem_cons_of_mem _ hp) | kst_in
        case k2 => exact off_same hoff2 rfl
        case k3 => kst_all
        case k5 => exact ⟨nums_T hNk (by assumption), txts_T hTk (by assumption)⟩
      · (rename News _ _ _ _ => nE')
        (rename Fr _ _ _ _ => fE')
        refine' LE.intro (_, _) fE' nE' ?k1 ?k2 ?k3 ?k5
        case k1 => first | exact fun p hp => hp | exact fun p hp => List.mem_cons_of_mem _ hp | exact fun p hp => List.mem_cons_of_mem _ (List.mem_cons_of_mem _ hp) | kst_in
        case k2 => exact off_same hoff2 rfl
        case k3 => kst_all
        case k5 => exact ⟨nums_F hNk (by assumption), txts_F hTk (by assumption)⟩
    · refine elimP2 ?_
      dsimp only
      intro ms rs u9 g9 q9 hR9 F10 N10
      (try dsimp only at F10 N10 ⊢)
      clear hne7 F9 N9
      k_steps
      (rename News _ _ _ _ => nE')
      (rename Fr _ _ _ _ => fE')
      refine' LE.intro (oJ2, (svs2, shn2, se2), ms, rs) fE' nE' ?k1 (off_same hoff rfl) ?k3 ⟨⟨_, hJ2⟩, hS2, hSo2, hSl2, hSp2, nums_5 hR9.1, txts_5 hR9.2⟩
      case k1 => first | exact fun p hp => hp | exact fun p hp => List.mem_cons_of_mem _ hp | exact fun p hp => List.mem_cons_of_mem _ (List.mem_cons_of_mem _ hp) | kst_in
      case k3 => kst_all
  · refine elimS4 ?_
    dsimp only
    intro oJ3 sv sn se ns ts u6 g6 q6 hR9 F6 N6
    (try dsimp only at hR9 F6 N6 ⊢)
    obtain ⟨vJ, hJ3⟩ := hR9.1
    have hS := hR9.2.1
    have hSo := hR9.2.2.1
    have hSl := hR9.2.2.2.1
    have hSp := hR9.2.2.2.2.1
    have hNs := hR9.2.2.2.2.2.1
    have hTs := hR9.2.2.2.2.2.2
    clear hR9
    clear F5 N5 hJ
    have N6b := N6
    clear N6
    revert N6b hTs hNs ts ns
    refine elimW ?_
    intro n0 n1 n2 n3 n4 p0 p1 p2 p3 p4 tn0 tn1 tn2 tn3 tn4 tp0 tp1 tp2 tp3 tp4 w0 w1 w2 w3 w4 c0 c1 c2 c3 c4
    intro N6
    have fmk : FastMark := trivial
    -- S5: words
    refine wpAny_execs_cons ?_
    refine cutQ (σ := Addr × Nat × (Tok × Tok × Tok × Tok × Tok)) F6
      (fun c => [(L + 1 + 1 + 1 + 1 + 1 + 1 + 1, oP), (L + 1 + 1 + 1 + 1 + 1 + 1, oK), (L + 1 + 1 + 1 + 1 + 1, oI), (L + 1 + 1 + 1 + 1, oF), (L + 1 + 1 + 1, oJ3), (L + 1 + 1, oR1), (L + 1, oD1), (92, tabObj #[]), (dr, listOf (List.toArray dvs) e1), (ri, listOf (List.toArray rvs) e2), (sh, listOf (List.toArray sv) se), (nu, listOf (List.toArray [.int n0 tn0, .int n1 tn1, .int n2 tn2, .int n3 tn3, .int n4 tn4]) e4), (pl, listOf (List.toArray [.str p0 tp0, .str p1 tp1, .str p2 tp2, .str p3 tp3, .str p4 tp4]) e5), (c.1, listOf (List.toArray [.str p0 c.2.2.1, .str p1 c.2.2.2.1, .str p2 c.2.2.2.2.1, .str p3 c.2.2.2.2.2.1, .str p4 c.2.2.2.2.2.2]) c.2.1)])
      (fun c => [(Str.ofString "words", .ref c.1), (Str.ofString "shelf", .ref sh), (Str.ofString "plain", .ref pl)]) [] (fun c => NeL c.1 [L + 1 + 1 + 1 + 1 + 1 + 1 + 1, L + 1 + 1 + 1 + 1 + 1 + 1, L + 1 + 1 + 1 + 1 + 1, L + 1 + 1 + 1 + 1, L + 1 + 1 + 1, L + 1 + 1, L + 1, 92, dr, ri, sh, nu, pl]) ?_ ?_
    · have ltm : LtMark := trivial
      k_steps
      (rename News _ _ _ _ => nE')
      (rename Fr _ _ _ _ => fE')
      refine' LE.intro (_, _, (_, _, _, _, _)) fE' nE' ?k1 ?k2 ?k3 ?k5
      case k1 => first | exact fun p hp => hp | exact fun p hp => List.mem_cons_of_mem _ hp | exact fun p hp => List.mem_cons_of_mem _ (List.mem_cons_of_mem _ hp) | kst_in
      case k2 => (intro p hp; cases hp)
      case k3 => kst_all
      case k5 =>
        dsimp only
        simp only [NeL, and_true]
        assumption
    refine elimP7 ?_
    dsimp only
    intro wd e6 v0 v1 v2 v3 v4 u7 g7 q7 hwd F7 N7
    clear F6 N6
    (try dsimp only at hwd F7 N7 ⊢)
    have so0 : PyData.strOk p0 = true := w0.ok
    have so1 : PyData.strOk p1 = true := w1.ok
    have so2 : PyData.strOk p2 = true := w2.ok
    have so3 : PyData.strOk p3 = true := w3.ok
    have so4 : PyData.strOk p4 = true := w4.ok
    -- S6: words != plain
    refine wpAny_execs_cons ?_
    refine cutQ (σ := Unit) F7 (fun c => [(L + 1 + 1 + 1 + 1 + 1 + 1 + 1, oP), (L + 1 + 1 + 1 + 1 + 1 + 1, oK), (L + 1 + 1 + 1 + 1 + 1, oI), (L + 1 + 1 + 1 + 1, oF), (92, tabObj #[]), (sh, listOf (List.toArray sv) se), (wd, listOf (List.toArray [.str p0 v0, .str p1 v1, .str p2 v2, .str p3 v3, .str p4 v4]) e6)]) (fun c => [(Str.ofString "shelf", .ref sh), (Str.ofString "words", .ref wd)]) [] (fun c => True) ?_ ?_
    · k_steps
      (rename News _ _ _ _ => nE')
      (rename Fr _ _ _ _ => fE')
      refine' LE.intro () fE' nE' ?k1 ?k2 ?k3 trivial
      case k1 => first | exact fun p hp => hp | exact fun p hp => List.mem_cons_of_mem _ hp | exact fun p hp => List.mem_cons_of_mem _ (List.mem_cons_of_mem _ hp) | kst_in
      case k2 => (intro p hp; cases hp)
      case k3 => kst_all
    rintro ⟨⟩ u8 g8 q8 - F8 N8
    clear F7 N7
    (try dsimp only at F8 N8 ⊢)
    have hsh : @LT.lt Nat _ (L + 7) sh := hne4.1
    have hw9 : NeL wd [L + 1 + 1 + 1 + 1 + 1 + 1 + 1, L + 1 + 1 + 1 + 1 + 1 + 1, L + 1 + 1 + 1 + 1 + 1, L + 1 + 1 + 1 + 1, 92, sh] := by
      refine ⟨NeL.get hwd (by walk_at "neL_in"), NeL.get hwd (by walk_at "neL_in"), NeL.get hwd (by walk_at "neL_in"), NeL.get hwd (by walk_at "neL_in"), NeL.get hwd (by walk_at "neL_in"), NeL.get hwd (by walk_at "neL_in"), trivial⟩
    clear hwd hne1 hne7 hne3 hne4 hne5 hne6 w0 so0 w1 so1 w2 so2 w3 so3 w4 so4
    -- S7: far
    refine wpAny_execs_cons ?_
    refine cutQ (σ := Obj × Addr × Nat × (Addr × Nat × Tok) × (Addr × Nat × Tok) × (Addr × Nat × Tok) × (Addr × Nat × Tok) × (Addr × Nat × Tok)) F8
      (fun c => [(L + 1 + 1 + 1 + 1 + 1 + 1 + 1, oP), (L + 1 + 1 + 1 + 1 + 1 + 1, oK), (L + 1 + 1 + 1 + 1 + 1, oI), (L + 1 + 1 + 1 + 1, c.1), (92, tabObj #[]), (sh, listOf (List.toArray sv) se), (wd, listOf (List.toArray [.str p0 v0, .str p1 v1, .str p2 v2, .str p3 v3, .str p4 v4]) e6), (c.2.1, listOf (List.toArray [.ref c.2.2.2.1.1, .ref c.2.2.2.2.1.1, .ref c.2.2.2.2.2.1.1, .ref c.2.2.2.2.2.2.1.1, .ref c.2.2.2.2.2.2.2.1]) c.2.2.1), (c.2.2.2.1.1, listOf (List.toArray [.int 0 c.2.2.2.1.2.2, .int 0 c.2.2.2.1.2.2, .int 0 c.2.2.2.1.2.2, .int 0 c.2.2.2.1.2.2, .int 0 c.2.2.2.1.2.2]) c.2.2.2.1.2.1), (c.2.2.2.2.1.1, listOf (List.toArray [.int 0 c.2.2.2.2.1.2.2, .int 0 c.2.2.2.2.1.2.2, .int 0 c.2.2.2.2.1.2.2, .int 0 c.2.2.2.2.1.2.2, .int 0 c.2.2.2.2.1.2.2]) c.2.2.2.2.1.2.1), (c.2.2.2.2.2.1.1, listOf (List.toArray [.int 0 c.2.2.2.2.2.1.2.2, .int 0 c.2.2.2.2.2.1.2.2, .int 0 c.2.2.2.2.2.1.2.2, .int 0 c.2.2.2.2.2.1.2.2, .int 0 c.2.2.2.2.2.1.2.2]) c.2.2.2.2.2.1.2.1), (c.2.2.2.2.2.2.1.1, listOf (List.toArray [.int 0 c.2.2.2.2.2.2.1.2.2, .int 0 c.2.2.2.2.2.2.1.2.2, .int 0 c.2.2.2.2.2.2.1.2.2, .int 0 c.2.2.2.2.2.2.1.2.2, .int 0 c.2.2.2.2.2.2.1.2.2]) c.2.2.2.2.2.2.1.2.1), (c.2.2.2.2.2.2.2.1, listOf (List.toArray [.int 0 c.2.2.2.2.2.2.2.2.2, .int 0 c.2.2.2.2.2.2.2.2.2, .int 0 c.2.2.2.2.2.2.2.2.2, .int 0 c.2.2.2.2.2.2.2.2.2, .int 0 c.2.2.2.2.2.2.2.2.2]) c.2.2.2.2.2.2.2.2.1)])
      (fun c => [(Str.ofString "shelf", .ref sh), (Str.ofString "words", .ref wd)]) [] (fun c => c.1.data = Data.cell (some (.ref c.2.1)) ∧ NeL c.2.1 [c.2.2.2.2.2.2.2.1, c.2.2.2.2.2.2.1.1, c.2.2.2.2.2.1.1, c.2.2.2.2.1.1, c.2.2.2.1.1, L + 1 + 1 + 1 + 1 + 1 + 1 + 1, L + 1 + 1 + 1 + 1 + 1 + 1, L + 1 + 1 + 1 + 1 + 1, L + 1 + 1 + 1 + 1, 92, sh, wd] ∧ @LT.lt Nat _ wd c.2.2.2.1.1 ∧ @LT.lt Nat _ sh c.2.2.2.1.1 ∧ @LT.lt Nat _ c.2.2.2.1.1 c.2.2.2.2.1.1 ∧ @LT.lt Nat _ c.2.2.2.2.1.1 c.2.2.2.2.2.1.1 ∧ @LT.lt Nat _ c.2.2.2.2.2.1.1 c.2.2.2.2.2.2.1.1 ∧ @LT.lt Nat _ c.2.2.2.2.2.2.1.1 c.2.2.2.2.2.2.2.1) ?_ ?_
    · have ltm : LtMark := trivial
      k_steps
      (rename News _ _ _ _ => nE')
      (rename Fr _ _ _ _ => fE')
      (rename @Ne Nat _ _ ∧ @Ne Nat _ _ ∧ _ => oo)
      refine' LE.intro (_, _, _, (_, _, _), (_, _, _), (_, _, _), (_, _, _), (_, _, _)) fE' nE' ?k1 ?k2 ?k3 ?k5
      case k1 => first | exact fun p hp => hp | exact fun p hp => List.mem_cons_of_mem _ hp | exact fun p hp => List.mem_cons_of_mem _ (List.mem_cons_of_mem _ hp) | kst_in
      case k2 => (intro p hp; cases hp)
      case k3 => kst_all
      case k5 =>
        refine ⟨by assumption, ?_, ?_⟩
        · dsimp only
          simp only [NeL, and_true]
          exact oo
        · clear oo
          dsimp only
          refine ⟨?_, ?_, ?_, ?_, ?_, ?_⟩ <;> walk_at "lt9"
    refine elimFar ?_
    dsimp only
    intro oF1 fr e7 f e o u9 g9 q9 hR9 F9 N9
    have hF1 := hR9.1
    have hfr := hR9.2.1
    have hwf := hR9.2.2.1
    have hsf := hR9.2.2.2.1
    have hf0 := hR9.2.2.2.2.1
    have hf1 := hR9.2.2.2.2.2.1
    have hf2 := hR9.2.2.2.2.2.2.1
    have hf3 := hR9.2.2.2.2.2.2.2
    clear hR9
    clear F8 N8 hF
    (try dsimp only at hF1 hfr hwf hsf hf0 hf1 hf2 hf3 F9 N9 ⊢)
    -- S8: the distances
    have hsn : sn.length ≤ 100 := by omega
    have hfl : ∀ a b : Nat, a < b → b < 5 → @LT.lt Nat _ (f a) (f b) := inc5 hf0 hf1 hf2 hf3
    have hfw : ∀ a : Nat, a < 5 → @LT.lt Nat _ wd (f a) ∧ @LT.lt Nat _ sh (f a) := by
      intro a ha
      by_cases h0 : a = 0
      · subst h0; exact ⟨hwf, hsf⟩
      · have z := hfl 0 a (by omega) ha
        exact ⟨Nat.lt_trans hwf z, Nat.lt_trans hsf z⟩
    have hfr5 : ∀ a : Nat, a < 5 → @Ne Nat (f a) fr := all5 (NeL.get hfr (by walk_at "neL_in")) (NeL.get hfr (by walk_at "neL_in")) (NeL.get hfr (by walk_at "neL_in")) (NeL.get hfr (by walk_at "neL_in")) (NeL.get hfr (by walk_at "neL_in"))
    have hfr7 : NeL fr [L + 1 + 1 + 1 + 1 + 1 + 1 + 1, L + 1 + 1 + 1 + 1 + 1 + 1, L + 1 + 1 + 1 + 1 + 1, L + 1 + 1 + 1 + 1, 92, sh, wd] := ⟨NeL.get hfr (by walk_at "neL_in"), NeL.get hfr (by walk_at "neL_in"), NeL.get hfr (by walk_at "neL_in"), NeL.get hfr (by walk_at "neL_in"), NeL.get hfr (by walk_at "neL_in"), NeL.get hfr (by walk_at "neL_in"), NeL.get hfr (by walk_at "neL_in"), trivial⟩
    have hR0 : ∀ a : Nat, a < 5 → IntsAre ((fun a : Nat => [.int 0 (o a), .int 0 (o a), .int 0 (o a), .int 0 (o a), .int 0 (o a)]) a) (rowI (dst ds (ringI sp)) 0 0 a) := by
      intro a _
      rw [rowI_start]
      exact .cons 0 _ (.cons 0 _ (.cons 0 _ (.cons 0 _ (.cons 0 _ .nil))))
    clear hfr
    have hW9 : ∀ a : Nat, a < 5 → ∃ t, [Value.str p0 v0, Value.str p1 v1, Value.str p2 v2, Value.str p3 v3, Value.str p4 v4][((a : Int)).toNat]? = some (.str (txtAt ds (ringI sp) a 5) t) := fun a ha => words_at c0 c1 c2 c3 c4 ha
    refine wpAny_execs_cons ?_
    refine forRangeG (σ := Obj × Obj × (Nat → List Value)) F9
      (fun c => [(L + 1 + 1 + 1 + 1 + 1 + 1 + 1, oP), (L + 1 + 1 + 1 + 1 + 1 + 1, c.2.1), (L + 1 + 1 + 1 + 1 + 1, c.1), (L + 1 + 1 + 1 + 1, oF1), (92, tabObj #[]), (sh, listOf (List.toArray sv) se), (wd, listOf (List.toArray [.str p0 v0, .str p1 v1, .str p2 v2, .str p3 v3, .str p4 v4]) e6), (fr, listOf (List.toArray [.ref (f 0), .ref (f 1), .ref (f 2), .ref (f 3), .ref (f 4)]) e7), (f 0, listOf (List.toArray (c.2.2 0)) (e 0)), (f 1, listOf (List.toArray (c.2.2 1)) (e 1)), (f 2, listOf (List.toArray (c.2.2 2)) (e 2)), (f 3, listOf (List.toArray (c.2.2 3)) (e 3)), (f 4, listOf (List.toArray (c.2.2 4)) (e 4))])
      (fun c => [(Str.ofString "shelf", .ref sh), (Str.ofString "words", .ref wd)]) [] (fun i c => (∃ v, c.1.data = Data.cell v) ∧ (∃ v, c.2.1.data = Data.cell v) ∧ ∀ a : Nat, a < 5 → IntsAre (c.2.2 a) (rowI (dst ds (ringI sp)) i 0 a)) 0 5 rfl rfl ?_ ?_ ?_
    · k_steps
      (rename IsRange _ _ _ _ _ _ _ _ => rgX)
      (rename News _ _ _ _ => nE')
      (rename Fr _ _ _ _ => fE')
      refine' RangeIs.intro (_, _, (fun a : Nat => [.int 0 (o a), .int 0 (o a), .int 0 (o a), .int 0 (o a), .int 0 (o a)])) rgX ?ks ?kn fE' nE' ?k1 ?k2 ?k4
      case k1 => first | exact fun p hp => hp | exact fun p hp => List.mem_cons_of_mem _ hp | exact fun p hp => List.mem_cons_of_mem _ (List.mem_cons_of_mem _ hp) | kst_in
      case k2 => kst_all
      case ks => decide
      case kn => decide
      case k4 => exact ⟨⟨_, hI2⟩, ⟨_, hK⟩, hR0⟩
    · intro i
      refine elimP3 ?_
      dsimp only
      intro oI1 oK1 V1 u10 I ti s10 hi hR9 hlt9 hoff F10 N10
      obtain ⟨_, hlt⟩ := hlt9
      obtain ⟨vI, hI1⟩ := hR9.1
      obtain ⟨vK, hK1⟩ := hR9.2.1
      have hR1 := hR9.2.2
      clear hR9
      (try dsimp only at hI1 hK1 hR1 F10 N10 hoff ⊢)
      have hI9 : @LT.lt Nat _ (f 4) I := hlt (f 4, _) (by k_mem)
      have hI8 : @Ne Nat fr I := hoff (fr, _) (by k_mem)
      have hI7 : @LT.lt Nat _ (f 0) (f 4) := hfl 0 4 (by decide) (by decide)
      clear hlt hoff
      have hmkH : HoldMark 1 := trivial
      k_steps
      refine Hold.intro ?_
      clear hmkH
      (rename Fr _ _ _ _ => F11)
      (rename News _ _ _ _ => N11)
      (rename _ = Data.cell (some (Value.int _ _)) => hI3)
      rw [Int.zero_add] at hI3
      clear hI1
      refine wpAny_execs_cons ?_
      rename Obj => oI4
      refine forRangeG (σ := Obj × (Nat → List Value)) F11
        (fun c => [(I, itR (0 + ((i + 1 : Nat) : Int)) (((5 : Nat) : Int) - ((i + 1 : Nat) : Int))), (L + 1 + 1 + 1 + 1 + 1 + 1 + 1, oP), (L + 1 + 1 + 1 + 1 + 1 + 1, c.1), (L + 1 + 1 + 1 + 1 + 1, oI4), (L + 1 + 1 + 1 + 1, oF1), (92, tabObj #[]), (sh, listOf (List.toArray sv) se), (wd, listOf (List.toArray [.str p0 v0, .str p1 v1, .str p2 v2, .str p3 v3, .str p4 v4]) e6), (fr, listOf (List.toArray [.ref (f 0), .ref (f 1), .ref (f 2), .ref (f 3), .ref (f 4)]) e7), (f 0, listOf (List.toArray (c.2 0)) (e 0)), (f 1, listOf (List.toArray (c.2 1)) (e 1)), (f 2, listOf (List.toArray (c.2 2)) (e 2)), (f 3, listOf (List.toArray (c.2 3)) (e 3)), (f 4, listOf (List.toArray (c.2 4)) (e 4))])
        (fun c => [(Str.ofString "shelf", .ref sh), (Str.ofString "words", .ref wd)]) [] (fun k c => (∃ v, c.1.data = Data.cell v) ∧ ∀ a : Nat, a < 5 → IntsAre (c.2 a) (rowI (dst ds (ringI sp)) i k a)) 0 i rfl rfl ?_ ?_ ?_
      · k_steps
        (rename IsRange _ _ _ _ _ _ _ _ => rgX)
        (rename News _ _ _ _ => nE')
        (rename Fr _ _ _ _ => fE')
        refine' RangeIs.intro (_, V1) rgX ?ks ?kn fE' nE' ?k1 ?k2 ?k4
        case k1 => first | exact fun p hp => hp | exact fun p hp => List.mem_cons_of_mem _ hp | exact fun p hp => List.mem_cons_of_mem _ (List.mem_cons_of_mem _ hp) | kst_in
        case k2 => kst_all
        case ks => exact (rng_ok hi).1
        case kn => exact (rng_ok hi).2
        case k4 => exact ⟨⟨_, hK1⟩, hR1⟩
      · intro k
        refine elimP2 ?_
        dsimp only
        intro oK2 V2 u11 I2 t2 s11 hk5 hR9 hlt9 hoff2 F12 N12
        obtain ⟨_, hlt2⟩ := hlt9
        obtain ⟨vK2, hK2⟩ := hR9.1
        have hR2 := hR9.2
        clear hR9
        (try dsimp only at hK2 hR2 F12 N12 hoff2 ⊢)
        have hI10 : @LT.lt Nat _ I I2 := hlt2 (I, _) (by k_mem)
        have hI11 : @Ne Nat fr I2 := hoff2 (fr, _) (by k_mem)
        clear hlt2 hoff2
        have hL9 : LevOK (txtAt ds (ringI sp) i 5) (txtAt ds (ringI sp) k 5) (dst ds (ringI sp) i k) := by rw [txt_bt, txt_bt]; exact lev5 _ _ _ _ _ _ _ _ _ _
        have hC9 : dst ds (ringI sp) i k = 2 * ((sn.filter (sepB i k)).length : Int) := dst_sn hSp hi (Nat.lt_trans hk5 hi)
        have hk5' : k < 5 := Nat.lt_trans hk5 hi
        obtain ⟨tWi, hWi⟩ := hW9 i hi
        obtain ⟨tWk, hWk⟩ := hW9 k hk5'
        have hFi := refs_at (f := f) hi
        have hFk := refs_at (f := f) hk5'
        have hPi := pow2_ok hi
        have hPk := pow2_ok hk5'
        have hVi : (V2 i).length = 5 := by rw [IntsAre.length (hR2 i hi), rowI_len]
        have hVk : (V2 k).length = 5 := by rw [IntsAre.length (hR2 k hk5'), rowI_len]
        have hVi' : k < (V2 i).length := by rw [hVi]; exact hk5'
        have hVk' : i < (V2 k).length := by rw [hVk]; exact hi
        have hfik := hfl k i hk5 hi
        have hfi4 : @LT.lt Nat _ (f i) I := by
          by_cases h4 : i = 4
          · subst h4; exact hI9
          · exact Nat.lt_trans (hfl i 4 (by omega) (by decide)) hI9
        have hfwi := hfw i hi
        have hfwk := hfw k hk5'
        have hfrN : NeL fr [f i, f k, I2, I, L + 1 + 1 + 1 + 1 + 1 + 1 + 1, L + 1 + 1 + 1 + 1 + 1 + 1, L + 1 + 1 + 1 + 1 + 1, L + 1 + 1 + 1 + 1, 92, sh, wd] := ⟨hfr5 i hi, hfr5 k hk5', hI11.symm, hI8.symm, hfr7⟩
        have hoi : ∀ p ∈ othR f e V2 i k, p.1 ≠ f i := by
          intro p hp
          obtain ⟨a, ha, h1, h2, rfl⟩ := othR_of hp
          rcases Nat.lt_or_gt_of_ne h1 with h | h
          · exact Nat.ne_of_lt (hfl a i h hi)
          · exact Nat.ne_of_gt (hfl i a h ha)
        have hok : ∀ p ∈ othR f e V2 i k, p.1 ≠ f k := by
          intro p hp
          obtain ⟨a, ha, h1, h2, rfl⟩ := othR_of hp
          rcases Nat.lt_or_gt_of_ne h2 with h | h
          · exact Nat.ne_of_lt (hfl a k h hk5')
          · exact Nat.ne_of_gt (hfl k a h ha)
        have hmkH : HoldMark 1 := trivial
        k_steps
        refine Hold.intro ?_
        clear hmkH
        (rename Fr _ _ _ _ => F13)
        (rename News _ _ _ _ => N13)
        (rename _ = Data.cell (some (Value.int _ _)) => hK3)
        rw [Int.zero_add] at hK3
        clear hK2 hI8 hfr5 hfr7 hfw hfl
        rename Obj => oK4
        have N14 := news_split (base := [(I2, itR (0 + ((k + 1 : Nat) : Int)) (((i : Nat) : Int) - ((k + 1 : Nat) : Int))), (I, itR (0 + ((i + 1 : Nat) : Int)) (((5 : Nat) : Int) - ((i + 1 : Nat) : Int))), (L + 1 + 1 + 1 + 1 + 1 + 1 + 1, oP), (L + 1 + 1 + 1 + 1 + 1 + 1, oK4), (L + 1 + 1 + 1 + 1 + 1, oI4), (L + 1 + 1 + 1 + 1, oF1), (92, tabObj #[]), (sh, listOf (List.toArray sv) se), (wd, listOf (List.toArray [.str p0 v0, .str p1 v1, .str p2 v2, .str p3 v3, .str p4 v4]) e6), (fr, listOf (List.toArray [.ref (f 0), .ref (f 1), .ref (f 2), .ref (f 3), .ref (f 4)]) e7)]) (f := f) (e := e) (V := V2) N13 hi hk5'
        simp only [List.cons_append, List.nil_append] at N14
        clear N13
        k_steps
        refine Hold.intro ?_
        intro ys hys
        dsimp only
        k_steps
        all_goals (try exact absurd hC9 (by assumption))
        (rename News _ _ _ _ => nE')
        (rename Fr _ _ _ _ => fE')
        obtain ⟨V9, hR9, nJ⟩ := rows_end (f := f) (e := e) (V := V2) (i := i) (k := k) (D := (dst ds (ringI sp))) nE' [(I2, itR (0 + ((k + 1 : Nat) : Int)) (((i : Nat) : Int) - ((k + 1 : Nat) : Int))), (I, itR (0 + ((i + 1 : Nat) : Int)) (((5 : Nat) : Int) - ((i + 1 : Nat) : Int))), (L + 1 + 1 + 1 + 1 + 1 + 1 + 1, oP), (L + 1 + 1 + 1 + 1 + 1 + 1, oK4), (L + 1 + 1 + 1 + 1 + 1, oI4), (L + 1 + 1 + 1 + 1, oF1), (92, tabObj #[]), (sh, listOf (List.toArray sv) se), (wd, listOf (List.toArray [.str p0 v0, .str p1 v1, .str p2 v2, .str p3 v3, .str p4 v4]) e6), (fr, listOf (List.toArray [.ref (f 0), .ref (f 1), .ref (f 2), .ref (f 3), .ref (f 4)]) e7)] (by kst_in) (by k_mem) (by k_mem) (by intro p hp; repeat (first | exact hp | refine List.mem_cons_of_mem _ ?_)) hR2 hk5 hi
        refine' LE.intro (oK4, V9) fE' nJ ?k1 ?k2 ?k3 ?k5
        case k1 => exact fun p hp => hp
        case k2 =>
          intro p hp
          rw [List.mem_singleton.mp hp]
          simp only [List.forall_mem_cons]
          refine ⟨?_, ?_, ?_, ?_, ?_, ?_, ?_, ?_, ?_, ?_, ?_, ?_, ?_, ?_, fun _ h => nomatch h⟩ <;> (refine neN ?_; (try dsimp only); omega)
        case k3 => kst_all
        case k5 => exact ⟨⟨_, hK3⟩, hR9⟩
      · refine elimP2 ?_
        dsimp only
        intro oK3 V3 u11 g11 q11 hR9 F12 N12
        obtain ⟨vK3, hK3⟩ := hR9.1
        have hR3 := hR9.2
        clear hR9
        (try dsimp only at hK3 hR3 F12 N12 ⊢)
        k_steps
        (rename News _ _ _ _ => nE')
        (rename Fr _ _ _ _ => fE')
        refine' LE.intro (oI4, oK3, V3) fE' nE' ?k1 ?k2 ?k3 ?k5
        case k1 => first | exact fun p hp => hp | exact fun p hp => List.mem_cons_of_mem _ hp | exact fun p hp => List.mem_cons_of_mem _ (List.mem_cons_of_mem _ hp) | kst_in
        case k2 =>
          intro p hp
          rw [List.mem_singleton.mp hp]
          simp only [List.forall_mem_cons]
          refine ⟨?_, ?_, ?_, ?_, ?_, ?_, ?_, ?_, ?_, ?_, ?_, ?_, ?_, fun _ h => nomatch h⟩ <;> (refine neN ?_; (try dsimp only); omega)
        case k3 => kst_all
        case k5 => exact ⟨⟨_, hI3⟩, ⟨_, hK3⟩, fun a ha => by rw [← rowI_next _ hi ha]; exact hR3 a ha⟩
    refine elimP3 ?_
    dsimp only
    intro oI5 oK5 V5 u10 g10 q10 hR9 F10 N10
    obtain ⟨vI5, hI5⟩ := hR9.1
    obtain ⟨vK5, hK5⟩ := hR9.2.1
    have hR5 := hR9.2.2
    clear hR9
    clear F9 N9 hI2 hK hR0
    (try dsimp only at hI5 hK5 hR5 F10 N10 ⊢)
    -- S9: the ways
    have N11 : News h₀ L g10 ((L + 1 + 1 + 1 + 1 + 1 + 1 + 1, oP) :: (L + 1 + 1 + 1 + 1 + 1 + 1, oK5) :: (L + 1 + 1 + 1 + 1, oF1) :: (92, tabObj #[]) :: (sh, listOf (List.toArray sv) se) :: (fr, listOf (List.toArray [.ref (f 0), .ref (f 1), .ref (f 2), .ref (f 3), .ref (f 4)]) e7) :: rows5 f e V5) := News.sub N10 (b := [(L + 1 + 1 + 1 + 1 + 1 + 1 + 1, oP), (L + 1 + 1 + 1 + 1 + 1 + 1, oK5), (L + 1 + 1 + 1 + 1, oF1), (92, tabObj #[]), (sh, listOf (List.toArray sv) se), (fr, listOf (List.toArray [.ref (f 0), .ref (f 1), .ref (f 2), .ref (f 3), .ref (f 4)]) e7), (f 0, listOf (List.toArray (V5 0)) (e 0)), (f 1, listOf (List.toArray (V5 1)) (e 1)), (f 2, listOf (List.toArray (V5 2)) (e 2)), (f 3, listOf (List.toArray (V5 3)) (e 3)), (f 4, listOf (List.toArray (V5 4)) (e 4))]) (by kst_in)
    have F11 := F10
    clear F10 N10
    have hRm : ∀ a : Nat, a < 5 → (f a, listOf (List.toArray (V5 a)) (e a)) ∈ rows5 f e V5 := fun a ha => rows_mem ha
    have hRn : ∀ p ∈ rows5 f e V5, @LT.lt Nat _ sh p.1 ∧ @Ne Nat p.1 fr := by
      intro p hp
      obtain ⟨a, ha, rfl⟩ := rows_of hp
      exact ⟨(hfw a ha).2, hfr5 a ha⟩
    generalize rows5 f e V5 = RT at N11 hRm hRn
    have hfr9 : NeL fr [L + 1 + 1 + 1 + 1 + 1 + 1 + 1, L + 1 + 1 + 1 + 1 + 1 + 1, L + 1 + 1 + 1 + 1, 92, sh] := ⟨NeL.get hfr7 (by walk_at "neL_in"), NeL.get hfr7 (by walk_at "neL_in"), NeL.get hfr7 (by walk_at "neL_in"), NeL.get hfr7 (by walk_at "neL_in"), NeL.get hfr7 (by walk_at "neL_in"), trivial⟩
    clear hfl hfw hfr5 hfr7 hW9 hw9 hwf hsf hf0 hf1 hf2 hf3
    refine wpAny_execs_cons ?_
    refine cutQ (σ := Addr × Nat × List WayO) F11 (fun c => (c.1, listOf (List.toArray (wRefs c.2.2)) c.2.1) :: (wObjs c.2.2 ++ ((L + 1 + 1 + 1 + 1 + 1 + 1 + 1, oP) :: (L + 1 + 1 + 1 + 1 + 1 + 1, oK5) :: (L + 1 + 1 + 1 + 1, oF1) :: (92, tabObj #[]) :: (sh, listOf (List.toArray sv) se) :: (fr, listOf (List.toArray [.ref (f 0), .ref (f 1), .ref (f 2), .ref (f 3), .ref (f 4)]) e7) :: RT)))
      (fun c => [(Str.ofString "ways", .ref c.1), (Str.ofString "shelf", .ref sh)]) [] (fun c => WOk c.1 ((L + 1 + 1 + 1 + 1 + 1 + 1 + 1, oP) :: (L + 1 + 1 + 1 + 1 + 1 + 1, oK5) :: (L + 1 + 1 + 1 + 1, oF1) :: (92, tabObj #[]) :: (sh, listOf (List.toArray sv) se) :: (fr, listOf (List.toArray [.ref (f 0), .ref (f 1), .ref (f 2), .ref (f 3), .ref (f 4)]) e7) :: RT) c.2.2 (wA 4) ∧ ∀ p ∈ ((L + 1 + 1 + 1 + 1 + 1 + 1 + 1, oP) :: (L + 1 + 1 + 1 + 1 + 1 + 1, oK5) :: (L + 1 + 1 + 1 + 1, oF1) :: (92, tabObj #[]) :: (sh, listOf (List.toArray sv) se) :: (fr, listOf (List.toArray [.ref (f 0), .ref (f 1), .ref (f 2), .ref (f 3), .ref (f 4)]) e7) :: RT), @LT.lt Nat _ p.1 c.1) ?_ ?_
    · k_steps
      (rename News _ _ _ _ => nE')
      (rename Fr _ _ _ _ => fE')
      (rename WOk _ _ _ _ => hWx)
      refine' LE.intro (_, _, _) fE' nE' ?k1 ?k2 ?k3 ⟨hWx, by assumption⟩
      case k1 => (intro p hp; rw [List.nil_append] at hp; exact hp)
      case k2 => (intro p hp; cases hp)
      case k3 => kst_all
    refine elimP3 ?_
    dsimp only
    intro wy ew cw u11 g11 q11 hR9 F12 N12
    have hW := hR9.1
    have hwy := hR9.2
    clear hR9
    clear F11 N11
    (try dsimp only at hW hwy F12 N12 ⊢)
    have N13 : News h₀ L g11 ((L + 1 + 1 + 1 + 1 + 1 + 1 + 1, oP) :: (L + 1 + 1 + 1 + 1 + 1 + 1, oK5) :: (L + 1 + 1 + 1 + 1, oF1) :: (92, tabObj #[]) :: (sh, listOf (List.toArray sv) se) :: (fr, listOf (List.toArray [.ref (f 0), .ref (f 1), .ref (f 2), .ref (f 3), .ref (f 4)]) e7) :: (wy, listOf (List.toArray (wRefs cw)) ew) :: (wObjs cw ++ RT)) := news_mid (A := [_, _, _, _, _, _]) N12
    clear N12
    have hTw : ∀ q ∈ cw, (q.1, listOf (List.toArray q.2.2.1) q.2.1) ∈ wObjs cw ++ RT := fun q hq => List.mem_append_left _ (List.mem_map_of_mem hq)
    have hTr : ∀ a : Nat, a < 5 → (f a, listOf (List.toArray (V5 a)) (e a)) ∈ wObjs cw ++ RT := fun a ha => List.mem_append_right _ (hRm a ha)
    have hT : ∀ p ∈ wObjs cw ++ RT, @LT.lt Nat _ sh p.1 ∧ @Ne Nat p.1 fr := by
      intro p hp
      rcases List.mem_append.mp hp with hp | hp
      · obtain ⟨q, hq, rfl⟩ := List.mem_map.mp hp
        have z := hW.2.2.2.2 q hq
        exact ⟨z (sh, _) (by k_mem), Nat.ne_of_gt (z (fr, _) (by k_mem))⟩
      · exact hRn p hp
    have hT7 : ∀ p ∈ wObjs cw ++ RT, p.1 ≠ L + 1 + 1 + 1 + 1 + 1 + 1 + 1 := fun p hp => Nat.ne_of_gt (Nat.lt_trans hsh (hT p hp).1)
    have hT6 : ∀ p ∈ wObjs cw ++ RT, p.1 ≠ L + 1 + 1 + 1 + 1 + 1 + 1 := fun p hp => Nat.ne_of_gt (Nat.lt_trans (Nat.lt_trans (Nat.lt_succ_self _) hsh) (hT p hp).1)
    have hwsh : @LT.lt Nat _ sh wy := hwy (sh, _) (by k_mem)
    have hwfr : @LT.lt Nat _ fr wy := hwy (fr, _) (by k_mem)
    clear hwy hRm hRn
    generalize wObjs cw ++ RT = TT at N13 hTw hTr hT hT7 hT6
    -- S10: the prices
    refine wpAny_execs_cons ?_
    refine cutQ (σ := Obj × Addr × Nat × List Value) F12 (fun c => (L + 1 + 1 + 1 + 1 + 1 + 1 + 1, c.1) :: (L + 1 + 1 + 1 + 1 + 1 + 1, oK5) :: (L + 1 + 1 + 1 + 1, oF1) :: (92, tabObj #[]) :: (sh, listOf (List.toArray sv) se) :: (fr, listOf (List.toArray [.ref (f 0), .ref (f 1), .ref (f 2), .ref (f 3), .ref (f 4)]) e7) :: (wy, listOf (List.toArray (wRefs cw)) ew) :: (c.2.1, listOf (List.toArray c.2.2.2) c.2.2.1) :: TT)
      (fun c => [(Str.ofString "ways", .ref wy), (Str.ofString "shelf", .ref sh)]) [] (fun c => c.1.data = Data.cell (some (.ref c.2.1)) ∧ IntsAre c.2.2.2 ((List.range 12).map (prI (dst ds (ringI sp)))) ∧ NeL c.2.1 [L + 1 + 1 + 1 + 1 + 1 + 1 + 1, L + 1 + 1 + 1 + 1 + 1 + 1, L + 1 + 1 + 1 + 1, 92, sh, fr, wy] ∧ ∀ p ∈ TT, p.1 ≠ c.2.1) ?_ ?_
    · k_steps
      refine Hold.intro ?_
      have hw12 : (wRefs cw).length = 12 := by rw [hW.len, wA4]; rfl
      refine' mapW_list (vs := wRefs cw) (ax := wy) (k0 := ew) (prI (dst ds (ringI sp))) ?F ?N ?hm ?hsz rfl ?hclos ?hkind ?hnames ?hnf ?hx ?hiter (fun i v I oI C W oW D ys h tk E2 hi hv hW' F' N' lI lD lC lW => ?turn) ?fin
      case F => k_asm
      case N => k_asm
      case hm => k_mem
      case hsz => rw [hw12]; decide
      case hclos => with_unfolding_all rfl
      case hkind => rfl
      case hnames => decide
      case hnf => rfl
      case hx => intro _ _; rfl
      case hiter => (k_steps; try exact ⟨rfl, rfl⟩)
      case turn =>
        obtain ⟨q, hq, rfl, h12, hqi⟩ := way_at hW hv
        obtain ⟨hwn, hwe⟩ := wayN_ok i h12
        rw [hwe] at hqi
        have hway : WayIs q.2.2.1 (wayN i) := hqi
        have N20 := news_front N' (p := (q.1, listOf (List.toArray q.2.2.1) q.2.1)) (by
          have mq := hTw q hq
          repeat (first | exact mq | refine List.mem_cons_of_mem _ ?_))
        clear N' hTw hv hqi
        have him : ItemMark := trivial
        have hmkH : HoldMark 6 := trivial
        k_steps
        refine Hold.intro ?_
        refine' kcf_range (n := 5) (a := 0) (fun t => FD (dst ds (ringI sp)) ((wayN i ((t.toNat + 4) % 5) : Nat) : Int) ((wayN i t.toNat : Nat) : Int)) (fun k' t' I' oI' C' oC' D' m' ys' h' tk' E' hlo hhi hC' hx' F9' N9' off' ne' hMark' => ?_) ?_
        · obtain ⟨kn, rfl⟩ := Int.eq_ofNat_of_zero_le hlo
          have hk5 : kn < 5 := by omega
          obtain ⟨ta, ia⟩ := hway.item hk5
          obtain ⟨tb, ib⟩ := hway.prev hk5
          have wa5 := hwn kn hk5
          have wb5 := hwn ((kn + 4) % 5) (Nat.mod_lt _ (by decide))
          have hg : (fun t : Int => FD (dst ds (ringI sp)) ((wayN i ((t.toNat + 4) % 5) : Nat) : Int) ((wayN i t.toNat : Nat) : Int)) (kn : Int) = FD (dst ds (ringI sp)) ((wayN i ((kn + 4) % 5) : Nat) : Int) ((wayN i kn : Nat) : Int) := by
            show FD _ ((wayN i (((kn : Int).toNat + 4) % 5) : Nat) : Int) ((wayN i (kn : Int).toNat : Nat) : Int) = _
            rw [Int.toNat_natCast]
          clear hlo hhi hway hwn
          generalize wayN i kn = xa at ia wa5 hg
          generalize wayN i ((kn + 4) % 5) = xb at ib wb5 hg
          have rb : ItemIs [Value.ref (f 0), Value.ref (f 1), Value.ref (f 2), Value.ref (f 3), Value.ref (f 4)] (xb : Int) (.ref (f xb)) := ItemIs.of (Int.natCast_nonneg _) (by omega) (refs_at wb5)
          obtain ⟨tg, g0⟩ := row_at (hR5 xb wb5) wa5
          have g0 := ItemIs.of (Int.natCast_nonneg _) (by omega) g0
          have N21 := news_front N9' (p := (f xb, listOf (List.toArray (V5 xb)) (e xb))) (by
            have mb := hTr xb wb5
            repeat (first | exact mb | refine List.mem_cons_of_mem _ ?_))
          clear N9' hTr
          k_steps
          refine Hold.intro ?_
          exact kcf_el hg rfl rfl
        · k_steps
          (rename News _ _ _ _ => nE')
          (rename Fr _ _ _ _ => fE')
          refine MapEnd.intro fE' nE' ?_ ?_
          · intro p hp
            repeat (first | exact hp | refine List.mem_cons_of_mem _ ?_)
          · show _ = wPr _ ((wA 4).getD i [])
            rw [hwe]
            exact wPr_range _ _
      case fin =>
        refine Hold.intro ?_
        intro ys hys
        rw [hw12] at hys
        (try dsimp only)
        k_steps
        (rename News _ _ _ _ => nE')
        (rename Fr _ _ _ _ => fE')
        (rename @Ne Nat _ _ ∧ @Ne Nat _ _ ∧ _ => oo)
        (rename _ = Data.cell (some (Value.ref _)) => hP9)
        refine' LE.intro (_, _, ys.length, ys) fE' nE' ?k1 ?k2 ?k3 ⟨hP9, hys, ?k5, ?k6⟩
        case k1 =>
          intro p hp
          simp only [List.nil_append, List.mem_cons] at hp ⊢
          rcases hp with h | h | h | h | h | h | h | h | h <;> simp [h]
        case k2 => (intro p hp; cases hp)
        case k3 => kst_all
        case k5 => exact ⟨oo.1, oo.2.1, oo.2.2.1, oo.2.2.2.1, oo.2.2.2.2.1, oo.2.2.2.2.2.1, oo.2.2.2.2.2.2.1, trivial⟩
        case k6 => exact off1_mem oo.2.2.2.2.2.2.2
    refine elimP4 ?_
    dsimp only
    intro oP2 pr e8 pvs u12 g12 q12 hR9 F13 N14
    have hP2 := hR9.1
    have hpv := hR9.2.1
    have hprn := hR9.2.2.1
    have hT8 := hR9.2.2.2
    clear hR9
    clear F12 N13
    (try dsimp only at hP2 hpv hprn hT8 F13 N14 ⊢)
    -- S11: the rows
    have hT92 : ∀ p ∈ TT, p.1 ≠ 92 := fun p hp => Nat.ne_of_gt (Nat.lt_trans (by show @LT.lt Nat _ 92 sh; omega) (hT p hp).1)
    refine wpAny_execs_cons ?_
    refine cutQ (σ := Addr) F13 (fun c => (L + 1 + 1 + 1 + 1 + 1 + 1 + 1, oP2) :: (L + 1 + 1 + 1 + 1 + 1 + 1, oK5) :: (L + 1 + 1 + 1 + 1, oF1) :: (92, tabObj #[]) :: (sh, listOf (List.toArray sv) se) :: (fr, listOf (List.toArray [.ref (f 0), .ref (f 1), .ref (f 2), .ref (f 3), .ref (f 4)]) e7) :: (wy, listOf (List.toArray (wRefs cw)) ew) :: (pr, listOf (List.toArray pvs) e8) :: (c, listOf (List.toArray []) 0) :: TT)
      (fun c => [(Str.ofString "row", .ref c), (Str.ofString "ways", .ref wy), (Str.ofString "shelf", .ref sh)]) [] (fun c => @LT.lt Nat _ (L + 1 + 1 + 1 + 1 + 1 + 1 + 1) c ∧ @LT.lt Nat _ fr c ∧ @LT.lt Nat _ wy c ∧ @LT.lt Nat _ pr c ∧ AllLt c TT) ?_ ?_
    · k_steps
      (rename News _ _ _ _ => nE')
      (rename Fr _ _ _ _ => fE')
      (rename @LT.lt Nat _ _ _ ∧ @LT.lt Nat _ _ _ ∧ _ => l1)
      refine' LE.intro _ fE' nE' ?k1 ?k2 ?k3 ⟨l1.1, l1.2.2.2.2.2.1, l1.2.2.2.2.2.2.1, l1.2.2.2.2.2.2.2.1, l1.2.2.2.2.2.2.2.2⟩
      case k1 =>
        intro p hp
        simp only [List.nil_append, List.mem_cons] at hp ⊢
        rcases hp with h | h | h | h | h | h | h | h | h | h <;> simp [h]
      case k2 => (intro p hp; cases hp)
      case k3 => kst_all
    rintro rw9 u13 g13 q13 ⟨hrL, hrf, hrw, hrp, hrT⟩ F14 N15
    clear F13 N14
    (try dsimp only at hrL hrf hrw hrp hrT F14 N15 ⊢)
    refine wpAny_execs_cons ?_
    refine forRangeG (σ := Obj × (Nat × List Value × List Int) × Array Value × List (Addr × Obj)) F14
      (fun c => (L + 1 + 1 + 1 + 1 + 1 + 1 + 1, oP2) :: (L + 1 + 1 + 1 + 1 + 1 + 1, c.1) :: (L + 1 + 1 + 1 + 1, oF1) :: (92, tabObj c.2.2.1) :: (sh, listOf (List.toArray sv) se) :: (fr, listOf (List.toArray [.ref (f 0), .ref (f 1), .ref (f 2), .ref (f 3), .ref (f 4)]) e7) :: (wy, listOf (List.toArray (wRefs cw)) ew) :: (pr, listOf (List.toArray pvs) e8) :: (rw9, listOf (List.toArray c.2.1.2.1) c.2.1.1) :: (c.2.2.2 ++ TT))
      (fun c => [(Str.ofString "shelf", .ref sh), (Str.ofString "ways", .ref wy), (Str.ofString "row", .ref rw9)]) [] (fun k c => (∃ v, c.1.data = Data.cell v) ∧ IntsAre c.2.1.2.1 c.2.1.2.2 ∧ RowOK (fun v => ((List.range 12).map (prI (dst ds (ringI sp)))).getD v.toNat 0) k c.2.1.2.2 ∧ ((k = 0 ∧ c.2.2.1 = #[] ∧ c.2.2.2 = []) ∨ (0 < k ∧ LamAt rw9 TT c.2.2.1 c.2.2.2))) 0 12 rfl rfl ?_ ?_ ?_
    · k_steps
      (rename IsRange _ _ _ _ _ _ _ _ => rgX)
      (rename News _ _ _ _ => nE')
      (rename Fr _ _ _ _ => fE')
      refine' RangeIs.intro (oK5, (0, [], []), #[], []) rgX ?ks ?kn fE' nE' ?k1 ?k2 ?k4
      case k1 => exact fun p hp => hp
      case k2 => kst_all
      case ks => decide
      case kn => decide
      case k4 => exact ⟨⟨_, hK5⟩, .nil, RowOK.nil _, Or.inl ⟨by trivial, ⟨by trivial, by trivial⟩⟩⟩
    · intro k
      refine elimS11 ?_
      dsimp only
      intro oK6 re rvs rns tab codes u14 I t9 s14 hk12 hR9 hlt9 hoff F15 N16
      obtain ⟨_, hlt⟩ := hlt9
      obtain ⟨vK6, hK6⟩ := hR9.1
      have hrv := hR9.2.1
      have hro := hR9.2.2.1
      have hcase := hR9.2.2.2
      clear hR9
      (try dsimp only at hK6 hrv hro hcase F15 N16 hoff ⊢)
      have q1 : @LT.lt Nat _ rw9 I := hlt (rw9, _) (by k_mem)
      have hTr9 : ∀ p ∈ TT, p.1 ≠ rw9 := fun p hp => Nat.ne_of_lt (allLt_mem hrT p hp)
      have hrl : rns.length ≤ 100 := by rw [hro.1]; omega
      have hfr8 : @Ne Nat fr rw9 := Nat.ne_of_lt hrf
      have hrow9 : ∀ p ∈ (L + 1 + 1 + 1 + 1 + 1 + 1 + 1, oP2) :: (L + 1 + 1 + 1 + 1 + 1 + 1, oK6) :: (L + 1 + 1 + 1 + 1, oF1) :: (92, tabObj tab) :: (sh, listOf (List.toArray sv) se) :: (fr, listOf (List.toArray [.ref (f 0), .ref (f 1), .ref (f 2), .ref (f 3), .ref (f 4)]) e7) :: (wy, listOf (List.toArray (wRefs cw)) ew) :: (pr, listOf (List.toArray pvs) e8) :: TT, p.1 ≠ rw9 := by
        clear hcase hro hrv hoff hlt
        refine List.forall_mem_cons.mpr ⟨?_, List.forall_mem_cons.mpr ⟨?_, List.forall_mem_cons.mpr ⟨?_, List.forall_mem_cons.mpr ⟨?_, List.forall_mem_cons.mpr ⟨?_, List.forall_mem_cons.mpr ⟨?_, List.forall_mem_cons.mpr ⟨?_, List.forall_mem_cons.mpr ⟨?_, hTr9⟩⟩⟩⟩⟩⟩⟩⟩ <;> (refine neN ?_; (try dsimp only); omega)
      rcases hcase with ⟨hk0, ht0, hc0⟩ | ⟨hk0, hlam⟩
      · skip
        rw [ht0, hc0, List.nil_append] at N16
        rw [hc0] at hoff
        have hoT : ∀ p ∈ TT, p.1 ≠ I := fun p hp => hoff p (by simp [hp])
        have hoT2 : ∀ p ∈ TT, I ≠ p.1 := fun p hp => (hoT p hp).symm
        clear hlt
        rw [Int.zero_add (k : Int)]
        have hmkH : HoldMark 2 := trivial
        clear fmk
        k_steps
        refine Hold.intro ?_
        clear hmkH
        rename_i oK7 F16 N17 dK7 f1 c1 oc1 vc1 t1 ct1 hh1 tkk1 F17 N18 d1 d2 l1 l2
        have N19 : News h₀ L _ ((rw9, listOf (List.toArray rvs) re) :: (f1, _) :: (c1, oc1) :: (I, _) :: (L + 1 + 1 + 1 + 1 + 1 + 1 + 1, oP2) :: (L + 1 + 1 + 1 + 1 + 1 + 1, oK7) :: (L + 1 + 1 + 1 + 1, oF1) :: (92, _) :: (sh, listOf (List.toArray sv) se) :: (fr, listOf (List.toArray [.ref (f 0), .ref (f 1), .ref (f 2), .ref (f 3), .ref (f 4)]) e7) :: (wy, listOf (List.toArray (wRefs cw)) ew) :: (pr, listOf (List.toArray pvs) e8) :: TT) := News.sub N18 (by walk_at "front9")
        refine' ClK.useC B1 F17 X1 N19 T1 (inslK_cl w rw9 f1 rvs rns (fun v => ((List.range 12).map (prI (dst ds (ringI sp)))).getD v.toNat 0) re (k : Int) t9 _ rfl hrv hrl hro.sorted (hro.in12 (by omega)) ⟨by omega, by omega⟩ ?hq ?hF ?ho) (by first | exact rfl | assumption) (by decide) (fun r9 n9 h9 tk9 F9 N9 hP9 => ?_)
        case hq => exact lam_key w rfl (by k_mem) (by k_mem) d1 d2 (by k_mem) hP2 (by k_mem) hpv (by rw [List.length_map, List.length_range])
        case hF => exact ⟨_, _, _, _, by k_mem⟩
        case ho => exact List.forall_mem_cons.mpr ⟨by (refine neN ?_; (try dsimp only); omega), List.forall_mem_cons.mpr ⟨by (refine neN ?_; (try dsimp only); omega), List.forall_mem_cons.mpr ⟨by (refine neN ?_; (try dsimp only); omega), off_of hrow9 rfl⟩⟩⟩
        obtain ⟨kk, vs9, rfl, rfl, hI9, hB9⟩ := hP9
        clear N18 N19 N17 F16 F17
        k_steps
        (rename News _ _ _ _ => nE')
        (rename Fr _ _ _ _ => fE')
        refine' LE.intro (oK7, (re + 1, vs9, insI rns kk (k : Int)), _, [(c1, oc1)]) fE' nE' ?k1 ?k2 ?k3 ⟨⟨_, dK7⟩, hI9, hro.step hB9, Or.inr ⟨Nat.succ_pos _, c1, oc1, vc1, t1, ?k5, rfl, d1, d2, by omega⟩⟩
        case k1 =>
          simp only [List.cons_append, List.nil_append]
          walk_at "front9"
        case k2 => exact off_ins (l := [_, _, _, _, _, _, _, _, _]) (l' := [_, _, _, _, _, _, _, _, _]) hoff rfl (by omega)
        case k3 => kst_all
        case k5 => first | rfl | simp
      · skip
        obtain ⟨c1, oc1, vc1, t1, ht0, hc0, d1, d2, hc1⟩ := hlam
        rw [ht0, hc0, List.cons_append, List.nil_append] at N16
        rw [hc0] at hoff
        have hcI : @Ne Nat c1 I := hoff (c1, oc1) (by simp)
        have hoT : ∀ p ∈ TT, p.1 ≠ I := fun p hp => hoff p (by simp [hp])
        have hoT2 : ∀ p ∈ TT, I ≠ p.1 := fun p hp => (hoT p hp).symm
        clear hlt
        rw [Int.zero_add (k : Int)]
        have hmkH : HoldMark 2 := trivial
        clear fmk
        k_steps
        refine Hold.intro ?_
        clear hmkH
        rename_i oK7 F16 N17 dK7 f1 ct1 hh1 tkk1 F17 N18 l1
        have N19 : News h₀ L _ ((rw9, listOf (List.toArray rvs) re) :: (f1, _) :: (I, _) :: (L + 1 + 1 + 1 + 1 + 1 + 1 + 1, oP2) :: (L + 1 + 1 + 1 + 1 + 1 + 1, oK7) :: (L + 1 + 1 + 1 + 1, oF1) :: (92, _) :: (sh, listOf (List.toArray sv) se) :: (fr, listOf (List.toArray [.ref (f 0), .ref (f 1), .ref (f 2), .ref (f 3), .ref (f 4)]) e7) :: (wy, listOf (List.toArray (wRefs cw)) ew) :: (pr, listOf (List.toArray pvs) e8) :: (c1, oc1) :: TT) := News.sub N18 (by walk_at "front9")
        refine' ClK.useC B1 F17 X1 N19 T1 (inslK_cl w rw9 f1 rvs rns (fun v => ((List.range 12).map (prI (dst ds (ringI sp)))).getD v.toNat 0) re (k : Int) t9 _ rfl hrv hrl hro.sorted (hro.in12 (by omega)) ⟨by omega, by omega⟩ ?hq ?hF ?ho) (by first | exact rfl | assumption) (by decide) (fun r9 n9 h9 tk9 F9 N9 hP9 => ?_)
        case hq => exact lam_key w rfl (by k_mem) (by k_mem) d1 d2 (by k_mem) hP2 (by k_mem) hpv (by rw [List.length_map, List.length_range])
        case hF => exact ⟨_, _, _, _, by k_mem⟩
        case ho => exact List.forall_mem_cons.mpr ⟨by (refine neN ?_; (try dsimp only); omega), List.forall_mem_cons.mpr ⟨by (refine neN ?_; (try dsimp only); omega), off_in2 (l := [_, _, _, _, _, _, _, _]) (l' := [_, _, _, _, _, _, _, _]) hrow9 rfl (by omega)⟩⟩
        obtain ⟨kk, vs9, rfl, rfl, hI9, hB9⟩ := hP9
        clear N18 N19 N17 F16 F17
        k_steps
        (rename News _ _ _ _ => nE')
        (rename Fr _ _ _ _ => fE')
        refine' LE.intro (oK7, (re + 1, vs9, insI rns kk (k : Int)), _, [(c1, oc1)]) fE' nE' ?k1 ?k2 ?k3 ⟨⟨_, dK7⟩, hI9, hro.step hB9, Or.inr ⟨Nat.succ_pos _, c1, oc1, vc1, t1, ?k5, rfl, d1, d2, by omega⟩⟩
        case k1 =>
          simp only [List.cons_append, List.nil_append]
          walk_at "front9"
        case k2 => exact off_same hoff rfl
        case k3 => kst_all
        case k5 => first | rfl | simp
    --S12
    refine elimS11 ?_
    dsimp only
    intro oK7 re rvs rns tab codes u14 g14 q14 hR9 F15 N16
    obtain ⟨vK7, hK7⟩ := hR9.1
    have hrv := hR9.2.1
    have hro := hR9.2.2.1
    have hcase := hR9.2.2.2
    clear hR9
    clear F14 N15 hK5
    (try dsimp only at hK7 hrv hro hcase F15 N16 ⊢)
    obtain ⟨c1, oc1, vc1, t1, ht0, hc0, d1, d2, hc1⟩ : LamAt rw9 TT tab codes := by
      rcases hcase with ⟨h, -⟩ | ⟨-, h⟩
      · exact absurd h (by decide)
      · exact h
    clear hcase
    rw [ht0, hc0, List.cons_append, List.nil_append] at N16
    clear ht0 hc0
    have hTr9 : ∀ p ∈ TT, p.1 ≠ rw9 := fun p hp => Nat.ne_of_lt (allLt_mem hrT p hp)
    have hfr8 : @Ne Nat fr rw9 := Nat.ne_of_lt hrf
    obtain ⟨x0, hx0, hx0n, hx0l⟩ := hro.first
    obtain ⟨tx0, hrx⟩ := hrv.get 0 x0 hx0
    obtain ⟨tp0, hpx⟩ := hpv.get x0.toNat _ (pr_get hx0n hx0l)
    obtain ⟨hpr0, hq4, hfin⟩ := plain hds hdr hSp (x0 := x0.toNat) (by omega) (row_least hro hx0 hx0n hx0l)
    have hrx : ItemIs rvs 0 (.int x0 tx0) := ItemIs.of (by decide) (by decide) hrx
    have hpx : ItemIs pvs x0 (.int (prI (dst ds (ringI sp)) x0.toNat) tp0) := ItemIs.of hx0n (by omega) hpx
    refine wpAny_execs_cons ?_
    refine cutQ (σ := Array Value) F15 (fun c => (L + 1 + 1 + 1 + 1 + 1 + 1 + 1, oP2) :: (L + 1 + 1 + 1 + 1 + 1 + 1, oK7) :: (L + 1 + 1 + 1 + 1, oF1) :: (92, tabObj c) :: (sh, listOf (List.toArray sv) se) :: (fr, listOf (List.toArray [.ref (f 0), .ref (f 1), .ref (f 2), .ref (f 3), .ref (f 4)]) e7) :: (wy, listOf (List.toArray (wRefs cw)) ew) :: (pr, listOf (List.toArray pvs) e8) :: (rw9, listOf (List.toArray rvs) re) :: TT)
      (fun c => [(Str.ofString "shelf", .ref sh), (Str.ofString "ways", .ref wy), (Str.ofString "row", .ref rw9)]) [] (fun c => True) ?_ ?_
    · clear fmk
      have hmkH : HoldMark 3 := trivial
      k_steps
      refine Hold.intro ?_
      clear hmkH
      refine range3_led (s := { s1 with heap := g14, toks := _ }) F15 N16 (by decide) (PyProof.noPylong_of_log2 (by decide +kernel)) (fun R h5 tk5 t5 u5 v5 F16 N17 l1 => ?_)
      have hR92 : @LT.lt Nat _ 92 R := l1 (92, _) (by k_mem)
      have hRT : ∀ p ∈ TT, p.1 ≠ R := fun p hp => Nat.ne_of_lt (l1 p (by simp [hp]))
      clear l1 N16 F15
      (try dsimp only)
      k_steps
      rename_i f1 c2 oc2 vc2 t2 ct2 h6 tk6 F17 N18 d3 d4 l1 l2
      show wpAny _ _ (call (Value.builtin "sorted") [Value.ref R] [(Str.ofString "key", Value.ref f1)]) _ _ _
      refine sortedR (n := 12) (fun v => ((List.range 12).map (prI (dst ds (ringI sp)))).getD v.toNat 0) (by rfl) F17 N18 (News.at9 N18 (by k_mem)) (by decide +kernel) (by decide +kernel) (by decide) (by decide) (by decide) (fun i hi => by omega)
        (fun i tt hi hx tkx own Fx Nx => KeyOK.turn (lam_key w rfl (List.mem_append_left _ (by k_mem)) (List.mem_append_left _ (by k_mem)) d3 d4 (List.mem_append_left _ (by k_mem)) hP2 (List.mem_append_left _ (by k_mem)) hpv (by rw [List.length_map, List.length_range])) B1 Fx X1 Nx T1 (by first | exact rfl | assumption) tt (by omega))
        (fun D h7 tk7 out e7' F18 N19 l3 hout => ?_)
      obtain ⟨vs7, hi7, ho7⟩ := hout
      obtain ⟨ns7, hi8, hr8⟩ := sorted_row (G := fun v => ((List.range 12).map (prI (dst ds (ringI sp)))).getD v.toNat 0) hi7 ho7
      obtain rfl := hro.unique hr8
      clear N17 N18 F16 F17 hi7 ho7 l3 hr8 hro
      refine ke_ne_ints (News.isList N19 (by k_mem)) (News.isList N19 List.mem_cons_self) hrv hi8 (by k_units) ?_
      rw [decide_eq_true rfl, Bool.not_true]
      (try dsimp only)
      have him : ItemMark := trivial
      k_steps
      all_goals (try exact absurd hpr0 (by assumption))
      (rename News _ _ _ _ => nE')
      (rename Fr _ _ _ _ => fE')
      obtain ⟨tb9, nE9⟩ := tab_of nE'
      refine' LE.intro tb9 fE' nE9 ?k1 ?k2 ?k3 trivial
      case k1 => (rw [List.nil_append]; exact fun p hp => List.mem_cons_of_mem _ (List.mem_cons_of_mem _ (List.mem_cons_of_mem _ (List.mem_cons_of_mem _ (mem_skip9 hp)))))
      case k2 => (intro p hp; cases hp)
      case k3 => kst_all
    rintro tab2 u15 g15 q15 - F16 N17
    --S13
    clear F15 N16
    (try dsimp only at F16 N17 ⊢)
    have hwl : (wRefs cw).length = 12 := by rw [hW.len, wA4]; rfl
    obtain ⟨vw, hvw⟩ : ∃ v, (wRefs cw)[x0.toNat]? = some v := ⟨_, List.getElem?_eq_getElem (by rw [hwl]; omega)⟩
    obtain ⟨q, hq, hvq, -, hqi⟩ := way_at hW hvw
    have hTwa := hTw _ hq
    rw [hvq] at hvw
    generalize q.2.2.1 = wvs at hTwa hqi
    generalize q.2.1 = we at hTwa
    generalize q.1 = wa at hTwa hvw
    have hwx : ItemIs (wRefs cw) x0 (.ref wa) := ItemIs.of hx0n (by omega) hvw
    obtain ⟨hwn, hwe⟩ := wayN_ok x0.toNat (by omega)
    rw [hwe] at hqi
    have hway : WayIs wvs (wayN x0.toNat) := hqi
    have hw5 := hway.len
    have N18 : News h₀ L g15 ((sh, listOf (List.toArray sv) se) :: (L + 1 + 1 + 1 + 1, oF1) :: (fr, listOf (List.toArray [.ref (f 0), .ref (f 1), .ref (f 2), .ref (f 3), .ref (f 4)]) e7) :: (wy, listOf (List.toArray (wRefs cw)) ew) :: (rw9, listOf (List.toArray rvs) re) :: (wa, listOf (List.toArray wvs) we) :: (92, tabObj tab2) :: TT) := News.sub N17 (List.forall_mem_cons.mpr ⟨by k_mem, List.forall_mem_cons.mpr ⟨by k_mem, List.forall_mem_cons.mpr ⟨by k_mem, List.forall_mem_cons.mpr ⟨by k_mem, List.forall_mem_cons.mpr ⟨by k_mem, List.forall_mem_cons.mpr ⟨by (repeat (first | exact hTwa | refine List.mem_cons_of_mem _ ?_)), List.forall_mem_cons.mpr ⟨by k_mem, by (intro p hp; repeat (first | exact hp | refine List.mem_cons_of_mem _ ?_))⟩⟩⟩⟩⟩⟩⟩)
    clear N17 hqi hvw hwl hTwa hq hTw hwe hvq
    have him : ItemMark := trivial
    refine wpAny_execs_cons ?_
    refine cutQ (σ := Unit) F16 (fun _ => (92, tabObj tab2) :: (L + 1 + 1 + 1 + 1, oF1) :: (sh, listOf (List.toArray sv) se) :: (fr, listOf (List.toArray [.ref (f 0), .ref (f 1), .ref (f 2), .ref (f 3), .ref (f 4)]) e7) :: (wa, listOf (List.toArray wvs) we) :: TT) (fun _ => [(Str.ofString "way", .ref wa), (Str.ofString "shelf", .ref sh)]) [] (fun _ => True) ?_ ?_
    · k_steps
      (rename News _ _ _ _ => nE')
      (rename Fr _ _ _ _ => fE')
      refine' LE.intro () fE' nE' ?k1 ?k2 ?k3 trivial
      case k1 =>
        rw [List.nil_append]
        intro p hp
        simp only [List.mem_cons] at hp ⊢
        rcases hp with h | h | h | h | h | h <;> simp [h]
      case k2 => (intro p hp; cases hp)
      case k3 => kst_all
    rintro - u16 g16 q16 - F17 N19
    clear F16 N18
    (try dsimp only at F17 N19 ⊢)
    refine wpAny_execs_cons ?_
    refine cutQ (σ := Tok) F17 (fun _ => (92, tabObj tab2) :: (L + 1 + 1 + 1 + 1, oF1) :: (sh, listOf (List.toArray sv) se) :: (fr, listOf (List.toArray [.ref (f 0), .ref (f 1), .ref (f 2), .ref (f 3), .ref (f 4)]) e7) :: (wa, listOf (List.toArray wvs) we) :: TT) (fun c => [(Str.ofString "found", .int 0 c), (Str.ofString "shelf", .ref sh), (Str.ofString "way", .ref wa)]) [] (fun _ => True) ?_ ?_
    · k_steps
      (rename News _ _ _ _ => nE')
      (rename Fr _ _ _ _ => fE')
      refine' LE.intro _ fE' nE' ?k1 ?k2 ?k3 trivial
      case k1 => exact fun p hp => hp
      case k2 => (intro p hp; cases hp)
      case k3 => kst_all
    rintro tf u17 g17 q17 - F18 N20
    clear F17 N19
    (try dsimp only at F18 N20 ⊢)
    have F19 := F18
    clear F18
    --S14
    refine wpAny_execs_cons ?_
    refine forRangeG (σ := Int × Tok) F19 (fun _ => (92, tabObj tab2) :: (L + 1 + 1 + 1 + 1, oF1) :: (sh, listOf (List.toArray sv) se) :: (fr, listOf (List.toArray [.ref (f 0), .ref (f 1), .ref (f 2), .ref (f 3), .ref (f 4)]) e7) :: (wa, listOf (List.toArray wvs) we) :: TT) (fun c => [(Str.ofString "found", .int c.1 c.2), (Str.ofString "shelf", .ref sh), (Str.ofString "way", .ref wa)]) [Str.ofString "g", Str.ofString "h", Str.ofString "part", Str.ofString "times", Str.ofString "across", Str.ofString "along"] (fun g c => c.1 = outT (cntI sn (wayN x0.toNat)) g) 0 4 rfl rfl ?_ ?_ ?_
    · k_steps
      (rename IsRange _ _ _ _ _ _ _ _ => rgX)
      (rename News _ _ _ _ => nE')
      (rename Fr _ _ _ _ => fE')
      refine' RangeIs.intro (0, tf) rgX ?ks ?kn fE' nE' ?k1 ?k2 rfl
      case k1 => exact fun p hp => hp
      case k2 => kst_all
      case ks => decide
      case kn => decide
    · intro g
      refine elimP2 ?_
      dsimp only
      intro fd tf2 u18 I t9 s18 hg4 hfd hlt9 hoff F20 N21
      obtain ⟨_, hlt⟩ := hlt9
      (try dsimp only at hfd F20 N21 hoff ⊢)
      subst hfd
      rw [Int.zero_add (g : Int)]
      have hmkH : HoldMark 1 := trivial
      k_steps
      refine Hold.intro ?_
      clear hmkH
      (rename Fr _ _ _ _ => F21)
      (rename News _ _ _ _ => N22)
      refine wpAny_execs_cons ?_
      refine forRangeG (σ := Int × Tok) F21 (fun _ => (I, itR (0 + ((g + 1 : Nat) : Int)) (((4 : Nat) : Int) - ((g + 1 : Nat) : Int))) :: (92, tabObj tab2) :: (L + 1 + 1 + 1 + 1, oF1) :: (sh, listOf (List.toArray sv) se) :: (fr, listOf (List.toArray [.ref (f 0), .ref (f 1), .ref (f 2), .ref (f 3), .ref (f 4)]) e7) :: (wa, listOf (List.toArray wvs) we) :: TT) (fun c => [(Str.ofString "found", .int c.1 c.2), (Str.ofString "shelf", .ref sh), (Str.ofString "way", .ref wa), (Str.ofString "g", .int (g : Int) t9)]) [Str.ofString "h", Str.ofString "part", Str.ofString "times", Str.ofString "across", Str.ofString "along"] (fun k c => c.1 = outT (cntI sn (wayN x0.toNat)) g + inS (cntI sn (wayN x0.toNat)) g k) ((g : Int) + 1) (4 - g) rfl rfl ?_ ?_ ?_
      · k_steps
        (rename IsRange _ _ _ _ _ _ _ _ => rgX)
        (rename News _ _ _ _ => nE')
        (rename Fr _ _ _ _ => fE')
        refine' RangeIs.intro (_, tf2) rgX ?ks ?kn fE' nE' ?k1 ?k2 ?k4
        case k1 => exact fun p hp => hp
        case k2 => kst_all
        case ks => exact (rng5_ok hg4).1
        case kn => exact (rng5_ok hg4).2
        case k4 => exact (Int.add_zero _).symm
      · intro k
        refine elimP2 ?_
        dsimp only
        intro fd tf3 u19 I2 t10 s19 hk hfd hlt9 hoff2 F22 N23
        obtain ⟨_, hlt2⟩ := hlt9
        (try dsimp only at hfd F22 N23 hoff2 ⊢)
        subst hfd
        have eh : (g : Int) + 1 + (k : Int) = ((g + 1 + k : Nat) : Int) := by omega
        rw [eh]
        have hq5 := hq4 g k hg4 hk
        have hkk : inS (cntI sn (wayN x0.toNat)) g (k + 1) = inS (cntI sn (wayN x0.toNat)) g k + cntI sn (wayN x0.toNat) g (g + 1 + k) := rfl
        obtain ⟨h, hh⟩ : ∃ h, h = g + 1 + k := ⟨_, rfl⟩
        obtain ⟨pg, hpg⟩ : ∃ p, p = (g + 4) % 5 := ⟨_, rfl⟩
        obtain ⟨ph, hph⟩ : ∃ p, p = (h + 4) % 5 := ⟨_, rfl⟩
        rw [← hh, ← hpg, ← hph] at hq5
        rw [← hh] at hkk eh ⊢
        have hg5 : g < 5 := by omega
        have hh5 : h < 5 := by omega
        have hpg5 : pg < 5 := by omega
        have hph5 : ph < 5 := by omega
        obtain ⟨tg, ig⟩ := hway.item hg5
        obtain ⟨th, ih⟩ := hway.item hh5
        obtain ⟨tpg, ipg⟩ := hway.prev hg5
        obtain ⟨tph, iph⟩ := hway.prev hh5
        rw [← hpg] at ipg
        rw [← hph] at iph
        have wg5 := hwn g hg5
        have wh5 := hwn h hh5
        have wpg5 := hwn pg hpg5
        have wph5 := hwn ph hph5
        have hsl : IntsAre (slicePick wvs.toArray (some (g : Int)) (some (h : Int)) none).toList (arcI (wayN x0.toNat) g h) := hway.slice (by omega) hh5
        have h04 : In04 (arcI (wayN x0.toNat) g h) := arc04 hwn hh5
        have hal : (arcI (wayN x0.toNat) g h).length ≤ 100 := arc_len hh5
        have hct : cntI sn (wayN x0.toNat) g h = ((sn.count (spl (arcI (wayN x0.toNat) g h)) : Nat) : Int) := rfl
        have hwi : IntsAre wvs ((List.range 5).map fun i => ((wayN x0.toNat i : Nat) : Int)) := hway
        clear hq4 hh hpg hph eh hk hway hwn
        generalize cntI sn (wayN x0.toNat) g h = cn at hq5 hkk hct
        generalize arcI (wayN x0.toNat) g h = ar at hsl h04 hal hct
        generalize wayN x0.toNat g = wg at ig wg5 hq5
        generalize wayN x0.toNat h = wh at ih wh5 hq5
        generalize wayN x0.toNat pg = wpg at ipg wpg5 hq5
        generalize wayN x0.toNat ph = wph at iph wph5 hq5
        have rg : ItemIs [Value.ref (f 0), Value.ref (f 1), Value.ref (f 2), Value.ref (f 3), Value.ref (f 4)] (wg : Int) (.ref (f wg)) := ItemIs.of (Int.natCast_nonneg _) (by omega) (refs_at wg5)
        have rpg : ItemIs [Value.ref (f 0), Value.ref (f 1), Value.ref (f 2), Value.ref (f 3), Value.ref (f 4)] (wpg : Int) (.ref (f wpg)) := ItemIs.of (Int.natCast_nonneg _) (by omega) (refs_at wpg5)
        obtain ⟨tk0, g0⟩ := row_at (hR5 wg wg5) wh5
        obtain ⟨tk1, g1⟩ := row_at (hR5 wpg wpg5) wph5
        obtain ⟨tk2, g2⟩ := row_at (hR5 wg wg5) wph5
        obtain ⟨tk3, g3⟩ := row_at (hR5 wpg wpg5) wh5
        have g0 := ItemIs.of (Int.natCast_nonneg _) (by omega) g0
        have g1 := ItemIs.of (Int.natCast_nonneg _) (by omega) g1
        have g2 := ItemIs.of (Int.natCast_nonneg _) (by omega) g2
        have g3 := ItemIs.of (Int.natCast_nonneg _) (by omega) g3
        have mwg := hTr wg wg5
        have mwpg := hTr wpg wpg5
        have N24 : News h₀ L s19.heap ((f wg, listOf (List.toArray (V5 wg)) (e wg)) :: (f wpg, listOf (List.toArray (V5 wpg)) (e wpg)) :: (I2, itR ((g : Int) + 1 + ((k + 1 : Nat) : Int)) (((4 - g : Nat) : Int) - ((k + 1 : Nat) : Int))) :: (I, itR (0 + ((g + 1 : Nat) : Int)) (((4 : Nat) : Int) - ((g + 1 : Nat) : Int))) :: (92, tabObj tab2) :: (L + 1 + 1 + 1 + 1, oF1) :: (sh, listOf (List.toArray sv) se) :: (fr, listOf (List.toArray [.ref (f 0), .ref (f 1), .ref (f 2), .ref (f 3), .ref (f 4)]) e7) :: (wa, listOf (List.toArray wvs) we) :: TT) := News.sub N23 (by
          intro p hp
          rcases List.mem_cons.mp hp with h | hp
          · rw [h]; repeat (first | exact mwg | refine List.mem_cons_of_mem _ ?_)
          rcases List.mem_cons.mp hp with h | hp
          · rw [h]; repeat (first | exact mwpg | refine List.mem_cons_of_mem _ ?_)
          exact hp)
        clear N23 mwg mwpg hTr hR5
        generalize FD (dst ds (ringI sp)) (wg : Int) (wh : Int) = d0 at g0 hq5
        generalize FD (dst ds (ringI sp)) (wpg : Int) (wph : Int) = d1 at g1 hq5
        generalize FD (dst ds (ringI sp)) (wg : Int) (wph : Int) = d2 at g2 hq5
        generalize FD (dst ds (ringI sp)) (wpg : Int) (wh : Int) = d3 at g3 hq5
        k_steps
        all_goals ((rename BisR _ _ _ => hbr); (rename BisL _ _ _ => hbl); (have hcn := bis_count hbr hbl); (rw [← hct] at hcn))
        · exfalso
          rename ¬ (_ = 4 * _) => hx
          exact hx (by rw [hcn]; exact hq5)
        (rename News _ _ _ _ => nE')
        (rename Fr _ _ _ _ => fE')
        refine' LE.intro (_, _) fE' nE' ?k1 ?k2 ?k3 ?k5
        case k3 => kst_all
        case k1 =>
          rw [List.singleton_append]
          intro p hp
          repeat (first | exact hp | refine List.mem_cons_of_mem _ ?_)
        case k2 => exact fun p hp q hq => by rw [List.mem_singleton.mp hp]; exact (hoff2 q hq).symm
        case k5 =>
          dsimp only
          rw [hkk, hcn, Int.add_assoc]
      · refine elimP2 ?_
        dsimp only
        intro fd tf3 u19 g19 q19 hfd F22 N23
        (try dsimp only at hfd F22 N23 ⊢)
        subst hfd
        k_steps
        (rename News _ _ _ _ => nE')
        (rename Fr _ _ _ _ => fE')
        refine' LE.intro (_, _) fE' nE' ?k1 ?k2 ?k3 ?k5
        case k3 => kst_all
        case k1 =>
          rw [List.singleton_append]
          exact fun p hp => hp
        case k2 => exact fun p hp q hq => by rw [List.mem_singleton.mp hp]; exact (hoff q hq).symm
        case k5 => rfl
    · refine elimP2 ?_
      dsimp only
      intro fd tf2 u20 g20 q20 hfd F20 N21
      (try dsimp only at hfd F20 N21 ⊢)
      subst hfd
      k_steps
      rw [hfin, beq_self_eq_true]
      exact hQ' _ _ _ _ tab2 F20 N21 List.mem_cons_self
  )
end
end
end Mine
end

theorem PySem.Challenge.cw_sr0044_01_holds : PySem.Challenge.rw_sr0044_01.Holds := by
  exact Mine.main
