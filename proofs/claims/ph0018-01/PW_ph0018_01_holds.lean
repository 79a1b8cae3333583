import PyProof.Rows.All
import Wide.All
import OpenK.AllK
import Wide.FinOn
import PySem.Challenge.RW_ph0018_01
set_option Elab.async false
set_option maxRecDepth 100000
set_option maxHeartbeats 8000000
set_option linter.unusedVariables false
set_option compiler.extract_closed false
set_option genSizeOf false
set_option genInjectivity false
open PySem PySem.W PyProof.Rows
namespace Mine
section
open_top hd for PySem.Challenge.rw_ph0018_01
end
section
/-- short facts of numbers: the walk's side goals without the long proofs of omega -/
theorem ar_room {d a b k m : Nat} (h : d + k < m) (hj : Nat.ble (a + b) k = true) : d + a + b < m := by
  have := Nat.le_of_ble_eq_true hj
  omega
theorem ar_room0 {d k m : Nat} (h : d + k < m) : d < m := Nat.lt_of_le_of_lt (Nat.le_add_right _ _) h
theorem ar_len1 {α : Type} {x : α} : [x].length ≤ 16777216 := Nat.le_of_ble_eq_true rfl
theorem ar_nl {c : Int} {n : Nat} (h : c < 0) : c < (n : Int) := Int.lt_of_lt_of_le h (Int.natCast_nonneg n)
theorem ar_nle {c : Int} {n : Nat} (h : c ≤ 0) : c ≤ (n : Int) := Int.le_trans h (Int.natCast_nonneg n)
theorem ar_nn {m n : Nat} : -(m : Int) ≤ (n : Int) := by omega
theorem ar_lt {n k : Nat} {c : Int} (h : n < k) (hc : (k : Int) ≤ c) : (n : Int) < c := by omega
theorem ar_ll {a b : Nat} (h : a < b) : (a : Int) < (b : Int) := Int.ofNat_lt.mpr h
theorem ar_n1920 {n : Nat} : -2 ^ 1920 < (n : Int) := by omega
theorem ar_1920 {n k : Nat} (h : n < k) (hk : Nat.ble k 1000000 = true) : (n : Int) < 2 ^ 1920 := by
  have := Nat.le_of_ble_eq_true hk
  omega
theorem ar_pred {n : Nat} (h : 0 < n) : (n : Int) - 1 = ((n - 1 : Nat) : Int) := by omega
theorem ar_s1 {n : Nat} : n + 1 ≠ n := Nat.succ_ne_self n
theorem ar_s2 {n : Nat} : n ≠ n + 1 := (Nat.succ_ne_self n).symm
theorem cj1 {a b : Prop} (h : a ∧ b) : a := h.1
theorem cj2 {a b c : Prop} (h : a ∧ b ∧ c) : b := h.2.1
theorem cj3 {a b c d : Prop} (h : a ∧ b ∧ c ∧ d) : c := h.2.2.1
theorem cj4 {a b c d e : Prop} (h : a ∧ b ∧ c ∧ d ∧ e) : d := h.2.2.2.1
theorem cj5 {a b c d e f : Prop} (h : a ∧ b ∧ c ∧ d ∧ e ∧ f) : e := h.2.2.2.2.1
theorem cj6 {a b c d e f g : Prop} (h : a ∧ b ∧ c ∧ d ∧ e ∧ f ∧ g) : f := h.2.2.2.2.2.1
theorem cj7 {a b c d e f g i : Prop} (h : a ∧ b ∧ c ∧ d ∧ e ∧ f ∧ g ∧ i) : g := h.2.2.2.2.2.2.1
theorem cj8 {a b c d e f g i j : Prop} (h : a ∧ b ∧ c ∧ d ∧ e ∧ f ∧ g ∧ i ∧ j) : i := h.2.2.2.2.2.2.2.1
end
section
abbrev Led := List (Addr × Obj)

/-- a contract of a call: from any caller's frame, with a ledger news, it ends with a value and a ledger as Post says; k: the frames that it needs -/
def Ctr (w : World) (k : Nat) (f : Addr) (args : List Value) (news : Led) (Post : Value → Led → Prop) : Prop :=
  ∀ (p : Program) (loose : List Str) (mean : ExcName → Option Value) (mg mb : Str → Option Value)
    (dp un : Nat) (gd : Option (List Code)) (cn : Str) (cs : Scope) (a : Addr) (ccd : Value) (cl : List (Str × Addr)) (outer : List Env) (A₀ : Around) (base h₀ : Heap) (L : Addr) (m : Str → Option Value) (s : Shared)
    (Q E : Value → Shared → Prop),
    Below A₀ base outer h₀ → Fr h₀ L s.heap m → (Mine.hd.heap_39 w.params).In h₀ → News h₀ L s.heap news → Top p loose mean mg mb h₀ → cs.kind = .function →
    dp + k < recursionLimit → un + 10 * k < cLine → CodeHd base 48 44 → CodeHd base 55 51 →
    (∀ r news' h' tk', Fr h₀ L h' m → News h₀ L h' news' → Post r news' → Q r { s with heap := h', toks := tk' }) →
    wpAny (model PySem.Challenge.rw_ph0018_01.row.prog w) (ktrTop dp un gd cn cs L a ccd cl outer) (call (.ref f) args) Q E s
theorem Ctr.use {w : World} {k : Nat} {f : Addr} {args : List Value} {news : Led} {Post : Value → Led → Prop} (C : Ctr w k f args news Post)
    {p : Program} {loose : List Str} {mean : ExcName → Option Value} {mg mb : Str → Option Value} {dp un : Nat} {gd : Option (List Code)} {cn : Str} {cs : Scope} {a : Addr} {ccd : Value} {cl : List (Str × Addr)} {outer : List Env} {A₀ : Around} {base h₀ : Heap} {L : Addr} {m : Str → Option Value} {s : Shared}
    {Q E : Value → Shared → Prop} (B : Below A₀ base outer h₀) (F : Fr h₀ L s.heap m) (X : (Mine.hd.heap_39 w.params).In h₀) (N : News h₀ L s.heap news) (T : Top p loose mean mg mb h₀) (hk : cs.kind = .function)
    (hd : dp + k < recursionLimit) (hu : un + 10 * k < cLine) (c1 : CodeHd base 48 44) (c2 : CodeHd base 55 51)
    (ret : ∀ r news' h' tk', Fr h₀ L h' m → News h₀ L h' news' → Post r news' → Q r { s with heap := h', toks := tk' }) :
    wpAny (model PySem.Challenge.rw_ph0018_01.row.prog w) (ktrTop dp un gd cn cs L a ccd cl outer) (call (.ref f) args) Q E s :=
  C _ _ _ _ _ _ _ _ _ _ _ _ _ _ _ _ _ _ _ _ _ _ B F X N T hk hd hu c1 c2 ret
theorem Ctr.post {w : World} {k : Nat} {f : Addr} {args : List Value} {news : Led} {Post Post' : Value → Led → Prop} (C : Ctr w k f args news Post) (h : ∀ r n, Post r n → Post' r n) : Ctr w k f args news Post' :=
  fun _ _ _ _ _ _ _ _ _ _ _ _ _ _ _ _ _ _ _ _ _ _ B F X N T hk hd hu c1 c2 ret => C.use B F X N T hk hd hu c1 c2 fun r n h' tk' F' N' q => ret r n h' tk' F' N' (h r n q)
theorem Ctr.led {w : World} {k : Nat} {f : Addr} {args : List Value} {news news₂ : Led} {Post : Value → Led → Prop} (C : Ctr w k f args news Post) (h : ∀ p ∈ news, p ∈ news₂) : Ctr w k f args news₂ Post :=
  fun _ _ _ _ _ _ _ _ _ _ _ _ _ _ _ _ _ _ _ _ _ _ B F X N T hk hd hu c1 c2 ret => C.use B F X (fun p hp => N p (h p hp)) T hk hd hu c1 c2 ret
end
section
/-- what waits behind a step, and the rest of the state, under a letter each: the terms of the walk stay small -/
theorem gen_post {α : Type} {M : Model} {A : Around} {t : Sem α} {Q : α → Shared → Prop} {E : Value → Shared → Prop} {h : Heap} {tk : Nat} {s : Shared}
    (H : ∀ (Q' : α → Shared → Prop) (s' : Shared), (∀ x h' tk', Q x { s with heap := h', toks := tk' } → Q' x { s' with heap := h', toks := tk' }) → wpAny M A t Q' E { s' with heap := h, toks := tk }) :
    wpAny M A t Q E { s with heap := h, toks := tk } := H Q s fun _ _ _ q => q
theorem gen_seq {α β : Type} {M : Model} {A A' : Around} {t : Sem α} {t' : Sem β} {Q : β → Shared → Prop} {E E' : Value → Shared → Prop} {h : Heap} {tk : Nat} {s : Shared}
    (H : ∀ (Q' : β → Shared → Prop) (s' : Shared), (∀ x h' tk', Q x { s with heap := h', toks := tk' } → Q' x { s' with heap := h', toks := tk' }) → wpAny M A t (fun _ s₂ => wpAny M A' t' Q' E' s₂) E { s' with heap := h, toks := tk }) :
    wpAny M A t (fun _ s₂ => wpAny M A' t' Q E' s₂) E { s with heap := h, toks := tk } := H Q s fun _ _ _ q => q
theorem gen_ite {β : Type} {M : Model} {A A' : Around} {t : Sem Bool} {t' : Sem β} {Q : β → Shared → Prop} {R : Shared → Prop} {E E' : Value → Shared → Prop} {h : Heap} {tk : Nat} {s : Shared}
    (H : ∀ (Q' : β → Shared → Prop) (R' : Shared → Prop) (s' : Shared), (∀ x h' tk', Q x { s with heap := h', toks := tk' } → Q' x { s' with heap := h', toks := tk' }) → (∀ h' tk', R { s with heap := h', toks := tk' } → R' { s' with heap := h', toks := tk' }) → wpAny M A t (fun b s₂ => if b = true then wpAny M A' t' Q' E' s₂ else R' s₂) E { s' with heap := h, toks := tk }) :
    wpAny M A t (fun b s₂ => if b = true then wpAny M A' t' Q E' s₂ else R s₂) E { s with heap := h, toks := tk } := H Q R s (fun _ _ _ q => q) fun _ _ q => q
end
section
def Off (a : Nat) (l : Led) : Prop := ∀ p ∈ l, p.1 ≠ a
def Low (l : Led) (d : Nat) : Prop := ∀ p ∈ l, p.1 < d
theorem Low.off {l : Led} {d a : Nat} (h : Low l d) (e : d ≤ a) : ∀ p ∈ l, p.1 ≠ a := fun p hp => Nat.ne_of_lt (Nat.lt_of_lt_of_le (h p hp) e)
theorem Off.off {l : Led} {a : Nat} (h : Off a l) : ∀ p ∈ l, p.1 ≠ a := h
theorem fr_nil {h₀ h : Heap} {L : Addr} {u m₀ : Str → Option Value} (F : Fr h₀ L h (kstB (fun z => if ([] : List Str).contains z then u z else m₀ z) [])) : Fr h₀ L h m₀ := F
def Stop (P : Prop) : Prop := P
theorem Stop.out {P : Prop} (h : Stop P) : P := h

/-- a while's end, told apart: some state of the loop at which D holds -/
def WEnd {σ : Type} (h₀ : Heap) (L : Addr) (s : Shared) (Led : σ → List (Addr × Obj)) (ps : σ → List (Str × Value)) (stored : List Str) (m₀ : Str → Option Value) (D : σ → Prop) (s₂ : Shared) : Prop :=
  ∃ (c' : σ) (h' : Heap) (tk : Nat) (m' : Str → Option Value) (news' : List (Addr × Obj)), s₂ = { s with heap := h', toks := tk } ∧ Fr h₀ L h' m' ∧ News h₀ L h' news' ∧ (∀ p ∈ Led c', p ∈ news') ∧ (∀ p ∈ ps c', m' p.1 = some p.2) ∧ (∀ z, (∀ p ∈ ps c', z ≠ p.1) → stored.contains z = false → m' z = m₀ z) ∧ D c'
theorem wend {σ : Type} {h₀ : Heap} {L : Addr} {s : Shared} {Led : σ → List (Addr × Obj)} {ps : σ → List (Str × Value)} {stored : List Str} {m₀ m' : Str → Option Value} {D : σ → Prop} {h' : Heap} {tk : Nat} {news' : List (Addr × Obj)} (c' : σ)
    (F : Fr h₀ L h' m') (N : News h₀ L h' news') (hn : ∀ p ∈ Led c', p ∈ news') (hk : ∀ p ∈ ps c', m' p.1 = some p.2) (hr : ∀ z, (∀ p ∈ ps c', z ≠ p.1) → stored.contains z = false → m' z = m₀ z) (hd : D c') :
    WEnd h₀ L s Led ps stored m₀ D { s with heap := h', toks := tk } := ⟨c', h', tk, m', news', rfl, F, N, hn, hk, hr, hd⟩
def CutQ {σ : Type} (h₀ : Heap) (L : Addr) (s : Shared) (Led : σ → List (Addr × Obj)) (ps : σ → List (Str × Value)) (stored : List Str) (m₀ : Str → Option Value) (D : σ → Prop) (Q : Flow → Shared → Prop) (f : Flow) (s₂ : Shared) : Prop :=
  match f with
  | .next => WEnd h₀ L s Led ps stored m₀ D s₂
  | .brk => Q .brk s₂
  | .cont => Q .cont s₂
  | .ret v => Q (.ret v) s₂
section
variable {prog : Program} {w : World} {A : Around} {E : Value → Shared → Prop} {Q : Flow → Shared → Prop} {s : Shared} {env : Env} {h₀ : Heap} {L : Addr}
theorem while_cut {σ : Type} {test : Expr} {body : List Stmt} {pos : Pos} {m₀ : Str → Option Value} (Led : σ → List (Addr × Obj)) (ps : σ → List (Str × Value)) (Facts : σ → Prop) (stored : List Str) (P D : σ → Prop) (μ : σ → Nat) (c₀ : σ)
    (F : Fr h₀ L s.heap m₀) (N : News h₀ L s.heap (Led c₀)) (hf : Facts c₀) (hk : ∀ p ∈ ps c₀, m₀ p.1 = some p.2) (hp : P c₀)
    (turn : ∀ (c : σ) (u : Str → Option Value) h tk, Facts c → P c → Fr h₀ L h (kstB (fun z => if stored.contains z then u z else m₀ z) (ps c)) → News h₀ L h (Led c) →
      wpAny (model prog w) A (isTrue test env (eval test env)) (fun b s₂ =>
        if b = true then wpAny (model prog w) A (execs body env) (KswPost h₀ L s Led ps Facts stored m₀ P μ (CutQ h₀ L s Led ps stored m₀ D Q) c) E s₂ else WEnd h₀ L s Led ps stored m₀ D s₂) E { s with heap := h, toks := tk })
    (after : ∀ (c : σ) (u : Str → Option Value) h tk, D c → Fr h₀ L h (kstB (fun z => if stored.contains z then u z else m₀ z) (ps c)) → News h₀ L h (Led c) → Q .next { s with heap := h, toks := tk })
    (hE : PassesOwn (model prog w) A env E := by passes_own) :
    wpAny (model prog w) A (exec (.While test body [] pos) env) Q E s := by
  refine wpAny_mono (ksw_while (Q := CutQ h₀ L s Led ps stored m₀ D Q) Led ps Facts stored P μ c₀ F N hf hk hp turn hE) (fun f s₂ q => ?_) fun _ _ x => x
  cases f with
  | next =>
    obtain ⟨c', h', tk, m', news', rfl, F', N', hn, hk', hr, hd⟩ := q
    exact after c' m' h' tk hd (ksw_fr hk' hr F') fun p hp => N' p (hn p hp)
  | brk => exact q
  | cont => exact q
  | ret v => exact q
end
end
section
/-- a turn's end in a for over the items of a tuple -/
def ItPost {σ : Type} (h₀ : Heap) (L : Addr) (s : Shared) (Led : σ → List (Addr × Obj)) (ps : σ → List (Str × Value)) (stored : List Str) (m₀ : Str → Option Value) (P : σ → Prop) (I : Addr) (oI : Obj) (Q : Flow → Shared → Prop) (f : Flow) (s₂ : Shared) : Prop :=
  match f with
  | .ret v => Q (.ret v) s₂
  | .brk => Q .next s₂
  | _ => WEnd h₀ L s (fun c => (I, oI) :: Led c) ps stored m₀ (fun c => Off I (Led c) ∧ P c) s₂
section
variable {prog : Program} {w : World} {A : Around} {E : Value → Shared → Prop} {Q : Flow → Shared → Prop} {s : Shared} {env : Env} {h₀ : Heap} {target : Expr} {body : List Stmt}
theorem items_cut {σ : Type} {vs : List Value} {I : Addr} {cl : String} {keep : List (Addr × Obj)} {m₀ : Str → Option Value} (Led : σ → List (Addr × Obj)) (ps : σ → List (Str × Value)) (stored : List Str) (P : Nat → σ → Prop) (c₀ : σ)
    (hkeep : ∀ c, SubL keep (Led c)) (hk : ∀ p ∈ ps c₀, m₀ p.1 = some p.2) (hp : P 0 c₀)
    (turn : ∀ (i : Nat) (v : Value) (c : σ) (u : Str → Option Value) h tk oI, vs[i]? = some v → P i c →
      Fr h₀ env.locals h (kstB (fun z => if stored.contains z then u z else m₀ z) (ps c)) → News h₀ env.locals h ((I, oI) :: Led c) →
      wpAny (model prog w) A (assign target env v) (fun _ s₂ => wpAny (model prog w) A (execs body env) (ItPost h₀ env.locals { s with heap := h, toks := tk } Led ps stored m₀ (P (i + 1)) I oI Q) E s₂) E { s with heap := h, toks := tk })
    (done : ∀ (c : σ) (u : Str → Option Value) h tk, P vs.length c → Fr h₀ env.locals h (kstB (fun z => if stored.contains z then u z else m₀ z) (ps c)) → News h₀ env.locals h (Led c) → Q .next { s with heap := h, toks := tk }) :
    ItemsRest prog w A E h₀ env target body Q s [(I, cl)] keep (vs.map .val) m₀ (Led c₀) := by
  have key : ∀ (r : List Value) (i : Nat) (m' : Str → Option Value) (c : σ), vs.drop i = r → (∀ p ∈ ps c, m' p.1 = some p.2) → (∀ z, (∀ p ∈ ps c, z ≠ p.1) → stored.contains z = false → m' z = m₀ z) → P i c → i ≤ vs.length →
      ItemsRest prog w A E h₀ env target body Q s [(I, cl)] keep (r.map .val) m' (Led c) := by
    intro r
    induction r with
    | nil =>
      intro i m' c e h1 h2 h3 hi
      have hi2 : i = vs.length := Nat.le_antisymm hi (List.drop_eq_nil_iff.mp e)
      exact ItemsRest.zero fun h tk F N => done c m' h tk (hi2 ▸ h3) (ksw_fr h1 h2 F) N
    | cons v r ih =>
      intro i m' c e h1 h2 h3 hi
      have hv : vs[i]? = some v := by rw [← List.head?_drop, e]; rfl
      have hi2 : i < vs.length := by
        rcases Nat.lt_or_ge i vs.length with q | q
        · exact q
        · rw [List.drop_eq_nil_iff.mpr q] at e; cases e
      have he : vs.drop (i + 1) = r := by rw [← List.tail_drop, e]; rfl
      refine ItemsRest.val fun h tk F => AllObj.cons fun oI _ => AllObj.nil fun N => ?_
      refine wpAny_mono (turn i v c m' h tk oI hv h3 (ksw_fr h1 h2 F) N) (fun _ s₂ q => wpAny_mono q (fun f s₃ q => ?_) fun _ _ x => x) fun _ _ x => x
      have fin : WEnd h₀ env.locals { s with heap := h, toks := tk } (fun c => (I, oI) :: Led c) ps stored m₀ (fun c => Off I (Led c) ∧ P (i + 1) c) s₃ →
          UnrEndW h₀ env.locals { s with heap := h, toks := tk } [(I, oI)] (fun m' n' => SubL keep n' ∧ ItemsRest prog w A E h₀ env target body Q s [(I, cl)] keep (r.map .val) m' n') s₃ := by
        rintro ⟨c', h', tk', m2, news', e2, F', N', hn, hk', hr, ho, hP⟩
        refine ⟨h', tk', m2, Led c', e2, F', fun p hp => N' p (hn p hp), fun p hp q hq => ?_, hkeep c', ih (i + 1) m2 c' he hk' hr hP hi2⟩
        rw [List.mem_singleton.mp hq]
        exact ho p hp
      cases f with
      | ret v => exact q
      | brk => exact q
      | next => exact fin q
      | cont => exact fin q
  exact key vs 0 m₀ c₀ rfl hk (fun _ _ _ => rfl) hp (Nat.zero_le _)
end
end
section
/-- the letters that stand through a contract's walk -/
structure LV (α : Type) where
  own : α
  w : World
  p : Program
  loose : List Str
  mean : ExcName → Option Value
  mg : Str → Option Value
  mb : Str → Option Value
  dp : Nat
  un : Nat
  gd : Option (List Code)
  cn : Str
  cs : Scope
  a : Addr
  ccd : Value
  cl : List (Str × Addr)
  outer : List Env
  A₀ : Around
  base : Heap
  h₀ : Heap
  L : Addr
  m : Str → Option Value
  s : Shared
  Q : Value → Shared → Prop
  E : Value → Shared → Prop
  g' : Heap
  L' : Addr
  h' : Heap
  tk' : Nat
  o1 : Obj
  o2 : Obj
  o3 : Obj
  Q0 : Flow → Shared → Prop
  s0 : Shared
theorem LV.some {α : Type} (x : α) : Nonempty (LV α) :=
  ⟨⟨x, ⟨fun _ _ => 0, { strHash := fun _ => 0, shareClass := fun _ => 0, mergeTok := id, idOf := fun _ => 0, idOfShared := fun _ _ => 0, followText := fun _ => false, idOfImm := fun _ => 0 }⟩,
    default, [], fun _ => none, fun _ => none, fun _ => none, 0, 0, none, default, default, default, default, [], [], ⟨none, 0, none, none, 1⟩, default, default, default, fun _ => none, {}, fun _ _ => True, fun _ _ => True,
    default, default, default, 0, default, default, default, fun _ _ => True, {}⟩⟩
theorem LV.ex {α : Type} (x : α) (P : LV α → Prop) : ∃ v, P v → ∀ u, P u := by
  rcases Classical.em (∃ v, ¬ P v) with ⟨v, hv⟩ | h
  · exact ⟨v, fun q => absurd q hv⟩
  · rcases LV.some x with ⟨v⟩
    exact ⟨v, fun _ u => Classical.byContradiction fun q => h ⟨u, q⟩⟩
end
section
/-- a frame told anew: the names that are still wanted, and one letter for all else -/
theorem fr_cut {h₀ h : Heap} {L : Addr} {m : Str → Option Value} {P : Prop} (ps : List (Str × Value)) (F : Fr h₀ L h m) (hk : ∀ p ∈ ps, m p.1 = some p.2) (k : ∀ u : Str → Option Value, Fr h₀ L h (kstB u ps) → P) : P :=
  k m ((show kstB m ps = m from funext fun _ => kstB_eq hk fun _ => rfl).symm ▸ F)
/-- a goal hidden behind a letter, for the time of a destructuring -/
theorem as_let (G : Prop) (h : ∀ X : Prop, X = G → X) : G := h G rfl
section
variable {M : Model} {A : Around} {Q : Flow → Shared → Prop} {E : Value → Shared → Prop} {s : Shared}
/-- the frame and what stands around it under a name each: smaller terms -/
theorem let_around {t : Sem Flow} (k : let A' := A; wpAny M A' t Q E s) : wpAny M A t Q E s := k
theorem let_execs {body : List Stmt} {env : Env} (k : let e := env; wpAny M A (execs body e) Q E s) : wpAny M A (execs body env) Q E s := k
end
end
section
open PySem.Calls Builtin Builtin.ObjectAttr
theorem store_function : StoreFacts "function" [.type "function", .type "object"] "object.__setattr__" "object" where
  mro := by kernel_rfl
  slot := .of (owner := "object") (n := "__setattr__") (by rw [typeLookup_type, builtinLookup_eq_fast]; kernel_rfl) (by decide +kernel) (by decide +kernel) (by decide +kernel)
    (by first | exact .inl (by decide +kernel) | exact .inr (by decide +kernel)) (by rw [isSubtype_type]; kernel_rfl)
  entry := PySem.F.store_object.entry
  kind := by decide +kernel
  split := by decide +kernel
  hasOwner := by decide +kernel
  args := fun a b c => by unfold argsOk; kernel_rfl
  passes := fun self => by kernel_rfl

theorem tl_setattr : typeLookup (.type "function") "__setattr__" = pure (some (.builtin "object.__setattr__")) := by rw [typeLookup_type, builtinLookup_eq_fast]; kernel_rfl
theorem tl_getattribute : typeLookup (.type "function") "__getattribute__" = pure (some (.builtin "object.__getattribute__")) := by rw [typeLookup_type, builtinLookup_eq_fast]; kernel_rfl
theorem tl_getattr : typeLookup (.type "function") "__getattr__" = pure none := by rw [typeLookup_type, builtinLookup_eq_fast]; kernel_rfl
theorem tl_bool : typeLookup (.type "function") "__bool__" = pure none := by rw [typeLookup_type, builtinLookup_eq_fast]; kernel_rfl
theorem tl_len : typeLookup (.type "function") "__len__" = pure none := by rw [typeLookup_type, builtinLookup_eq_fast]; kernel_rfl
theorem tl_span : typeLookup (.type "function") "span" = pure none := by rw [typeLookup_type, builtinLookup_eq_fast]; kernel_rfl
theorem tl_search : typeLookup (.type "function") "search" = pure none := by rw [typeLookup_type, builtinLookup_eq_fast]; kernel_rfl
theorem fn_hasDict : typeHasDict (.type "function") = true := by kernel_rfl
theorem fn_fin : finalisedInACycleAlone "function" = false := by kernel_rfl

/-- a function that is the call's own, with the dict at d -/
abbrev fnObj (fd : FuncData) (d : Option Addr) : Obj := { cls := .type "function", dict := d, data := .func fd }
/-- a function's dict with one name -/
abbrev attrObj (h : Int) (k : Tok) (name : Str) (v : Value) : Obj := { cls := .type "dict", data := .dict #[⟨h, .str name k, v⟩] 1 }

section
variable {prog : Program} {w : World} {A : Around} {s : Shared} {h₀ : Heap} {L x : Addr} {m : Str → Option Value} {R : Result → Shared → Prop} {E : Value → Shared → Prop}
theorem looks_fnType {M : Model} {h : Heap} {fd : FuncData} {d : Option Addr} (hx : h.get? x = some (fnObj fd d)) : Looks M h (typeOf (.ref x)) (.type "function") := (Looks.ld hx).andThen .now
theorem looks_inst {M : Model} {h : Heap} {fd : FuncData} {d : Option Addr} (hx : h.get? x = some (fnObj fd d)) : Looks M h (isInstance (.ref x) (.type "object")) true :=
  (looks_fnType hx).andThen (Looks.of_pure (by rw [isSubtype_type]; kernel_rfl))

theorem putName_new (name : Str) (hs : Int) (k v : Value) : Obj.putName name hs k v ({ cls := .type "dict", data := .dict #[] } : Obj) = { cls := .type "dict", data := .dict #[⟨hs, k, v⟩] 1 } := by
  rfl

theorem fn_osa {fd : FuncData} {name : Str} {tk : Tok} {v : Value} {news : Led} {g : Obj → Led} (F : Fr h₀ L s.heap m) (N : News h₀ L s.heap news) (U : UpdF x (fnObj fd none) news g)
    (hn : typeLookup (.type "function") name = pure none)
    (h : ∀ d k h' tk', Fr h₀ L h' m → News h₀ L h' ((d, attrObj (PyData.keyHash w.params name) k name v) :: g (fnObj fd (some d))) → (∀ p ∈ news, p.1 < d) → R (.ok (.ret .none)) { s with heap := h', toks := tk' }) :
    codeAny (model prog w) A (.call (.builtin "object.__setattr__") ⟨[.ref x, .str name tk, v], []⟩) R s := by
  have SF := store_function
  obtain ⟨pre, post, rfl, hg, h1, h2⟩ := U.split
  have hx := (N (x, fnObj fd none) (by simp)).1
  have ty : Looks (model prog w) s.heap (typeOf (.ref x)) (.type "function") := looks_fnType hx
  refine codeAny_call_builtin SF.slot.plain SF.entry (@check_slot (model prog w) _ _ s "object.__setattr__" "object" "__setattr__" (.ref x) [.str name tk, v] [] _ SF.kind SF.split (looks_inst hx) (SF.args (.ref x) (.str name tk) v) ?_)
  rw [osa_eq, refuse_eq]
  refine wpAny_bind (wpAny_bind (ty.here (wpAny_bind ?_)))
  rw [SF.mro]
  refine wpAny_pure ?_
  rw [SF.passes]
  refine wpAny_pure (wpAny_bind (ty.here (wpAny_bind ?_)))
  rw [hn]
  refine wpAny_pure (wpAny_bind (wpAny_pure ?_))
  dsimp only
  unfold storeInOwnDict
  refine wpAny_bind (wpAny_pure ?_)
  refine wpAny_bind ?_
  refine wpAny_bind (wpAny_loadPart hx ?_)
  dsimp only
  rw [fn_hasDict]
  simp only [Bool.not_true, Bool.or_false, Bool.false_eq_true, if_false]
  refine wpAny_bind (wpAny_alloc ?_)
  have F1 := F.push ({ cls := .type "dict", data := .dict #[] } : Obj)
  have N1 := N.push F ({ cls := .type "dict", data := .dict #[] } : Obj)
  have hxs : x ≠ s.heap.objs.size := Nat.ne_of_lt (Heap.lt_size hx)
  obtain ⟨F2, N2⟩ := news_upd (f := fun o => { o with dict := some s.heap.objs.size }) (d := x) (pre := (s.heap.objs.size, { cls := .type "dict", data := .dict #[] }) :: pre) (post := post) (o := fnObj fd none) (o' := fnObj fd (some s.heap.objs.size)) F1 N1
    (fun p hp => by rcases List.mem_cons.mp hp with rfl | hp; exact Ne.symm hxs; exact h1 p hp) h2 rfl rfl
  refine wpAny_bind (wpAny_update (o := fnObj fd none) (Heap.get?_push_of_some _ hx) ?_)
  unfold dictMade
  dsimp only
  rw [fn_fin]
  simp only [Bool.false_eq_true, if_false]
  refine wpAny_bind (wpAny_pure (wpAny_pure ?_))
  dsimp only
  unfold storeInDict nsSet
  refine wpAny_bind (wpAny_pure (wpAny_bind ?_))
  have D := (N2 (s.heap.objs.size, { cls := .type "dict", data := .dict #[] }) (List.mem_append_left _ (.head _))).1
  refine wpAny_bind (wpAny_bind (wpAny_askSetting (wpAny_pure (wpAny_bind (wpAny_mkText (wpAny_bind (wpAny_loadPart D ?_)))))))
  dsimp only
  rw [aRefKeyMayBeTheName_at]
  simp only [List.any_toArray, List.any_nil, Bool.not_false, Bool.and_false, Bool.false_eq_true, if_false]
  refine wpAny_updatePart D ?_
  obtain ⟨F3, N3⟩ := news_upd (f := Obj.putName name (PyData.keyHash w.params name) (.str name s.toks) v) (d := s.heap.objs.size) (pre := []) (post := pre ++ (x, fnObj fd (some s.heap.objs.size)) :: post) (o := { cls := .type "dict", data := .dict #[] }) (o' := attrObj (PyData.keyHash w.params name) s.toks name v) F2 N2
    (fun p hp => nomatch hp) (fun p hp => by
      rcases List.mem_append.mp hp with hp | hp
      · exact Nat.ne_of_lt (Heap.lt_size (N p (List.mem_append_left _ hp)).1)
      · rcases List.mem_cons.mp hp with rfl | hp
        · exact hxs
        · exact Nat.ne_of_lt (Heap.lt_size (N p (List.mem_append_right _ (.tail _ hp))).1)) (putName_new _ _ _ _) rfl
  have D3 := (N3 (s.heap.objs.size, attrObj (PyData.keyHash w.params name) s.toks name v) (List.mem_append_right _ (.head _))).1
  refine wpAny_bind (wpAny_lookBehind D3 (pastItsLine_dict (by show 1 ≤ _; rw [sizeLine_eq]; (first | lia | omega))) ?_)
  refine wpAny_pure ?_
  refine h s.heap.objs.size s.toks _ _ F3 ?_ (fun p hp => Heap.lt_size (N p hp).1)
  rw [hg]
  exact N3

theorem fn_setAttr {fd : FuncData} {name : Str} {v : Value} {news : Led} {g : Obj → Led} {Q : Unit → Shared → Prop} (F : Fr h₀ L s.heap m) (N : News h₀ L s.heap news) (U : UpdF x (fnObj fd none) news g)
    (hn : typeLookup (.type "function") name = pure none)
    (h : ∀ d k h' tk', Fr h₀ L h' m → News h₀ L h' ((d, attrObj (PyData.keyHash w.params name) k name v) :: g (fnObj fd (some d))) → (∀ p ∈ news, p.1 < d) → Q () { s with heap := h', toks := tk' }) :
    wpAny (model prog w) A (setAttr (.ref x) name v) Q E s := by
  obtain ⟨pre, post, e, hg, h1, h2⟩ := U.split
  have hx : s.heap.get? x = some (fnObj fd none) := (N (x, fnObj fd none) (by rw [e]; simp)).1
  refine wpAny_bind (wpAny_mkText (wpAny_bind (wpAny_bind (wpAny_bind (looks_fnType (M := model prog w) hx _ _ _ _ (fun _ _ e => e) ?_)))))
  rw [tl_setattr]
  refine wpAny_pure (wpAny_holding ?_)
  rw [store_function.slot.bind]
  refine wpAny_bind (wpAny_pure (wpAny_bind (wpAny_call (codeAny_mono (fn_osa (s := { s with toks := s.toks + 1 }) F N U hn (R := fun r s' => match r with | .ok (.ret _) => Q () s' | .ok _ => False | .error e => E e s') fun d k h' tk' F' N' l => h d k h' tk' F' N' l) fun r s' z => ?_))))
  rcases r with e | (v | _ | _ | _) <;> first | exact z | exact wpAny_pure (wpAny_pure z)

theorem slot_fn_ga : Slot "function" "__getattribute__" "object.__getattribute__" :=
  .of (owner := "object") (n := "__getattribute__") (by rw [typeLookup_type, builtinLookup_eq_fast]; kernel_rfl) (by decide +kernel) (by decide +kernel) (by decide +kernel)
    (by first | exact .inl (by decide +kernel) | exact .inr (by decide +kernel)) (by rw [isSubtype_type]; kernel_rfl)
theorem entry_ga : entryFor table "object.__getattribute__" = some Builtin.«object.__getattribute__» := entryFor_of_tree (by kernel_rfl)
theorem kind_ga : builtinKind "object.__getattribute__" = some .slot := by decide +kernel
theorem split_ga : splitId "object.__getattribute__" = some ("object", "__getattribute__") := by decide +kernel
theorem args_ga (a b : Value) : argsOk "object.__getattribute__" ⟨[a, b], []⟩ := by unfold argsOk; kernel_rfl
theorem oga_eq (self : Value) (name : Str) (tk : Tok) : Builtin.«object.__getattribute__» ⟨[self, .str name tk], []⟩ = (typeOf self >>= fun tp => find self tp name >>= fun r => match r with
  | .value v => ret v
  | .bind g a => bindTo g a self tp
  | .missing => do
    if tp == .type "module" then
      if ← isOpaqueModuleObj self then
        let byTheModulesOwnEntry := match (← stack).drop 1 with
          | (.builtin "module.__getattribute__" ⟨m :: _, _⟩, _) :: _ => m == self
          | _ => false
        if !byTheModulesOwnEntry then unsupported "thirdparty:object.__getattribute__:a-miss-on-an-opaque-module"
    if tp == .type "type" then
      if let some key ← opaqueClassAbove self then unsupported s!"thirdparty:{key.toString}.{name.toString}:object.__getattribute__-misses-on-an-opaque-class"
    noSuchAttribute self name) := by kernel_rfl

theorem looks_attr {M : Model} {h : Heap} {fd : FuncData} {d : Addr} {name : Str} {v : Value} {hs : Int} {k : Tok} (hx : h.get? x = some (fnObj fd (some d))) (hd : h.get? d = some (attrObj hs k name v)) (hn : typeLookup (.type "function") name = pure none) :
    Looks M h (find (.ref x) (.type "function") name) (.value v) := by
  unfold find
  rw [hn]
  refine Looks.andThen .now (Looks.andThen .now (Looks.andThen .now ?_))
  dsimp only
  unfold ownThenClass
  refine Looks.andThen (a := some v) ?_ (Looks.tag .now)
  refine Looks.andThen (a := some d) ?_ ?_
  · refine (Looks.ld hx).andThen ?_
    refine (Looks.ld hx).andThen ?_
    exact .now
  · refine (Looks.ld hd).andThen (Looks.of_pure (nsLook_of ?_))
    unfold lookIn
    dsimp only
    rw [List.find?_cons_of_pos]
    show (name == name) = true
    simp

theorem fn_getAttr {fd : FuncData} {d : Addr} {name : Str} {g : Addr} {hs : Int} {k : Tok} {expr : Bool} {Q : Value → Shared → Prop} (hx : s.heap.get? x = some (fnObj fd (some d))) (hd : s.heap.get? d = some (attrObj hs k name (.ref g)))
    (hn : typeLookup (.type "function") name = pure none) (h : ∀ tk, Q (.ref g) { s with toks := tk }) :
    wpAny (model prog w) A (getAttr (.ref x) name expr) Q E s := by
  obtain ⟨hh, gn, dr, t, os⟩ := s
  have ty : Looks (model prog w) hh (typeOf (.ref x)) (.type "function") := looks_fnType hx
  have hin : Looks (model prog w) hh (isInstance (.ref x) (.type "object")) true := looks_inst hx
  have hf : Looks (model prog w) hh (find (.ref x) (.type "function") name) (.value (.ref g)) := looks_attr hx hd hn
  unfold getAttr getAttrBy
  refine wpAny_bind (wpAny_mkText (wpAny_holding (wpAny_bind (ty.at (wpAny_bind ?_)))))
  rw [tl_getattribute]
  refine wpAny_pure ?_
  show wpAny _ _ (getAttrByItsOwn _ _ _ _ _ _) _ _ _
  unfold getAttrByItsOwn
  refine wpAny_bind (wpAny_pure (wpAny_bind (wpAny_attempt (wpAny_holding ?_))))
  have e : callGetattribute (.ref x) (.str name t) (.builtin "object.__getattribute__") expr = boundAndCalled (.builtin "object.__getattribute__") (.ref x) (.str name t) := by
    unfold callGetattribute
    cases expr <;> rfl
  rw [e]
  unfold boundAndCalled
  rw [slot_fn_ga.bind]
  refine wpAny_bind (wpAny_pure (wpAny_call ?_))
  refine codeAny_call_builtin slot_fn_ga.plain entry_ga (@check_slot (model prog w) _ _ _ "object.__getattribute__" "object" "__getattribute__" (.ref x) [.str name t] [] _ kind_ga split_ga hin (args_ga _ _) ?_)
  show wpAny _ _ (Builtin.«object.__getattribute__» ⟨[.ref x, .str name t], []⟩) _ _ _
  rw [oga_eq]
  refine wpAny_bind (ty.at (wpAny_bind (hf.at ?_)))
  refine wpAny_pure ?_
  exact wpAny_pure (h _)

theorem fn_getMethod {fd : FuncData} {d : Addr} {name : Str} {g : Addr} {hs : Int} {k : Tok} {pl : Sem Bool} {Q : Value × List Value → Shared → Prop} (hx : s.heap.get? x = some (fnObj fd (some d))) (hd : s.heap.get? d = some (attrObj hs k name (.ref g)))
    (hn : typeLookup (.type "function") name = pure none) (h : ∀ tk, Q (.ref g, []) { s with toks := tk }) :
    wpAny (model prog w) A (getMethod (.ref x) name pl) Q E s := by
  obtain ⟨hh, gn, dr, t, os⟩ := s
  have ty : Looks (model prog w) hh (typeOf (.ref x)) (.type "function") := looks_fnType hx
  unfold getMethod
  dsimp only
  refine wpAny_bind (wpAny_bind (ty.at ?_))
  rw [tl_getattribute]
  refine wpAny_pure ?_
  dsimp only
  rw [show (Manifest.canonical "object.__getattribute__" != "object.__getattribute__") = false from by decide +kernel]
  simp only [Bool.false_eq_true, if_false]
  refine wpAny_bind (wpAny_bind (ty.at ?_))
  rw [tl_getattr]
  refine wpAny_pure ?_
  simp only [Option.isSome_none, Bool.false_eq_true, if_false]
  refine wpAny_bind (wpAny_bind (ty.at ?_))
  rw [hn]
  refine wpAny_pure ?_
  dsimp only
  exact wpAny_bind (fn_getAttr hx hd hn fun tk => wpAny_pure (h tk))

theorem fn_truthy {fd : FuncData} {d : Option Addr} {Q : Bool → Shared → Prop} (hx : s.heap.get? x = some (fnObj fd d)) (h : Q true s) : wpAny (model prog w) A (truthy (.ref x)) Q E s := by
  obtain ⟨hh, gn, dr, t, os⟩ := s
  have ty : Looks (model prog w) hh (typeOf (.ref x)) (.type "function") := looks_fnType hx
  unfold truthy
  dsimp only
  refine wpAny_bind (wpAny_bind (wpAny_bind (ty.at ?_)))
  rw [tl_bool]
  refine wpAny_pure (wpAny_pure ?_)
  dsimp only
  refine wpAny_bind (wpAny_bind (ty.at ?_))
  rw [tl_len]
  refine wpAny_pure ?_
  simp only [Option.isNone_none, if_true]
  exact wpAny_pure h
end
end
section
/-- the sign at a place -/
def chAt (x : Str) (k : Nat) : Nat := x.cps.getD k 0
theorem item_is {x : Str} {i : Int} (h0 : 0 ≤ i) (h1 : i < x.length) : Txt.item x i = ⟨#[chAt x i.toNat]⟩ := item_at h0 h1 rfl
theorem one_beq (a b : Nat) : ((⟨#[a]⟩ : Str) == ⟨#[b]⟩) = decide (a = b) := by
  by_cases h : a = b
  · subst h; simp
  · rw [decide_eq_false h]
    refine beq_eq_false_iff_ne.mpr fun e => h ?_
    have := congrArg (fun s => s.cps.getD 0 0) e
    simpa using this
theorem dot_is : Str.ofString "." = ⟨#[46]⟩ := by decide +kernel
theorem plus_is : Str.ofString "+" = ⟨#[43]⟩ := by decide +kernel
theorem item_dot {x : Str} {i : Int} (h0 : 0 ≤ i) (h1 : i < x.length) : (Txt.item x i == Str.ofString ".") = decide (chAt x i.toNat = 46) := by
  rw [item_is h0 h1, dot_is, one_beq]
theorem item_plus {x : Str} {i : Int} (h0 : 0 ≤ i) (h1 : i < x.length) : (Txt.item x i == Str.ofString "+") = decide (chAt x i.toNat = 43) := by
  rw [item_is h0 h1, plus_is, one_beq]
theorem item_item {x : Str} {i j : Int} (h0 : 0 ≤ i) (h1 : i < x.length) (h2 : 0 ≤ j) (h3 : j < x.length) : (Txt.item x i == Txt.item x j) = decide (chAt x i.toNat = chAt x j.toNat) := by
  rw [item_is h0 h1, item_is h2 h3, one_beq]

/-- what the next find is -/
def NextIs (x : Str) (start : Nat) : Option (Nat × Nat) → Prop
  | none => ∀ k, start ≤ k → k < x.length → chAt x k = 46
  | some (i, j) => start ≤ i ∧ i < j ∧ j ≤ x.length ∧ (∀ k, start ≤ k → k < i → chAt x k = 46) ∧ chAt x i ≠ 46 ∧ (∀ k, i ≤ k → k < j → chAt x k = chAt x i) ∧ (j < x.length → chAt x j ≠ chAt x i)

/-- l' holds all of l -/
def Sub (l l' : Led) : Prop := ∀ p ∈ l, p ∈ l'
theorem Sub.refl (l : Led) : Sub l l := fun _ h => h
theorem Sub.trans {a b c : Led} (h1 : Sub a b) (h2 : Sub b c) : Sub a c := fun p h => h2 p (h1 p h)
theorem Sub.app (a b : Led) : Sub b (a ++ b) := fun _ h => List.mem_append_right _ h
theorem Sub.app2 {a b c : Led} (h : Sub b c) : Sub (a ++ b) (a ++ c) := fun p hp => (List.mem_append.mp hp).elim (fun q => List.mem_append_left _ q) fun q => List.mem_append_right _ (h p q)
theorem Sub.appL (a b : Led) : Sub a (a ++ b) := fun _ h => List.mem_append_left _ h
theorem Sub.consR {a b : Led} {x : Addr × Obj} (h : Sub a b) : Sub a (x :: b) := fun p hp => .tail _ (h p hp)

abbrev tup2 (a b : Value) : Obj := { cls := .type "tuple", data := .seq #[a, b] }
abbrev tup3 (a b c : Value) : Obj := { cls := .type "tuple", data := .seq #[a, b, c] }
/-- calling g hands back a new pair of these ints -/
def SpanC (w : World) (l : Led) (g : Addr) (i j : Nat) : Prop :=
  ∀ l', Sub l l' → Ctr w 2 g [] l' fun r news' => ∃ T ti tj, r = .ref T ∧ news' = (T, tup2 (.int i ti) (.int j tj)) :: l' ∧ Low l' T
/-- a find -/
def Hit (w : World) (l : Led) (v : Value) (i j : Nat) : Prop :=
  ∃ f d g fd hs k fg, v = .ref f ∧ (f, fnObj fd (some d)) ∈ l ∧ (d, attrObj hs k (Str.ofString "span") (.ref g)) ∈ l ∧ (g, fnObj fg none) ∈ l ∧ SpanC w l g i j
theorem SpanC.mono {w : World} {l l' : Led} {g : Addr} {i j : Nat} (h : SpanC w l g i j) (hs : Sub l l') : SpanC w l' g i j := fun l'' h2 => h l'' (hs.trans h2)
theorem Hit.mono {w : World} {l l' : Led} {v : Value} {i j : Nat} (h : Hit w l v i j) (hs : Sub l l') : Hit w l' v i j := by
  obtain ⟨f, d, g, fd, h', k, fg, e, m1, m2, m3, c⟩ := h
  exact ⟨f, d, g, fd, h', k, fg, e, hs _ m1, hs _ m2, hs _ m3, c.mono hs⟩
def HitO (w : World) (l : Led) (v : Value) : Option (Nat × Nat) → Prop
  | none => v = .none
  | some (i, j) => Hit w l v i j
theorem HitO.mono {w : World} {l l' : Led} {v : Value} {o : Option (Nat × Nat)} (h : HitO w l v o) (hs : Sub l l') : HitO w l' v o := by
  cases o with
  | none => exact h
  | some p => exact Hit.mono h hs
/-- a code object that the ledger holds -/
def CodeAt (l : Led) (c : Addr) (q : Str) : Prop := ∃ oc vs t, (c, oc) ∈ l ∧ oc.data = .fields vs ∧ vs[1]? = some (.str q t)
/-- the memo of _law_next's two lambdas -/
def Tab44 (ps : Array Value) (l : Led) : Prop := ps = #[] ∨ ∃ c1 c2, ps = #[rawInt 43, rawInt 10, .ref c1, rawInt 44, rawInt 15, .ref c2] ∧ CodeAt l c1 (Str.ofString "_law_next" ++ Str.ofString ".<locals>." ++ Str.ofString "<lambda>") ∧ CodeAt l c2 (Str.ofString "_law_next" ++ Str.ofString ".<locals>." ++ Str.ofString "<lambda>")
/-- new objects lie behind the old ones -/
def High (new rest : Led) : Prop := ∀ q ∈ new, ∀ p ∈ rest, p.1 < q.1
def NextPost (w : World) (x : Str) (start : Nat) (ps : Array Value) (kb rest : Led) (r : Value) (news' : Led) : Prop :=
  ∃ ps' new o, news' = (44, tabObj ps') :: (new ++ rest) ∧ Tab44 ps' (new ++ kb) ∧ High new ((44, tabObj ps) :: rest) ∧ NextIs x start o ∧ HitO w (new ++ kb) r o
def SearchC (w : World) (l : Led) (g : Addr) : Prop := ∀ rest kb, Sub l rest → Sub kb rest → ∀ (x : Str) (start : Nat) (t t' : Tok) (ps : Array Value), x.length < 10000 → start ≤ x.length → Off 44 rest → Tab44 ps kb →
  Ctr w 4 g [.str x t, .int start t'] ((44, tabObj ps) :: rest) (NextPost w x start ps kb rest) ∧ Ctr w 4 g [.str x t] ((44, tabObj ps) :: rest) (NextPost w x 0 ps kb rest)
/-- a program -/
def Prog (w : World) (l : Led) (v : Value) : Prop :=
  ∃ f d g fd hs k fg, v = .ref f ∧ (f, fnObj fd (some d)) ∈ l ∧ (d, attrObj hs k (Str.ofString "search") (.ref g)) ∈ l ∧ (g, fnObj fg none) ∈ l ∧ SearchC w l g
theorem Prog.mono {w : World} {l l' : Led} {v : Value} (h : Prog w l v) (hs : Sub l l') : Prog w l' v := by
  obtain ⟨f, d, g, fd, h', k, fg, e, m1, m2, m3, c⟩ := h
  exact ⟨f, d, g, fd, h', k, fg, e, hs _ m1, hs _ m2, hs _ m3, fun rest kb h2 => c rest kb (hs.trans h2)⟩
theorem ret5 {h₀ h : Heap} {L : Addr} {e1 e2 e3 e4 e5 tb : Addr × Obj} {rest : Led} (N : News h₀ L h (e1 :: e2 :: e3 :: e4 :: e5 :: tb :: rest)) : News h₀ L h (tb :: ([e1, e2, e3, e4, e5] ++ rest)) :=
  cb_drop N (by intro p hp; simp only [List.cons_append, List.nil_append, List.mem_cons] at hp ⊢; rcases hp with h | h | h | h | h | h | h <;> simp [h])
theorem ret6 {h₀ h : Heap} {L : Addr} {e1 e2 e3 e4 e5 e6 tb : Addr × Obj} {rest : Led} (N : News h₀ L h (e1 :: e2 :: e3 :: e4 :: e5 :: e6 :: tb :: rest)) : News h₀ L h (tb :: ([e1, e2, e3, e4, e5, e6] ++ rest)) :=
  cb_drop N (by intro p hp; simp only [List.cons_append, List.nil_append, List.mem_cons] at hp ⊢; rcases hp with h | h | h | h | h | h | h | h <;> simp [h])
theorem ret7 {h₀ h : Heap} {L : Addr} {e1 e2 e3 e4 e5 e6 e7 tb : Addr × Obj} {rest : Led} (N : News h₀ L h (e1 :: e2 :: e3 :: e4 :: e5 :: e6 :: e7 :: tb :: rest)) : News h₀ L h (tb :: ([e1, e2, e3, e4, e5, e6, e7] ++ rest)) :=
  cb_drop N (by intro p hp; simp only [List.cons_append, List.nil_append, List.mem_cons] at hp ⊢; rcases hp with h | h | h | h | h | h | h | h | h <;> simp [h])
theorem AllLt.of {d : Nat} : ∀ {l : Led}, AllLt d l → ∀ p ∈ l, p.1 < d
  | [], _, _, hp => nomatch hp
  | _ :: _, h, _, .head _ => h.1
  | _ :: _, h, _, .tail _ hp => AllLt.of h.2 _ hp
theorem AllLt.off {d a : Nat} {l : Led} (h : AllLt d l) (e : d ≤ a) : Off a l := fun p hp => Nat.ne_of_lt (Nat.lt_of_lt_of_le (AllLt.of h p hp) e)
theorem AllLt.low {d : Nat} {l : Led} (h : AllLt d l) : Low l d := AllLt.of h
theorem leN {a b : Nat} (h : a ≤ b) : a ≤ b := h
theorem high_of {new rest : Led} {d : Nat} (h : ∀ q ∈ new, d ≤ q.1) (low : Low rest d) : High new rest := fun q hq p hp => Nat.lt_of_lt_of_le (low p hp) (h q hq)
theorem Low.cons {l : Led} {d : Nat} {x : Addr × Obj} (h : Low l d) (hx : x.1 < d) : Low (x :: l) d := fun p hp => by
  rcases List.mem_cons.mp hp with rfl | hp
  · exact hx
  · exact h p hp
end
section
def endOf : Option (Nat × Nat) → Nat
  | none => 0
  | some (_, j) => j
/-- the last find's end that lies at col or ahead of it, or 0 -/
def EndIs (x : Str) (col e : Nat) : Prop :=
  (e = 0 ∨ (1 ≤ e ∧ e ≤ col ∧ chAt x (e - 1) ≠ 46 ∧ (e < x.length → chAt x e ≠ chAt x (e - 1)))) ∧ ∀ k, e < k → k ≤ col → chAt x (k - 1) = 46 ∨ (k < x.length ∧ chAt x k = chAt x (k - 1))
/-- the loop's word: no end between the last find and the one at hand -/
def Half (x : Str) (col e : Nat) : Prop := e = 0 ∨ (1 ≤ e ∧ e ≤ col ∧ chAt x (e - 1) ≠ 46 ∧ (e < x.length → chAt x e ≠ chAt x (e - 1)))
theorem end_none {x : Str} {col : Nat} (hc : col ≤ x.length) {e : Nat} (h : Half x col e) (hn : NextIs x e none) : EndIs x col e :=
  ⟨h, fun k h1 h2 => .inl (hn (k - 1) (by (first | lia | omega)) (by (first | lia | omega)))⟩
theorem end_past {x : Str} {col e i j : Nat} (h : Half x col e) (hn : NextIs x e (some (i, j))) (hj : col < j) : EndIs x col e := by
  obtain ⟨n1, n2, n3, n4, n5, n6, n7⟩ := hn
  refine ⟨h, fun k h1 h2 => ?_⟩
  by_cases hk : k ≤ i
  · exact .inl (n4 (k - 1) (by (first | lia | omega)) (by (first | lia | omega)))
  · exact .inr ⟨by (first | lia | omega), by rw [n6 k (by (first | lia | omega)) (by (first | lia | omega)), n6 (k - 1) (by (first | lia | omega)) (by (first | lia | omega))]⟩
theorem half_next {x : Str} {col e i j : Nat} (hn : NextIs x e (some (i, j))) (hj : j ≤ col) : Half x col j := by
  obtain ⟨n1, n2, n3, n4, n5, n6, n7⟩ := hn
  refine .inr ⟨by (first | lia | omega), hj, ?_, fun h => ?_⟩
  · rw [n6 (j - 1) (by (first | lia | omega)) (by (first | lia | omega))]; exact n5
  · rw [n6 (j - 1) (by (first | lia | omega)) (by (first | lia | omega))]; exact n7 h

theorem High.app {a b r : Led} {x y : Addr × Obj} (h1 : High a (x :: (b ++ r))) (h2 : High b (y :: r)) (e : x.1 = y.1) : High (a ++ b) (y :: r) := by
  intro q hq p hp
  rcases List.mem_append.mp hq with hq | hq
  · rcases List.mem_cons.mp hp with rfl | hp
    · rw [← e]; exact h1 q hq x (.head _)
    · exact h1 q hq p (.tail _ (List.mem_append_right _ hp))
  · exact h2 q hq p hp
theorem High.off {a r : Led} {x : Addr × Obj} (h : High a (x :: r)) (ho : Off x.1 r) : Off x.1 (a ++ r) := by
  intro p hp
  rcases List.mem_append.mp hp with hp | hp
  · exact Nat.ne_of_gt (h p hp x (.head _))
  · exact ho p hp
theorem High.nil {r : Led} : High [] r := fun q hq => nomatch hq
theorem drop2nd {h₀ h : Heap} {L : Addr} {a b : Addr × Obj} {rest : Led} (N : News h₀ L h (a :: b :: rest)) : News h₀ L h (a :: rest) := cb_drop N fun p hp => by
  rcases List.mem_cons.mp hp with rfl | hp
  · exact .head _
  · exact .tail _ (.tail _ hp)
theorem drop3rd {h₀ h : Heap} {L : Addr} {a b c : Addr × Obj} {rest : Led} (N : News h₀ L h (a :: b :: c :: rest)) : News h₀ L h (a :: rest) := drop2nd (drop2nd N)
end
section
/-- taking apart without a motive for each part -/
theorem and2 {a b z : Prop} (x : a ∧ b) (k : a → b → z) : z := k x.1 x.2
theorem and3 {a b c z : Prop} (x : a ∧ b ∧ c) (k : a → b → c → z) : z := k x.1 x.2.1 x.2.2
theorem and4 {a b c d z : Prop} (x : a ∧ b ∧ c ∧ d) (k : a → b → c → d → z) : z := k x.1 x.2.1 x.2.2.1 x.2.2.2
theorem and5 {a b c d e z : Prop} (x : a ∧ b ∧ c ∧ d ∧ e) (k : a → b → c → d → e → z) : z := k x.1 x.2.1 x.2.2.1 x.2.2.2.1 x.2.2.2.2
theorem and6 {a b c d e f z : Prop} (x : a ∧ b ∧ c ∧ d ∧ e ∧ f) (k : a → b → c → d → e → f → z) : z := k x.1 x.2.1 x.2.2.1 x.2.2.2.1 x.2.2.2.2.1 x.2.2.2.2.2
theorem and7 {a b c d e f g z : Prop} (x : a ∧ b ∧ c ∧ d ∧ e ∧ f ∧ g) (k : a → b → c → d → e → f → g → z) : z := and2 x fun p q => and6 q (k p)
theorem and8 {a b c d e f g i z : Prop} (x : a ∧ b ∧ c ∧ d ∧ e ∧ f ∧ g ∧ i) (k : a → b → c → d → e → f → g → i → z) : z := and2 x fun p q => and7 q (k p)
theorem and10 {a b c d e f g i j l z : Prop} (x : a ∧ b ∧ c ∧ d ∧ e ∧ f ∧ g ∧ i ∧ j ∧ l) (k : a → b → c → d → e → f → g → i → j → l → z) : z := and2 x fun p q => and2 q fun r s => and8 s (k p r)
theorem and11 {a b c d e f g i j l m z : Prop} (x : a ∧ b ∧ c ∧ d ∧ e ∧ f ∧ g ∧ i ∧ j ∧ l ∧ m) (k : a → b → c → d → e → f → g → i → j → l → m → z) : z := and2 x fun p q => and10 q (k p)
theorem prod3 {α β γ : Type} {P : α × β × γ → Prop} (h : ∀ a b c, P (a, b, c)) : ∀ x, P x := fun x => h x.1 x.2.1 x.2.2
theorem prod4 {α β γ δ : Type} {P : α × β × γ × δ → Prop} (h : ∀ a b c d, P (a, b, c, d)) : ∀ x, P x := fun x => h x.1 x.2.1 x.2.2.1 x.2.2.2
theorem int_elim {P : Value → Prop} {n : Int} {v : Value} (h : ∃ t, v = .int n t) (k : ∀ t, P (.int n t)) : P v := by
  obtain ⟨t, rfl⟩ := h
  exact k t
theorem Hit.elim {w : World} {l : Led} {v : Value} {i j : Nat} {P : Value → Prop} (h : Hit w l v i j)
    (k : ∀ f d g fd hs k fg, (f, fnObj fd (some d)) ∈ l → (d, attrObj hs k (Str.ofString "span") (.ref g)) ∈ l → (g, fnObj fg none) ∈ l → SpanC w l g i j → P (.ref f)) : P v := by
  obtain ⟨f, d, g, fd, hs, k', fg, rfl, a, b, c, q⟩ := h
  exact k f d g fd hs k' fg a b c q
theorem Hit.mk {w : World} {l : Led} {i j : Nat} {f d g : Addr} {fd hs k fg} (a : (f, fnObj fd (some d)) ∈ l) (b : (d, attrObj hs k (Str.ofString "span") (.ref g)) ∈ l) (c : (g, fnObj fg none) ∈ l) (q : SpanC w l g i j) : Hit w l (.ref f) i j :=
  ⟨f, d, g, fd, hs, k, fg, rfl, a, b, c, q⟩
theorem Prog.mk {w : World} {l : Led} {f d g : Addr} {fd hs k fg} (a : (f, fnObj fd (some d)) ∈ l) (b : (d, attrObj hs k (Str.ofString "search") (.ref g)) ∈ l) (c : (g, fnObj fg none) ∈ l) (q : SearchC w l g) : Prog w l (.ref f) :=
  ⟨f, d, g, fd, hs, k, fg, rfl, a, b, c, q⟩
theorem NextPost.mk {w : World} {x : Str} {start : Nat} {ps ps' : Array Value} {kb rest new : Led} {r : Value} (o : Option (Nat × Nat)) (a : Tab44 ps' (new ++ kb)) (b : High new ((44, tabObj ps) :: rest)) (c : NextIs x start o) (d : HitO w (new ++ kb) r o) :
    NextPost w x start ps kb rest r ((44, tabObj ps') :: (new ++ rest)) := ⟨_, _, o, rfl, a, b, c, d⟩
theorem Tab44.mk {l : Led} {c1 c2 : Addr} {oc1 oc2 : Obj} {vs1 vs2 t1 t2} (m1 : (c1, oc1) ∈ l) (d1 : oc1.data = .fields vs1) (e1 : vs1[1]? = some (.str (Str.ofString "_law_next" ++ Str.ofString ".<locals>." ++ Str.ofString "<lambda>") t1)) (m2 : (c2, oc2) ∈ l) (d2 : oc2.data = .fields vs2) (e2 : vs2[1]? = some (.str (Str.ofString "_law_next" ++ Str.ofString ".<locals>." ++ Str.ofString "<lambda>") t2)) :
    Tab44 #[rawInt 43, rawInt 10, .ref c1, rawInt 44, rawInt 15, .ref c2] l := .inr ⟨c1, c2, rfl, ⟨oc1, vs1, t1, m1, d1, e1⟩, ⟨oc2, vs2, t2, m2, d2, e2⟩⟩
theorem Tab44.elim {P : Array Value → Prop} {ps : Array Value} {l : Led} (h : Tab44 ps l) (k0 : P #[])
    (k1 : ∀ c1 c2 oc1 vs1 t1 oc2 vs2 t2, (c1, oc1) ∈ l → oc1.data = .fields vs1 → vs1[1]? = some (.str (Str.ofString "_law_next" ++ Str.ofString ".<locals>." ++ Str.ofString "<lambda>") t1) → (c2, oc2) ∈ l → oc2.data = .fields vs2 → vs2[1]? = some (.str (Str.ofString "_law_next" ++ Str.ofString ".<locals>." ++ Str.ofString "<lambda>") t2) → P #[rawInt 43, rawInt 10, .ref c1, rawInt 44, rawInt 15, .ref c2]) : P ps := by
  rcases h with rfl | ⟨c1, c2, rfl, ⟨oc1, vs1, tq1, mc1, dc1, ec1⟩, ⟨oc2, vs2, tq2, mc2, dc2, ec2⟩⟩
  · exact k0
  · exact k1 c1 c2 oc1 vs1 tq1 oc2 vs2 tq2 mc1 dc1 ec1 mc2 dc2 ec2
theorem Prog.elim {w : World} {l : Led} {v : Value} {P : Value → Prop} (h : Prog w l v)
    (k : ∀ f d g fd hs k fg, (f, fnObj fd (some d)) ∈ l → (d, attrObj hs k (Str.ofString "search") (.ref g)) ∈ l → (g, fnObj fg none) ∈ l → SearchC w l g → P (.ref f)) : P v := by
  obtain ⟨f, d, g, fd, hs, k', fg, rfl, a, b, c, q⟩ := h
  exact k f d g fd hs k' fg a b c q
section
variable {w : World} {k : Nat} {f : Addr} {args : List Value} {news : Led}
    {p : Program} {loose : List Str} {mean : ExcName → Option Value} {mg mb : Str → Option Value} {dp un : Nat} {gd : Option (List Code)} {cn : Str} {cs : Scope} {a : Addr} {ccd : Value} {cl : List (Str × Addr)} {outer : List Env} {A₀ : Around} {base h₀ : Heap} {L : Addr} {m : Str → Option Value} {s : Shared}
    {Q E : Value → Shared → Prop}
/-- a call that hands back a new pair -/
theorem use_tup {V1 V2 : Tok → Value} {rest : Led} (C : Ctr w k f args news fun r n => ∃ T t1 t2, r = .ref T ∧ n = (T, tup2 (V1 t1) (V2 t2)) :: rest ∧ Low rest T)
    (B : Below A₀ base outer h₀) (F : Fr h₀ L s.heap m) (X : (Mine.hd.heap_39 w.params).In h₀) (N : News h₀ L s.heap news) (T : Top p loose mean mg mb h₀) (hk : cs.kind = .function)
    (hd : dp + k < recursionLimit) (hu : un + 10 * k < cLine) (c1 : CodeHd base 48 44) (c2 : CodeHd base 55 51)
    (ret : ∀ T t1 t2 h' tk', Fr h₀ L h' m → News h₀ L h' ((T, tup2 (V1 t1) (V2 t2)) :: rest) → Low rest T → Q (.ref T) { s with heap := h', toks := tk' }) :
    wpAny (model PySem.Challenge.rw_ph0018_01.row.prog w) (ktrTop dp un gd cn cs L a ccd cl outer) (call (.ref f) args) Q E s :=
  C.use B F X N T hk hd hu c1 c2 (by rintro r n h' tk' F' N' ⟨T, t1, t2, rfl, rfl, q⟩; exact ret T t1 t2 h' tk' F' N' q)
/-- a call that may grow the memo's table -/
theorem use_tab {P : Option (Nat × Nat) → Prop} {ps : Array Value} {kb rest : Led} (C : Ctr w k f args news fun r n => ∃ ps' new o, n = (44, tabObj ps') :: (new ++ rest) ∧ Tab44 ps' (new ++ kb) ∧ High new ((44, tabObj ps) :: rest) ∧ P o ∧ HitO w (new ++ kb) r o)
    (B : Below A₀ base outer h₀) (F : Fr h₀ L s.heap m) (X : (Mine.hd.heap_39 w.params).In h₀) (N : News h₀ L s.heap news) (T : Top p loose mean mg mb h₀) (hk : cs.kind = .function)
    (hd : dp + k < recursionLimit) (hu : un + 10 * k < cLine) (c1 : CodeHd base 48 44) (c2 : CodeHd base 55 51)
    (ret : ∀ r ps' new o h' tk', Fr h₀ L h' m → News h₀ L h' ((44, tabObj ps') :: (new ++ rest)) → Tab44 ps' (new ++ kb) → High new ((44, tabObj ps) :: rest) → P o → HitO w (new ++ kb) r o → Q r { s with heap := h', toks := tk' }) :
    wpAny (model PySem.Challenge.rw_ph0018_01.row.prog w) (ktrTop dp un gd cn cs L a ccd cl outer) (call (.ref f) args) Q E s :=
  C.use B F X N T hk hd hu c1 c2 (by rintro r n h' tk' F' N' ⟨ps', new, o, rfl, a, b, c, d⟩; exact ret r ps' new o h' tk' F' N' a b c d)
/-- a call that hands back a program -/
theorem use_prog {rest : Led} (C : Ctr w k f args news fun r n => ∃ ps' new, n = (51, tabObj ps') :: (new ++ rest) ∧ High new ((51, tabObj #[]) :: rest) ∧ Prog w new r)
    (B : Below A₀ base outer h₀) (F : Fr h₀ L s.heap m) (X : (Mine.hd.heap_39 w.params).In h₀) (N : News h₀ L s.heap news) (T : Top p loose mean mg mb h₀) (hk : cs.kind = .function)
    (hd : dp + k < recursionLimit) (hu : un + 10 * k < cLine) (c1 : CodeHd base 48 44) (c2 : CodeHd base 55 51)
    (ret : ∀ ps' new f d g fd hs k fg h' tk', Fr h₀ L h' m → News h₀ L h' ((51, tabObj ps') :: (new ++ rest)) → High new ((51, tabObj #[]) :: rest) → Prog w new (.ref f) → (f, fnObj fd (some d)) ∈ new → (d, attrObj hs k (Str.ofString "search") (.ref g)) ∈ new → (g, fnObj fg none) ∈ new → SearchC w new g → Q (.ref f) { s with heap := h', toks := tk' }) :
    wpAny (model PySem.Challenge.rw_ph0018_01.row.prog w) (ktrTop dp un gd cn cs L a ccd cl outer) (call (.ref f) args) Q E s :=
  C.use B F X N T hk hd hu c1 c2 (by
    rintro r n h' tk' F' N' ⟨ps', new, rfl, a, b⟩
    have b2 := b
    obtain ⟨f, d, g, fd, hs, k', fg, rfl, m1, m2, m3, q⟩ := b2
    exact ret ps' new f d g fd hs k' fg h' tk' F' N' a b m1 m2 m3 q)
end
end
local macro_rules | `(tactic| walk_at "cj") => `(tactic| with_reducible first | assumption | exact cj1 (by assumption) | exact cj2 (by assumption) | exact cj3 (by assumption) | exact cj4 (by assumption) | exact cj5 (by assumption) | exact cj6 (by assumption) | exact cj7 (by assumption) | exact cj8 (by assumption))
local macro_rules | `(tactic| walk_at "ar0") => `(tactic| with_reducible first | assumption | exact Nat.zero_le _ | exact ar_nle (by decide +kernel) | exact ar_nl (by decide +kernel) | exact ar_nn | exact ar_ll (by assumption) | exact ar_lt (by assumption) (by decide +kernel) | exact ar_room (by assumption) (by decide) | exact ar_room0 (by assumption) | exact Nat.ne_of_lt (by walk_at "cj") | exact Nat.ne_of_gt (by walk_at "cj") | exact Nat.le_of_lt (by walk_at "cj") | exact ar_s1 | exact ar_s2 | walk_at "cj" | decide +kernel)
local macro_rules | `(tactic| omega) => `(tactic| first | walk_at "ar0" | omega (config := {}))
local macro_rules | `(tactic| walk_at "ar") => `(tactic| first | walk_at "ar0" | lia | omega (config := {}))
local macro_rules | `(tactic| k_all) => `(tactic| first | exact Off.off (by assumption) | (refine Low.off (by assumption) ?_; walk_at "ar") | exact AllLt.off (by walk_at "mine allLt") (Nat.le_refl _))
local macro_rules | `(tactic| walk_at "mine enter") => `(tactic| (refine' code_def (by k_asm) (by k_asm) (by k_asm) (by k_asm) (by k_asm) (by exact rfl) (by exact rfl) (by assumption) (by k_is) (by k_is) (by ktr_room) (by exact BindsTo.of_eq rfl) (by exact locs rfl) ?_ (by exact rfl) (by exact rfl) (by exact rfl) (by decide); k_whole; intro g' L' h' FG' F' N' B' X' T'; (try dsimp only); (try k_lift B'); (try k_fold)))
local macro_rules | `(tactic| walk_at "mine enterC") => `(tactic| (refine' code_defC (by k_asm) (by k_asm) (by k_asm) (by k_asm) (by k_asm) (by exact rfl) (by exact rfl) (by assumption) (by k_is) (by k_is) (by ktr_room) (by exact BindsTo.of_eq rfl) (by exact rfl) (by decide +kernel) ?_ (by exact rfl) (by exact rfl) (by exact rfl); k_whole; intro g' L' h' tk' cells' FG' F' N' Y' B' X' T' l1; k_cells Y'; (try simp only [List.cons_append, List.nil_append] at N'); (try dsimp only); (try k_lift B'); (try k_fold)))
local macro_rules | `(tactic| walk_at "exec While") => `(tactic| (refine Mine.Stop.out ?_))
local macro_rules | `(tactic| walk_at "setAttr ref") => `(tactic| (k_here; k_dflt (refine' Mine.fn_setAttr (by k_asm) (by k_asm) (by k_updF) (by first | exact Mine.tl_span | exact Mine.tl_search) ?_; k_whole); intro d' k' h' tk' F' N' l1; (try dsimp only at N'); (try k_lt l1)))
local macro_rules | `(tactic| walk_at "getMethod ref") => `(tactic| (k_here; k_dflt (refine' Mine.fn_getMethod (by exact News.get (by k_asm) (by k_mem)) (by exact News.get (by k_asm) (by k_mem)) (by first | exact Mine.tl_span | exact Mine.tl_search) ?_; k_whole); intro tk'))
local macro_rules | `(tactic| walk_at "truthy ref") => `(tactic| (k_here; k_dflt (refine' Mine.fn_truthy (by exact News.get (by k_asm) (by k_mem)) ?_; k_whole)))
local macro_rules | `(tactic| walk_at "mine enterL") => `(tactic| (refine' kla_code (by k_asm) (by k_asm) (by k_asm) (by k_asm) (by k_asm) (by exact rfl) (by exact rfl) (by assumption) (by k_mem) (by exact codeRec_news (by k_asm) (by k_mem) (by assumption) (by assumption)) (by ktr_room) (by exact rfl) (by exact locs rfl) ?_ (by exact rfl) (by exact rfl) (by exact rfl) (by decide); k_whole; intro g' L' h' FG' F' N' B' X' T'; (try dsimp only); (try k_lift B'); (try k_fold)))
local macro_rules | `(tactic| walk_at "mine allLt") => `(tactic| first | exact by assumption | exact And.right (by assumption) | exact And.right (And.right (by assumption)) | exact And.right (And.right (And.right (by assumption))) | exact And.right (And.right (And.right (And.right (by assumption)))) | exact And.right (And.right (And.right (And.right (And.right (by assumption))))) | exact And.right (And.right (And.right (And.right (And.right (And.right (by assumption)))))) | exact And.right (And.right (And.right (And.right (And.right (And.right (And.right (by assumption))))))) | exact And.right (And.right (And.right (And.right (And.right (And.right (And.right (And.right (by assumption)))))))) | exact And.right (And.right (And.right (And.right (And.right (And.right (And.right (And.right (And.right (by assumption))))))))) | exact And.right (And.right (And.right (And.right (And.right (And.right (And.right (And.right (And.right (And.right (by assumption)))))))))) | exact And.right (And.right (And.right (And.right (And.right (And.right (And.right (And.right (And.right (And.right (And.right (by assumption))))))))))) | exact And.right (And.right (And.right (And.right (And.right (And.right (And.right (And.right (And.right (And.right (And.right (And.right (by assumption)))))))))))))
local macro_rules | `(tactic| walk_at "mine enterE") => `(tactic| (refine' kdv_codeE (by k_asm) (by k_asm) (by k_asm) (by k_asm) (by k_asm) (by exact rfl) (by exact rfl) (by assumption) (by k_mem) (by exact codeRec_news (by k_asm) (by k_mem) (by assumption) (by assumption)) (by ktr_room) (by kdv_bind) (by exact locs rfl) ?_ (by exact rfl) (by exact rfl) (by exact rfl) (by decide); k_whole; intro g' L' h' FG' F' N' B' X' T'; (try dsimp only); (try k_lift B'); (try k_fold)))
local macro_rules | `(tactic| walk_at "call ref") => `(tactic| (refine Mine.Stop.out ?_))
local macro_rules | `(tactic| k_mem) => `(tactic| first | ktr_member | exact List.mem_cons_self | (refine List.mem_cons_of_mem _ ?_; k_mem))
local macro_rules | `(tactic| walk_at "call builtin:str.join") => `(tactic| (refine Mine.Stop.out ?_))
local macro_rules | `(tactic| walk_at "call type:list") => `(tactic| (refine Mine.Stop.out ?_))
local macro_rules | `(tactic| walk_at "mine mem") => `(tactic| first | assumption | exact List.mem_cons_self | (refine List.mem_cons_of_mem _ ?_; walk_at "mine mem") | (refine List.mem_append_left _ ?_; walk_at "mine mem") | (refine List.mem_append_right _ ?_; walk_at "mine mem"))
local macro_rules | `(tactic| walk_at "mine sub") => `(tactic| first | exact fun _ h => h | (intro p hp; walk_at "mine mem") | ((try dsimp only); refine List.forall_mem_cons.mpr ⟨?_, ?_⟩; (· walk_at "mine mem"); (· walk_at "mine sub")) | (refine List.forall_mem_append.mpr ⟨?_, ?_⟩; (· walk_at "mine sub"); (· walk_at "mine sub")))
section
local macro_rules | `(tactic| walk_at "exec While BoolOp") => `(tactic| (refine Mine.Stop.out ?_))
def next_c_P : {P : (World) → (Str) → (Nat) → (Tok) → (Tok) → (Led) → (Led) → (Program) → (List Str) → (ExcName → Option Value) → (Str → Option Value) → (Str → Option Value) → (Nat) → (Nat) → (Option (List Code)) → (Str) → (Scope) → (Addr) → (Value) → (List (Str × Addr)) → (List Env) → (Around) → (Heap) → (Heap) → (Addr) → (Str → Option Value) → (Shared) → (Value → Shared → Prop) → (Value → Shared → Prop) → (Heap) → (Addr) → (Heap) → (Nat) → (Obj) → (Obj) → (Flow → Shared → Prop) → (Shared) → Prop // (∀ w chars start t t' kb rest p loose mean mg mb dp un gd cn cs a ccd cl outer A₀ base h₀ L m s Q E g' L' h' tk' o1 o2 Q0 s0, P w chars start t t' kb rest p loose mean mg mb dp un gd cn cs a ccd cl outer A₀ base h₀ L m s Q E g' L' h' tk' o1 o2 Q0 s0) → ∀ (w : World) (chars : Str) (start : Nat) (t t' : Tok) (ps : Array Value) (kb rest : Led) (hkb : Sub kb rest) (hlen : chars.length < 10000) (hst : start ≤ chars.length) (hoff : Off 44 rest) (htab : Tab44 ps kb),
    Ctr w 2 49 [.str chars t, .int start t'] ((44, tabObj ps) :: rest) (NextPost w chars start ps kb rest)} := by
  apply Subtype.mk
  intro hall w chars start t t' ps kb rest hkb hlen hst hoff htab
  unfold Ctr
  w_top off
  k_fill
  intro p loose mean mg mb dp un gd cn cs a ccd cl outer A₀ base h₀ L m s Q E B F X N T hk hdp hun hC1 hC2 hret
  refine wpAny_call ?_
  k_dflt walk_at "mine enterC"
  refine gen_post ?_
  intro Q0 s0 hQ0
  rename_i g' L' h' tk' z4_FG z5_F z6_B z7_X z8_T z9_l1 o1 o2 z12_d1 z13_d2 z14_N
  revert ps hkb hlen hst hoff htab B F X N T hk hdp hun hC1 hC2 hret z4_FG z5_F z6_B z7_X z8_T z9_l1 z12_d1 z13_d2 z14_N hQ0
  exact hall w chars start t t' kb rest p loose mean mg mb dp un gd cn cs a ccd cl outer A₀ base h₀ L m s Q E g' L' h' tk' o1 o2 Q0 s0
noncomputable def next_c_v : LV ((Str) × (Nat) × (Tok) × (Tok) × (Led) × (Led)) := Classical.choose (LV.ex ((default : Str), (default : Nat), (default : Tok), (default : Tok), (default : Led), (default : Led)) fun v => next_c_P.1 (v.w) (v.own.1) (v.own.2.1) (v.own.2.2.1) (v.own.2.2.2.1) (v.own.2.2.2.2.1) (v.own.2.2.2.2.2) (v.p) (v.loose) (v.mean) (v.mg) (v.mb) (v.dp) (v.un) (v.gd) (v.cn) (v.cs) (v.a) (v.ccd) (v.cl) (v.outer) (v.A₀) (v.base) (v.h₀) (v.L) (v.m) (v.s) (v.Q) (v.E) (v.g') (v.L') (v.h') (v.tk') (v.o1) (v.o2) (v.Q0) (v.s0))
theorem next_c_m : next_c_P.1 (next_c_v.w) (next_c_v.own.1) (next_c_v.own.2.1) (next_c_v.own.2.2.1) (next_c_v.own.2.2.2.1) (next_c_v.own.2.2.2.2.1) (next_c_v.own.2.2.2.2.2) (next_c_v.p) (next_c_v.loose) (next_c_v.mean) (next_c_v.mg) (next_c_v.mb) (next_c_v.dp) (next_c_v.un) (next_c_v.gd) (next_c_v.cn) (next_c_v.cs) (next_c_v.a) (next_c_v.ccd) (next_c_v.cl) (next_c_v.outer) (next_c_v.A₀) (next_c_v.base) (next_c_v.h₀) (next_c_v.L) (next_c_v.m) (next_c_v.s) (next_c_v.Q) (next_c_v.E) (next_c_v.g') (next_c_v.L') (next_c_v.h') (next_c_v.tk') (next_c_v.o1) (next_c_v.o2) (next_c_v.Q0) (next_c_v.s0) := by
  unfold next_c_P
  dsimp (config := { zeta := false }) only
  intro ps hkb hlen hst hoff htab B F X N T hk hdp hun hC1 hC2 hret _ _ _ _ _ _ _ _ _ hQ0
  rename (∀ (p : Addr × Obj), p ∈ _ → p.fst < _) => low
  refine and2 (List.forall_mem_cons.mp low) ?_
  intro low1 low2
  replace low2 : Low (next_c_v.own.2.2.2.2.2) _ := low2
  clear low
  replace low1 := ltN low1
  dsimp only at low1
  have low1b := Nat.lt_add_right 1 low1
  have low1c := Nat.lt_add_right 1 low1b
  k_steps
  rename_i FG B1 X1 T1 d1 d2 hb o3 F2 N2 d3
  unfold Stop
  refine while_cut (σ := Nat × Tok × Obj) (fun c => ((next_c_v.L')+1+1, c.2.2) :: ((next_c_v.L')+1, (next_c_v.o2)) :: (44, tabObj ps) :: (next_c_v.own.2.2.2.2.2)) (fun _ => []) (fun c => c.2.2.data = Data.cell (some (Value.int c.1 c.2.1))) []
    (fun c => (next_c_v.own.2.1) ≤ c.1 ∧ c.1 ≤ (next_c_v.own.1).length ∧ ∀ k, (next_c_v.own.2.1) ≤ k → k < c.1 → chAt (next_c_v.own.1) k = 46)
    (fun c => c.2.2.data = Data.cell (some (Value.int c.1 c.2.1)) ∧ (next_c_v.own.2.1) ≤ c.1 ∧ c.1 ≤ (next_c_v.own.1).length ∧ (∀ k, (next_c_v.own.2.1) ≤ k → k < c.1 → chAt (next_c_v.own.1) k = 46) ∧ (c.1 < (next_c_v.own.1).length → chAt (next_c_v.own.1) c.1 ≠ 46)) (fun c => (next_c_v.own.1).length - c.1) ((next_c_v.own.2.1), (next_c_v.own.2.2.2.1), o3) F2 N2 d3 (fun _ h => nomatch h) ⟨Nat.le_refl _, hst, fun k a b => absurd a (by (walk_at "ar"))⟩ ?_ ?_ (by passes_own)
  · refine prod3 ?_
    intro pl tp ob u h tk hf hp F3 N3
    replace F3 := fr_nil F3
    dsimp only at hf hp N3
    clear F2 N2 d3
    refine gen_ite ?_
    intro Ka Wa sa hKa hWa
    refine and3 hp ?_
    intro hp1 hp2 hp3
    k_steps
    · rename_i hz oz FZ NZ dZ
      rename ((Txt.item _ _ == _) = true) => q3
      rw [item_dot (by (walk_at "ar")) (by (walk_at "ar")), decide_eq_true_eq] at q3
      refine hKa _ _ _ ?_
      refine ksw_end (pl + 1, _, oz) FZ NZ (by kst_in) (by rw [dZ]; rfl) (by kst_all) (by ksw_same) ⟨by dsimp only; (walk_at "ar"), by dsimp only; (walk_at "ar"), ?_⟩ (by dsimp only; (walk_at "ar"))
      intro k a b
      dsimp only at b
      by_cases e : k = pl
      · subst e; exact q3
      · exact hp3 k a (by (walk_at "ar"))
    · rename ((Txt.item _ _ == _) = false) => q3
      rw [item_dot (by (walk_at "ar")) (by (walk_at "ar")), decide_eq_false_iff_not] at q3
      refine hWa _ _ ?_
      exact wend (pl, tp, ob) F3 N3 (by kst_in) (by kst_all) (by ksw_same) ⟨hf, hp1, hp2, hp3, fun _ => q3⟩
    · refine hWa _ _ ?_
      exact wend (pl, tp, ob) F3 N3 (by kst_in) (by kst_all) (by ksw_same) ⟨hf, hp1, hp2, hp3, fun h => absurd h (by (walk_at "ar"))⟩
  · refine prod3 ?_
    intro pl tp ob u h tk hq F3 N3
    refine and5 hq ?_
    intro hf hp1 hp2 hp3 hp4
    clear hq
    replace F3 := fr_nil F3
    dsimp only at hf hp1 hp2 hp3 hp4 N3
    clear F2 N2 d3
    k_steps
    · rename (Int.ofNat pl = _) => q1
      refine hQ0 _ _ _ ?_
      k_steps
      (first | rename Fr h₀ L _ m => kF | rename Fr next_c_v.h₀ next_c_v.L _ next_c_v.m => kF)
      (first | rename News h₀ L _ _ => kN | rename News next_c_v.h₀ next_c_v.L _ _ => kN)
      exact hret _ ((44, tabObj ps) :: ([] ++ (next_c_v.own.2.2.2.2.2))) _ _ kF (cb_drop kN (by intro p hp; exact .tail _ (.tail _ hp))) ⟨ps, [], none, rfl, htab, (fun q hq => nomatch hq), fun k a b => hp3 k a (by (walk_at "ar")), rfl⟩
    · rename_i hz oz FZ NZ dZ
      unfold Stop
      have hne : pl < (next_c_v.own.1).length := by (walk_at "ar")
      refine while_cut (σ := Nat × Tok × Obj) (fun c => ((next_c_v.L')+1+1, ob) :: ((next_c_v.L')+1, c.2.2) :: (44, tabObj ps) :: (next_c_v.own.2.2.2.2.2)) (fun _ => []) (fun c => c.2.2.data = Data.cell (some (Value.int c.1 c.2.1))) []
        (fun c => pl < c.1 ∧ c.1 ≤ (next_c_v.own.1).length ∧ ∀ k, pl ≤ k → k < c.1 → chAt (next_c_v.own.1) k = chAt (next_c_v.own.1) pl)
        (fun c => c.2.2.data = Data.cell (some (Value.int c.1 c.2.1)) ∧ pl < c.1 ∧ c.1 ≤ (next_c_v.own.1).length ∧ (∀ k, pl ≤ k → k < c.1 → chAt (next_c_v.own.1) k = chAt (next_c_v.own.1) pl) ∧ (c.1 < (next_c_v.own.1).length → chAt (next_c_v.own.1) c.1 ≠ chAt (next_c_v.own.1) pl)) (fun c => (next_c_v.own.1).length - c.1) (pl + 1, _, oz) FZ NZ (by rw [dZ]; rfl) (fun _ h => nomatch h) ⟨by dsimp only; (walk_at "ar"), by dsimp only; (walk_at "ar"), fun k a b => by rw [show k = pl from by dsimp only at b; (walk_at "ar")]⟩ ?_ ?_ (by passes_own)
      · refine prod3 ?_
        intro be tb oc u h9 tk9 hf' hp F4 N4
        replace F4 := fr_nil F4
        dsimp only at hf' hp N4
        clear FZ NZ dZ
        refine gen_ite ?_
        intro Kb Wb sb hKb hWb
        refine and3 hp ?_
        intro hr1 hr2 hr3
        k_steps
        · rename_i hz oz FZ NZ dZ
          rename ((Txt.item _ _ == _) = true) => q3
          rw [item_item (by (walk_at "ar")) (by (walk_at "ar")) (by (walk_at "ar")) (by (walk_at "ar")), decide_eq_true_eq] at q3
          refine hKb _ _ _ ?_
          refine ksw_end (be + 1, _, oz) FZ NZ (by kst_in) (by rw [dZ]; rfl) (by kst_all) (by ksw_same) ⟨by dsimp only; (walk_at "ar"), by dsimp only; (walk_at "ar"), ?_⟩ (by dsimp only; (walk_at "ar"))
          intro k a b
          dsimp only at b
          by_cases e : k = be
          · subst e; exact q3
          · exact hr3 k a (by (walk_at "ar"))
        · rename ((Txt.item _ _ == _) = false) => q3
          rw [item_item (by (walk_at "ar")) (by (walk_at "ar")) (by (walk_at "ar")) (by (walk_at "ar")), decide_eq_false_iff_not] at q3
          refine hWb _ _ ?_
          exact wend (be, tb, oc) F4 N4 (by kst_in) (by kst_all) (by ksw_same) ⟨hf', hr1, hr2, hr3, fun _ => q3⟩
        · refine hWb _ _ ?_
          exact wend (be, tb, oc) F4 N4 (by kst_in) (by kst_all) (by ksw_same) ⟨hf', hr1, hr2, hr3, fun h => absurd h (by (walk_at "ar"))⟩
      · refine prod3 ?_
        intro be tb oc u h9 tk9 hq F4 N4
        refine and5 hq ?_
        intro hf' hr1 hr2 hr3 hr4
        clear hq
        replace F4 := fr_nil F4
        dsimp only at hf' hr1 hr2 hr3 hr4 N4
        clear FZ NZ dZ
        revert N4 hret
        apply Tab44.elim htab
        · intro hret N4
          k_steps
          refine hQ0 _ _ _ ?_
          k_steps
          (first | rename Fr h₀ L _ m => kF | rename Fr next_c_v.h₀ next_c_v.L _ next_c_v.m => kF)
          (first | rename News h₀ L _ _ => kN | rename News next_c_v.h₀ next_c_v.L _ _ => kN)
          have kN2 := ret7 kN
          refine hret _ _ _ _ kF kN2 (NextPost.mk (some (pl, be)) ?tab ?high ?next ?hit)
          case tab => exact Tab44.mk (List.mem_append_left _ (by k_mem)) (by assumption) (by assumption) (List.mem_append_left _ (by k_mem)) (by assumption) (by assumption)
          case high => exact high_of (by intro q hq; simp only [List.mem_cons, List.not_mem_nil, or_false] at hq; rcases hq with rfl | rfl | rfl | rfl | rfl | rfl | rfl <;> (refine leN (a := (next_c_v.L')) ?_; dsimp only; (walk_at "ar"))) (low2.cons low1)
          case next => exact ⟨hp1, hr1, hr2, hp3, hp4 hne, hr3, hr4⟩
          case hit =>
            refine Hit.mk (List.mem_append_left _ (by k_mem)) (List.mem_append_left _ (by k_mem)) (List.mem_append_left _ (by k_mem)) ?_
            clear kF kN kN2 hret B F X N T hdp hun hC1 hC2 hk FG B1 X1 T1
            intro l' hsub
            unfold Sub at hsub
            simp only [List.cons_append, List.nil_append, List.forall_mem_cons] at hsub
            refine and8 hsub ?_
            intro m1 m2 m3 m4 m5 m6 m7 hsub2
            clear hsub hsub2
            unfold Ctr
            w_top off
            intro p loose mean mg mb dp un gd cn cs a ccd cl outer A₀ base h₀ L m s Q E B F X N T hk hdp hun hC1 hC2 hret
            refine wpAny_call ?_
            k_dflt walk_at "mine enterL"
            refine gen_post ?_
            intro Q9 s9 hQ9
            k_steps
            refine hQ9 _ _ _ ?_
            k_steps
            (first | rename Fr h₀ L _ m => kF | rename Fr next_c_v.h₀ next_c_v.L _ next_c_v.m => kF)
            (first | rename News h₀ L _ _ => kN | rename News next_c_v.h₀ next_c_v.L _ _ => kN)
            exact hret _ _ _ _ kF kN ⟨_, _, _, rfl, rfl, by first | assumption | exact AllLt.of (by assumption) | exact fun p hp => (by assumption : ∀ p ∈ _, p.1 < _) p hp⟩
        · intro c1 c2 oc1 vs1 tq1 oc2 vs2 tq2 mc1 dc1 ec1 mc2 dc2 ec2 hret N4
          have mcr1 := hkb _ mc1
          have mcr2 := hkb _ mc2
          k_steps
          refine hQ0 _ _ _ ?_
          k_steps
          (first | rename Fr h₀ L _ m => kF | rename Fr next_c_v.h₀ next_c_v.L _ next_c_v.m => kF)
          (first | rename News h₀ L _ _ => kN | rename News next_c_v.h₀ next_c_v.L _ _ => kN)
          have kN2 := ret5 kN
          refine hret _ _ _ _ kF kN2 (NextPost.mk (some (pl, be)) ?tab ?high ?next ?hit)
          case tab => exact Tab44.mk (List.mem_append_right _ mc1) dc1 ec1 (List.mem_append_right _ mc2) dc2 ec2
          case high => exact high_of (by intro q hq; simp only [List.mem_cons, List.not_mem_nil, or_false] at hq; rcases hq with rfl | rfl | rfl | rfl | rfl <;> (refine leN (a := (next_c_v.L')) ?_; dsimp only; (walk_at "ar"))) (low2.cons low1)
          case next => exact ⟨hp1, hr1, hr2, hp3, hp4 hne, hr3, hr4⟩
          case hit =>
            refine Hit.mk (List.mem_append_left _ (by k_mem)) (List.mem_append_left _ (by k_mem)) (List.mem_append_left _ (by k_mem)) ?_
            clear kF kN kN2 hret B F X N T hdp hun hC1 hC2 hk FG B1 X1 T1
            intro l' hsub
            unfold Sub at hsub
            simp only [List.cons_append, List.nil_append, List.forall_mem_cons] at hsub
            refine and6 hsub ?_
            intro m1 m2 m3 m4 m5 hsub2
            replace mc1 := hsub2 _ mc1
            replace mc2 := hsub2 _ mc2
            clear mcr1 mcr2
            clear hsub hsub2
            unfold Ctr
            w_top off
            intro p loose mean mg mb dp un gd cn cs a ccd cl outer A₀ base h₀ L m s Q E B F X N T hk hdp hun hC1 hC2 hret
            refine wpAny_call ?_
            k_dflt walk_at "mine enterL"
            refine gen_post ?_
            intro Q9 s9 hQ9
            k_steps
            refine hQ9 _ _ _ ?_
            k_steps
            (first | rename Fr h₀ L _ m => kF | rename Fr next_c_v.h₀ next_c_v.L _ next_c_v.m => kF)
            (first | rename News h₀ L _ _ => kN | rename News next_c_v.h₀ next_c_v.L _ _ => kN)
            exact hret _ _ _ _ kF kN ⟨_, _, _, rfl, rfl, by first | assumption | exact AllLt.of (by assumption) | exact fun p hp => (by assumption : ∀ p ∈ _, p.1 < _) p hp⟩
theorem next_c (w : World) (chars : Str) (start : Nat) (t t' : Tok) (ps : Array Value) (kb rest : Led) (hkb : Sub kb rest) (hlen : chars.length < 10000) (hst : start ≤ chars.length) (hoff : Off 44 rest) (htab : Tab44 ps kb) :
    Ctr w 2 49 [.str chars t, .int start t'] ((44, tabObj ps) :: rest) (NextPost w chars start ps kb rest) :=
  next_c_P.2 (fun w chars start t t' kb rest p loose mean mg mb dp un gd cn cs a ccd cl outer A₀ base h₀ L m s Q E g' L' h' tk' o1 o2 Q0 s0 => Classical.choose_spec (LV.ex ((default : Str), (default : Nat), (default : Tok), (default : Tok), (default : Led), (default : Led)) fun v => next_c_P.1 (v.w) (v.own.1) (v.own.2.1) (v.own.2.2.1) (v.own.2.2.2.1) (v.own.2.2.2.2.1) (v.own.2.2.2.2.2) (v.p) (v.loose) (v.mean) (v.mg) (v.mb) (v.dp) (v.un) (v.gd) (v.cn) (v.cs) (v.a) (v.ccd) (v.cl) (v.outer) (v.A₀) (v.base) (v.h₀) (v.L) (v.m) (v.s) (v.Q) (v.E) (v.g') (v.L') (v.h') (v.tk') (v.o1) (v.o2) (v.Q0) (v.s0)) next_c_m ⟨(chars, start, t, t', kb, rest), w, p, loose, mean, mg, mb, dp, un, gd, cn, cs, a, ccd, cl, outer, A₀, base, h₀, L, m, s, Q, E, g', L', h', tk', o1, o2, default, Q0, s0⟩) w chars start t t' ps kb rest hkb hlen hst hoff htab
end
section
theorem program_c (w : World) (rest : Led) (hoff : Off 51 rest) :
    Ctr w 2 56 [] ((51, tabObj #[]) :: rest) fun r news' =>
      ∃ ps' new, news' = (51, tabObj ps') :: (new ++ rest) ∧ High new ((51, tabObj #[]) :: rest) ∧ Prog w new r := by
  unfold Ctr
  w_top off
  k_fill
  intro p loose mean mg mb dp un gd cn cs a ccd cl outer A₀ base h₀ L m s Q E B F X N T hk hdp hun hC1 hC2 hret
  refine wpAny_call ?_
  k_dflt walk_at "mine enter"
  refine gen_post ?_
  intro Q0 s0 hQ0
  k_steps
  rename_i f1 c1 oc1 vs1 tq1 ct1 h1 tk1 e11 e12 l11 l12 h2 F2 N2 tt h3 F4 N4 l13 f2 c2 oc2 vs2 tq2 ct2 dc2 h5 tk5 F5 N5 e21 e22 l21 l22
  have hoffs : Off f1 rest := AllLt.off l11.2 (Nat.le_of_lt l12)
  have hlow : Low rest c1 := AllLt.low l11.2
  clear F2 N2 F4 N4
  k_steps
  refine hQ0 _ _ _ ?_
  k_steps
  rename Fr h₀ L _ m => kF
  rename News h₀ L _ _ => kN
  have kN2 := ret6 kN
  refine hret _ _ _ _ kF kN2 ⟨_, _, rfl, ?high, ?prog⟩
  case high => exact high_of (by intro q hq; simp only [List.mem_cons, List.not_mem_nil, or_false] at hq; rcases hq with rfl | rfl | rfl | rfl | rfl | rfl <;> (refine leN (a := c1) ?_; dsimp only; (walk_at "ar"))) (hlow.cons l11.1)
  case prog =>
    refine Prog.mk (by k_mem) (by k_mem) (by k_mem) ?_
    clear kF kN kN2 hret B F X N T hdp hun hC1 hC2 hk
    intro rest' kb hsub hkb x st9 t9 t8 ps hx hst ho9 ht9
    unfold Sub at hsub
    simp only [List.cons_append, List.nil_append, List.forall_mem_cons] at hsub
    refine and7 hsub ?_
    intro m1 m2 m3 m4 m5 m6 hsub2
    clear hsub hsub2
    constructor
    · unfold Ctr
      intro p loose mean mg mb dp un gd cn cs a ccd cl outer A₀ base h₀ L m s Q E B F X N T hk hdp hun hC1 hC2 hret
      refine wpAny_call ?_
      k_dflt walk_at "mine enterE"
      refine gen_post ?_
      intro Q9 s9 hQ9
      k_steps
      unfold Stop
      k_dflt (refine' Ctr.use (next_c w _ _ _ _ _ kb _ hkb hx hst ho9 ht9) ?k1 ?k2 ?k3 ?k4 ?k5 ?kK ?kd ?ku ?kc1 ?kc2 ?_)
      ((case k1 | k2 | k3 => k_asm); (case k4 => first | k_asm | skip); (case k5 => k_asm); (case kK => first | exact rfl | assumption); (case kd => ktr_room); (case ku => ktr_units); (case kc1 | kc2 => assumption))
      intro r news' h' tk' F' N' post
      k_steps
      refine hQ9 _ _ _ ?_
      k_steps
      rename Fr h₀ L _ m => kF
      rename News h₀ L _ _ => kN
      exact hret _ _ _ _ kF kN post
    · unfold Ctr
      intro p loose mean mg mb dp un gd cn cs a ccd cl outer A₀ base h₀ L m s Q E B F X N T hk hdp hun hC1 hC2 hret
      refine wpAny_call ?_
      k_dflt walk_at "mine enterE"
      refine gen_post ?_
      intro Q9 s9 hQ9
      k_steps
      unfold Stop
      k_dflt (refine' Ctr.use (next_c w _ _ _ _ _ kb _ hkb hx (Nat.zero_le _) ho9 ht9) ?k1 ?k2 ?k3 ?k4 ?k5 ?kK ?kd ?ku ?kc1 ?kc2 ?_)
      ((case k1 | k2 | k3 => k_asm); (case k4 => first | k_asm | skip); (case k5 => k_asm); (case kK => first | exact rfl | assumption); (case kd => ktr_room); (case ku => ktr_units); (case kc1 | kc2 => assumption))
      intro r news' h' tk' F' N' post
      k_steps
      refine hQ9 _ _ _ ?_
      k_steps
      rename Fr h₀ L _ m => kF
      rename News h₀ L _ _ => kN
      exact hret _ _ _ _ kF kN post
end
section
structure SR where
  ps : Array Value
  new : Led
  vf : Value
  vm : Value
  i : Nat
  j : Nat
  ti : Tok
  tj : Tok
  o : Option (Nat × Nat)
def searchrev_c_P : {P : (World) → (Str) → (Nat) → (Tok) → (Tok) → (Array Value) → (Led) → (Led) → (Led) → (Program) → (List Str) → (ExcName → Option Value) → (Str → Option Value) → (Str → Option Value) → (Nat) → (Nat) → (Option (List Code)) → (Str) → (Scope) → (Addr) → (Value) → (List (Str × Addr)) → (List Env) → (Around) → (Heap) → (Heap) → (Addr) → (Str → Option Value) → (Shared) → (Value → Shared → Prop) → (Value → Shared → Prop) → (Heap) → (Addr) → (Heap) → (Flow → Shared → Prop) → (Shared) → Prop // (∀ w x col t t' ps kb pb rest p loose mean mg mb dp un gd cn cs a ccd cl outer A₀ base h₀ L m s Q E g' L' h' Q0 s0, P w x col t t' ps kb pb rest p loose mean mg mb dp un gd cn cs a ccd cl outer A₀ base h₀ L m s Q E g' L' h' Q0 s0) → ∀ (w : World) (vp : Value) (x : Str) (col : Nat) (t t' : Tok) (ps : Array Value) (kb pb rest : Led) (hkb : Sub kb rest) (hpb : Sub pb rest) (hlen : x.length < 10000) (hcol : col ≤ x.length) (hoff : Off 44 rest) (htab : Tab44 ps kb) (hP : Prog w pb vp),
    Ctr w 6 35 [vp, .str x t, .int col t'] ((44, tabObj ps) :: rest) fun r news' =>
      ∃ ps' new o, news' = (44, tabObj ps') :: (new ++ rest) ∧ Tab44 ps' (new ++ kb) ∧ High new ((44, tabObj ps) :: rest) ∧ EndIs x col (endOf o) ∧ HitO w (new ++ kb) r o} := by
  apply Subtype.mk
  intro hall w vp x col t t' ps kb pb rest hkb hpb hlen hcol hoff htab hP
  apply Prog.elim hP
  intro fp dp' gp fdp hsp kp fgp mp1 mp2 mp3 hS
  replace mp1 := hpb _ mp1
  replace mp2 := hpb _ mp2
  replace mp3 := hpb _ mp3
  unfold Ctr
  w_top off
  k_fill
  intro p loose mean mg mb dp un gd cn cs a ccd cl outer A₀ base h₀ L m s Q E B F X N T hk hdp hun hC1 hC2 hret
  refine wpAny_call ?_
  k_dflt walk_at "mine enter"
  refine gen_post ?_
  intro Q0 s0 hQ0
  rename_i g' L' h' z3_FG z4_F z5_N z6_B z7_X z8_T
  revert vp hkb hpb hlen hcol hoff htab hP fp dp' gp fdp hsp kp fgp hS mp1 mp2 mp3 B F X N T hk hdp hun hC1 hC2 hret z3_FG z4_F z5_N z6_B z7_X z8_T qk ek hQ0
  exact hall w x col t t' ps kb pb rest p loose mean mg mb dp un gd cn cs a ccd cl outer A₀ base h₀ L m s Q E g' L' h' Q0 s0
noncomputable def searchrev_c_v : LV ((Str) × (Nat) × (Tok) × (Tok) × (Array Value) × (Led) × (Led) × (Led)) := Classical.choose (LV.ex ((default : Str), (default : Nat), (default : Tok), (default : Tok), (default : Array Value), (default : Led), (default : Led), (default : Led)) fun v => searchrev_c_P.1 (v.w) (v.own.1) (v.own.2.1) (v.own.2.2.1) (v.own.2.2.2.1) (v.own.2.2.2.2.1) (v.own.2.2.2.2.2.1) (v.own.2.2.2.2.2.2.1) (v.own.2.2.2.2.2.2.2) (v.p) (v.loose) (v.mean) (v.mg) (v.mb) (v.dp) (v.un) (v.gd) (v.cn) (v.cs) (v.a) (v.ccd) (v.cl) (v.outer) (v.A₀) (v.base) (v.h₀) (v.L) (v.m) (v.s) (v.Q) (v.E) (v.g') (v.L') (v.h') (v.Q0) (v.s0))
theorem searchrev_c_m : searchrev_c_P.1 (searchrev_c_v.w) (searchrev_c_v.own.1) (searchrev_c_v.own.2.1) (searchrev_c_v.own.2.2.1) (searchrev_c_v.own.2.2.2.1) (searchrev_c_v.own.2.2.2.2.1) (searchrev_c_v.own.2.2.2.2.2.1) (searchrev_c_v.own.2.2.2.2.2.2.1) (searchrev_c_v.own.2.2.2.2.2.2.2) (searchrev_c_v.p) (searchrev_c_v.loose) (searchrev_c_v.mean) (searchrev_c_v.mg) (searchrev_c_v.mb) (searchrev_c_v.dp) (searchrev_c_v.un) (searchrev_c_v.gd) (searchrev_c_v.cn) (searchrev_c_v.cs) (searchrev_c_v.a) (searchrev_c_v.ccd) (searchrev_c_v.cl) (searchrev_c_v.outer) (searchrev_c_v.A₀) (searchrev_c_v.base) (searchrev_c_v.h₀) (searchrev_c_v.L) (searchrev_c_v.m) (searchrev_c_v.s) (searchrev_c_v.Q) (searchrev_c_v.E) (searchrev_c_v.g') (searchrev_c_v.L') (searchrev_c_v.h') (searchrev_c_v.Q0) (searchrev_c_v.s0) := by
  unfold searchrev_c_P
  dsimp (config := { zeta := false }) only
  intro vp hkb hpb hlen hcol hoff htab hP fp dp' gp fdp hsp kp fgp hS mp1 mp2 mp3 B F X N T hk hdp hun hC1 hC2 hret _ _ _ _ _ _ qk ek hQ0
  k_steps
  unfold Stop
  k_dflt (refine' use_tab (P := NextIs (searchrev_c_v.own.1) 0) (hS (searchrev_c_v.own.2.2.2.2.2.2.2) (searchrev_c_v.own.2.2.2.2.2.1) hpb hkb (searchrev_c_v.own.1) 0 _ 0 (searchrev_c_v.own.2.2.2.2.1) hlen (Nat.zero_le _) hoff htab).2 ?k1 ?k2 ?k3 ?k4 ?k5 ?kK ?kd ?ku ?kc1 ?kc2 ?_)
  ((case k1 | k2 | k3 => k_asm); (case k4 => first | k_asm | skip); (case k5 => k_asm); (case kK => first | exact rfl | assumption); (case kd => ktr_room); (case ku => ktr_units); (case kc1 | kc2 => assumption))
  intro r ps1 new1 o1 h' tk' F' N' ht1 hh1 hn1 ho1
  cases o1 with
  | none =>
    cases ho1
    k_steps
    refine hQ0 _ _ _ ?_
    k_steps
    (first | rename Fr h₀ L _ m => kF | rename Fr searchrev_c_v.h₀ searchrev_c_v.L _ searchrev_c_v.m => kF)
    (first | rename News h₀ L _ _ => kN | rename News searchrev_c_v.h₀ searchrev_c_v.L _ _ => kN)
    exact hret _ _ _ _ kF kN ⟨ps1, new1, none, rfl, ht1, hh1, end_none hcol (.inl rfl) hn1, rfl⟩
  | some ij =>
    obtain ⟨i1, j1⟩ := ij
    apply Hit.elim ho1
    intro fm dm gm fdm hsm km fgm mm1 mm2 mm3 hSp
    have hk1 : Sub (new1 ++ (searchrev_c_v.own.2.2.2.2.2.1)) (new1 ++ (searchrev_c_v.own.2.2.2.2.2.2.2)) := Sub.app2 hkb
    have mr1 := hk1 _ mm1
    have mr2 := hk1 _ mm2
    have mr3 := hk1 _ mm3
    k_steps
    unfold Stop
    k_dflt (refine' use_tup (hSp ((44, tabObj ps1) :: (new1 ++ (searchrev_c_v.own.2.2.2.2.2.2.2))) (Sub.consR hk1)) ?k1 ?k2 ?k3 ?k4 ?k5 ?kK ?kd ?ku ?kc1 ?kc2 ?_)
    ((case k1 | k2 | k3 => k_asm); (case k4 => first | k_asm | skip); (case k5 => k_asm); (case kK => first | exact rfl | assumption); (case kd => ktr_room); (case ku => ktr_units); (case kc1 | kc2 => assumption))
    intro T1 ti1 tj1 h' tk' F' N' hlT
    k_steps
    unfold Stop
    rename Fr _ _ _ _ => F2
    rename News _ _ _ _ => N2
    refine while_cut (σ := SR) (fun c => (44, tabObj c.ps) :: (c.new ++ (searchrev_c_v.own.2.2.2.2.2.2.2))) (fun c => [(Str.ofString "found", c.vf), (Str.ofString "m", c.vm), (Str.ofString "i", .int c.i c.ti), (Str.ofString "j", .int c.j c.tj)]) (fun _ => True) []
      (fun c => Tab44 c.ps (c.new ++ (searchrev_c_v.own.2.2.2.2.2.1)) ∧ High c.new ((44, tabObj (searchrev_c_v.own.2.2.2.2.1)) :: (searchrev_c_v.own.2.2.2.2.2.2.2)) ∧ Half (searchrev_c_v.own.1) (searchrev_c_v.own.2.1) (endOf c.o) ∧ NextIs (searchrev_c_v.own.1) (endOf c.o) (some (c.i, c.j)) ∧ HitO (searchrev_c_v.w) (c.new ++ (searchrev_c_v.own.2.2.2.2.2.1)) c.vf c.o ∧ Hit (searchrev_c_v.w) (c.new ++ (searchrev_c_v.own.2.2.2.2.2.1)) c.vm c.i c.j)
      (fun c => Tab44 c.ps (c.new ++ (searchrev_c_v.own.2.2.2.2.2.1)) ∧ High c.new ((44, tabObj (searchrev_c_v.own.2.2.2.2.1)) :: (searchrev_c_v.own.2.2.2.2.2.2.2)) ∧ EndIs (searchrev_c_v.own.1) (searchrev_c_v.own.2.1) (endOf c.o) ∧ HitO (searchrev_c_v.w) (c.new ++ (searchrev_c_v.own.2.2.2.2.2.1)) c.vf c.o)
      (fun c => (searchrev_c_v.own.1).length - c.j) ⟨ps1, new1, .none, .ref fm, i1, j1, ti1, tj1, none⟩ F2 (cb_drop N2 fun p hp => .tail _ hp) trivial (by kst_all)
      ⟨ht1, hh1, .inl rfl, hn1, rfl, Hit.mk mm1 mm2 mm3 hSp⟩ ?_ ?_ (by passes_own)
    · clear hn1 mm1 mm2 mm3 hSp hlT ht1 hh1 F2 N2 mr1 mr2 mr3 hk1
      rintro ⟨ps2, new2, vf, vm, i, j, ti, tj, o⟩ u h tk - hP3 F3 N3
      refine gen_ite ?_
      intro Ka Wa sa hKa hWa
      refine and6 hP3 ?_
      intro ht2 hh2 hhf hn2 hvf hit2
      dsimp only at ht2 hh2 hhf hn2 hvf hit2 N3 F3
      revert F3
      apply Hit.elim hit2
      intro fm2 dm2 gm2 fdm2 hsm2 km2 fgm2 mm1 mm2 mm3 hSp F3
      clear hP3 hit2
      have hk2 : Sub (new2 ++ (searchrev_c_v.own.2.2.2.2.2.1)) (new2 ++ (searchrev_c_v.own.2.2.2.2.2.2.2)) := Sub.app2 hkb
      have mr1 := hk2 _ mm1
      have mr2 := hk2 _ mm2
      have mr3 := hk2 _ mm3
      have mq1 : (fp, fnObj fdp (some dp')) ∈ new2 ++ (searchrev_c_v.own.2.2.2.2.2.2.2) := List.mem_append_right _ mp1
      have mq2 : (dp', attrObj hsp kp (Str.ofString "search") (Value.ref gp)) ∈ new2 ++ (searchrev_c_v.own.2.2.2.2.2.2.2) := List.mem_append_right _ mp2
      have mq3 : (gp, fnObj fgp none) ∈ new2 ++ (searchrev_c_v.own.2.2.2.2.2.2.2) := List.mem_append_right _ mp3
      have hij : i < j := hn2.2.1
      have hjl : j ≤ (searchrev_c_v.own.1).length := hn2.2.2.1
      k_steps
      · exfalso; (walk_at "ar")
      · unfold Stop
        have hHit : Hit (searchrev_c_v.w) (new2 ++ (searchrev_c_v.own.2.2.2.2.2.1)) (.ref fm2) i j := Hit.mk mm1 mm2 mm3 hSp
        have hjc : j ≤ (searchrev_c_v.own.2.1) := by (walk_at "ar")
        k_dflt (refine' use_tab (P := NextIs (searchrev_c_v.own.1) j) (hS (new2 ++ (searchrev_c_v.own.2.2.2.2.2.2.2)) (new2 ++ (searchrev_c_v.own.2.2.2.2.2.1)) (fun p hp => List.mem_append_right _ (hpb p hp)) hk2 (searchrev_c_v.own.1) j _ _ ps2 hlen hjl (hh2.off hoff) ht2).1 ?k1 ?k2 ?k3 ?k4 ?k5 ?kK ?kd ?ku ?kc1 ?kc2 ?_)
        ((case k1 | k2 | k3 => k_asm); (case k4 => first | k_asm | skip); (case k5 => k_asm); (case kK => first | exact rfl | assumption); (case kd => ktr_room); (case ku => ktr_units); (case kc1 | kc2 => assumption))
        try clear F3 N3
        intro r ps3 new3 o3 h9 tk9 F' N' ht3 hh3 hn3 ho3
        have hh4 : High (new3 ++ new2) ((44, tabObj (searchrev_c_v.own.2.2.2.2.1)) :: (searchrev_c_v.own.2.2.2.2.2.2.2)) := hh3.app hh2 rfl
        have hsub : Sub (new2 ++ (searchrev_c_v.own.2.2.2.2.2.1)) ((new3 ++ new2) ++ (searchrev_c_v.own.2.2.2.2.2.1)) := fun p hp => by rw [List.append_assoc]; exact List.mem_append_right _ hp
        cases o3 with
        | none =>
          cases ho3
          k_steps
          rename Fr _ _ _ _ => F4
          rename News _ _ _ _ => N4
          refine hKa .brk _ _ ?_
          show WEnd _ _ _ _ _ _ _ _ _
          refine wend ⟨ps3, new3 ++ new2, .ref fm2, .none, i, j, ti, tj, some (i, j)⟩ F4 N4 (fun p hp => ?_) (by kst_all) (by (intro z h2 h3; first | rfl | ((simp only [List.forall_mem_cons, List.not_mem_nil, false_implies, implies_true, and_true, ne_eq] at h2); first | (simp [kstB, h2]; done) | ((simp only [List.contains_cons, List.contains_nil, Bool.or_false, Bool.or_eq_false_iff, beq_eq_false_iff_ne, ne_eq] at h3); (simp [kstB, h2, h3]; done))))) ⟨?_, hh4, end_none hcol (half_next hn2 hjc) hn3, Hit.mono hHit hsub⟩
          · dsimp only at hp; rw [List.append_assoc] at hp; exact hp
          · dsimp only; rw [List.append_assoc]; exact ht3
        | some ij3 =>
          obtain ⟨i3, j3⟩ := ij3
          apply Hit.elim ho3
          intro fm3 dm3 gm3 fdm3 hsm3 km3 fgm3 mn1 mn2 mn3 hSp3
          clear mm1 mm2 mm3 mq1 mq2 mq3 mr1 mr2 mr3
          have hk3 : Sub (new3 ++ (new2 ++ (searchrev_c_v.own.2.2.2.2.2.1))) (new3 ++ (new2 ++ (searchrev_c_v.own.2.2.2.2.2.2.2))) := Sub.app2 hk2
          have mr1 := hk3 _ mn1
          have mr2 := hk3 _ mn2
          have mr3 := hk3 _ mn3
          k_steps
          unfold Stop
          k_dflt (refine' use_tup (hSp3 ((44, tabObj ps3) :: (new3 ++ (new2 ++ (searchrev_c_v.own.2.2.2.2.2.2.2)))) (Sub.consR hk3)) ?k1 ?k2 ?k3 ?k4 ?k5 ?kK ?kd ?ku ?kc1 ?kc2 ?_)
          ((case k1 | k2 | k3 => k_asm); (case k4 => first | k_asm | skip); (case k5 => k_asm); (case kK => first | exact rfl | assumption); (case kd => ktr_room); (case ku => ktr_units); (case kc1 | kc2 => assumption))
          intro T3 ti3 tj3 h' tk' F' N' hlT
          k_steps
          rename Fr _ _ _ _ => F4
          rename News _ _ _ _ => N4
          refine hKa _ _ _ ?_
          refine ksw_end ⟨ps3, new3 ++ new2, .ref fm2, .ref fm3, i3, j3, ti3, tj3, some (i, j)⟩ F4 N4 (fun p hp => ?_) trivial (by kst_all) (by (intro z h2 h3; first | rfl | ((simp only [List.forall_mem_cons, List.not_mem_nil, false_implies, implies_true, and_true, ne_eq] at h2); first | (simp [kstB, h2]; done) | ((simp only [List.contains_cons, List.contains_nil, Bool.or_false, Bool.or_eq_false_iff, beq_eq_false_iff_ne, ne_eq] at h3); (simp [kstB, h2, h3]; done))))) ⟨?_, hh4, half_next hn2 hjc, hn3, Hit.mono hHit hsub, ?_⟩ ?_
          · dsimp only at hp; rw [List.append_assoc] at hp; exact .tail _ hp
          · dsimp only; rw [List.append_assoc]; exact ht3
          · dsimp only; rw [List.append_assoc]; exact Hit.mk mn1 mn2 mn3 hSp3
          · dsimp only
            have h1 := hn3.1
            have h2 := hn3.2.1
            have h3 := hn3.2.2.1
            (walk_at "ar")
      · refine hWa _ _ ?_
        exact wend ⟨ps2, new2, vf, .ref fm2, i, j, ti, tj, o⟩ F3 N3 (fun p hp => hp) (by kst_all) (by (intro z h2 h3; first | rfl | ((simp only [List.forall_mem_cons, List.not_mem_nil, false_implies, implies_true, and_true, ne_eq] at h2); first | (simp [kstB, h2]; done) | ((simp only [List.contains_cons, List.contains_nil, Bool.or_false, Bool.or_eq_false_iff, beq_eq_false_iff_ne, ne_eq] at h3); (simp [kstB, h2, h3]; done))))) ⟨ht2, hh2, end_past hhf hn2 (by (walk_at "ar")), hvf⟩
      · refine hWa _ _ ?_
        exact wend ⟨ps2, new2, vf, .ref fm2, i, j, ti, tj, o⟩ F3 N3 (fun p hp => hp) (by kst_all) (by (intro z h2 h3; first | rfl | ((simp only [List.forall_mem_cons, List.not_mem_nil, false_implies, implies_true, and_true, ne_eq] at h2); first | (simp [kstB, h2]; done) | ((simp only [List.contains_cons, List.contains_nil, Bool.or_false, Bool.or_eq_false_iff, beq_eq_false_iff_ne, ne_eq] at h3); (simp [kstB, h2, h3]; done))))) ⟨ht2, hh2, end_past hhf hn2 (by (walk_at "ar")), hvf⟩
    · clear hn1 mm1 mm2 mm3 hSp hlT ht1 hh1 F2 N2 mr1 mr2 mr3 hk1
      rintro ⟨ps2, new2, vf, vm, i, j, ti, tj, o⟩ u h tk hP4 F3 N3
      refine and4 hP4 ?_
      intro ht2 hh2 he hvf
      dsimp only at ht2 hh2 he hvf N3 F3
      k_steps
      refine hQ0 _ _ _ ?_
      k_steps
      (first | rename Fr h₀ L _ m => kF | rename Fr searchrev_c_v.h₀ searchrev_c_v.L _ searchrev_c_v.m => kF)
      (first | rename News h₀ L _ _ => kN | rename News searchrev_c_v.h₀ searchrev_c_v.L _ _ => kN)
      exact hret _ _ _ _ kF kN ⟨ps2, new2, o, rfl, ht2, hh2, he, hvf⟩
theorem searchrev_c (w : World) (vp : Value) (x : Str) (col : Nat) (t t' : Tok) (ps : Array Value) (kb pb rest : Led) (hkb : Sub kb rest) (hpb : Sub pb rest) (hlen : x.length < 10000) (hcol : col ≤ x.length) (hoff : Off 44 rest) (htab : Tab44 ps kb) (hP : Prog w pb vp) :
    Ctr w 6 35 [vp, .str x t, .int col t'] ((44, tabObj ps) :: rest) fun r news' =>
      ∃ ps' new o, news' = (44, tabObj ps') :: (new ++ rest) ∧ Tab44 ps' (new ++ kb) ∧ High new ((44, tabObj ps) :: rest) ∧ EndIs x col (endOf o) ∧ HitO w (new ++ kb) r o :=
  searchrev_c_P.2 (fun w x col t t' ps kb pb rest p loose mean mg mb dp un gd cn cs a ccd cl outer A₀ base h₀ L m s Q E g' L' h' Q0 s0 => Classical.choose_spec (LV.ex ((default : Str), (default : Nat), (default : Tok), (default : Tok), (default : Array Value), (default : Led), (default : Led), (default : Led)) fun v => searchrev_c_P.1 (v.w) (v.own.1) (v.own.2.1) (v.own.2.2.1) (v.own.2.2.2.1) (v.own.2.2.2.2.1) (v.own.2.2.2.2.2.1) (v.own.2.2.2.2.2.2.1) (v.own.2.2.2.2.2.2.2) (v.p) (v.loose) (v.mean) (v.mg) (v.mb) (v.dp) (v.un) (v.gd) (v.cn) (v.cs) (v.a) (v.ccd) (v.cl) (v.outer) (v.A₀) (v.base) (v.h₀) (v.L) (v.m) (v.s) (v.Q) (v.E) (v.g') (v.L') (v.h') (v.Q0) (v.s0)) searchrev_c_m ⟨(x, col, t, t', ps, kb, pb, rest), w, p, loose, mean, mg, mb, dp, un, gd, cn, cs, a, ccd, cl, outer, A₀, base, h₀, L, m, s, Q, E, g', L', h', 0, default, default, default, Q0, s0⟩) w vp x col t t' ps kb pb rest hkb hpb hlen hcol hoff htab hP
end
section
/-- what splitdoc tells, by its lines -/
def splitL (ls : List Str) : Str × Str :=
  if ls.length = 1 then (ls.getD 0 (Str.ofString ""), Str.ofString "")
  else if 2 ≤ ls.length ∧ (Txt.rstrip (ls.getD 1 (Str.ofString ""))).length = 0 then (ls.getD 0 (Str.ofString ""), Txt.join (Str.ofString "\n") (ls.drop 2))
  else (Str.ofString "", Txt.join (Str.ofString "\n") ls)
def linesOf (x : Str) : List Str := Txt.split (Txt.strip x) (Str.ofString "\n")
theorem splitL_one {ls : List Str} {y : Str} (h : ls.length = 1) (hy : ls[0]? = some y) : splitL ls = (y, Str.ofString "") := by
  unfold splitL
  rw [if_pos h, List.getD_eq_getElem?_getD, hy]; rfl
theorem splitL_blank {ls : List Str} {y z : Str} (h : 2 ≤ ls.length) (hy : ls[0]? = some y) (hz : ls[1]? = some z) (hb : (Txt.rstrip z).length = 0) : splitL ls = (y, Txt.join (Str.ofString "\n") (ls.drop 2)) := by
  unfold splitL
  rw [if_neg (by (walk_at "ar")), List.getD_eq_getElem?_getD, List.getD_eq_getElem?_getD, hy, hz, if_pos ⟨h, hb⟩]; rfl
theorem splitL_full {ls : List Str} {z : Str} (h : 2 ≤ ls.length) (hz : ls[1]? = some z) (hb : (Txt.rstrip z).length ≠ 0) : splitL ls = (Str.ofString "", Txt.join (Str.ofString "\n") ls) := by
  unfold splitL
  rw [if_neg (by (walk_at "ar")), List.getD_eq_getElem?_getD, List.getD_eq_getElem?_getD, hz, if_neg (fun h => hb h.2)]
theorem nl_len : (Str.ofString "\n").length = 1 := by decide +kernel
theorem sum_drop (ls : List Str) (k : Nat) : ((ls.drop k).map (·.length)).sum + (ls.drop k).length ≤ (ls.map (·.length)).sum + ls.length := by
  induction k generalizing ls with
  | zero => simp
  | succ k ih =>
    cases ls with
    | nil => simp
    | cons a r => have := ih r; simp only [List.drop_succ_cons, List.map_cons, List.sum_cons, List.length_cons]; (walk_at "ar")
theorem post2 {T : Addr} {y z : Str} {t1 t2 : Tok} {rest : Led} {l : List Str} (e : splitL l = (y, z)) (low : Low rest T) :
    ∃ T' t1' t2', Value.ref T = .ref T' ∧ ((T, tup2 (.str y t1) (.str z t2)) :: rest) = (T', tup2 (.str (splitL l).1 t1') (.str (splitL l).2 t2')) :: rest ∧ Low rest T' := ⟨T, t1, t2, rfl, by rw [e], low⟩
def splitdoc_c_P : {P : (World) → (Str) → (Tok) → (Led) → (Program) → (List Str) → (ExcName → Option Value) → (Str → Option Value) → (Str → Option Value) → (Nat) → (Nat) → (Option (List Code)) → (Str) → (Scope) → (Addr) → (Value) → (List (Str × Addr)) → (List Env) → (Around) → (Heap) → (Heap) → (Addr) → (Str → Option Value) → (Shared) → (Value → Shared → Prop) → (Value → Shared → Prop) → (Heap) → (Addr) → (Heap) → (Flow → Shared → Prop) → (Shared) → Prop // (∀ w x t rest p loose mean mg mb dp un gd cn cs a ccd cl outer A₀ base h₀ L m s Q E g' L' h' Q0 s0, P w x t rest p loose mean mg mb dp un gd cn cs a ccd cl outer A₀ base h₀ L m s Q E g' L' h' Q0 s0) → ∀ (w : World) (x : Str) (t : Tok) (rest : Led) (hlen : x.length < 10000) (hb : ((linesOf x).map (·.length)).sum + (linesOf x).length ≤ 100000),
    Ctr w 2 21 [.str x t] rest fun r news' => ∃ T t1 t2, r = .ref T ∧ news' = (T, tup2 (.str (splitL (linesOf x)).1 t1) (.str (splitL (linesOf x)).2 t2)) :: rest ∧ Low rest T} := by
  apply Subtype.mk
  intro hall w x t rest hlen hb
  unfold Ctr
  w_top off
  k_fill
  intro p loose mean mg mb dp un gd cn cs a ccd cl outer A₀ base h₀ L m s Q E B F X N T hk hdp hun hC1 hC2 hret
  refine wpAny_call ?_
  k_dflt walk_at "mine enter"
  refine gen_post ?_
  intro Q0 s0 hQ0
  rename_i g' L' h' z3_FG z4_F z5_N z6_B z7_X z8_T
  revert hlen hb B F X N T hk hdp hun hC1 hC2 hret z3_FG z4_F z5_N z6_B z7_X z8_T qk ek hQ0
  exact hall w x t rest p loose mean mg mb dp un gd cn cs a ccd cl outer A₀ base h₀ L m s Q E g' L' h' Q0 s0
noncomputable def splitdoc_c_v : LV ((Str) × (Tok) × (Led)) := Classical.choose (LV.ex ((default : Str), (default : Tok), (default : Led)) fun v => splitdoc_c_P.1 (v.w) (v.own.1) (v.own.2.1) (v.own.2.2) (v.p) (v.loose) (v.mean) (v.mg) (v.mb) (v.dp) (v.un) (v.gd) (v.cn) (v.cs) (v.a) (v.ccd) (v.cl) (v.outer) (v.A₀) (v.base) (v.h₀) (v.L) (v.m) (v.s) (v.Q) (v.E) (v.g') (v.L') (v.h') (v.Q0) (v.s0))
theorem splitdoc_c_m : splitdoc_c_P.1 (splitdoc_c_v.w) (splitdoc_c_v.own.1) (splitdoc_c_v.own.2.1) (splitdoc_c_v.own.2.2) (splitdoc_c_v.p) (splitdoc_c_v.loose) (splitdoc_c_v.mean) (splitdoc_c_v.mg) (splitdoc_c_v.mb) (splitdoc_c_v.dp) (splitdoc_c_v.un) (splitdoc_c_v.gd) (splitdoc_c_v.cn) (splitdoc_c_v.cs) (splitdoc_c_v.a) (splitdoc_c_v.ccd) (splitdoc_c_v.cl) (splitdoc_c_v.outer) (splitdoc_c_v.A₀) (splitdoc_c_v.base) (splitdoc_c_v.h₀) (splitdoc_c_v.L) (splitdoc_c_v.m) (splitdoc_c_v.s) (splitdoc_c_v.Q) (splitdoc_c_v.E) (splitdoc_c_v.g') (splitdoc_c_v.L') (splitdoc_c_v.h') (splitdoc_c_v.Q0) (splitdoc_c_v.s0) := by
  unfold splitdoc_c_P
  dsimp (config := { zeta := false }) only
  intro hlen hb B F X N T hk hdp hun hC1 hC2 hret _ _ _ _ _ _ qk ek hQ0
  k_steps
  · rename (List.map _ _ = Txt.split _ _) => hl
    rename (List.map _ _)[_]? = some _ => hy
    refine hQ0 _ _ _ ?_
    k_steps
    (first | rename Fr h₀ L _ m => kF | rename Fr splitdoc_c_v.h₀ splitdoc_c_v.L _ splitdoc_c_v.m => kF)
    (first | rename News h₀ L _ _ => kN | rename News splitdoc_c_v.h₀ splitdoc_c_v.L _ _ => kN)
    rename_i l _ _ _ _ _ _ _ _ _ _ _ _ _ l1 _ _
    rw [hl] at hy
    have hl2 := congrArg List.length hl
    rw [List.length_map] at hl2
    have e := splitL_one (ls := linesOf (splitdoc_c_v.own.1)) (by show (Txt.split _ _).length = 1; (walk_at "ar")) hy
    exact hret _ _ _ _ kF (drop2nd kN) (post2 e (AllLt.low l1.2))
  · rename (List.map _ _ = Txt.split _ _) => hl
    rename (List.map _ _)[_]? = some _ => hy
    rename (∀ (a : Str), a ∈ List.map _ _ → _) => hle
    rename ((Txt.strip (splitdoc_c_v.own.1)).length ≤ (splitdoc_c_v.own.1).length) => hsx
    have hyl := hle _ (List.mem_of_getElem? hy)
    have hl2 := congrArg List.length hl
    rw [List.length_map] at hl2
    rename StrsAre _ _ => hs
    rw [hl] at hy hs
    have hge : 2 ≤ (linesOf (splitdoc_c_v.own.1)).length := by show 2 ≤ (Txt.split _ _).length; (walk_at "ar")
    k_steps
    · unfold Stop
      rename News _ _ _ _ => N2
      refine join_list (News.isList N2 (.head _)) (by simpa using hs) (by rw [nl_len]; show ((linesOf (splitdoc_c_v.own.1)).map _).sum + (linesOf (splitdoc_c_v.own.1)).length * 1 ≤ _; (walk_at "ar")) ?_
      intro t9 k9
      k_steps
      refine hQ0 _ _ _ ?_
      k_steps
      (first | rename Fr h₀ L _ m => kF | rename Fr splitdoc_c_v.h₀ splitdoc_c_v.L _ splitdoc_c_v.m => kF)
      (first | rename News h₀ L _ _ => kN | rename News splitdoc_c_v.h₀ splitdoc_c_v.L _ _ => kN)
      rename_i l1 _ _
      have e := splitL_full (ls := linesOf (splitdoc_c_v.own.1)) hge hy (by (walk_at "ar"))
      exact hret _ _ _ _ kF (drop2nd kN) (post2 e (AllLt.low l1.2))
    · unfold Stop
      rename News _ _ _ _ => N2
      rename (List.map _ _)[Int.toNat 0]? = some _ => hy0
      rename (List.map _ _ = Txt.split _ _) => hl
      rw [hl] at hy0
      refine join_list (ys := (linesOf (splitdoc_c_v.own.1)).drop 2) (News.isList N2 (.head _)) ?_ ?_ ?_
      · rw [show (2 : Int) = ((2 : Nat) : Int) from rfl, slicePick_from']
        simpa [linesOf] using hs.drop' 2
      · have := sum_drop (linesOf (splitdoc_c_v.own.1)) 2
        rw [nl_len]; (walk_at "ar")
      intro t9 k9
      k_steps
      refine hQ0 _ _ _ ?_
      k_steps
      (first | rename Fr h₀ L _ m => kF | rename Fr splitdoc_c_v.h₀ splitdoc_c_v.L _ splitdoc_c_v.m => kF)
      (first | rename News h₀ L _ _ => kN | rename News splitdoc_c_v.h₀ splitdoc_c_v.L _ _ => kN)
      rename_i l1 _ _
      have e := splitL_blank (ls := linesOf (splitdoc_c_v.own.1)) hge hy0 hy (by (walk_at "ar"))
      exact hret _ _ _ _ kF (drop3rd kN) (post2 e (AllLt.low l1.2.2))
  · exfalso
    rename (List.map _ _ = Txt.split _ _) => hl
    have := len_of_split hl
    (walk_at "ar")
theorem splitdoc_c (w : World) (x : Str) (t : Tok) (rest : Led) (hlen : x.length < 10000) (hb : ((linesOf x).map (·.length)).sum + (linesOf x).length ≤ 100000) :
    Ctr w 2 21 [.str x t] rest fun r news' => ∃ T t1 t2, r = .ref T ∧ news' = (T, tup2 (.str (splitL (linesOf x)).1 t1) (.str (splitL (linesOf x)).2 t2)) :: rest ∧ Low rest T :=
  splitdoc_c_P.2 (fun w x t rest p loose mean mg mb dp un gd cn cs a ccd cl outer A₀ base h₀ L m s Q E g' L' h' Q0 s0 => Classical.choose_spec (LV.ex ((default : Str), (default : Tok), (default : Led)) fun v => splitdoc_c_P.1 (v.w) (v.own.1) (v.own.2.1) (v.own.2.2) (v.p) (v.loose) (v.mean) (v.mg) (v.mb) (v.dp) (v.un) (v.gd) (v.cn) (v.cs) (v.a) (v.ccd) (v.cl) (v.outer) (v.A₀) (v.base) (v.h₀) (v.L) (v.m) (v.s) (v.Q) (v.E) (v.g') (v.L') (v.h') (v.Q0) (v.s0)) splitdoc_c_m ⟨(x, t, rest), w, p, loose, mean, mg, mb, dp, un, gd, cn, cs, a, ccd, cl, outer, A₀, base, h₀, L, m, s, Q, E, g', L', h', 0, default, default, default, Q0, s0⟩) w x t rest hlen hb
end
section
open PySem.Calls
theorem mro_map : mroOf (.type "map") = pure [.type "map", .type "object"] := by rw [mroOf_type]; kernel_rfl
theorem lookup_map_new : typeLookup (.type "map") "__new__" = pure (some (.builtin "map.__new__")) := by rw [typeLookup_type, builtinLookup_eq_fast]; kernel_rfl
theorem slot_map_init : Slot "map" "__init__" "object.__init__" :=
  .of (owner := "object") (n := "__init__") (by rw [typeLookup_type, builtinLookup_eq_fast]; kernel_rfl) (by decide +kernel) (by decide +kernel) (by decide +kernel)
    (by first | exact .inl (by decide +kernel) | exact .inr (by decide +kernel)) (by rw [isSubtype_type]; kernel_rfl)
theorem slot_map_next : Slot "map" "__next__" "map.__next__" :=
  .of (owner := "map") (n := "__next__") (by rw [typeLookup_type, builtinLookup_eq_fast]; kernel_rfl) (by decide +kernel) (by decide +kernel) (by decide +kernel)
    (by first | exact .inl (by decide +kernel) | exact .inr (by decide +kernel)) (by rw [isSubtype_type]; kernel_rfl)
theorem slot_map_iter : Slot "map" "__iter__" "map.__iter__" :=
  .of (owner := "map") (n := "__iter__") (by rw [typeLookup_type, builtinLookup_eq_fast]; kernel_rfl) (by decide +kernel) (by decide +kernel) (by decide +kernel)
    (by first | exact .inl (by decide +kernel) | exact .inr (by decide +kernel)) (by rw [isSubtype_type]; kernel_rfl)
theorem entry_map_new : entryFor table "map.__new__" = some Builtin.«map.__new__» := entryFor_of_tree (by kernel_rfl)
theorem entry_map_next : entryFor table "map.__next__" = some Builtin.«map.__next__» := entryFor_of_tree (by kernel_rfl)
theorem called_map : TypeCalled "map" "map.__new__" "object.__init__" :=
  ⟨by decide +kernel, by decide +kernel, ⟨_, _, mro_map⟩, madeBy_type mro_map lookup_map_new (by decide +kernel), by decide +kernel, by rw [isSubtype_type]; kernel_rfl, slot_map_init⟩
theorem typeCall_map_2 (a b : Value) : checkTypeCall "map" ⟨[a, b], []⟩ = pure () := by kernel_rfl
theorem newCall_map_2 (a b : Value) : checkBuiltinCall "map.__new__" ⟨[.type "map", a, b], []⟩ = pure () := by kernel_rfl
theorem args_map_next (a : Value) : argsOk "map.__next__" ⟨[a], []⟩ := by unfold argsOk; kernel_rfl
theorem args_map_iter (a : Value) : argsOk "map.__iter__" ⟨[a], []⟩ := by unfold argsOk; kernel_rfl
theorem entry_map_iter : entryFor table "map.__iter__" = some Builtin.«dict_keyiterator.__iter__» :=
  entryFor_alias (id' := "dict_keyiterator.__iter__") (by kernel_rfl) (by first | rfl | decide +kernel) (by decide +kernel) (by kernel_rfl)
theorem sub_map : isSubtype (.type "map") (.type "map") = pure true := by rw [isSubtype_type]; kernel_rfl
abbrev liObj (l : Addr) (i : Nat) : Obj := { cls := .type "list_iterator", data := .fields #[.ref l, .int i 0] }
abbrev mapObj (tp : Addr) : Obj := { cls := .type "map", data := .fields #[.ref tp, .type "int"] }
abbrev tup1 (a : Value) : Obj := { cls := .type "tuple", data := .seq #[a] }
section
variable {prog : Program} {w : World} {A : Around} {E : Value → Shared → Prop} {s : Shared} {h₀ : Heap} {L : Addr} {m : Str → Option Value} {news : Led}
open AutoSeq1 (wpAny_loadPart')
theorem meets_map_new (l : Addr) (items : Array Value) (n : Nat) :
    Meets (Builtin.«map.__new__» ⟨[.type "map", .type "int", .ref l], []⟩) (fun _ R s => s.heap.get? l = some { cls := .type "list", dict := none, data := .seq items n, slots := #[] } ∧
      R (.ok (.ret (.ref ((s.heap.push (liObj l 0)).push (tup1 (.ref s.heap.objs.size))).objs.size)))
        { s with heap := ((s.heap.push (liObj l 0)).push (tup1 (.ref s.heap.objs.size))).push (mapObj (s.heap.push (liObj l 0)).objs.size) }) :=
  .of_wp fun prog w A R s h => by
    obtain ⟨hp, g, d, tk, os⟩ := s; obtain ⟨hl, h⟩ := h
    have hsub := sub_map
    have hL : Heap.IsList (Shared.heap ⟨hp, g, d, tk, os⟩) l items := ⟨_, hl, rfl, n, rfl⟩
    wp_walk using wpAny_loadPart' hl, wpAny_pyIter_list hL
    exact ⟨_, rfl, h⟩

end
end
section
open PySem.Calls
section
variable {prog : Program} {w : World} {A : Around} {E : Value → Shared → Prop} {s : Shared} {h₀ : Heap} {L : Addr} {m : Str → Option Value} {news : Led}
theorem map_call {l : Addr} {items : Array Value} {n : Nat} {Q : Value → Shared → Prop} (F : Fr h₀ L s.heap m) (N : News h₀ L s.heap news)
    (hl : (l, ({ cls := .type "list", data := .seq items n } : Obj)) ∈ news)
    (h : ∀ it tp mo h', Fr h₀ L h' m → News h₀ L h' ((mo, mapObj tp) :: (tp, tup1 (.ref it)) :: (it, liObj l 0) :: news) → (∀ p ∈ news, p.1 < it) → it < tp → tp < mo → Q (.ref mo) { s with heap := h' }) :
    wpAny (model prog w) A (call (.type "map") [.type "int", .ref l]) Q E s := by
  refine callType_new called_map (by decide) (typeCall_map_2 _ _) (newCall_map_2 _ _) (fun obj => PySem.F.args_object_init_3 obj _ _) entry_map_new (meets_map_new l items n) ⟨(N _ hl).1, ?_⟩
  show _ ∧ _
  have F1 := F.push (liObj l 0)
  have N1 := N.push F (liObj l 0)
  have F2 := F1.push (tup1 (.ref s.heap.objs.size))
  have N2 := N1.push F1 (tup1 (.ref s.heap.objs.size))
  have F3 := F2.push (mapObj (s.heap.push (liObj l 0)).objs.size)
  have N3 := N2.push F2 (mapObj (s.heap.push (liObj l 0)).objs.size)
  refine ⟨⟨_, (N3 _ (.head _)).1, rfl⟩, h s.heap.objs.size (s.heap.push (liObj l 0)).objs.size _ _ F3 N3 (fun p hp => Heap.lt_size (N p hp).1) ?_ ?_⟩
  · rw [Heap.size_push]; exact Nat.lt_succ_self _
  · rw [Heap.size_push (h := s.heap.push (liObj l 0))]; exact Nat.lt_succ_self _

theorem map_next_item {mo tp it l : Addr} {i : Nat} {items : Array Value} {x : Str} {t : Tok} {n : Int} {Q : Option Value → Shared → Prop} (hm : s.heap.get? mo = some (mapObj tp)) (htp : s.heap.get? tp = some (tup1 (.ref it)))
    (hit : s.heap.IsListIter it l i) (hl : s.heap.IsList l items) (hx : items[i]? = some (.str x t)) (hn : PySem.intText? x = some n) (hxl : x.length ≤ 640) (h1 : mo ≠ it) (h2 : tp ≠ it)
    (hQ : ∀ h' u tk, h'.IsListIter it l (i + 1) → Heap.SameBut it s.heap h' → Q (some (.int n u)) { s with heap := h', toks := tk }) :
    wpAny (model prog w) A (pyNext (.ref mo)) Q E s := by
  have hT : s.TypeIs (.ref mo) "map" := ⟨_, hm, rfl⟩
  unfold pyNext
  refine wpAny_bind (wpAny_attempt (wpAny_callSpecial?_slot (name := Str.ofString "__next__") hT slot_map_next
    (wpAny_call_entry slot_map_next hT entry_map_next ?_ (args_map_next _))))
  show wpAny _ _ (field (.ref mo) 0 >>= _) _ _ _
  refine wpAny_bind (wpAny_field hm rfl (x := .ref tp) rfl ?_)
  refine wpAny_bind (wpAny_seqItems htp rfl ?_)
  dsimp only
  rw [show (forIn (m := Sem) (#[Value.ref it] : Array Value) (#[] : Array Value) _) = _ from Array.forIn_toList.symm]
  simp only [List.forIn_cons, List.forIn_nil]
  refine wpAny_bind (wpAny_bind (wpAny_bind (wpAny_holding (wpAny_nextOf_list_item hit hl hx fun h₁ hit₁ hs₁ => ?_))))
  refine wpAny_pure (wpAny_pure ?_)
  have hm₁ : h₁.get? mo = some (mapObj tp) := (hs₁.2 mo h1).trans hm
  refine wpAny_bind (wpAny_field hm₁ rfl (x := .type "int") rfl ?_)
  refine wpAny_bind (wpAny_holding (KIN.call_text hn hxl ?_))
  refine wpAny_bind (wpAny_letGo (wpAny_pure ⟨_, rfl, wpAny_pure ?_⟩))
  exact hQ h₁ _ _ hit₁ hs₁

theorem map_next_end {mo tp it l : Addr} {i : Nat} {items : Array Value} {Q : Option Value → Shared → Prop} (hh : A.handled = none) (hm : s.heap.get? mo = some (mapObj tp)) (htp : s.heap.get? tp = some (tup1 (.ref it)))
    (hit : s.heap.IsListIter it l i) (hl : s.heap.IsList l items) (hx : items[i]? = none)
    (hQ : ∀ h', Heap.ExtBut it s.heap h' → Q none { s with heap := h' }) :
    wpAny (model prog w) A (pyNext (.ref mo)) Q E s := by
  have hT : s.TypeIs (.ref mo) "map" := ⟨_, hm, rfl⟩
  unfold pyNext
  refine wpAny_bind (wpAny_attempt (wpAny_callSpecial?_slot (name := Str.ofString "__next__") hT slot_map_next
    (wpAny_call_entry slot_map_next hT entry_map_next ?_ (args_map_next _))))
  show wpAny _ _ (field (.ref mo) 0 >>= _) _ _ _
  refine wpAny_bind (wpAny_field hm rfl (x := .ref tp) rfl ?_)
  refine wpAny_bind (wpAny_seqItems htp rfl ?_)
  dsimp only
  rw [show (forIn (m := Sem) (#[Value.ref it] : Array Value) (#[] : Array Value) _) = _ from Array.forIn_toList.symm]
  simp only [List.forIn_cons, List.forIn_nil]
  refine wpAny_bind (wpAny_bind (wpAny_bind (wpAny_holding (wpAny_nextOf_list_end hh hit hl hx fun h' x he' hx' => ?_))))
  obtain ⟨o, ho, hc⟩ := hx'
  refine wpAny_bind (wpAny_isInstance (T := "StopIteration") (b := true) ⟨o, ho, hc⟩ isSubtype_stop ?_)
  exact wpAny_pure (hQ _ he')

theorem map_iter {mo tp : Addr} {Q : Value → Shared → Prop} (hm : s.heap.get? mo = some (mapObj tp)) (h : Q (.ref mo) s) : wpAny (model prog w) A (pyIter (.ref mo)) Q E s := by
  have hT : s.TypeIs (.ref mo) "map" := ⟨_, hm, rfl⟩
  refine wpAny_pyIter_slot hT slot_map_iter (wpAny_call_entry slot_map_iter hT entry_map_iter ?_ (args_map_iter _))
  show wpAny _ _ (ret (.ref mo)) _ _ s
  exact wpAny_pure ⟨_, rfl, "map", _, hT, slot_map_next.lookup, h⟩

theorem map_unpack {mo tp it l : Addr} {x y : Str} {t1 t2 : Tok} {a b : Int} {Q : List Value → Shared → Prop} (hh : A.handled = none) (hm : s.heap.get? mo = some (mapObj tp)) (htp : s.heap.get? tp = some (tup1 (.ref it)))
    (hit : s.heap.get? it = some (liObj l 0)) (hl : s.heap.IsList l #[.str x t1, .str y t2]) (ha : PySem.intText? x = some a) (hb : PySem.intText? y = some b) (hxl : x.length ≤ 640) (hyl : y.length ≤ 640)
    (h1 : mo ≠ it) (h2 : tp ≠ it) (h3 : l ≠ it)
    (hQ : ∀ h' u1 u2 tk, Heap.ExtBut it s.heap h' → Q [.int a u1, .int b u2] { s with heap := h', toks := tk }) :
    wpAny (model prog w) A (unpackItems (.ref mo) 2 none) Q E s := by
  have hT : s.TypeIs (.ref mo) "map" := ⟨_, hm, rfl⟩
  have hI : s.heap.IsListIter it l 0 := ⟨_, hit, rfl, rfl⟩
  unfold unpackItems
  refine wpAny_bind ?_
  unfold notIterableAtAll
  refine wpAny_bind (wpAny_specialOf hT slot_map_iter.lookup ?_)
  refine wpAny_pure ?_
  simp only [Bool.false_eq_true, if_false]
  refine wpAny_bind (wpAny_holding (map_iter hm ?_))
  refine wpAny_bind (wpAny_holding ?_)
  unfold draw
  refine wpAny_bind (map_next_item (i := 0) (t := t1) hm htp hI hl (by simp) ha hxl h1 h2 fun h' u tk hI' hs' => ?_)
  dsimp only
  have hm' : h'.get? mo = some (mapObj tp) := (hs'.2 mo h1).trans hm
  have htp' : h'.get? tp = some (tup1 (.ref it)) := (hs'.2 tp h2).trans htp
  have hl' : h'.IsList l #[.str x t1, .str y t2] := hl.extBut hs'.extBut h3
  refine wpAny_bind (wpAny_holding ?_)
  unfold draw
  refine wpAny_bind (map_next_item (i := 1) (t := t2) hm' htp' hI' hl' (by simp) hb hyl h1 h2 fun h'' u' tk' hI'' hs'' => ?_)
  dsimp only
  have hm'' : h''.get? mo = some (mapObj tp) := (hs''.2 mo h1).trans hm'
  have htp'' : h''.get? tp = some (tup1 (.ref it)) := (hs''.2 tp h2).trans htp'
  have hl'' : h''.IsList l #[.str x t1, .str y t2] := hl'.extBut hs''.extBut h3
  refine wpAny_bind (wpAny_holding ?_)
  unfold draw
  refine wpAny_pure (wpAny_pure (wpAny_pure ?_))
  rw [if_neg (by simp)]
  refine wpAny_bind (wpAny_holding (map_next_end hh hm'' htp'' hI'' hl'' (by simp) fun h3' he' => ?_))
  simp only [Option.isSome_none, Bool.false_eq_true, if_false]
  exact wpAny_pure (hQ h3' _ _ _ fun b o hb e => he' b o hb (hs''.extBut b o hb (hs'.extBut b o hb e)))

theorem map_assign {env : Env} {elts : List Expr} {x1 : Nat} {pos : Pos} {mo tp it l : Addr} {x y : Str} {t1 t2 : Tok} {a b : Int} {n : Nat} {Q : Unit → Shared → Prop} (hh : A.handled = none) (F : Fr h₀ L s.heap m)
    (N : News h₀ L s.heap ((mo, mapObj tp) :: (tp, tup1 (.ref it)) :: (it, liObj l 0) :: news)) (hl : (l, ({ cls := .type "list", data := .seq #[.str x t1, .str y t2] n } : Obj)) ∈ news)
    (ha : PySem.intText? x = some a) (hb : PySem.intText? y = some b) (hxl : x.length ≤ 640) (hyl : y.length ≤ 640) (hlt : ∀ p ∈ news, p.1 < it) (h1 : it < tp) (h2 : tp < mo)
    (hn : (assignEach elts env).length = 2) (hstar : (assignEach elts env).findIdx? (·.1) = none)
    (h : ∀ h' u1 u2 tk, Fr h₀ L h' m → News h₀ L h' news → wpAny (model prog w) A (assignInOrder ((assignEach elts env).map (·.2)) [.int a u1, .int b u2]) Q E { s with heap := h', toks := tk }) :
    wpAny (model prog w) A (assign (.Tuple elts x1 pos) env (.ref mo)) Q E s := by
  rw [arm_assign_Tuple]
  refine wpAny_bind (wpAny_standAt ?_)
  unfold unpack
  rw [hn, hstar]
  have hm := (N _ (.head _)).1
  have htp := (N _ (.tail _ (.head _))).1
  have hit := N _ (.tail _ (.tail _ (.head _)))
  have hll := (N _ (.tail _ (.tail _ (.tail _ hl)))).1
  refine wpAny_bind (wpAny_holding (map_unpack hh hm htp hit.1 ⟨_, hll, rfl, n, rfl⟩ ha hb hxl hyl (Nat.ne_of_gt (Nat.lt_trans h1 h2)) (Nat.ne_of_gt h1) (Nat.ne_of_lt (hlt _ hl)) fun h' u1 u2 tk he => ?_))
  refine h h' u1 u2 tk ⟨F.ns.extBut he (Ne.symm hit.2.1), fun b o e => he b o (fun q => ?_) (F.keep b o e), F.above⟩ fun p hp => ?_
  · rw [q, hit.2.2] at e; cases e
  · have P := N p (.tail _ (.tail _ (.tail _ hp)))
    exact ⟨he _ _ (Nat.ne_of_lt (hlt p hp)) P.1, P.2⟩
end
end
section
/-- a place, written -/
def placeStr (i j : Nat) : Str := ⟨#[48 + i, 46, 48 + j]⟩
theorem place_split : ∀ i, i < 10 → ∀ j, j < 10 → Txt.split (placeStr i j) (Str.ofString ".") = [⟨#[48 + i]⟩, ⟨#[48 + j]⟩] := by decide +kernel
theorem digit_int : ∀ i : Nat, i < 10 → PySem.intText? ⟨#[48 + i]⟩ = some (i : Int) := by decide +kernel
theorem two_of {l : List (Str × Tok)} {a b : Str} (h : l.map (·.1) = [a, b]) : ∃ t1 t2, l = [(a, t1), (b, t2)] := by
  match l, h with
  | [(_, t1), (_, t2)], h =>
    simp only [List.map_cons, List.map_nil, List.cons.injEq, and_true] at h
    exact ⟨t1, t2, by rw [h.1, h.2]⟩
theorem glc_c (w : World) (i j : Nat) (hi : i < 10) (hj : j < 10) (t : Tok) (rest : Led) :
    Ctr w 2 42 [.str (placeStr i j) t] rest fun r news' => ∃ T ti tj, r = .ref T ∧ news' = (T, tup2 (.int i ti) (.int j tj)) :: rest ∧ Low rest T := by
  unfold Ctr
  w_top off
  k_fill
  intro p loose mean mg mb dp un gd cn cs a ccd cl outer A₀ base h₀ L m s Q E B F X N T hk hdp hun hC1 hC2 hret
  have hpl : (placeStr i j).length = 3 := rfl
  have hsp := place_split i hi j hj
  generalize hx : placeStr i j = x at *
  refine wpAny_call ?_
  k_dflt walk_at "mine enter"
  refine gen_post ?_
  intro Q0 s0 hQ0
  k_steps
  rename (List.map _ _ = Txt.split _ _) => hl
  rw [hsp] at hl
  obtain ⟨t1, t2, rfl⟩ := two_of hl
  rename Fr _ _ _ _ => F2
  rename News _ _ _ _ => N2
  refine map_call F2 N2 (.head _) ?_
  intro it tp mo h9 F3 N3 hlt hl1 hl2
  clear F2 N2
  refine map_assign rfl F3 N3 (.head _) (digit_int i hi) (digit_int j hj) (by show 1 ≤ 640; decide) (by show 1 ≤ 640; decide) hlt hl1 hl2 rfl rfl ?_
  intro h10 u1 u2 tk10 F4 N4
  clear F3 N3
  k_steps
  refine hQ0 _ _ _ ?_
  k_steps
  rename Fr h₀ L _ m => kF
  rename News h₀ L _ _ => kN
  rename_i l1 _ _
  exact hret _ _ _ _ kF (drop2nd kN) ⟨_, _, _, rfl, rfl, AllLt.low l1.2⟩
end
section
open PySem.StrLaws
abbrev Pl := Nat × Nat
def pStr (p : Pl) : Str := placeStr p.1 p.2
def sep3 : Str := Str.ofString "\n \n"
def notesOf (ps : List Pl) : Str := Txt.join sep3 (ps.map pStr)
theorem sx {a b : Str} (h : a.cps.toList = b.cps.toList) : a = b := Str.ext' (Array.toList_inj.mp h)
theorem app_cps (a b : Str) : (a ++ b).cps.toList = a.cps.toList ++ b.cps.toList := by rw [Str.cps_append, Array.toList_append]
theorem nl_is : Str.ofString "\n" = ⟨#[10]⟩ := by decide +kernel
theorem sep3_is : sep3 = ⟨#[10, 32, 10]⟩ := by decide +kernel
theorem notes_join (ps : List Pl) : notesOf ps = Str.join sep3 (ps.map pStr) := glued_eq_join _ _
theorem notes_one (p : Pl) : notesOf [p] = pStr p := by rw [notes_join]; rfl
theorem notes_nil : notesOf [] = Str.empty := by rw [notes_join]; rfl
theorem join_two (sep a b : Str) (r : List Str) : Str.join sep (a :: b :: r) = a ++ sep ++ Str.join sep (b :: r) := rfl
theorem pStr_len (p : Pl) : (pStr p).length = 3 := rfl
theorem notes_len : ∀ (p : Pl) (ps : List Pl), (notesOf (p :: ps)).length = 6 * ps.length + 3
  | p, [] => by rw [notes_one]; rfl
  | p, q :: r => by
    have h := notes_len q r
    rw [notes_join] at h ⊢
    simp only [List.map_cons] at h ⊢
    rw [join_two, Str.length_append, Str.length_append, h, sep3_is, pStr_len, List.length_cons]
    show 3 + 3 + _ = _
    (kjx_bare; lia)
theorem notes_bound (ps : List Pl) : (notesOf ps).length ≤ 6 * ps.length := by
  cases ps with
  | nil => rw [notes_nil]; exact Nat.le_refl _
  | cons p r => rw [notes_len, List.length_cons]; (exact Nat.le_of_lt (Nat.le_of_lt (Nat.le_succ (6 * r.length + 3).succ.succ)))
theorem notes_pos (ps : List Pl) (h : (notesOf ps).length = 0) : ps = [] := by
  cases ps with
  | nil => rfl
  | cons p r => rw [notes_len] at h; (exact False.elim (noConfusion_of_Nat Nat.ctorIdx h))
theorem notes_on2 : ∀ (fs ps : List Pl), ps ≠ [] → Str.join sep3 (fs.map pStr ++ [notesOf ps]) = notesOf (fs ++ ps)
  | [], ps, _ => rfl
  | [f], p :: ps, _ => by
    rw [notes_join, notes_join]
    rfl
  | f :: g :: r, ps, h => by
    have ih := notes_on2 (g :: r) ps h
    rw [notes_join (_ ++ _)] at ih ⊢
    simp only [List.map_cons, List.cons_append] at ih ⊢
    rw [join_two, join_two, ih]
/-- what is handed on: the new places, and the old notes if there are some -/
theorem notes_on (fs ps : List Pl) : Txt.join sep3 (fs.map pStr ++ (if (notesOf ps).length = 0 then [] else [notesOf ps])) = notesOf (fs ++ ps) := by
  show Builtin.Str.glued _ _ = _
  rw [glued_eq_join]
  by_cases h : (notesOf ps).length = 0
  · rw [if_pos h, notes_pos ps h, List.append_nil, List.append_nil, notes_join]
  · rw [if_neg h]
    refine notes_on2 fs ps fun e => h ?_
    rw [e, notes_nil]; rfl
theorem cut_inj {c : Nat} : ∀ {a a' r r' : List Nat}, c ∉ a → c ∉ a' → a ++ c :: r = a' ++ c :: r' → a = a' ∧ r = r'
  | [], [], r, r', _, _, h => ⟨rfl, by simpa using h⟩
  | [], x :: a', r, r', _, h2, h => by
    simp only [List.nil_append, List.cons_append, List.cons.injEq] at h
    exact absurd (by rw [h.1]; simp) h2
  | x :: a, [], r, r', h1, _, h => by
    simp only [List.nil_append, List.cons_append, List.cons.injEq] at h
    exact absurd (by rw [h.1]; simp) h1
  | x :: a, y :: a', r, r', h1, h2, h => by
    simp only [List.cons_append, List.cons.injEq] at h
    have := cut_inj (fun k => h1 (.tail _ k)) (fun k => h2 (.tail _ k)) h.2
    exact ⟨by rw [h.1, this.1], this.2⟩
theorem join_inj (c : Nat) : ∀ (l l' : List Str), l ≠ [] → l' ≠ [] → (∀ p ∈ l, c ∉ p.cps.toList) → (∀ p ∈ l', c ∉ p.cps.toList) → Str.join ⟨#[c]⟩ l = Str.join ⟨#[c]⟩ l' → l = l'
  | [], _, h, _, _, _, _ => absurd rfl h
  | _, [], _, h, _, _, _ => absurd rfl h
  | [a], [b], _, _, _, _, h => by rw [show a = b from h]
  | [a], b :: d :: r, _, _, h1, h2, h => by
    have e : a = b ++ ⟨#[c]⟩ ++ Str.join ⟨#[c]⟩ (d :: r) := h
    refine absurd ?_ (h1 a (.head _))
    rw [e, app_cps, app_cps]
    simp
  | b :: d :: r, [a], _, _, h1, h2, h => by
    have e : b ++ ⟨#[c]⟩ ++ Str.join ⟨#[c]⟩ (d :: r) = a := h
    refine absurd ?_ (h2 a (.head _))
    rw [← e, app_cps, app_cps]
    simp
  | a :: b :: r, a' :: b' :: r', _, _, h1, h2, h => by
    have e : a ++ ⟨#[c]⟩ ++ Str.join ⟨#[c]⟩ (b :: r) = a' ++ ⟨#[c]⟩ ++ Str.join ⟨#[c]⟩ (b' :: r') := h
    have e2 := congrArg (fun x => x.cps.toList) e
    simp only [app_cps, List.append_assoc] at e2
    have e3 := cut_inj (h1 a (.head _)) (h2 a' (.head _)) e2
    have ih := join_inj c (b :: r) (b' :: r') (by simp) (by simp) (fun p hp => h1 p (.tail _ hp)) (fun p hp => h2 p (.tail _ hp)) (sx e3.2)
    rw [sx e3.1, ih]
theorem split_ne (x y : Str) : Txt.split x y ≠ [] := by
  unfold Txt.split
  split
  · simp
  · split
    · simp
    · rw [partsBetween_eq]
      obtain ⟨p, q, e⟩ := partsFrom_ne x y.length 0 (Builtin.Str.occurrences x y 0 x.length (x.length + 1))
      rw [e]; simp
/-- split by one sign, by what joins to it -/
theorem split_is {c : Nat} {x : Str} {l : List Str} (hne : l ≠ []) (hf : ∀ p ∈ l, c ∉ p.cps.toList) (hj : Str.join ⟨#[c]⟩ l = x) : Txt.split x ⟨#[c]⟩ = l :=
  join_inj c _ _ (split_ne _ _) hne (split_free x c) hf (by rw [join_split, hj])
theorem pl_free {p : Pl} : 10 ∉ (pStr p).cps.toList := by
  show 10 ∉ [48 + p.1, 46, 48 + p.2]
  simp only [List.mem_cons, List.not_mem_nil, or_false]
  (kjx_bare; lia)
def lns : List Pl → List Str
  | [] => []
  | [p] => [pStr p]
  | p :: q :: r => pStr p :: ⟨#[32]⟩ :: lns (q :: r)
theorem lns_ne : ∀ (p : Pl) (r : List Pl), ∃ y l, lns (p :: r) = y :: l
  | p, [] => ⟨_, _, rfl⟩
  | p, q :: r => ⟨_, _, rfl⟩
theorem lns_free : ∀ (ps : List Pl), ∀ y ∈ lns ps, 10 ∉ y.cps.toList
  | [], y, h => nomatch h
  | [p], y, h => by rw [List.mem_singleton.mp h]; exact pl_free
  | p :: q :: r, y, h => by
    rcases List.mem_cons.mp h with rfl | h
    · exact pl_free
    rcases List.mem_cons.mp h with rfl | h
    · decide
    exact lns_free (q :: r) y h
theorem lns_join : ∀ (ps : List Pl), Str.join ⟨#[10]⟩ (lns ps) = notesOf ps
  | [] => by rw [notes_nil]; rfl
  | [p] => by rw [notes_one]; rfl
  | p :: q :: r => by
    have ih := lns_join (q :: r)
    obtain ⟨y, l, e⟩ := lns_ne q r
    show Str.join _ (pStr p :: ⟨#[32]⟩ :: lns (q :: r)) = _
    rw [notes_join] at ih ⊢
    simp only [List.map_cons] at ih ⊢
    rw [e] at ih ⊢
    rw [join_two, join_two, join_two, ih, sep3_is]
    refine sx ?_
    simp only [app_cps, List.append_assoc]
    rfl
theorem notes_lines (p : Pl) (ps : List Pl) : Txt.split (notesOf (p :: ps)) (Str.ofString "\n") = lns (p :: ps) := by
  rw [nl_is]
  obtain ⟨y, l, e⟩ := lns_ne p ps
  exact split_is (by rw [e]; simp) (lns_free _) (lns_join _)
/-- a text with no blank at its ends, set between blanks -/
theorem strip_mid {a n b : List Nat} (ha : ∀ c ∈ a, Unicode.isSpace c = true) (hb : ∀ c ∈ b, Unicode.isSpace c = true) (hn : n ≠ []) (h0 : Unicode.isSpace (n.getD 0 0) = false) (h1 : Unicode.isSpace (n.getD (n.length - 1) 0) = false) :
    Txt.strip ⟨(a ++ n ++ b).toArray⟩ = ⟨n.toArray⟩ := by
  have hnl : 0 < n.length := List.length_pos_iff.mpr hn
  have hlen : (⟨(a ++ n ++ b).toArray⟩ : Str).length = a.length + n.length + b.length := by
    show (a ++ n ++ b).toArray.size = _
    simp; (kjx_bare; lia)
  have hget : ∀ k, (⟨(a ++ n ++ b).toArray⟩ : Str).cps.getD k 0 = (a ++ n ++ b).getD k 0 := fun k => (getD_list ⟨(a ++ n ++ b).toArray⟩ k).symm
  have gA : ∀ k, k < a.length → Unicode.isSpace ((a ++ n ++ b).getD k 0) = true := fun k hk => by
    refine ha _ ?_
    rw [List.getD_eq_getElem?_getD, List.append_assoc, List.getElem?_append_left hk, List.getElem?_eq_getElem hk]
    exact List.getElem_mem _
  have gN : ∀ k, k < n.length → (a ++ n ++ b).getD (a.length + k) 0 = n.getD k 0 := fun k hk => by
    rw [List.getD_eq_getElem?_getD, List.append_assoc, List.getElem?_append_right (by (exact Nat.le_add_right a.length k)), List.getElem?_append_left (by (revert hk; kjx_bare; intro hk; lia)), List.getD_eq_getElem?_getD]
    congr 2; (kjx_bare; lia)
  have gB : ∀ k, k < b.length → Unicode.isSpace ((a ++ n ++ b).getD (a.length + n.length + k) 0) = true := fun k hk => by
    refine hb _ ?_
    rw [List.getD_eq_getElem?_getD, List.getElem?_append_right (by simp), show a.length + n.length + k - (a ++ n).length = k from by simp, List.getElem?_eq_getElem hk]
    exact List.getElem_mem _
  unfold Txt.strip
  rw [PyProof.Rows.stripBy_eq]
  obtain ⟨l1, l2, l3⟩ := lo_facts Unicode.isSpace ⟨(a ++ n ++ b).toArray⟩
  generalize stripLo Unicode.isSpace true ⟨(a ++ n ++ b).toArray⟩ = lo at l1 l2 l3
  simp only [hget, hlen] at l1 l2 l3
  have e1 : lo = a.length := by
    rcases Nat.lt_trichotomy lo a.length with h | h | h
    · rcases l3 with l3 | l3
      · (revert h l3; kjx_bare; intro h l3; lia)
      · rw [gA lo h] at l3; cases l3
    · exact h
    · have := l2 a.length h
      have g := gN 0 hnl
      rw [Nat.add_zero] at g
      rw [g, h0] at this; cases this
  subst e1
  obtain ⟨k1, k2, k3, k4⟩ := hi_facts Unicode.isSpace ⟨(a ++ n ++ b).toArray⟩ a.length (by rw [hlen]; (kjx_bare; lia))
  generalize stripHi Unicode.isSpace true ⟨(a ++ n ++ b).toArray⟩ a.length = hi at k1 k2 k3 k4
  simp only [hget, hlen] at k1 k2 k3 k4
  have e2 : hi = a.length + n.length := by
    rcases Nat.lt_trichotomy hi (a.length + n.length) with h | h | h
    · have := k3 (a.length + (n.length - 1)) (by (revert h; kjx_bare; intro h; lia)) (by (revert k1 h; kjx_bare; intro k1 h; lia))
      rw [gN _ (by (revert k1 h; kjx_bare; intro k1 h; lia)), h1] at this; cases this
    · exact h
    · rcases k4 with k4 | k4
      · (revert h k4; kjx_bare; intro h k4; lia)
      · have := gB (hi - 1 - (a.length + n.length)) (by (revert k2 h; kjx_bare; intro k2 h; lia))
        rw [show a.length + n.length + (hi - 1 - (a.length + n.length)) = hi - 1 from by (exact Nat.add_sub_of_le (Nat.le_sub_one_of_lt h)), k4] at this; cases this
  subst e2
  refine sx ?_
  rw [strSub_toList]
  show ((a ++ n ++ b).drop a.length).take (a.length + n.length - a.length) = n
  rw [List.append_assoc, List.drop_left, show a.length + n.length - a.length = n.length from by (kjx_bare; lia), List.take_left]
theorem digit_sp : ∀ i, i < 10 → Unicode.isSpace (48 + i) = false := by decide +kernel
theorem notes_first (p : Pl) (ps : List Pl) : (notesOf (p :: ps)).cps.toList.getD 0 0 = 48 + p.1 := by
  cases ps with
  | nil => rw [notes_one]; rfl
  | cons q r => 
    rw [notes_join]
    simp only [List.map_cons]
    rw [join_two, app_cps, app_cps, List.append_assoc]; rfl
theorem notes_last : ∀ (p : Pl) (ps : List Pl), ∃ q ∈ p :: ps, (notesOf (p :: ps)).cps.toList.getD ((notesOf (p :: ps)).cps.toList.length - 1) 0 = 48 + q.2
  | p, [] => ⟨p, .head _, by rw [notes_one]; rfl⟩
  | p, q :: r => by
    obtain ⟨z, hz, e⟩ := notes_last q r
    have hl := notes_len q r
    refine ⟨z, .tail _ hz, ?_⟩
    rw [notes_join] at e hl ⊢
    simp only [List.map_cons] at e hl ⊢
    rw [join_two, app_cps, List.length_append, ← e]
    have hl2 : (Str.join sep3 (pStr q :: r.map pStr)).cps.toList.length = 6 * r.length + 3 := hl
    rw [hl2, List.getD_eq_getElem?_getD, List.getD_eq_getElem?_getD, List.getElem?_append_right (by (exact Nat.le_sub_one_of_lt (Nat.lt_add_of_pos_right (Nat.le_add_left (Nat.succ 0) (6 * r.length + 2)))))]
    congr 2; (kjx_bare; lia)
theorem notes_strip (p : Pl) (ps : List Pl) (h : ∀ q ∈ p :: ps, q.1 < 10 ∧ q.2 < 10) : Txt.strip (Str.ofString "\n " ++ notesOf (p :: ps) ++ Str.ofString " \n") = notesOf (p :: ps) := by
  have hl := notes_len p ps
  have e : Str.ofString "\n " ++ notesOf (p :: ps) ++ Str.ofString " \n" = ⟨([10, 32] ++ (notesOf (p :: ps)).cps.toList ++ [32, 10]).toArray⟩ := by
    refine sx ?_
    rw [app_cps, app_cps, show Str.ofString "\n " = ⟨#[10, 32]⟩ from by decide +kernel, show Str.ofString " \n" = ⟨#[32, 10]⟩ from by decide +kernel]
  have hne : (notesOf (p :: ps)).cps.toList ≠ [] := fun e => by
    have : (notesOf (p :: ps)).cps.toList.length = 6 * ps.length + 3 := hl
    rw [e] at this; simp at this
  obtain ⟨q, hq, eq⟩ := notes_last p ps
  rw [e, strip_mid (by decide +kernel) (by decide +kernel) hne (by rw [notes_first]; exact digit_sp _ (h p (.head _)).1) (by rw [eq]; exact digit_sp _ (h q hq).2)]
theorem blank_rstrip : (Txt.rstrip ⟨#[32]⟩).length = 0 := by decide +kernel
theorem notes_split (p : Pl) (ps : List Pl) (h : ∀ q ∈ p :: ps, q.1 < 10 ∧ q.2 < 10) :
    splitL (linesOf (Str.ofString "\n " ++ notesOf (p :: ps) ++ Str.ofString " \n")) = (pStr p, notesOf ps) ∧
    ((linesOf (Str.ofString "\n " ++ notesOf (p :: ps) ++ Str.ofString " \n")).map (·.length)).sum + (linesOf (Str.ofString "\n " ++ notesOf (p :: ps) ++ Str.ofString " \n")).length ≤ 10 * (p :: ps).length := by
  unfold linesOf
  rw [notes_strip p ps h]
  constructor
  · rw [notes_lines]
    cases ps with
    | nil =>
      rw [splitL_one (y := pStr p) rfl rfl, notes_nil]
      rfl
    | cons q r =>
      rw [splitL_blank (y := pStr p) (z := ⟨#[32]⟩) (by show 2 ≤ _ + 1 + 1; (exact Nat.le_add_left 2 (lns (q :: r)).length)) rfl rfl blank_rstrip]
      congr 1
      show Builtin.Str.glued _ (lns (q :: r)) = _
      rw [glued_eq_join, nl_is, lns_join]
  · have := split_weight (notesOf (p :: ps)) (Str.ofString "\n") (by rw [nl_len]; exact Nat.le_refl _)
    rw [notes_len] at this
    rw [List.length_cons]
    (revert this; kjx_bare; intro this; lia)
end
section
abbrev Run := Nat × Nat × Nat
def cell (rows : List Str) (i j : Nat) : Nat := chAt (rows.getD i Str.empty) j
def spots (rows : List Str) (b l r : Nat) : List Pl := ((List.range' l (r - l)).filter fun k => cell rows b k == 46).map fun k => (b, k)
def besides (rows : List Str) (i l r : Nat) : List Pl := (if 0 < i then spots rows (i - 1) l r else []) ++ (if i + 1 < 4 then spots rows (i + 1) l r else [])
def rightOf (x : Str) : Option Pl → Nat
  | none => x.length
  | some (i, _) => i
/-- a row with + from l to r -/
def rowFill (x : Str) (l r : Nat) : Str := ⟨(x.cps.toList.take l ++ List.replicate (r - l) 43 ++ x.cps.toList.drop r).toArray⟩
/-- hang together with the start by dots -/
inductive Reach (page : List Str) (st : Pl) : Pl → Prop
  | here : cell page st.1 st.2 = 46 → Reach page st st
  | up {i j} : Reach page st (i + 1, j) → cell page i j = 46 → Reach page st (i, j)
  | down {i j} : Reach page st (i, j) → i + 1 < 4 → cell page (i + 1) j = 46 → Reach page st (i + 1, j)
  | left {i j} : Reach page st (i, j + 1) → cell page i j = 46 → Reach page st (i, j)
  | right {i j} : Reach page st (i, j) → j + 1 < 6 → cell page i (j + 1) = 46 → Reach page st (i, j + 1)
structure Page (page : List Str) : Prop where
  four : page.length = 4
  six : ∀ x ∈ page, x.length = 6
  signs : ∀ i < 4, ∀ j < 6, cell page i j = 46 ∨ cell page i j = 35
/-- a whole run of dots -/
def Whole (page : List Str) (r : Run) : Prop := r.1 < 4 ∧ r.2.1 < r.2.2 ∧ r.2.2 ≤ 6 ∧ (∀ k, r.2.1 ≤ k → k < r.2.2 → cell page r.1 k = 46) ∧ (r.2.1 = 0 ∨ cell page r.1 (r.2.1 - 1) ≠ 46) ∧ (r.2.2 = 6 ∨ cell page r.1 r.2.2 ≠ 46)
structure Inv (page : List Str) (st : Pl) (rows : List Str) (runs : List Run) (wait : List Pl) : Prop where
  four : rows.length = 4
  six : ∀ x ∈ rows, x.length = 6
  same : ∀ i < 4, ∀ j < 6, cell rows i j = cell page i j ∨ (cell page i j = 46 ∧ cell rows i j = 43)
  whole : ∀ r ∈ runs, Whole page r ∧ ∀ k, r.2.1 ≤ k → k < r.2.2 → cell rows r.1 k = 43
  inrun : ∀ i < 4, ∀ j < 6, cell rows i j = 43 → ∃ r ∈ runs, r.1 = i ∧ r.2.1 ≤ j ∧ j < r.2.2
  nodup : runs.Nodup
  reach : ∀ i < 4, ∀ j < 6, cell rows i j = 43 → Reach page st (i, j)
  range : ∀ p ∈ wait, p.1 < 4 ∧ p.2 < 6
  wreach : ∀ p ∈ wait, cell page p.1 p.2 = 46 → Reach page st p
  upc : ∀ i, i + 1 < 4 → ∀ j < 6, cell rows (i + 1) j = 43 → cell page i j = 46 → cell rows i j = 43 ∨ (i, j) ∈ wait
  downc : ∀ i, i + 1 < 4 → ∀ j < 6, cell rows i j = 43 → cell page (i + 1) j = 46 → cell rows (i + 1) j = 43 ∨ (i + 1, j) ∈ wait
  start : cell page st.1 st.2 = 46 → cell rows st.1 st.2 = 43 ∨ st ∈ wait
/-- the dots that are left, row by row -/
def openDots (rows : List Str) : Nat := (rows.map fun x => (x.cps.toList.filter (· == 46)).length).sum
def measureOf (rows : List Str) (wait : List Pl) : Nat := 13 * openDots rows + wait.length


theorem chAt_list (x : Str) (k : Nat) : chAt x k = x.cps.toList.getD k 0 := (getD_list x k).symm
theorem len_list (x : Str) : x.cps.toList.length = x.length := rfl
theorem ch_fill {x : Str} {l r : Nat} (h1 : l ≤ r) (h2 : r ≤ x.length) (k : Nat) : chAt (rowFill x l r) k = if l ≤ k ∧ k < r then 43 else chAt x k := by
  have hx := len_list x
  have hl : (x.cps.toList.take l).length = l := by rw [List.length_take]; (revert h1 h2 hx; kjx_bare; intro h1 h2 hx; lia)
  rw [chAt_list, chAt_list]
  show (x.cps.toList.take l ++ List.replicate (r - l) 43 ++ x.cps.toList.drop r).getD k 0 = _
  rw [List.getD_eq_getElem?_getD, List.getD_eq_getElem?_getD]
  by_cases a : k < l
  · rw [List.append_assoc, List.getElem?_append_left (by (revert hl a; kjx_bare; intro hl a; lia)), List.getElem?_take_of_lt a, if_neg (by (revert a; kjx_bare; intro a; lia))]
  · by_cases b : k < r
    · rw [List.getElem?_append_left (by rw [List.length_append, List.length_replicate]; (revert hl b; kjx_bare; intro hl b; lia)), List.getElem?_append_right (by (revert hl a; kjx_bare; intro hl a; lia)), List.getElem?_replicate, if_pos (by (revert hl a b; kjx_bare; intro hl a b; lia)), if_pos (by (revert a b; kjx_bare; intro a b; lia))]
      rfl
    · rw [List.getElem?_append_right (by rw [List.length_append, List.length_replicate]; (revert hl a b; kjx_bare; intro hl a b; lia)), List.getElem?_drop, if_neg (by (exact fun (a : l ≤ k ∧ k < r) => b (id (And.symm a)).left)), List.length_append, List.length_replicate, hl]
      congr 2; (revert h1 b; kjx_bare; intro h1 b; lia)
theorem fill_len {x : Str} {l r : Nat} (h1 : l ≤ r) (h2 : r ≤ x.length) : (rowFill x l r).length = x.length := by
  have hx := len_list x
  show (x.cps.toList.take l ++ List.replicate (r - l) 43 ++ x.cps.toList.drop r).toArray.size = _
  rw [List.size_toArray, List.length_append, List.length_append, List.length_take, List.length_replicate, List.length_drop]
  (revert h1 h2 hx; kjx_bare; intro h1 h2 hx; lia)
theorem getD_set {rows : List Str} {i k : Nat} {x : Str} (h : i < rows.length) : (rows.set i x).getD k Str.empty = if k = i then x else rows.getD k Str.empty := by
  rw [List.getD_eq_getElem?_getD, List.getD_eq_getElem?_getD, List.getElem?_set]
  by_cases e : i = k
  · subst e; rw [if_pos rfl, if_pos h, if_pos rfl]; rfl
  · rw [if_neg e, if_neg (fun h => e h.symm)]
theorem cell_set {rows : List Str} {i a k : Nat} {x : Str} (h : i < rows.length) : cell (rows.set i x) a k = if a = i then chAt x k else cell rows a k := by
  unfold cell
  rw [getD_set h]
  split <;> rfl
theorem dots_len : ∀ (rows : List Str), (∀ x ∈ rows, x.length = 6) → openDots rows ≤ 6 * rows.length
  | [], _ => Nat.le_refl _
  | x :: r, h => by
    have ih := dots_len r fun y hy => h y (.tail _ hy)
    have h6 := h x (.head _)
    have h7 : (x.cps.toList.filter (· == 46)).length ≤ x.length := List.length_filter_le _ _
    unfold openDots at ih ⊢
    rw [List.map_cons, List.sum_cons, List.length_cons]
    (revert ih h6 h7; kjx_bare; intro ih h6 h7; lia)
theorem dots_set : ∀ (rows : List Str) (i : Nat) (x : Str), i < rows.length → openDots (rows.set i x) + ((rows.getD i Str.empty).cps.toList.filter (· == 46)).length = openDots rows + (x.cps.toList.filter (· == 46)).length
  | [], i, x, h => absurd h (by simp)
  | y :: r, 0, x, h => by
    unfold openDots
    simp only [List.set_cons_zero, List.map_cons, List.sum_cons, List.getD_cons_zero]
    (kjx_bare; lia)
  | y :: r, i + 1, x, h => by
    have ih := dots_set r i x (by simpa using h)
    unfold openDots at ih ⊢
    simp only [List.set_cons_succ, List.map_cons, List.sum_cons, List.getD_cons_succ]
    (revert ih; kjx_bare; intro ih; lia)
theorem dots_fill {x : Str} {l r : Nat} (h1 : l < r) (h2 : r ≤ x.length) (hd : ∀ k, l ≤ k → k < r → chAt x k = 46) : ((rowFill x l r).cps.toList.filter (· == 46)).length < (x.cps.toList.filter (· == 46)).length := by
  have hx := len_list x
  have e : x.cps.toList = x.cps.toList.take l ++ List.replicate (r - l) 46 ++ x.cps.toList.drop r := by
    refine List.ext_getElem? fun k => ?_
    have hl : (x.cps.toList.take l).length = l := by rw [List.length_take]; (revert h1 h2 hx; kjx_bare; intro h1 h2 hx; lia)
    by_cases a : k < l
    · rw [List.append_assoc, List.getElem?_append_left (by (revert hl a; kjx_bare; intro hl a; lia)), List.getElem?_take_of_lt a]
    · by_cases b : k < r
      · rw [List.getElem?_append_left (by rw [List.length_append, List.length_replicate]; (revert hl b; kjx_bare; intro hl b; lia)), List.getElem?_append_right (by (revert hl a; kjx_bare; intro hl a; lia)), List.getElem?_replicate, if_pos (by (revert hl a b; kjx_bare; intro hl a b; lia))]
        have := hd k (by (exact Nat.le_of_not_lt a)) b
        rw [chAt_list, List.getD_eq_getElem?_getD, List.getElem?_eq_getElem (by (exact Nat.lt_of_lt_of_le b h2))] at this
        rw [List.getElem?_eq_getElem (by (exact Nat.lt_of_lt_of_le b h2))]
        exact congrArg some this
      · rw [List.getElem?_append_right (by rw [List.length_append, List.length_replicate]; (revert hl a b; kjx_bare; intro hl a b; lia)), List.getElem?_drop, List.length_append, List.length_replicate, hl]
        congr 1; (revert h1 b; kjx_bare; intro h1 b; lia)
  show ((x.cps.toList.take l ++ List.replicate (r - l) 43 ++ x.cps.toList.drop r).filter (· == 46)).length < _
  have e2 := congrArg (fun z => (z.filter (· == 46)).length) e
  rw [e2]
  simp only [List.filter_append, List.length_append]
  have e3 : (List.replicate (r - l) 43).filter (· == 46) = [] := List.filter_eq_nil_iff.mpr fun a ha => by rw [List.eq_of_mem_replicate ha]; decide
  have e4 : (List.replicate (r - l) 46).filter (· == 46) = List.replicate (r - l) 46 := List.filter_eq_self.mpr fun a ha => by rw [List.eq_of_mem_replicate ha]; decide
  rw [e3, e4, List.length_replicate, List.length_nil]
  (revert h1; kjx_bare; intro h1; lia)
theorem inv_start {page : List Str} {st : Pl} (hp : Page page) (h : st.1 < 4 ∧ st.2 < 6) : Inv page st page [] [st] ∧ ([] : List Run).length + measureOf page [st] ≤ 400 := by
  have no : ∀ i < 4, ∀ j < 6, cell page i j ≠ 43 := fun i hi j hj e => by
    rcases hp.signs i hi j hj with h | h <;> rw [h] at e <;> cases e
  refine ⟨⟨hp.four, hp.six, fun _ _ _ _ => .inl rfl, (fun _ h => nomatch h), fun i hi j hj e => absurd e (no i hi j hj), .nil, fun i hi j hj e => absurd e (no i hi j hj), ?_, ?_, fun i hi j hj e => absurd e (no _ hi j hj), fun i hi j hj e => absurd e (no i (by (exact Nat.le_of_lt hi)) j hj), fun _ => .inr (.head _)⟩, ?_⟩
  · intro p hp; rw [List.mem_singleton.mp hp]; exact h
  · intro p hp hc
    rw [List.mem_singleton.mp hp] at hc ⊢
    exact .here hc
  · have h1 := dots_len page hp.six
    have h2 := hp.four
    unfold measureOf
    simp only [List.length_nil, List.length_singleton]
    (revert h1 h2; kjx_bare; intro h1 h2; lia)
theorem inv_skip {page rows : List Str} {st p : Pl} {runs : List Run} {wait : List Pl} (h : Inv page st rows runs (p :: wait)) (hc : cell rows p.1 p.2 ≠ 46) : Inv page st rows runs wait := by
  have hr := h.range p (.head _)
  have key : cell page p.1 p.2 = 46 → cell rows p.1 p.2 = 43 := fun e => by
    rcases h.same p.1 hr.1 p.2 hr.2 with q | q
    · exact absurd (q.trans e) hc
    · exact q.2
  refine ⟨h.four, h.six, h.same, h.whole, h.inrun, h.nodup, h.reach, fun q hq => h.range q (.tail _ hq), fun q hq => h.wreach q (.tail _ hq), ?_, ?_, ?_⟩
  · intro i hi j hj e1 e2
    rcases h.upc i hi j hj e1 e2 with q | q
    · exact .inl q
    · rcases List.mem_cons.mp q with e | q
      · subst e; exact .inl (key e2)
      · exact .inr q
  · intro i hi j hj e1 e2
    rcases h.downc i hi j hj e1 e2 with q | q
    · exact .inl q
    · rcases List.mem_cons.mp q with e | q
      · subst e; exact .inl (key e2)
      · exact .inr q
  · intro e
    rcases h.start e with q | q
    · exact .inl q
    · rcases List.mem_cons.mp q with e' | q
      · subst e'; exact .inl (key e)
      · exact .inr q
theorem measure_skip (rows : List Str) (p : Pl) (wait : List Pl) : measureOf rows wait < measureOf rows (p :: wait) := by
  unfold measureOf; rw [List.length_cons]; (exact Nat.le_refl (13 * openDots rows + wait.length).succ)
theorem mem_spots {rows : List Str} {b l r : Nat} {q : Pl} : q ∈ spots rows b l r ↔ q.1 = b ∧ l ≤ q.2 ∧ q.2 < r ∧ cell rows b q.2 = 46 := by
  unfold spots
  simp only [List.mem_map, List.mem_filter, List.mem_range'_1, beq_iff_eq]
  constructor
  · rintro ⟨k, ⟨⟨h1, h2⟩, h3⟩, rfl⟩
    exact ⟨rfl, h1, by dsimp only; (revert h1 h2; kjx_bare; intro h1 h2; lia), h3⟩
  · rintro ⟨h1, h2, h3, h4⟩
    exact ⟨q.2, ⟨⟨h2, by (revert h3; kjx_bare; intro h3; lia)⟩, h4⟩, by rw [← h1]⟩
theorem mem_besides {rows : List Str} {i l r : Nat} {q : Pl} : q ∈ besides rows i l r ↔ (0 < i ∧ q ∈ spots rows (i - 1) l r) ∨ (i + 1 < 4 ∧ q ∈ spots rows (i + 1) l r) := by
  unfold besides
  rw [List.mem_append]
  constructor
  · rintro (h | h)
    · split at h
      · exact .inl ⟨by assumption, h⟩
      · cases h
    · split at h
      · exact .inr ⟨by assumption, h⟩
      · cases h
  · rintro (h | h)
    · exact .inl (by rw [if_pos h.1]; exact h.2)
    · exact .inr (by rw [if_pos h.1]; exact h.2)
theorem spots_len (rows : List Str) (b l r : Nat) : (spots rows b l r).length ≤ r - l := by
  unfold spots
  rw [List.length_map]
  refine Nat.le_trans (List.length_filter_le _ _) ?_
  rw [List.length_range']; exact Nat.le_refl _
theorem besides_len (rows : List Str) (i l r : Nat) : (besides rows i l r).length ≤ 2 * (r - l) := by
  unfold besides
  have h1 := spots_len rows (i - 1) l r
  have h2 := spots_len rows (i + 1) l r
  rw [List.length_append]
  split <;> split <;> (try simp only [List.length_nil]) <;> (first | lia | omega)
/-- the whole run of dots around a place -/
structure RunAt (x : Str) (c l r : Nat) : Prop where
  lc : l ≤ c
  cr : c < r
  r6 : r ≤ 6
  dots : ∀ k, l ≤ k → k < r → chAt x k = 46
  le : l = 0 ∨ chAt x (l - 1) ≠ 46
  re : r = 6 ∨ chAt x r ≠ 46
theorem run_at {x : Str} {c l : Nat} {o : Option Pl} (h6 : x.length = 6) (hc6 : c < 6) (hc : chAt x c = 46) (hl : EndIs x c l) (ho : NextIs x c o) : RunAt x c l (rightOf x o) := by
  obtain ⟨hl1, hl2⟩ := hl
  have a : l ≤ c := by rcases hl1 with h | h <;> (revert h; kjx_bare; intro h; lia)
  have b : ∀ d k, k + d = c → l ≤ k → chAt x k = 46 := by
    intro d
    induction d with
    | zero => intro k e _; rw [show k = c from by (exact e)]; exact hc
    | succ d ih =>
      intro k e h
      have h1 := ih (k + 1) (by (revert e; kjx_bare; intro e; lia)) (by (exact Nat.le_of_lt (Nat.lt_succ_of_le h)))
      rcases hl2 (k + 1) (by (exact Nat.lt_of_not_le (Nat.not_lt_of_le h))) (by (revert e; kjx_bare; intro e; lia)) with h2 | h2
      · rw [Nat.add_sub_cancel] at h2; exact h2
      · rw [Nat.add_sub_cancel] at h2; rw [← h2.2, h1]
  have cc : l = 0 ∨ chAt x (l - 1) ≠ 46 := by
    rcases hl1 with h | h
    · exact .inl h
    · exact .inr h.2.2.1
  cases o with
  | none =>
    refine ⟨a, by show c < x.length; (revert h6 hc6; kjx_bare; intro h6 hc6; lia), by show x.length ≤ 6; (exact Nat.le_of_eq h6), ?_, cc, .inl h6⟩
    intro k h1 h2
    by_cases e : k ≤ c
    · exact b (c - k) k (by (exact Nat.add_sub_of_le e)) h1
    · exact ho k (by (exact Nat.le_of_not_le e)) h2
  | some ij =>
    obtain ⟨i, j⟩ := ij
    obtain ⟨n1, n2, n3, n4, n5, n6, n7⟩ := ho
    have hne : c ≠ i := fun e => n5 (by rw [← e]; exact hc)
    refine ⟨a, by show c < i; (exact Nat.lt_of_le_of_ne n1 hne), by show i ≤ 6; (revert h6 n2 n3; kjx_bare; intro h6 n2 n3; lia), ?_, cc, .inr n5⟩
    intro k h1 h2
    by_cases e : k ≤ c
    · exact b (c - k) k (by (exact Nat.add_sub_of_le e)) h1
    · exact n4 k (by (exact Nat.le_of_not_le e)) h2
theorem inv_fill1 {page rows R' : List Str} {st : Pl} {pi pj : Nat} {runs : List Run} {wait : List Pl} (h : Inv page st rows runs ((pi, pj) :: wait)) {l r : Nat} (R : RunAt (rows.getD pi Str.empty) pj l r)
    (hlen : R'.length = 4) (hsix : ∀ x ∈ R', x.length = 6) (hc : ∀ a k, cell R' a k = if a = pi ∧ l ≤ k ∧ k < r then 43 else cell rows a k) :
    (l = 0 ∨ (cell rows pi (l - 1) ≠ 46 ∧ cell rows pi (l - 1) ≠ 43)) ∧ Inv page st R' (runs ++ [(pi, l, r)]) (besides R' pi l r ++ wait) := by
  have hr := h.range (pi, pj) (.head _)
  dsimp only at hr
  obtain ⟨lc, cr, r6, dots, le, re⟩ := R
  have hlr : l < r := Nat.lt_of_le_of_lt lc cr
  have l6 : l < 6 := Nat.lt_of_lt_of_le hlr r6
  have r0 : r ≠ 0 := Nat.ne_of_gt (Nat.zero_lt_of_lt hlr)
  have hr1 : r - 1 < r := Nat.sub_one_lt r0
  have hl1 : l ≤ r - 1 := Nat.le_sub_one_of_lt hlr
  have hdots : ∀ k, l ≤ k → k < r → cell rows pi k = 46 := dots
  have hpd : ∀ k, l ≤ k → k < r → cell page pi k = 46 := fun k a b => by
    rcases h.same pi hr.1 k (Nat.lt_of_lt_of_le b r6) with q | q
    · rw [← q]; exact hdots k a b
    · exact q.1
  have nl : l = 0 ∨ (cell rows pi (l - 1) ≠ 46 ∧ cell rows pi (l - 1) ≠ 43) := by
    by_cases e0 : l = 0
    · exact .inl e0
    refine .inr ⟨le.resolve_left e0, fun e => ?_⟩
    obtain ⟨q, hq, q1, q2, q3⟩ := h.inrun pi hr.1 (l - 1) (Nat.lt_of_le_of_lt (Nat.sub_le _ _) l6) e
    have W := h.whole q hq
    have this : q.2.2 = l := by
      rcases Nat.lt_or_ge l q.2.2 with e | e
      · have := W.2 l (Nat.le_trans q2 (Nat.sub_le _ _)) e
        rw [q1, hdots l (Nat.le_refl _) hlr] at this; cases this
      · exact Nat.le_antisymm e (Nat.le_of_pred_lt (m := l) q3)
    rcases W.1.2.2.2.2.2 with w | w
    · exact absurd (this.symm.trans w) (Nat.ne_of_lt l6)
    · rw [this, q1] at w; exact w (hpd l (Nat.le_refl _) hlr)
  have nr : r = 6 ∨ (cell rows pi r ≠ 46 ∧ cell rows pi r ≠ 43) := by
    by_cases e0 : r = 6
    · exact .inl e0
    refine .inr ⟨re.resolve_left e0, fun e => ?_⟩
    obtain ⟨q, hq, q1, q2, q3⟩ := h.inrun pi hr.1 r (Nat.lt_of_le_of_ne r6 e0) e
    have W := h.whole q hq
    have this : q.2.1 = r := by
      rcases Nat.lt_or_ge q.2.1 r with e | e
      · have := W.2 (r - 1) (Nat.le_sub_one_of_lt e) (Nat.lt_of_le_of_lt (Nat.sub_le _ _) q3)
        rw [q1, hdots (r - 1) hl1 hr1] at this; cases this
      · exact Nat.le_antisymm q2 e
    rcases W.1.2.2.2.2.1 with w | w
    · exact absurd (this.symm.trans w) r0
    · rw [this, q1] at w; exact w (hpd (r - 1) hl1 hr1)
  have hre : Reach page st (pi, pj) := h.wreach _ (.head _) (hpd pj lc cr)
  have hreL : ∀ d k, k + d = pj → l ≤ k → Reach page st (pi, k) := by
    intro d
    induction d with
    | zero => intro k e _; rw [show k = pj from e]; exact hre
    | succ d ih => intro k e q; exact .left (ih (k + 1) ((Nat.add_right_comm k 1 d).trans e) (Nat.le_succ_of_le q)) (hpd k q (Nat.lt_of_le_of_lt (Nat.le.intro e) cr))
  have hreR : ∀ d, pj + d < r → Reach page st (pi, pj + d) := by
    intro d
    induction d with
    | zero => intro _; exact hre
    | succ d ih => intro q; exact Reach.right (ih (Nat.lt_of_succ_lt q)) (Nat.lt_of_lt_of_le q r6) (hpd (pj + d + 1) (Nat.le_trans lc (Nat.le_add_right _ (d + 1))) q)
  have hreA : ∀ k, l ≤ k → k < r → Reach page st (pi, k) := fun k a b => by
    rcases Nat.le_total k pj with e | e
    · exact hreL (pj - k) k (Nat.add_sub_of_le e) a
    · have := hreR (k - pj)
      rw [Nat.add_sub_of_le e] at this
      exact this b
  have h43 : ∀ a k, cell rows a k = 43 → cell R' a k = 43 := fun a k e => by
    rw [hc, e]; exact ite_self _
  refine ⟨nl, hlen, hsix, ?same, ?whole, ?inrun, ?nodup, ?reach, ?range, ?wreach, ?upc, ?downc, ?start⟩
  case same =>
    intro i hi j hj
    rw [hc]
    split
    · rename_i q
      exact .inr ⟨by rw [q.1]; exact hpd j q.2.1 q.2.2, rfl⟩
    · exact h.same i hi j hj
  case whole =>
    intro q hq
    rcases List.mem_append.mp hq with hq | hq
    · have W := h.whole q hq
      exact ⟨W.1, fun k e1 e2 => h43 _ _ (W.2 k e1 e2)⟩
    · rw [List.mem_singleton.mp hq]
      refine ⟨⟨hr.1, hlr, r6, hpd, ?_, ?_⟩, fun k e1 e2 => by rw [hc]; exact if_pos ⟨rfl, e1, e2⟩⟩
      · refine nl.imp id fun n e => ?_
        rcases h.same pi hr.1 (l - 1) (Nat.lt_of_le_of_lt (Nat.sub_le _ _) l6) with q | q
        · exact n.1 (q.trans e)
        · exact n.2 q.2
      · by_cases e6 : r = 6
        · exact .inl e6
        refine nr.imp id fun n e => ?_
        rcases h.same pi hr.1 r (Nat.lt_of_le_of_ne r6 e6) with q | q
        · exact n.1 (q.trans e)
        · exact n.2 q.2
  case inrun =>
    intro i hi j hj e
    rw [hc] at e
    split at e
    · rename_i q
      exact ⟨(pi, l, r), List.mem_append_right _ (.head _), q.1.symm, q.2.1, q.2.2⟩
    · obtain ⟨q, hq, z⟩ := h.inrun i hi j hj e
      exact ⟨q, List.mem_append_left _ hq, z⟩
  case nodup =>
    rw [List.nodup_append]
    refine ⟨h.nodup, by simp, ?_⟩
    intro a ha b hb e
    rw [List.mem_singleton.mp hb] at e
    have := (h.whole a ha).2 l (by rw [e]; exact Nat.le_refl _) (by rw [e]; exact hlr)
    rw [e, hdots l (Nat.le_refl _) hlr] at this; cases this
  case reach =>
    intro i hi j hj e
    rw [hc] at e
    split at e
    · rename_i q
      rw [q.1]; exact hreA j q.2.1 q.2.2
    · exact h.reach i hi j hj e
  case range =>
    intro q hq
    rcases List.mem_append.mp hq with hq | hq
    · rcases mem_besides.mp hq with ⟨a, b⟩ | ⟨a, b⟩ <;> rw [mem_spots] at b
      · exact ⟨by rw [b.1]; exact Nat.lt_of_le_of_lt (Nat.sub_le _ _) hr.1, Nat.lt_of_lt_of_le b.2.2.1 r6⟩
      · exact ⟨by rw [b.1]; exact a, Nat.lt_of_lt_of_le b.2.2.1 r6⟩
    · exact h.range q (.tail _ hq)
  case wreach =>
    intro q hq e
    rcases List.mem_append.mp hq with hq | hq
    · obtain ⟨qi, qj⟩ := q
      rcases mem_besides.mp hq with ⟨a, b⟩ | ⟨a, b⟩
      · obtain ⟨b1, b2, b3, b4⟩ := mem_spots.mp b
        dsimp only at b1 b2 b3 b4 e
        refine .up ?_ e
        rw [b1, Nat.sub_add_cancel a]
        exact hreA qj b2 b3
      · obtain ⟨b1, b2, b3, b4⟩ := mem_spots.mp b
        dsimp only at b1 b2 b3 b4 e
        rw [b1] at e ⊢
        exact .down (hreA qj b2 b3) a e
    · exact h.wreach q (.tail _ hq) e
  case upc =>
    intro i hi j hj e1 e2
    have hk : (i, j) ∈ wait ∨ (i, j) ∈ besides R' pi l r ∨ cell R' i j = 43 := by
      rw [hc] at e1
      split at e1
      · rename_i q
        have q0 : pi - 1 = i := by rw [← q.1]; rfl
        rcases h.same i (Nat.lt_of_succ_lt hi) j hj with s | s
        · refine .inr (.inl (mem_besides.mpr (.inl ⟨q.1 ▸ Nat.succ_pos i, mem_spots.mpr ⟨q0.symm, q.2.1, q.2.2, ?_⟩⟩)))
          rw [q0]
          dsimp only
          rw [hc, if_neg (fun z => Nat.succ_ne_self i (q.1.trans z.1.symm)), s, e2]
        · exact .inr (.inr (h43 _ _ s.2))
      · rcases h.upc i hi j hj e1 e2 with q | q
        · exact .inr (.inr (h43 _ _ q))
        · rcases List.mem_cons.mp q with q | q
          · cases q
            exact .inr (.inr (by rw [hc]; exact if_pos ⟨rfl, lc, cr⟩))
          · exact .inl q
    rcases hk with k | k | k
    · exact .inr (List.mem_append_right _ k)
    · exact .inr (List.mem_append_left _ k)
    · exact .inl k
  case downc =>
    intro i hi j hj e1 e2
    have hk : (i + 1, j) ∈ wait ∨ (i + 1, j) ∈ besides R' pi l r ∨ cell R' (i + 1) j = 43 := by
      rw [hc] at e1
      split at e1
      · rename_i q
        rcases h.same (i + 1) hi j hj with s | s
        · refine .inr (.inl (mem_besides.mpr (.inr ⟨q.1 ▸ hi, mem_spots.mpr ⟨by rw [← q.1], q.2.1, q.2.2, ?_⟩⟩)))
          rw [← q.1]
          dsimp only
          rw [hc, if_neg (fun z => Nat.succ_ne_self i (z.1.trans q.1.symm)), s, e2]
        · exact .inr (.inr (h43 _ _ s.2))
      · rcases h.downc i hi j hj e1 e2 with q | q
        · exact .inr (.inr (h43 _ _ q))
        · rcases List.mem_cons.mp q with q | q
          · cases q
            exact .inr (.inr (by rw [hc]; exact if_pos ⟨rfl, lc, cr⟩))
          · exact .inl q
    rcases hk with k | k | k
    · exact .inr (List.mem_append_right _ k)
    · exact .inr (List.mem_append_left _ k)
    · exact .inl k
  case start =>
    intro e
    rcases h.start e with q | q
    · exact .inl (h43 _ _ q)
    · rcases List.mem_cons.mp q with q | q
      · refine .inl ?_
        rw [hc, q]; exact if_pos ⟨rfl, lc, cr⟩
      · exact .inr (List.mem_append_right _ q)
theorem inv_fill0 {page rows : List Str} {st p : Pl} {runs : List Run} {wait : List Pl} (h : Inv page st rows runs (p :: wait)) {l r : Nat} (R : RunAt (rows.getD p.1 Str.empty) p.2 l r) :
    Inv page st (rows.set p.1 (rowFill (rows.getD p.1 Str.empty) l r)) (runs ++ [(p.1, l, r)]) (besides (rows.set p.1 (rowFill (rows.getD p.1 Str.empty) l r)) p.1 l r ++ wait) ∧
    measureOf (rows.set p.1 (rowFill (rows.getD p.1 Str.empty) l r)) (besides (rows.set p.1 (rowFill (rows.getD p.1 Str.empty) l r)) p.1 l r ++ wait) < measureOf rows (p :: wait) ∧
    ∀ e, EndIs (rowFill (rows.getD p.1 Str.empty) l r) (r - 1) e → e = l := by
  have hr := h.range p (.head _)
  have hpi : p.1 < rows.length := by rw [h.four]; exact hr.1
  have hx6 : (rows.getD p.1 Str.empty).length = 6 := h.six _ (by rw [List.getD_eq_getElem?_getD, List.getElem?_eq_getElem hpi]; exact List.getElem_mem _)
  have R2 := R
  obtain ⟨lc, cr, r6, dots, le, re⟩ := R2
  have hlr : l < r := Nat.lt_of_le_of_lt lc cr
  have lr : l ≤ r := Nat.le_of_lt hlr
  have hr1 : r - 1 < r := Nat.sub_one_lt (Nat.ne_of_gt (Nat.zero_lt_of_lt hlr))
  have rx : r ≤ (rows.getD p.1 Str.empty).length := by rw [hx6]; exact r6
  have I := inv_fill1 (R' := rows.set p.1 (rowFill (rows.getD p.1 Str.empty) l r)) h R (by rw [List.length_set]; exact h.four)
    (fun x hx => by
      rcases List.mem_or_eq_of_mem_set hx with q | q
      · exact h.six x q
      · rw [q, fill_len lr rx]; exact hx6)
    (fun a k => by
      rw [cell_set hpi]
      by_cases e : a = p.1
      · subst e
        rw [if_pos rfl, ch_fill lr rx]
        by_cases q : l ≤ k ∧ k < r
        · rw [if_pos q, if_pos ⟨rfl, q⟩]
        · rw [if_neg q, if_neg (fun z => q z.2)]; rfl
      · rw [if_neg e, if_neg (fun z => e z.1)])
  refine ⟨I.2, ?meas, ?again⟩
  case meas =>
    have a := dots_set rows p.1 (rowFill (rows.getD p.1 Str.empty) l r) hpi
    have b := dots_fill (x := rows.getD p.1 Str.empty) (l := l) (r := r) hlr rx dots
    have c := besides_len (rows.set p.1 (rowFill (rows.getD p.1 Str.empty) l r)) p.1 l r
    unfold measureOf
    rw [List.length_append, List.length_cons]
    clear I R h dots le re hx6 rx
    generalize List.length (besides _ _ _ _) = x1 at *
    (revert r6 a b c; kjx_bare; intro r6 a b c; lia)
  case again =>
    intro e he
    have g : ∀ k, chAt (rowFill (rows.getD p.1 Str.empty) l r) k = if l ≤ k ∧ k < r then 43 else cell rows p.1 k := ch_fill lr rx
    rcases Nat.lt_trichotomy e l with q | q | q
    · exfalso
      have nl' := I.1.resolve_left (fun z => absurd q (z ▸ Nat.not_lt_zero e))
      have hn : ¬ (l ≤ l - 1 ∧ l - 1 < r) := fun z => absurd z.1 (Nat.not_le_of_lt (Nat.sub_one_lt (Nat.ne_of_gt (Nat.zero_lt_of_lt q))))
      rcases he.2 l q (Nat.le_sub_one_of_lt hlr) with z | z
      · rw [g, if_neg hn] at z; exact nl'.1 z
      · have z2 := z.2
        rw [g, if_pos ⟨Nat.le_refl l, hlr⟩, g, if_neg hn] at z2; exact nl'.2 z2.symm
    · exact q
    · exfalso
      rcases he.1 with z | z
      · exact absurd q (z ▸ Nat.not_lt_zero l)
      · have er := Nat.lt_of_le_of_lt z.2.1 hr1
        refine z.2.2.2 (by rw [fill_len lr rx]; exact Nat.lt_of_lt_of_le er rx) ?_
        rw [g, g, if_pos ⟨Nat.le_of_lt q, er⟩, if_pos ⟨Nat.le_sub_one_of_lt q, Nat.lt_of_le_of_lt (Nat.sub_le _ _) er⟩]
theorem inv_fill {page rows : List Str} {st p : Pl} {runs : List Run} {wait : List Pl} (_hp : Page page) (h : Inv page st rows runs (p :: wait)) (hc : cell rows p.1 p.2 = 46) {l : Nat} {o : Option Pl}
    (hl : EndIs (rows.getD p.1 Str.empty) p.2 l) (ho : NextIs (rows.getD p.1 Str.empty) p.2 o) :
    l ≤ p.2 ∧ p.2 < rightOf (rows.getD p.1 Str.empty) o ∧ rightOf (rows.getD p.1 Str.empty) o ≤ 6 ∧
    Inv page st (rows.set p.1 (rowFill (rows.getD p.1 Str.empty) l (rightOf (rows.getD p.1 Str.empty) o))) (runs ++ [(p.1, l, rightOf (rows.getD p.1 Str.empty) o)])
      (besides (rows.set p.1 (rowFill (rows.getD p.1 Str.empty) l (rightOf (rows.getD p.1 Str.empty) o))) p.1 l (rightOf (rows.getD p.1 Str.empty) o) ++ wait) ∧
    measureOf (rows.set p.1 (rowFill (rows.getD p.1 Str.empty) l (rightOf (rows.getD p.1 Str.empty) o))) (besides (rows.set p.1 (rowFill (rows.getD p.1 Str.empty) l (rightOf (rows.getD p.1 Str.empty) o))) p.1 l (rightOf (rows.getD p.1 Str.empty) o) ++ wait) < measureOf rows (p :: wait) ∧
    ∀ e, EndIs (rowFill (rows.getD p.1 Str.empty) l (rightOf (rows.getD p.1 Str.empty) o)) (rightOf (rows.getD p.1 Str.empty) o - 1) e → e = l := by
  have hr := h.range p (.head _)
  have h4 := h.four
  have hx6 : (rows.getD p.1 Str.empty).length = 6 := h.six _ (by rw [List.getD_eq_getElem?_getD, List.getElem?_eq_getElem (by (revert hr h4; kjx_bare; intro hr h4; lia))]; exact List.getElem_mem _)
  have R := run_at hx6 hr.2 hc hl ho
  have I := inv_fill0 h R
  exact ⟨R.lc, R.cr, R.r6, I.1, I.2.1, I.2.2⟩
end
section
open PySem.Calls
theorem CodeAt.mono {l l' : Led} {c : Addr} {q : Str} (h : CodeAt l c q) (hs : Sub l l') : CodeAt l' c q := by
  obtain ⟨oc, vs, t, m, d, e⟩ := h
  exact ⟨oc, vs, t, hs _ m, d, e⟩
theorem Tab44.mono {ps : Array Value} {l l' : Led} (h : Tab44 ps l) (hs : Sub l l') : Tab44 ps l' := by
  rcases h with h | ⟨c1, c2, e, h1, h2⟩
  · exact .inl h
  · exact .inr ⟨c1, c2, e, h1.mono hs, h2.mono hs⟩
/-- the runs' list: tuples of three ints that the ledger holds -/
def RunsAre (l : Led) : List Value → List Run → Prop
  | [], [] => True
  | v :: vs, r :: rs => (∃ T ta tb tc, v = .ref T ∧ (T, tup3 (.int r.1 ta) (.int r.2.1 tb) (.int r.2.2 tc)) ∈ l) ∧ RunsAre l vs rs
  | _, _ => False
theorem RunsAre.mono {l l' : Led} (hs : Sub l l') : ∀ {vs : List Value} {rs : List Run}, RunsAre l vs rs → RunsAre l' vs rs
  | [], [], h => h
  | _ :: _, _ :: _, ⟨⟨T, ta, tb, tc, e, m⟩, h⟩ => ⟨⟨T, ta, tb, tc, e, hs _ m⟩, RunsAre.mono hs h⟩
theorem RunsAre.snoc {l : Led} {v : Value} {r : Run} : ∀ {vs : List Value} {rs : List Run}, RunsAre l vs rs → (∃ T ta tb tc, v = .ref T ∧ (T, tup3 (.int r.1 ta) (.int r.2.1 tb) (.int r.2.2 tc)) ∈ l) → RunsAre l (vs ++ [v]) (rs ++ [r])
  | [], [], _, e => ⟨e, trivial⟩
  | _ :: _, _ :: _, ⟨a, h⟩, e => ⟨a, RunsAre.snoc h e⟩
/-- new objects lie behind these addresses -/
def HighA (new : Led) (as : List Addr) : Prop := ∀ q ∈ new, ∀ a ∈ as, a < q.1
theorem HighA.cons {new : Led} {as : List Addr} {x : Addr × Obj} (h : HighA new as) (hx : ∀ a ∈ as, a < x.1) : HighA (x :: new) as := fun q hq => by
  rcases List.mem_cons.mp hq with rfl | hq
  · exact hx
  · exact h q hq
theorem HighA.app {a b : Led} {as : List Addr} (h1 : HighA a as) (h2 : HighA b as) : HighA (a ++ b) as := fun q hq => (List.mem_append.mp hq).elim (h1 q) (h2 q)
theorem High.highA {a r : Led} {as : List Addr} (h : High a r) (hs : ∀ x ∈ as, ∃ p ∈ r, p.1 = x) : HighA a as := fun q hq x hx => by
  obtain ⟨p, hp, rfl⟩ := hs x hx
  exact h q hq p hp
theorem lt5 {a b c d e x : Nat} (h1 : a < x) (h2 : b < x) (h3 : c < x) (h4 : d < x) (h5 : e < x) : ∀ y ∈ [a, b, c, d, e], y < x := by
  intro y hy
  simp only [List.mem_cons, List.not_mem_nil, or_false] at hy
  rcases hy with rfl | rfl | rfl | rfl | rfl <;> assumption
theorem Sub.consL (x : Addr × Obj) (l : Led) : Sub l (x :: l) := fun _ h => .tail _ h
section
variable {prog : Program} {w : World} {A : Around} {E : Value → Shared → Prop} {s : Shared} {h₀ : Heap} {L : Addr} {m : Str → Option Value} {news : Led}
theorem StrsAre.getD' {vs : List Value} {ss : List Str} (h : StrsAre vs ss) {k : Nat} (hk : k < ss.length) : ∃ t, vs[k]? = some (.str (ss.getD k Str.empty) t) := by
  obtain ⟨t, ht⟩ := h.get k (ss[k]) (by simp [hk])
  exact ⟨t, by rw [ht]; simp [List.getD_eq_getElem?_getD, hk]⟩
theorem str_item {value slice : Expr} {l : Addr} {vs : List Value} {n : Nat} {ss : List Str} {k : Int} {u : Tok} {Q : Value → Shared → Prop} (N : News h₀ L s.heap news) (hm : (l, W.listOf vs.toArray n) ∈ news) (hS : StrsAre vs ss)
    (h0 : 0 ≤ k) (h1 : k < ss.length) (hf : k < 1000000) (h : ∀ t, Q (.str (ss.getD k.toNat Str.empty) t) s)
    (hs : subscripted slice false (.ref l) (.int k u) = operate [.ref l, .int k u] (getItem (.ref l) (.int k u)) := by with_unfolding_all rfl) :
    wpAny (model prog w) A (subscriptTail value slice (.ref l) (.int k u)) Q E s := by
  obtain ⟨t, ht⟩ := StrsAre.getD' hS (k := k.toNat) (by (first | lia | omega))
  have hl := News.isList N hm
  exact tail_any hl.typeIs slot_list_getitem.lookup (wpAny_getItem_list hl h0 (by (first | lia | omega)) (by simpa using ht) (h t)) hs
theorem strs_drop {vs : List Value} {ss : List Str} (hS : StrsAre vs ss) (a : Nat) : StrsAre (slicePick vs.toArray (some (a : Int)) none none).toList (ss.drop a) := by
  rw [slicePick_from']
  simpa using hS.drop' a
theorem stmt_cut {σ : Type} {t : Sem Flow} {Q : Flow → Shared → Prop} {m₀ : Str → Option Value} (Led : σ → List (Addr × Obj)) (ps : σ → List (Str × Value)) (stored : List Str) (D : σ → Prop) (_F : Fr h₀ L s.heap m₀)
    (h1 : wpAny (model prog w) A t (CutQ h₀ L s Led ps stored m₀ D Q) E s)
    (after : ∀ (c : σ) (u : Str → Option Value) h tk, D c → Fr h₀ L h (kstB (fun z => if stored.contains z then u z else m₀ z) (ps c)) → News h₀ L h (Led c) → Q .next { s with heap := h, toks := tk }) :
    wpAny (model prog w) A t Q E s := by
  refine wpAny_mono h1 (fun f s₂ q => ?_) fun _ _ x => x
  cases f with
  | next =>
    obtain ⟨c', h', tk, m', news', rfl, F', N', hn, hk', hr, hd⟩ := q
    exact after c' m' h' tk hd (ksw_fr hk' hr F') fun p hp => N' p (hn p hp)
  | brk => exact q
  | cont => exact q
  | ret v => exact q
/-- an expression whose ways meet -/
def EEnd {σ : Type} (h₀ : Heap) (L : Addr) (m : Str → Option Value) (s : Shared) (Led : σ → List (Addr × Obj)) (V : σ → Value) (D : σ → Prop) (v : Value) (s₂ : Shared) : Prop :=
  ∃ (c : σ) (h' : Heap) (tk : Nat) (news' : List (Addr × Obj)), v = V c ∧ s₂ = { s with heap := h', toks := tk } ∧ Fr h₀ L h' m ∧ News h₀ L h' news' ∧ (∀ p ∈ Led c, p ∈ news') ∧ D c
theorem eend {σ : Type} {Led : σ → List (Addr × Obj)} {V : σ → Value} {D : σ → Prop} {h' : Heap} {tk : Nat} {news' : List (Addr × Obj)} (c : σ) (F : Fr h₀ L h' m) (N : News h₀ L h' news') (hn : ∀ p ∈ Led c, p ∈ news') (hd : D c) :
    EEnd h₀ L m s Led V D (V c) { s with heap := h', toks := tk } := ⟨c, h', tk, news', rfl, rfl, F, N, hn, hd⟩
theorem expr_cut {σ : Type} {t : Sem Value} {Q : Value → Shared → Prop} (Led : σ → List (Addr × Obj)) (V : σ → Value) (D : σ → Prop) (_F : Fr h₀ L s.heap m)
    (h1 : wpAny (model prog w) A t (EEnd h₀ L m s Led V D) E s)
    (after : ∀ (c : σ) h tk, D c → Fr h₀ L h m → News h₀ L h (Led c) → Q (V c) { s with heap := h, toks := tk }) :
    wpAny (model prog w) A t Q E s := by
  refine wpAny_mono h1 (fun v s₂ q => ?_) fun _ _ x => x
  obtain ⟨c, h', tk, news', rfl, rfl, F', N', hn, hd⟩ := q
  exact after c h' tk hd F' fun p hp => N' p (hn p hp)
theorem list_add {l b : Addr} {vs ws : List Value} {n1 n2 : Nat} {Q : Value → Shared → Prop} (F : Fr h₀ L s.heap m) (N : News h₀ L s.heap news) (hl : (l, W.listOf vs.toArray n1) ∈ news) (hb : (b, W.listOf ws.toArray n2) ∈ news) (hz1 : vs.length ≤ 10000) (hz2 : ws.length ≤ 10000)
    (h : ∀ D h', Fr h₀ L h' m → News h₀ L h' ((D, W.listOf (vs ++ ws).toArray 0) :: news) → (∀ p ∈ news, p.1 < D) → Q (.ref D) { s with heap := h' }) :
    wpAny (model prog w) A (binaryOp .Add (.ref l) (.ref b)) Q E s := by
  refine add_arrays F N (News.isList N hl) (News.isList N hb) (fun h' F' N' => ?_) (by rw [List.size_toArray, List.size_toArray, sizeLine_eq]; (first | lia | omega))
  refine h _ h' F' (by simpa using N') fun p hp => Heap.lt_size (N p hp).1
theorem strs_slice {value slice : Expr} {l : Addr} {vs : List Value} {n : Nat} {a : Int} {u : Tok} {Q : Value → Shared → Prop} (F : Fr h₀ L s.heap m) (N : News h₀ L s.heap news) (hm : (l, W.listOf vs.toArray n) ∈ news) (ha : 0 ≤ a) (hsz : vs.length ≤ 10000)
    (h : ∀ D h', Fr h₀ L h' m → News h₀ L h' ((D, W.listOf (vs.drop a.toNat).toArray 0) :: news) → (∀ p ∈ news, p.1 < D) → Q (.ref D) { s with heap := h' })
    (hs : subscripted slice false (.ref l) (.ref s.heap.objs.size) = operate [.ref s.heap.objs.size, .ref l] (getItem (.ref l) (.ref s.heap.objs.size)) := by with_unfolding_all rfl)
    (ht : ∀ r, letTemporaryGo value (.ref l) r = pure () := by intro _; with_unfolding_all rfl) :
    wpAny (model prog w) A (subscriptTail value slice (.ref l) (.ref s.heap.objs.size)) Q E { s with heap := s.heap.push { cls := .type "slice", data := .fields #[.int a u, .none, .none] } } := by
  refine slice_list F N (News.isList N hm) (.int _ _) .none ?_ hs ht (by rw [List.size_toArray, sizeLine_eq]; (first | lia | omega))
  intro h' F' N'
  have e : slicePick vs.toArray (some a) none none = (vs.drop a.toNat).toArray := by
    have := slicePick_from' vs.toArray a.toNat
    rw [show ((a.toNat : Nat) : Int) = a from by (first | lia | omega)] at this
    simpa using this
  rw [e] at N'
  exact h _ h' F' N' fun p hp => Nat.lt_succ_of_lt (Heap.lt_size (N p hp).1)
end
end
section
open PySem.Calls PyProof.V PySem.Spec
/-- a turn of a loop over a range, at its end -/
def TurnEnd {σ : Type} (h₀ : Heap) (L : Addr) (s : Shared) (Led : σ → List (Addr × Obj)) (ps : σ → List (Str × Value)) (x : Str) (stored : List Str) (m₀ : Str → Option Value) (P : σ → Prop) (I : Addr) (oI : Obj) (s₂ : Shared) : Prop :=
  ∃ (c' : σ) (h' : Heap) (tk : Nat) (m' : Str → Option Value) (news' : List (Addr × Obj)), s₂ = { s with heap := h', toks := tk } ∧ Fr h₀ L h' m' ∧ News h₀ L h' news' ∧ (I, oI) ∈ news' ∧ (∀ p ∈ Led c', p ∈ news') ∧ Off I (Led c') ∧ (∀ p ∈ ps c', m' p.1 = some p.2) ∧ (∀ z, z ≠ x → (∀ p ∈ ps c', z ≠ p.1) → stored.contains z = false → m' z = m₀ z) ∧ P c'
theorem tend {σ : Type} {h₀ : Heap} {L : Addr} {s : Shared} {Led : σ → List (Addr × Obj)} {ps : σ → List (Str × Value)} {x : Str} {stored : List Str} {m₀ m' : Str → Option Value} {P : σ → Prop} {I : Addr} {oI : Obj} {h' : Heap} {tk : Nat} {news' : List (Addr × Obj)} (c' : σ)
    (F : Fr h₀ L h' m') (N : News h₀ L h' news') (hI : (I, oI) ∈ news') (hn : ∀ p ∈ Led c', p ∈ news') (ho : Off I (Led c')) (hk : ∀ p ∈ ps c', m' p.1 = some p.2) (hr : ∀ z, z ≠ x → (∀ p ∈ ps c', z ≠ p.1) → stored.contains z = false → m' z = m₀ z) (hd : P c') :
    TurnEnd h₀ L s Led ps x stored m₀ P I oI { s with heap := h', toks := tk } := ⟨c', h', tk, m', news', rfl, F, N, hI, hn, ho, hk, hr, hd⟩
def TurnPost {σ : Type} (h₀ : Heap) (L : Addr) (s : Shared) (Led : σ → List (Addr × Obj)) (ps : σ → List (Str × Value)) (x : Str) (stored : List Str) (m₀ : Str → Option Value) (P : σ → Prop) (I : Addr) (oI : Obj) (Q : Flow → Shared → Prop) (f : Flow) (s₂ : Shared) : Prop :=
  match f with
  | .ret v => Q (.ret v) s₂
  | .brk => Q .next s₂
  | _ => TurnEnd h₀ L s Led ps x stored m₀ P I oI s₂
section
variable {prog : Program} {w : World} {A : Around} {E : Value → Shared → Prop} {Q : Flow → Shared → Prop} {s : Shared} {env : Env} {h₀ : Heap} {x : Str} {body : List Stmt}
theorem range_cut {σ : Type} {r : Addr} {a₀ b₀ : Int} {t₀ u₀ v₀ : Tok} {n : Nat} {m₀ : Str → Option Value} (Led : σ → List (Addr × Obj)) (ps : σ → List (Str × Value)) (stored : List Str) (P : Nat → σ → Prop) (c₀ : σ)
    (hh : A.handled = none) (hr : IsRange s.heap r a₀ b₀ 1 t₀ u₀ v₀) (hsmall : Builtin.Range.small a₀ b₀ 1 = true) (hn : Builtin.Range.rangeSize a₀ b₀ 1 = (n : Int)) (F : Fr h₀ env.locals s.heap m₀) (N : News h₀ env.locals s.heap (Led c₀)) (hk : ∀ p ∈ ps c₀, m₀ p.1 = some p.2) (hp : P 0 c₀)
    (turn : ∀ (i : Nat) (c : σ) t (u : Str → Option Value) h tk I oI, i < n → P i c → (∀ p ∈ Led c₀, p.1 < I) → Off I (Led c) →
      Fr h₀ env.locals h (fun y => if y = x then some (.int (a₀ + (i : Int)) t) else kstB (fun z => if stored.contains z then u z else m₀ z) (ps c) y) → News h₀ env.locals h ((I, oI) :: Led c) →
      wpAny (model prog w) A (execs body env) (TurnPost h₀ env.locals { s with heap := h, toks := tk } Led ps x stored m₀ (P (i + 1)) I oI Q) E { s with heap := h, toks := tk })
    (done : ∀ (c : σ) (u : Str → Option Value) h tk, P n c → Fr h₀ env.locals h (fun y => if y = x then u y else kstB (fun z => if stored.contains z then u z else m₀ z) (ps c) y) → News h₀ env.locals h (Led c) → Q .next { s with heap := h, toks := tk }) :
    wpAny (model prog w) A (pyIter (.ref r)) (fun it s₂ => LoopAtV prog w A h₀ env x body Q E it s₂) E s := by
  refine wpAny_pyIter_range hr hsmall ?_
  have W : Walks prog w A s.heap.objs.size [s.heap.objs.size] [s.heap.objs.size] n (fun i v => i < n ∧ ∃ t, v = .int (a₀ + i * 1) t)
      (fun i h => IsRangeIter h s.heap.objs.size (a₀ + (i : Nat) * 1) ((n : Int) - (i : Nat)) 1) := (Walks.range hh _ a₀ 1 n).bound
  let J : Nat → (Str → Option Value) → List (Addr × Obj) → Prop := fun i m nx => ∃ c : σ, nx = Led c ∧ (∀ p ∈ ps c, m p.1 = some p.2) ∧ (∀ z, z ≠ x → (∀ p ∈ ps c, z ≠ p.1) → stored.contains z = false → m z = m₀ z) ∧ P i c
  refine ⟨_, _, _, n, _, _, m₀, Led c₀, J, rfl, W, ?_, ?_, ?_, (by show IsRangeIter _ _ _ _ _; rw [hn]; simpa using Heap.get?_push_size _ rfl), F.push _, (fun p hp => ⟨Heap.get?_push_of_some _ (N p hp).1, (N p hp).2⟩), ⟨c₀, rfl, hk, fun _ _ _ _ => rfl, hp⟩, ?_, ?_⟩
  · intro hm
    exact absurd F.ns.lt ((List.mem_singleton.mp hm) ▸ Nat.lt_irrefl _)
  · intro b hb
    rw [List.mem_singleton.mp hb]
    exact next_is_new F
  · intro p hp hI
    exact absurd (Heap.lt_size (N p hp).1) ((List.mem_singleton.mp hI) ▸ Nat.lt_irrefl _)
  · rintro i v m₁ news₁ s₁ own ⟨hh', tk', rfl⟩ hin ⟨_, t, rfl⟩ ⟨c, rfl, h1, h2, hPc⟩ hoff hown _ hfp hst F₁ N₁
    have hI0 : h₀.get? s.heap.objs.size = none := next_is_new F
    obtain ⟨oI, hst'⟩ : ∃ o, hh'.get? s.heap.objs.size = some o := ⟨_, hst⟩
    have hIown := hfp _ (List.mem_singleton.mpr rfl) hI0 _ hst'
    have e1 : a₀ + (i : Int) * 1 = a₀ + (i : Int) := by (first | lia | omega)
    rw [e1] at F₁
    have hoI : Off s.heap.objs.size (Led c) := fun p hp e => hoff p hp (List.mem_singleton.mpr e)
    refine wpAny_mono (turn i c t m₁ hh' tk' s.heap.objs.size oI hin hPc (fun p hp => Heap.lt_size (N p hp).1) hoI (kst_fr h1 h2 F₁) (fun p hp => ?_)) (fun f s₂ p => ?_) fun _ _ e => e
    · rcases List.mem_cons.mp hp with rfl | hp
      · exact N₁ _ (List.mem_append_left _ hIown)
      · exact N₁ _ (List.mem_append_right _ hp)
    have fin : TurnEnd h₀ env.locals { s with heap := hh', toks := tk' } Led ps x stored m₀ (P (i + 1)) s.heap.objs.size oI s₂ → LoopStepU h₀ env.locals [s.heap.objs.size] own (J (i + 1)) { s with heap := hh', toks := tk' } .next s₂ := by
      rintro ⟨c', h', tk, m', news', e, F', N', hI', hn', ho', hk', hr', hP'⟩
      refine ⟨rfl, h', tk, m', Led c', e, F', fun p hp => ?_, fun p hp hq => ho' p hp (List.mem_singleton.mp hq), ⟨c', rfl, hk', hr', hP'⟩⟩
      rcases List.mem_append.mp hp with hp | hp
      · have hz := List.mem_singleton.mp (hown p hp)
        have h3 := (N₁ p (List.mem_append_left _ hp)).1
        rw [hz, hst'] at h3
        have e4 : p = (s.heap.objs.size, oI) := Prod.ext hz (Option.some.inj h3).symm
        rw [e4]
        exact N' _ hI'
      · exact N' p (hn' p hp)
    cases f with
    | ret v => exact .ret p
    | brk => exact .brk p
    | next => exact .next (fin p)
    | cont => exact .cont (fin p)
  · rintro h' tk m' news' F' N' _ ⟨c, rfl, h1, h2, hPc⟩
    exact done c m' h' tk hPc (kst_frOut h1 h2 F') N'
end
section
open LCg LCt
variable {prog : Program} {w : World} {A : Around} {E : Value → Shared → Prop} {s : Shared} {h₀ : Heap} {L : Addr} {m : Str → Option Value} {env : Env}
theorem comp_rest {elt : Expr} {x : Str} {scope : Scope} {cl : List (Str × Addr)} {S : List (Addr × Obj) → Prop} {P : Nat → Value → Prop} {Fin : List Value → List (Addr × Obj) → Prop} (n : Nat) (Inv : Nat → List Value → List (Addr × Obj) → Prop) {ys₀ : List Value} {news₀ : List (Addr × Obj)}
    (h0 : Inv 0 ys₀ news₀)
    (step : ∀ i v ys news I oI C oC D m₂ h tk (E' : Value → Shared → Prop), i < n → P i v → Inv i ys news → NsObj oC m₂ → m₂ x = some v → Fr h₀ L h m → News h₀ L h ((I, oI) :: (C, oC) :: (D, lst ys) :: news) → Off3 I C D news → ((@Ne Nat I C) ∧ (@Ne Nat I D) ∧ (@Ne Nat C D)) →
      wpAny (model prog w) A (eval elt (compEnvC scope cl C env)) (CompEnd h₀ L m { s with heap := h, toks := tk } I oI C oC D (lst ys) S (fun y news' => Inv (i + 1) (ys ++ [y]) news')) E' { s with heap := h, toks := tk })
    (fin : ∀ ys news, Inv n ys news → Fin ys news) : CompRest prog w A h₀ L m env elt x scope cl s S P Fin n 0 ys₀ news₀ := by
  have key : ∀ k i ys news, i + k = n → Inv i ys news → CompRest prog w A h₀ L m env elt x scope cl s S P Fin k i ys news := by
    intro k
    induction k with
    | zero => intro i ys news e h; exact .zero (fin ys news (by rw [show n = i from by (first | lia | omega)]; exact h))
    | succ k ih =>
      intro i ys news e h
      refine .succ fun v I oI C oC D m₂ h' tk E' hv hC hx F N off ne => ?_
      refine wpAny_mono (step i v ys news I oI C oC D m₂ h' tk E' (by (first | lia | omega)) hv h hC hx F N off ne) (fun y s₂ q => ?_) fun _ _ e => e
      obtain ⟨h2, tk2, news', e2, F2, N2, off2, hS, hI⟩ := q
      exact ⟨h2, tk2, news', e2, F2, N2, off2, hS, ih (i + 1) _ _ (by (first | lia | omega)) hI⟩
  exact key n 0 ys₀ news₀ (by (first | lia | omega)) h0
theorem comp_restT {ct elt : Expr} {x : Str} {scope : Scope} {cl : List (Str × Addr)} {S : List (Addr × Obj) → Prop} {P : Nat → Value → Prop} {Fin : List Value → List (Addr × Obj) → Prop} (n : Nat) (Inv : Nat → List Value → List (Addr × Obj) → Prop) {ys₀ : List Value} {news₀ : List (Addr × Obj)}
    (h0 : Inv 0 ys₀ news₀)
    (step : ∀ i v ys news I oI C oC D m₂ h tk (E' : Value → Shared → Prop), i < n → P i v → Inv i ys news → NsObj oC m₂ → m₂ x = some v → Fr h₀ L h m → News h₀ L h ((I, oI) :: (C, oC) :: (D, lst ys) :: news) → Off3 I C D news → ((@Ne Nat I C) ∧ (@Ne Nat I D) ∧ (@Ne Nat C D)) →
      wpAny (model prog w) A (isTrue ct (compEnvC scope cl C env) (eval ct (compEnvC scope cl C env))) (fun ok s' => if ok = true then
        wpAny (model prog w) A (eval elt (compEnvC scope cl C env)) (CompEnd h₀ L m { s with heap := h, toks := tk } I oI C oC D (lst ys) S (fun y news' => Inv (i + 1) (ys ++ [y]) news')) E' s'
        else CompEnd h₀ L m { s with heap := h, toks := tk } I oI C oC D (lst ys) S (fun _ news' => Inv (i + 1) ys news') Value.none s') E' { s with heap := h, toks := tk })
    (fin : ∀ ys news, Inv n ys news → Fin ys news) : CompRestT prog w A h₀ L m env ct elt x scope cl s S P Fin n 0 ys₀ news₀ := by
  have key : ∀ k i ys news, i + k = n → Inv i ys news → CompRestT prog w A h₀ L m env ct elt x scope cl s S P Fin k i ys news := by
    intro k
    induction k with
    | zero => intro i ys news e h; exact .zero (fin ys news (by rw [show n = i from by (first | lia | omega)]; exact h))
    | succ k ih =>
      intro i ys news e h
      refine .succ fun v I oI C oC D m₂ h' tk E' hv hC hx F N off ne => ?_
      refine wpAny_mono (step i v ys news I oI C oC D m₂ h' tk E' (by (first | lia | omega)) hv h hC hx F N off ne) (fun ok s₂ q => ?_) fun _ _ e => e
      have up : ∀ (ys' : List Value) (y : Value) (s₃ : Shared), CompEnd h₀ L m { s with heap := h', toks := tk } I oI C oC D (lst ys) S (fun y news' => Inv (i + 1) ys' news') y s₃ →
          CompEnd h₀ L m { s with heap := h', toks := tk } I oI C oC D (lst ys) S (fun y news' => CompRestT prog w A h₀ L m env ct elt x scope cl s S P Fin k (i + 1) ys' news') y s₃ := by
        rintro ys' y s₃ ⟨h2, tk2, news', e2, F2, N2, off2, hS, hI⟩
        exact ⟨h2, tk2, news', e2, F2, N2, off2, hS, ih (i + 1) _ _ (by (first | lia | omega)) hI⟩
      split
      · rename_i hb
        rw [if_pos hb] at q
        refine wpAny_mono q (fun y s₃ q => ?_) fun _ _ e => e
        obtain ⟨h2, tk2, news', e2, F2, N2, off2, hS, hI⟩ := q
        exact ⟨h2, tk2, news', e2, F2, N2, off2, hS, ih (i + 1) _ _ (by (first | lia | omega)) hI⟩
      · rename_i hb
        rw [if_neg hb] at q
        exact up _ _ _ q
  exact key n 0 ys₀ news₀ (by (first | lia | omega)) h0
end
end
section
open PySem.Calls
section
variable {prog : Program} {w : World} {A : Around} {E : Value → Shared → Prop} {s : Shared} {h₀ : Heap} {L D : Addr} {m : Str → Option Value} {news news' : Led}
theorem list_append {vs : List Value} {n : Nat} {x : Value} {Q : Value → Shared → Prop} (F : Fr h₀ L s.heap m) (N : News h₀ L s.heap news) (U : Upd D (W.listOf vs.toArray n) (W.listOf (vs ++ [x]).toArray (n + 1)) news news')
    (h : ∀ h', Fr h₀ L h' m → News h₀ L h' news' → Q .none { s with heap := h' }) (hsz : vs.length ≤ 10000) : wpAny (model prog w) A (call (.builtin "list.append") [.ref D, x]) Q E s := by
  refine append_K (its := vs.toArray) (n := n) F N (news' := news') ?_ h (by rw [List.size_toArray, sizeLine_eq]; (first | lia | omega))
  rw [List.push_toArray]
  exact U
theorem list_set {vs : List Value} {n : Nat} {k : Int} {t : Tok} {v : Value} {Q : Unit → Shared → Prop} (F : Fr h₀ L s.heap m) (N : News h₀ L s.heap news) (U : Upd D (W.listOf vs.toArray n) (W.listOf (vs.set k.toNat v).toArray n) news news') (h0 : 0 ≤ k) (h1 : k < vs.length) (hfit : k < 1000000)
    (h : ∀ h', Fr h₀ L h' m → News h₀ L h' news' → Q () { s with heap := h' }) : wpAny (model prog w) A (setItem (.ref D) (.int k t) v) Q E s := by
  obtain ⟨pre, post, rfl, rfl, a, b⟩ := U.split
  have z := N (D, W.listOf vs.toArray n) (List.mem_append.mpr (.inr (.head _)))
  refine ki_setAt z.1 h0 (by (first | lia | omega)) (by rw [List.size_toArray]; exact h1) (h _ (F.change (Heap.SameBut.update ..) z.2.1 z.2.2) (ki_turn _ N a b ?_ ?_))
  · show vs.toArray.setIfInBounds k.toNat v = (vs.set k.toNat v).toArray
    apply Array.toList_inj.mp
    simp
  · simp
theorem str_itemN {value slice : Expr} {l : Addr} {vs : List Value} {n : Nat} {ss : List Str} {j : Nat} {y : Str} {u : Tok} {Q : Value → Shared → Prop} (N : News h₀ L s.heap news) (hm : (l, W.listOf vs.toArray n) ∈ news) (hS : StrsAre vs ss)
    (h1 : j < ss.length) (hf : j < 1000000) (e : ss.getD j Str.empty = y) (h : ∀ t, Q (.str y t) s)
    (hs : subscripted slice false (.ref l) (.int (j : Int) u) = operate [.ref l, .int (j : Int) u] (getItem (.ref l) (.int (j : Int) u)) := by with_unfolding_all rfl) :
    wpAny (model prog w) A (subscriptTail value slice (.ref l) (.int (j : Int) u)) Q E s :=
  str_item N hm hS (by (first | lia | omega)) (by (first | lia | omega)) (by (first | lia | omega)) (fun t => by rw [Int.toNat_natCast, e]; exact h t) hs
end
theorem HighA.off {new bs : Led} {as : List Addr} {x : Addr} (h : HighA new as) (hx : x ∈ as) (ho : Off x bs) : Off x (new ++ bs) := fun p hp =>
  (List.mem_append.mp hp).elim (fun q => Nat.ne_of_gt (h p q x hx)) (ho p)
theorem offs5 {new bs : Led} {a b c d e : Addr} (h : HighA new [a, b, c, d, e]) (h1 : Off a bs) (h2 : Off b bs) (h3 : Off c bs) (h4 : Off d bs) (h5 : Off e bs) :
    Off a (new ++ bs) ∧ Off b (new ++ bs) ∧ Off c (new ++ bs) ∧ Off d (new ++ bs) ∧ Off e (new ++ bs) :=
  ⟨h.off (by simp) h1, h.off (by simp) h2, h.off (by simp) h3, h.off (by simp) h4, h.off (by simp) h5⟩
theorem StrsAre.set' {vs : List Value} {ss : List Str} (h : StrsAre vs ss) {k : Nat} {x : Str} {t : Tok} : StrsAre (vs.set k (.str x t)) (ss.set k x) := by
  induction h generalizing k with
  | nil => exact .nil
  | cons a u h ih =>
    cases k with
    | zero => exact .cons x t h
    | succ k => exact .cons a u ih
theorem fill_is {x : Str} {l r : Nat} (h1 : l ≤ r) (h2 : r ≤ x.length) : Txt.slice x none (some (l : Int)) ++ Txt.mul (Str.ofString "+") ((r : Int) - (l : Int)) ++ Txt.slice x (some (r : Int)) none = rowFill x l r := by
  have e1 := eq_of_beq (slice_closes_toL (x := x) (j := (l : Int)) (by (first | lia | omega)) (by (first | lia | omega)))
  have e2 := slice_from_eq (x := x) (i := (r : Int)) (b := x.length) (by (first | lia | omega)) (by (first | lia | omega)) rfl
  have hx := len_list x
  refine sx ?_
  rw [app_cps, app_cps, e1, e2, plus_is, mul_one_list]
  show List.take _ (List.drop _ _) ++ _ ++ List.take _ (List.drop _ _) = x.cps.toList.take l ++ List.replicate (r - l) 43 ++ x.cps.toList.drop r
  rw [show ((l : Int) - 0).toNat = l from by (first | lia | omega), show ((r : Int) - (l : Int)).toNat = r - l from by (first | lia | omega), show (r : Int).toNat = r from by (first | lia | omega), show ((x.length : Int) - (r : Int)).toNat = x.length - r from by (first | lia | omega),
    List.take_of_length_le (l := x.cps.toList.drop r) (by rw [List.length_drop]; (first | lia | omega))]
  rfl
section
variable {prog : Program} {w : World} {A : Around} {E : Value → Shared → Prop} {s : Shared} {h₀ : Heap} {L D : Addr} {m : Str → Option Value} {news : Led}
theorem list_setS {vs : List Value} {ss : List Str} {n j : Nat} {y y' : Str} {t u : Tok} {news' : List Value → Led} {Q : Unit → Shared → Prop} (F : Fr h₀ L s.heap m) (N : News h₀ L s.heap news) (hS : StrsAre vs ss) (e : y' = y)
    (U : ∀ vs' : List Value, Upd D (W.listOf vs.toArray n) (W.listOf vs'.toArray n) news (news' vs')) (h1 : j < ss.length) (hfit : j < 1000000)
    (h : ∀ vs' h', StrsAre vs' (ss.set j y) → Fr h₀ L h' m → News h₀ L h' (news' vs') → Q () { s with heap := h' }) : wpAny (model prog w) A (setItem (.ref D) (.int (j : Int) u) (.str y' t)) Q E s := by
  subst e
  refine list_set F N (U _) (by (first | lia | omega)) (by rw [hS.length]; (first | lia | omega)) (by (first | lia | omega)) fun h' F' N' => h _ h' ?_ F' N'
  rw [Int.toNat_natCast]
  exact StrsAre.set' hS
end
end
section
open PySem.Calls
section
variable {prog : Program} {w : World} {A : Around} {E : Value → Shared → Prop} {s : Shared} {h₀ : Heap} {L D : Addr} {m : Str → Option Value} {news news' : Led}
theorem list_len {us : List Value} {c j : Nat} {Q : Value → Shared → Prop} (N : News h₀ L s.heap news) (hm : (D, W.listOf us.toArray c) ∈ news) (e : us.length = j) (hf : j < 1000000) (h : Q (.int (j : Nat) (s.toks + 1)) { s with toks := s.toks + 1 + 1 }) :
    wpAny (model prog w) A (call (.builtin "len") [.ref D]) Q E s := KM.len_K N hm (by rw [List.size_toArray]; exact e) (by (first | lia | omega)) h
end
theorem place_text : ∀ b, b < 10 → ∀ q, q < 10 → Str.ofString (toString ((b : Nat) : Int)) ++ Str.ofString "." ++ Str.ofString (toString ((q : Nat) : Int)) = placeStr b q := by decide +kernel
section
open LCg LCt
variable {prog : Program} {w : World} {A : Around} {E : Value → Shared → Prop} {s : Shared} {h₀ : Heap} {L : Addr} {m : Str → Option Value} {env : Env}
theorem comp_same {elt : Expr} {x : Str} {scope : Scope} {cl : List (Str × Addr)} {S : List (Addr × Obj) → Prop} {P : Nat → Value → Prop} {Fin : List Value → List (Addr × Obj) → Prop} (n : Nat) (Inv : Nat → List Value → Prop) {ys₀ : List Value} {news₀ : List (Addr × Obj)}
    (h0 : Inv 0 ys₀)
    (step : ∀ i v ys I oI C oC D m₂ h tk (E' : Value → Shared → Prop), i < n → P i v → Inv i ys → NsObj oC m₂ → m₂ x = some v → Fr h₀ L h m → News h₀ L h ((I, oI) :: (C, oC) :: (D, lst ys) :: news₀) → Off3 I C D news₀ → ((@Ne Nat I C) ∧ (@Ne Nat I D) ∧ (@Ne Nat C D)) →
      wpAny (model prog w) A (eval elt (compEnvC scope cl C env)) (CompEnd h₀ L m { s with heap := h, toks := tk } I oI C oC D (lst ys) S (fun y news' => news' = news₀ ∧ Inv (i + 1) (ys ++ [y]))) E' { s with heap := h, toks := tk })
    (fin : ∀ ys, Inv n ys → Fin ys news₀) : CompRest prog w A h₀ L m env elt x scope cl s S P Fin n 0 ys₀ news₀ :=
  comp_rest n (fun i ys nw => nw = news₀ ∧ Inv i ys) ⟨rfl, h0⟩ (fun i v ys news I oI C oC D m₂ h tk E' hi hv hI hC hx F N off ne => by
    obtain ⟨rfl, hI⟩ := hI
    exact step i v ys I oI C oC D m₂ h tk E' hi hv hI hC hx F N off ne) (fun ys news hI => by
    obtain ⟨rfl, hI⟩ := hI
    exact fin ys hI)
theorem comp_sameT {ct elt : Expr} {x : Str} {scope : Scope} {cl : List (Str × Addr)} {S : List (Addr × Obj) → Prop} {P : Nat → Value → Prop} {Fin : List Value → List (Addr × Obj) → Prop} (n : Nat) (Inv : Nat → List Value → Prop) {ys₀ : List Value} {news₀ : List (Addr × Obj)}
    (h0 : Inv 0 ys₀)
    (step : ∀ i v ys I oI C oC D m₂ h tk (E' : Value → Shared → Prop), i < n → P i v → Inv i ys → NsObj oC m₂ → m₂ x = some v → Fr h₀ L h m → News h₀ L h ((I, oI) :: (C, oC) :: (D, lst ys) :: news₀) → Off3 I C D news₀ → ((@Ne Nat I C) ∧ (@Ne Nat I D) ∧ (@Ne Nat C D)) →
      wpAny (model prog w) A (isTrue ct (compEnvC scope cl C env) (eval ct (compEnvC scope cl C env))) (fun ok s' => if ok = true then
        wpAny (model prog w) A (eval elt (compEnvC scope cl C env)) (CompEnd h₀ L m { s with heap := h, toks := tk } I oI C oC D (lst ys) S (fun y news' => news' = news₀ ∧ Inv (i + 1) (ys ++ [y]))) E' s'
        else CompEnd h₀ L m { s with heap := h, toks := tk } I oI C oC D (lst ys) S (fun _ news' => news' = news₀ ∧ Inv (i + 1) ys) Value.none s') E' { s with heap := h, toks := tk })
    (fin : ∀ ys, Inv n ys → Fin ys news₀) : CompRestT prog w A h₀ L m env ct elt x scope cl s S P Fin n 0 ys₀ news₀ :=
  comp_restT n (fun i ys nw => nw = news₀ ∧ Inv i ys) ⟨rfl, h0⟩ (fun i v ys news I oI C oC D m₂ h tk E' hi hv hI hC hx F N off ne => by
    obtain ⟨rfl, hI⟩ := hI
    exact step i v ys I oI C oC D m₂ h tk E' hi hv hI hC hx F N off ne) (fun ys news hI => by
    obtain ⟨rfl, hI⟩ := hI
    exact fin ys hI)
theorem cend {I C D : Addr} {oI oC oD : Obj} {S : List (Addr × Obj) → Prop} {rest : Value → List (Addr × Obj) → Prop} {y : Value} {h' : Heap} {tk : Nat} {all news' : List (Addr × Obj)}
    (F : Fr h₀ L h' m) (N : News h₀ L h' all) (off : Off3 I C D news') (sub : ∀ p ∈ (I, oI) :: (C, oC) :: (D, oD) :: news', p ∈ all) (hS : S news') (r : rest y news') :
    CompEnd h₀ L m s I oI C oC D oD S rest y { s with heap := h', toks := tk } := CompEnd.intro F N news' sub off hS r
end
theorem seq_list_iadd : seqSlot? (.type "list") (dunderI "add") = pure (some (.builtin "list.__iadd__")) := PySem.seqSlot_of PySem.F.slot_list_iadd.lookup (by decide +kernel)
theorem noFillI_list : fillsInplaceSlot (.type "list") "add" (Operator.Add == .Add) = pure false := by
  unfold fillsInplaceSlot
  show (typeLookup (.type "list") (dunderI "add") >>= fun fi => pure (fi.isSome && !isSeqSlot fi)) = pure false
  rw [PySem.F.slot_list_iadd.lookup]
  have e : ((some (Value.builtin "list.__iadd__")).isSome && !isSeqSlot (some (Value.builtin "list.__iadd__"))) = false := by decide +kernel
  rw [pure_bind, e]
section
variable {prog : Program} {w : World} {A : Around} {E : Value → Shared → Prop} {s : Shared} {h₀ : Heap} {L l b : Addr} {m : Str → Option Value} {news : Led}
theorem list_iadd {vs ws : List Value} {n n2 : Nat} {news' : Nat → Led} {Q : Value → Shared → Prop} (F : Fr h₀ L s.heap m) (N : News h₀ L s.heap news) (hb : (b, W.listOf ws.toArray n2) ∈ news)
    (U : ∀ k, Upd l (W.listOf vs.toArray n) (W.listOf (vs ++ ws).toArray k) news (news' k)) (hz : vs.length ≤ 10000) (hz2 : ws.length ≤ 10000)
    (h : ∀ k h', Fr h₀ L h' m → News h₀ L h' (news' k) → Q (.ref l) { s with heap := h' }) : wpAny (model prog w) A (inplaceOp .Add (.ref l) (.ref b)) Q E s := by
  obtain ⟨pre, post, e1, e2, a, c⟩ := (U (if (vs.toArray ++ ws.toArray).size == vs.toArray.size then n else n + 1)).split
  have z := N (l, W.listOf vs.toArray n) (by rw [e1]; exact List.mem_append.mpr (.inr (.head _)))
  have zb := N _ hb
  have hl : s.TypeIs (.ref l) "list" := ⟨_, z.1, rfl⟩
  have hl2 : s.TypeIs (.ref b) "list" := ⟨_, zb.1, rfl⟩
  unfold inplaceOp
  refine wpAny_holding ?_
  refine wpAny_bind (wpAny_typeOf hl (wpAny_bind (wpAny_of_eq noFillI_list ?_)))
  show wpAny _ A (if false = true then _ else _) Q E s
  rw [if_neg Bool.false_ne_true]
  refine wpAny_bind (wpAny_binaryOp1_none (nm := "add") hl hl2 noFill_list_add ?_)
  refine wpAny_bind (wpAny_of_eq seq_list_iadd ?_)
  refine wpAny_bind (wpAny_rule ?_)
  have hnl : ¬(!vs.toArray.isEmpty && Builtin.List.listTooLong (vs.toArray.size + ws.toArray.size)) = true := by
    unfold Builtin.List.listTooLong
    rw [List.size_toArray, List.size_toArray, sizeLine_eq]
    simp only [Bool.and_eq_true, decide_eq_true_eq, not_and]
    intro _; (first | lia | omega)
  refine call_meets PySem.F.slot_list_iadd hl PySem.F.entry_list_iadd (PySem.F.args_list_iadd_2 _ _) (PySem.AutoSeq1.list___iadd___list_list_0 l vs.toArray n b ws.toArray n2 hnl (by rw [List.size_toArray, sizeLine_eq]; (first | lia | omega)) (by rw [List.size_toArray, List.size_toArray, sizeLine_eq]; (first | lia | omega))) ⟨z.1, zb.1, ?_⟩
  refine h (if (vs.toArray ++ ws.toArray).size == vs.toArray.size then n else n + 1) _ (F.change (Heap.SameBut.update ..) z.2.1 z.2.2) ?_
  rw [e2]
  rw [e1] at N
  refine ki_turn (its' := (vs ++ ws).toArray) (fun x => x ++ ws.toArray) N a c (by simp) ?_
  simp
end
theorem range_size {l r : Nat} (h : l ≤ r) : Builtin.Range.rangeSize (l : Int) (r : Int) 1 = ((r - l : Nat) : Int) := by
  unfold Builtin.Range.rangeSize
  rw [if_pos (by decide)]
  split <;> (try rw [Int.ediv_one]) <;> (first | lia | omega)
theorem spots_step {rows : List Str} {b l k : Nat} : ((List.range' l (k + 1)).filter (fun q => cell rows b q == 46)).map (fun q => pStr (b, q)) = ((List.range' l k).filter (fun q => cell rows b q == 46)).map (fun q => pStr (b, q)) ++ (if cell rows b (l + k) = 46 then [pStr (b, l + k)] else []) := by
  rw [List.range'_concat, List.filter_append, List.map_append]
  congr 1
  rw [Nat.one_mul]
  by_cases h : cell rows b (l + k) = 46
  · rw [if_pos h, List.filter_cons_of_pos (by simpa using h)]; rfl
  · rw [if_neg h, List.filter_cons_of_neg (by simpa using h)]; rfl
theorem spots_map {rows : List Str} {b l r : Nat} : (spots rows b l r).map pStr = ((List.range' l (r - l)).filter (fun q => cell rows b q == 46)).map (fun q => pStr (b, q)) := by
  unfold spots; rw [List.map_map]; rfl
theorem spots_yes {vs : List Value} {rows : List Str} {b l k : Nat} {t : Tok} (h : StrsAre vs (((List.range' l k).filter (fun q => cell rows b q == 46)).map fun q => pStr (b, q))) (hc : cell rows b (l + k) = 46) (hb : b < 10) (hq : l + k < 10) :
    StrsAre (vs ++ [.str (Str.ofString (toString ((b : Nat) : Int)) ++ Str.ofString "." ++ Str.ofString (toString ((l + k : Nat) : Int))) t]) (((List.range' l (k + 1)).filter (fun q => cell rows b q == 46)).map fun q => pStr (b, q)) := by
  rw [spots_step, if_pos hc, place_text b hb _ hq]
  exact h.append' (.cons _ t .nil)
theorem spots_no {vs : List Value} {rows : List Str} {b l k : Nat} (h : StrsAre vs (((List.range' l k).filter (fun q => cell rows b q == 46)).map fun q => pStr (b, q))) (hc : cell rows b (l + k) ≠ 46) :
    StrsAre vs (((List.range' l (k + 1)).filter (fun q => cell rows b q == 46)).map fun q => pStr (b, q)) := by
  rw [spots_step, if_neg hc, List.append_nil]
  exact h
theorem Off.app3 {x : Addr} {a b c : Led} (h : ∀ q ∈ a, @LT.lt Nat _ x q.1) (h2 : Off x (b ++ c)) : Off x ((a ++ b) ++ c) := fun p hp => by
  rw [List.append_assoc] at hp
  rcases List.mem_append.mp hp with hp | hp
  · exact Nat.ne_of_gt (h p hp)
  · exact h2 p hp
end
section
open PySem.Calls
section
variable {prog : Program} {w : World} {A : Around} {E : Value → Shared → Prop} {s : Shared} {h₀ : Heap} {L D : Addr} {m : Str → Option Value} {news news' : Led}
theorem list_last {value slice : Expr} {vs : List Value} {v : Value} {n : Nat} {u : Tok} {Q : Value → Shared → Prop} (N : News h₀ L s.heap news) (hm : (D, W.listOf (vs ++ [v]).toArray n) ∈ news) (h : Q v s)
    (hs : subscripted slice false (.ref D) (.int (-1) u) = operate [.ref D, .int (-1) u] (getItem (.ref D) (.int (-1) u)) := by with_unfolding_all rfl) :
    wpAny (model prog w) A (subscriptTail value slice (.ref D) (.int (-1) u)) Q E s := by
  have hl := News.isList N hm
  refine tail_any hl.typeIs slot_list_getitem.lookup (wpAny_getItem_list_neg hl (by decide) ?_ (by decide) ?_ h) hs
  · rw [List.size_toArray, List.length_append, List.length_singleton]; (first | lia | omega)
  · rw [List.size_toArray, List.length_append, List.length_singleton, show (-1 + ((vs.length + 1 : Nat) : Int)).toNat = vs.length from by (first | lia | omega)]
    simp
theorem list_setLast {vs : List Value} {v v' : Value} {n : Nat} {u : Tok} {Q : Unit → Shared → Prop} (F : Fr h₀ L s.heap m) (N : News h₀ L s.heap news) (U : Upd D (W.listOf (vs ++ [v]).toArray n) (W.listOf (vs ++ [v']).toArray n) news news')
    (h : ∀ h', Fr h₀ L h' m → News h₀ L h' news' → Q () { s with heap := h' }) : wpAny (model prog w) A (setItem (.ref D) (.int (-1) u) v') Q E s := by
  obtain ⟨pre, post, rfl, rfl, a, b⟩ := U.split
  have z := N (D, W.listOf (vs ++ [v]).toArray n) (List.mem_append.mpr (.inr (.head _)))
  refine ki_setBack z.1 (by decide) (by rw [List.size_toArray, List.length_append, List.length_singleton]; (first | lia | omega)) (by decide) (h _ (F.change (Heap.SameBut.update ..) z.2.1 z.2.2) (ki_turn _ N a b ?_ ?_))
  · show (vs ++ [v]).toArray.setIfInBounds _ v' = (vs ++ [v']).toArray
    rw [List.size_toArray, List.length_append, List.length_singleton, show (-1 + ((vs.length + 1 : Nat) : Int)).toNat = vs.length from by (first | lia | omega)]
    apply Array.toList_inj.mp
    simp
  · simp
end
theorem RunsAre.last {l : Led} : ∀ {vs : List Value} {R' : List Run} {r : Run}, RunsAre l vs (R' ++ [r]) → ∃ vs' T ta tb tc, vs = vs' ++ [.ref T] ∧ RunsAre l vs' R' ∧ (T, tup3 (.int r.1 ta) (.int r.2.1 tb) (.int r.2.2 tc)) ∈ l
  | [v], [], r, ⟨⟨T, ta, tb, tc, e, m⟩, _⟩ => ⟨[], T, ta, tb, tc, by rw [e]; rfl, trivial, m⟩
  | v :: v2 :: vs, [], r, ⟨_, h⟩ => h.elim
  | [v], a :: R', r, ⟨_, h⟩ => by
    cases R' with
    | nil => exact h.elim
    | cons b R => exact h.elim
  | v :: v2 :: vs, a :: R', r, ⟨h1, h2⟩ => by
    obtain ⟨vs', T, ta, tb, tc, e, h3, m⟩ := RunsAre.last h2
    exact ⟨v :: vs', T, ta, tb, tc, by rw [e]; rfl, ⟨h1, h3⟩, m⟩
  | [], [], r, h => h.elim
  | [], a :: R', r, h => h.elim
theorem pstr_sum : ∀ ps : List Pl, ((ps.map pStr).map (·.length)).sum = 3 * ps.length
  | [] => rfl
  | p :: r => by
    rw [List.map_cons, List.map_cons, List.sum_cons, pstr_sum r, List.length_cons, pStr_len]; (first | lia | omega)
theorem sep_len : (Str.ofString "\n \n").length = 3 := by decide +kernel
theorem join_b1 (ps : List Pl) (h : ps.length ≤ 2000) : ((ps.map pStr).map (·.length)).sum + (ps.map pStr).length * (Str.ofString "\n \n").length ≤ 16777216 := by
  rw [pstr_sum, List.length_map, sep_len]; (first | lia | omega)
theorem join_b2 (ps : List Pl) (x : Str) (h : ps.length ≤ 2000) (hx : x.length ≤ 20000) : ((ps.map pStr ++ [x]).map (·.length)).sum + (ps.map pStr ++ [x]).length * (Str.ofString "\n \n").length ≤ 16777216 := by
  rw [List.map_append, List.sum_append, pstr_sum, List.length_append, List.length_map, sep_len]
  simp only [List.map_cons, List.map_nil, List.sum_cons, List.sum_nil, List.length_singleton]
  (first | lia | omega)
theorem RunsAre.length {l : Led} : ∀ {vs : List Value} {rs : List Run}, RunsAre l vs rs → vs.length = rs.length
  | [], [], _ => rfl
  | _ :: _, _ :: _, ⟨_, h⟩ => by rw [List.length_cons, List.length_cons, RunsAre.length h]
/-- what _law_filled hands back -/
def FilledPost (page : List Str) (st : Pl) (rest : Led) (r : Value) (news' : Led) : Prop :=
  ∃ T rA rv rn uA uv un rows runs more p44 p51, r = .ref T ∧ news' = (T, tup2 (.ref rA) (.ref uA)) :: (rA, W.listOf rv.toArray rn) :: (uA, W.listOf uv.toArray un) :: more ∧ Sub rest more ∧ StrsAre rv rows ∧ RunsAre more uv runs ∧ Inv page st rows runs [] ∧ (44, tabObj p44) ∈ more ∧ (51, tabObj p51) ∈ more
end
section
theorem nx_fits {nx : Str} {n : Nat} (h : nx.length = 6 * n + 3) (hn : n ≤ 400) : nx.length < 9000 ∧ (Str.ofString "\n ").length + nx.length ≤ 16777216 ∧ (Str.ofString "\n " ++ nx).length + (Str.ofString " \n").length ≤ 16777216 ∧ (Str.ofString "\n " ++ nx ++ Str.ofString " \n").length < 10000 := by
  rw [Str.length_append (Str.ofString "\n " ++ nx), Str.length_append (Str.ofString "\n "), show (Str.ofString "\n ").length = 2 from by decide +kernel, show (Str.ofString " \n").length = 2 from by decide +kernel]
  omega
theorem nx2_fits {nx : Str} {n : Nat} (h : nx.length ≤ 6 * n) (hn : n ≤ 400) : nx.length < 10000 := by omega
theorem row_cat {row : Str} {l r : Nat} (six : row.length = 6) (lr : l ≤ r) (r6 : r ≤ 6) :
    (Txt.slice row none (some (l : Int))).length + (Txt.mul (Str.ofString "+") ((r : Int) - (l : Int))).length ≤ 16777216 ∧
    (Txt.slice row none (some (l : Int)) ++ Txt.mul (Str.ofString "+") ((r : Int) - (l : Int))).length + (Txt.slice row (some (r : Int)) none).length ≤ 16777216 ∧
    -2 ^ 63 ≤ (r : Int) - (l : Int) ∧ (r : Int) - (l : Int) ≤ ((1048576 : Nat) : Int) := by
  have e := congrArg Str.length (fill_is (x := row) lr (six ▸ r6))
  rw [fill_len lr (six ▸ r6), six, Str.length_append, Str.length_append] at e
  rw [Str.length_append]
  omega
def besN (rows : List Str) (a l r : Nat) : Nat → List Pl
  | 0 => []
  | 1 => if 0 < a then spots rows (a - 1) l r else []
  | _ => besides rows a l r
def besB (rows : List Str) (b : Int) (l r : Nat) : List Pl := if 0 ≤ b ∧ b < 4 then spots rows b.toNat l r else []
theorem bes_step {rows : List Str} {a l r i : Nat} {v : Value} {t1 t2 : Tok} (hv : [Value.int ((a : Int) - 1) t1, .int ((a : Int) + 1) t2][i]? = some v) (ha : a < 4) :
    ∃ b t, v = .int b t ∧ besN rows a l r (i + 1) = besN rows a l r i ++ besB rows b l r := by
  match i, hv with
  | 0, hv =>
    refine ⟨_, _, (Option.some.inj hv).symm, ?_⟩
    show (if 0 < a then spots rows (a - 1) l r else []) = besB rows ((a : Int) - 1) l r
    unfold besB
    rcases Nat.eq_zero_or_pos a with e | e
    · rw [if_neg (by omega), if_neg (by omega)]
    · rw [if_pos e, if_pos (by omega), show ((a : Int) - 1).toNat = a - 1 from by omega]
  | 1, hv =>
    refine ⟨_, _, (Option.some.inj hv).symm, ?_⟩
    unfold besB
    show besides rows a l r = (if 0 < a then spots rows (a - 1) l r else []) ++ _
    unfold besides
    congr 1
    rcases Nat.lt_or_ge (a + 1) 4 with e | e
    · rw [if_pos e, if_pos (by omega), show ((a : Int) + 1).toNat = a + 1 from by omega]
    · rw [if_neg (Nat.not_lt.mpr e), if_neg (by omega)]
  | _ + 2, hv => simp at hv
theorem bes_elim {P : Value → Prop} {rows : List Str} {a l r i : Nat} {v : Value} {t1 t2 : Tok} (hv : [Value.int ((a : Int) - 1) t1, .int ((a : Int) + 1) t2][i]? = some v) (ha : a < 4)
    (k : ∀ b t, besN rows a l r (i + 1) = besN rows a l r i ++ besB rows b l r → P (.int b t)) : P v := by
  obtain ⟨b, t, rfl, e⟩ := bes_step (rows := rows) (l := l) (r := r) hv ha
  exact k b t e
theorem bes_len {rows : List Str} {a l r i : Nat} (h : r ≤ 6) : (besN rows a l r i).length ≤ 12 := by
  have h1 := spots_len rows (a - 1) l r
  have h2 := spots_len rows (a + 1) l r
  have key : (besides rows a l r).length ≤ 12 := by
    unfold besides
    rw [List.length_append]
    split <;> split <;> (try rw [List.length_nil]) <;> omega
  match i with
  | 0 => exact Nat.zero_le _
  | 1 =>
    show (if 0 < a then spots rows (a - 1) l r else []).length ≤ 12
    split
    · omega
    · exact Nat.zero_le _
  | _ + 2 => exact key
theorem bes_out {rows : List Str} {b : Int} {l r : Nat} {x : List Pl} (h : b < 0 ∨ 4 ≤ b) : x ++ besB rows b l r = x := by
  unfold besB
  rw [if_neg (by omega), List.append_nil]
theorem bes_in {rows : List Str} {n l r : Nat} (h : n < 4) : besB rows (n : Int) l r = spots rows n l r := by
  unfold besB
  rw [if_pos (by omega), Int.toNat_natCast]
theorem small_in {l r : Nat} (h : l ≤ r) (h6 : r ≤ 6) : Builtin.Range.small (l : Int) (r : Int) 1 = true := small_one (by omega) (by omega) (by omega) (by omega)
end
section
open PySem.Calls PyProof.V PySem.Spec
open LCg
theorem relabel_cell {env : Env} : ∀ {names : List (Str × NameKind)} {x : Str}, names.lookup x = some .cell →
    (names.map fun (n, k) => if (k == NameKind.free && env.scope.kind == .function && env.kindOf n == some .cell) then (n, NameKind.cell) else (n, k)).lookup x = some .cell
  | [], _, h => by simp at h
  | (n, k) :: r, x, h => by
    have ih := @relabel_cell env r x
    show List.lookup x ((if (k == NameKind.free && env.scope.kind == .function && env.kindOf n == some .cell) = true then (n, NameKind.cell) else (n, k)) :: _) = _
    cases hx : x == n with
    | true =>
      simp only [List.lookup_cons, hx] at h
      cases h
      simp [List.lookup_cons, hx]
    | false =>
      simp only [List.lookup_cons, hx] at h
      by_cases hc : (k == NameKind.free && env.scope.kind == .function && env.kindOf n == some .cell) = true
      · rw [if_pos hc]; simp only [List.lookup_cons, hx]; exact ih h
      · rw [if_neg hc]; simp only [List.lookup_cons, hx]; exact ih h
abbrev cellNew : Obj := { cls := .type "cell", data := .cell none }
abbrev dictNew : Obj := { cls := .type "dict", data := .dict #[] }
section
variable {prog : Program} {w : World} {A : Around} {E : Value → Shared → Prop} {s : Shared} {h₀ : Heap} {L : Addr} {m : Str → Option Value} {env : Env}
theorem newEnv_one {M : Model} {scope : Scope} {x qual : Str} {globals : Addr} {cl : List (Str × Addr)} {Q : Env → Shared → Prop} (hcf : ∀ n, cellsFrom n scope.names cl = (x, n) :: cl) (hpc : ∀ h, pushCells h scope.names = h.push cellNew)
    (hQ : Q (newEnv scope s.heap.objs.size globals ((x, s.heap.objs.size + 1) :: cl) qual none .none (some env) builtinsNs) { s with heap := (s.heap.push dictNew).push cellNew }) :
    wpAny M A (newFunctionEnv scope globals cl [] qual none .none (some env)) Q E s := by
  simp only [newFunctionEnv, Option.isSome_some, if_true]
  refine wpAny_bind (wpAny_alloc ?_)
  refine wpAny_bind (wpAny_layCells _ (fun name kind cells => by cases hkc : kind == NameKind.cell <;> simp [hkc]) _ _ _ _ ?_)
  rw [show ({ s with heap := s.heap.push { cls := .type "dict", data := .dict #[] } } : Shared).heap.objs.size = s.heap.objs.size + 1 from Heap.size_push .., hcf, hpc]
  rw [List.forIn_nil]
  exact wpAny_bind (wpAny_pure (wpAny_pure hQ))
theorem compLoop_J {elt target iter : Expr} {ifs : List Expr} {scope : Scope} {pos : Pos} {it acc : Value} {env : Env} {R : Result → Shared → Prop} (I : Nat → Shared → Prop)
    (turn : ∀ n s (J RN : Shared → Prop) (EE : Value → Shared → Prop), I n s → (∀ m s', m < n → I m s' → J s') → (∀ s', R (.ok .next) s' → RN s') → wpAny (model prog w) A (pyNext it) (fun r s₁ => match r with
      | none => RN s₁
      | some v => wpAny (model prog w) A (assign target env v) (fun _ s₂ =>
          wpAny (model prog w) A (forIn ifs true fun c r => if r = true then do let ok ← isTrue c env (eval c env); pure (ForInStep.yield ok) else pure (ForInStep.yield r)) (fun ok s₃ =>
            if ok = true then wpAny (model prog w) A (eval elt env) (fun x s₄ =>
              wpAny (model prog w) A (call (.builtin "list.append") [acc, x]) (fun _ s₅ => J s₅) EE s₄) EE s₃
            else J s₃) EE s₂) EE s₁) EE s)
    (n : Nat) (h : I n s) (ht : ∀ v, letOwnedTupleGo target it v = pure () := by intro _; rfl) :
    codeAny (model prog w) A (.compLoop (.ListComp elt [⟨target, iter, ifs, 0⟩] scope pos) 0 it acc env) R s :=
  codeAny_compLoop_tests I (fun n s hI => turn n s (fun s' => ∃ m, m < n ∧ I m s') (fun s' => R (.ok .next) s') _ hI (fun m _ q1 q2 => ⟨m, q1, q2⟩) fun _ q => q) n h ht
/-- the block of a comprehension whose variable is a cell, over any walk -/
theorem block_W {elt iter : Expr} {x : Str} {px : Pos} {scope : Scope} {cl : List (Str × Addr)} {pos : Pos} {s₂ : Shared} {I : Addr} {n : Nat} {fp : List Addr} {PV : Nat → Value → Prop} {St : Nat → Heap → Prop} {news : Led} {Inv : Nat → List Value → Prop} {RR : Value → Addr → Result → Shared → Prop}
    (W : Walks prog w A I fp [I] n PV St) (hfp : ∀ b ∈ fp, @LT.lt Nat _ b s₂.heap.objs.size) (hSI : ∀ i h, St i h → ∃ o, h.get? I = some o) (hSt : ∀ i h h' o, St i h → h.get? I = some o → h'.get? I = some o → News h₀ L h' news → St i h')
    (hsz : n ≤ sizeLine) (hcf : ∀ n, cellsFrom n scope.names cl = (x, n) :: cl) (hpc : ∀ h, pushCells h scope.names = h.push cellNew) (hkind : scope.kind = .function) (hx : scope.names.lookup x = some .cell)
    (hst : St 0 s₂.heap) (F : Fr h₀ L s₂.heap m) (N : News h₀ L s₂.heap news) (hIL : L ≠ I) (hI₀ : h₀.get? I = none) (off : ∀ p ∈ news, p.1 ≠ I) (h0 : Inv 0 [])
    (step : ∀ i ys oI C oC D c oc h tk (E' : Value → Shared → Prop), i < n → Inv i ys → (∃ v, PV i v ∧ oc.data = .cell (some v)) → Fr h₀ L h m → News h₀ L h ((I, oI) :: (C, oC) :: (D, lst ys) :: (c, oc) :: news) → Low news D → (@LT.lt Nat _ I D ∧ @LT.lt Nat _ D C ∧ @LT.lt Nat _ C c) →
      wpAny (model prog w) A (eval elt (compEnvC scope ((x, c) :: cl) C env)) (fun y s₄ => ∃ h' tk', s₄ = { s₂ with heap := h', toks := tk' } ∧ Fr h₀ L h' m ∧ News h₀ L h' ((I, oI) :: (C, oC) :: (D, lst ys) :: (c, oc) :: news) ∧ Inv (i + 1) (ys ++ [y])) E' { s₂ with heap := h, toks := tk })
    (hRR : ∀ D C h tk m' ys, Inv n ys → Fr h₀ L h m → News h₀ L h ((D, lst ys) :: news) → Low news D → h.Ns C m' → h₀.get? C = none → C ≠ L → C ≠ D → (∀ p ∈ news, p.1 ≠ C) → RR (.ref D) C (.ok .next) { s₂ with heap := h, toks := tk }) :
    wpAny (model prog w) A (newList []) (fun acc s₃ => wpAny (model prog w) A (newFunctionEnv scope env.globals cl [] env.qual none .none (some env)) (fun cenv s₄ =>
      codeAny (model prog w) A (.compStart (.ListComp elt [⟨.Name x px, iter, [], 0⟩] scope pos) 0 (.ref I) acc { cenv with scope := relabel scope env }) (RR acc cenv.locals) s₄) E s₃) E s₂ := by
  refine wpAny_newObj_type (newEnv_one hcf hpc ?_)
  dsimp only
  generalize hH2 : s₂.heap.push { cls := .type "list", dict := none, data := .seq ([] : List Value).toArray } = H2
  have hC : H2.objs.size = s₂.heap.objs.size + 1 := by rw [← hH2, Heap.size_push]
  generalize hh1 : (H2.push dictNew).push cellNew = h₁
  generalize hDd : s₂.heap.objs.size = D at *
  generalize hCd : H2.objs.size = C at *
  generalize hcd : C + 1 = c
  have hDC : @LT.lt Nat _ D C := ltN (by (first | lia | omega))
  have hCc : @LT.lt Nat _ C c := ltN (by (first | lia | omega))
  have hHs : (H2.push dictNew).objs.size = c := by rw [Heap.size_push, hCd, hcd]
  have upH : ∀ b o, s₂.heap.get? b = some o → H2.get? b = some o := fun b o e => hH2 ▸ Heap.get?_push_of_some _ e
  have up1 : ∀ b o, H2.get? b = some o → h₁.get? b = some o := fun b o e => hh1 ▸ Heap.get?_push_of_some _ (Heap.get?_push_of_some _ e)
  have old : ∀ b o, s₂.heap.get? b = some o → h₁.get? b = some o := fun b o e => up1 b o (upH b o e)
  have hacc : h₁.get? D = some (lst []) := up1 _ _ (by rw [← hH2, ← hDd]; exact Heap.get?_push_size _ rfl)
  have hns₁ : h₁.Ns C (fun _ => none) := by
    rw [← hh1, ← hCd]
    exact (Heap.Ns.new H2 (.type "dict")).keeps fun b o e => Heap.get?_push_of_some _ e
  have hcell₁ : h₁.get? c = some cellNew := by rw [← hh1, ← hHs]; exact Heap.get?_push_size _ rfl
  have hIlt : @LT.lt Nat _ I D := by
    obtain ⟨_, e⟩ := hSI _ _ hst
    rw [← hDd]; exact Heap.lt_size e
  have hlow : Low news D := fun p hp => by rw [← hDd]; exact Heap.lt_size (N p hp).1
  have fresh₀ : ∀ b : Addr, @LE.le Nat _ D b → h₀.get? b = none := fun b hb => by
    cases e : h₀.get? b with
    | none => rfl
    | some o' => exact absurd (Heap.lt_size (F.keep b o' e)) (by rw [hDd]; exact Nat.not_lt.mpr hb)
  have hD₀ : h₀.get? D = none := fresh₀ _ (Nat.le_refl _)
  have hC₀ : h₀.get? C = none := fresh₀ _ (Nat.le_of_lt hDC)
  have hc₀ : h₀.get? c = none := fresh₀ _ (Nat.le_of_lt (Nat.lt_trans hDC hCc))
  have hLlt : @LT.lt Nat _ L D := by rw [← hDd]; exact F.ns.lt
  have hDL : D ≠ L := Nat.ne_of_gt hLlt
  have hCL : C ≠ L := Nat.ne_of_gt (Nat.lt_trans hLlt hDC)
  have hcL : c ≠ L := Nat.ne_of_gt (Nat.lt_trans hLlt (Nat.lt_trans hDC hCc))
  have hDI : D ≠ I := Nat.ne_of_gt hIlt
  have hCI : C ≠ I := Nat.ne_of_gt (Nat.lt_trans hIlt hDC)
  have hcI : c ≠ I := Nat.ne_of_gt (Nat.lt_trans hIlt (Nat.lt_trans hDC hCc))
  have hCD : C ≠ D := Nat.ne_of_gt hDC
  have hcC : c ≠ C := Nat.ne_of_gt hCc
  have hcD : c ≠ D := Nat.ne_of_gt (Nat.lt_trans hDC hCc)
  have offC : ∀ p ∈ news, p.1 ≠ C := fun p hp => Nat.ne_of_lt (Nat.lt_trans (hlow p hp) hDC)
  have offc : ∀ p ∈ news, p.1 ≠ c := fun p hp => Nat.ne_of_lt (Nat.lt_trans (hlow p hp) (Nat.lt_trans hDC hCc))
  have offD : ∀ p ∈ news, p.1 ≠ D := fun p hp => Nat.ne_of_lt (hlow p hp)
  have hst₁ : St 0 h₁ := W.frame _ _ _ hst fun b _ o e => old b o e
  have loop : codeAny (model prog w) A (.compLoop (.ListComp elt [⟨.Name x px, iter, [], 0⟩] scope pos) 0 (.ref I) (.ref D) (compEnvC scope ((x, c) :: cl) C env)) (RR (.ref D) C) { s₂ with heap := h₁ } := by
    refine compLoop_J
      (fun k s' => ∃ h' tk i ys m' oc v0, s' = { s₂ with heap := h', toks := tk } ∧ i ≤ n ∧ k = n + 1 - i ∧ ys.length = i ∧ St i h' ∧ Fr h₀ L h' m ∧ h'.Ns C m' ∧ h'.get? c = some oc ∧ oc.data = .cell v0 ∧ News h₀ L h' ((D, lst ys) :: news) ∧ Inv i ys) ?_ (n + 1)
      ⟨h₁, s₂.toks, 0, [], _, cellNew, none, rfl, Nat.zero_le _, rfl, rfl, hst₁, F.keeps old, hns₁, hcell₁, rfl, fun p hp => ?_, h0⟩
    · rintro k s' J RN EE ⟨h', tk, i, ys, m', oc, v0, rfl, hi, rfl, hyl, hst', F', hn', hoc, hod, N', hI⟩ hJ hRN
      by_cases hlt : i < n
      · refine W.item i _ _ _ hlt hst' fun v h₂ tk₂ hPv hst₂ hk₂ => ?_
        have hoc₂ : h₂.get? c = some oc := hk₂ _ _ (by simpa using hcI) hoc
        refine wpAny_assign_Name (wpAny_storeName_cell (env := compEnvC scope ((x, c) :: cl) C env) (v₀ := v0) (by simp [compEnvC, relabel, hkind]) (relabel_cell hx) (by simp [compEnvC, List.lookup_cons]) ⟨oc, hoc₂, hod⟩ (fun h₃ hcv hs₃ => ?_))
        obtain ⟨oc₃, hoc₃, hod₃⟩ := hcv
        refine wpAny_tests_nil ?_
        simp only [if_true]
        have hn₃ : h₃.Ns C m' := (hn'.at' fun o e => hk₂ _ o (by simpa using hCI) e).sameBut hs₃ (Ne.symm hcC)
        obtain ⟨oC, heC, hoC⟩ := ns_obj hn₃
        have hst₃ : St (i + 1) h₃ := W.frame _ _ _ hst₂ fun b hb o e => hs₃.extBut b o (fun q => Nat.ne_of_lt (Nat.lt_trans (hDd ▸ hfp b hb) (Nat.lt_trans hDC hCc)) q) e
        obtain ⟨oI, heI⟩ : ∃ o, h₃.get? I = some o := hSI _ _ hst₃
        have F₃ : Fr h₀ L h₃ m := (fr_but F' hk₂ hIL hI₀).change hs₃ hcL hc₀
        have N₂ : News h₀ L h₂ ((D, lst ys) :: news) := news_but N' hk₂ fun p hp => by
          rcases List.mem_cons.mp hp with rfl | hp
          · exact hDI
          · exact off p hp
        have N₃ : News h₀ L h₃ ((I, oI) :: (C, oC) :: (D, lst ys) :: (c, oc₃) :: news) := fun p hp => by
          rcases List.mem_cons.mp hp with rfl | hp
          · exact ⟨heI, Ne.symm hIL, hI₀⟩
          rcases List.mem_cons.mp hp with rfl | hp
          · exact ⟨heC, hCL, hC₀⟩
          rcases List.mem_cons.mp hp with rfl | hp
          · have z := N₂ _ (.head _)
            exact ⟨hs₃.extBut _ _ (Ne.symm hcD) z.1, z.2⟩
          rcases List.mem_cons.mp hp with rfl | hp
          · exact ⟨hoc₃, hcL, hc₀⟩
          · have z := N₂ p (.tail _ hp)
            exact ⟨hs₃.extBut _ _ (offc p hp) z.1, z.2⟩
        refine wpAny_mono (step i ys oI C oC D c oc₃ h₃ _ _ hlt hI ⟨v, hPv, hod₃⟩ F₃ N₃ hlow ⟨hIlt, hDC, hCc⟩) (fun y s₄ h₄ => ?_) fun _ _ e => e
        obtain ⟨h₄, tk₄, rfl, F₄, N₄, hI₄⟩ := h₄
        have zI := (N₄ (I, oI) (.head _)).1
        have zC := (N₄ (C, oC) (.tail _ (.head _))).1
        have zD := (N₄ (D, lst ys) (.tail _ (.tail _ (.head _)))).1
        have zc := (N₄ (c, oc₃) (.tail _ (.tail _ (.tail _ (.head _))))).1
        have hst₄ : St (i + 1) h₄ := hSt _ _ _ _ hst₃ heI zI fun p hp => N₄ p (.tail _ (.tail _ (.tail _ (.tail _ hp))))
        refine append_at (hsz := by show ys.toArray.size ≤ sizeLine; rw [List.size_toArray, hyl]; exact Nat.le_trans hi hsz) zD fun h₅ hs₅ hD₅ => ?_
        refine hJ (n + 1 - (i + 1)) _ (by (first | lia | omega)) ⟨h₅, tk₄, i + 1, ys ++ [y], _, oc₃, _, rfl, hlt, rfl, by rw [List.length_append, List.length_singleton, hyl], W.frame _ _ _ hst₄ fun b hb o e => hs₅.extBut b o (fun q => Nat.ne_of_lt (hDd ▸ hfp b hb) q) e, F₄.change hs₅ hDL hD₀,
          (hoC.ns zC).sameBut hs₅ hCD, hs₅.extBut _ _ hcD zc, hod₃, fun p hp => ?_, hI₄⟩
        rcases List.mem_cons.mp hp with rfl | hp
        · exact ⟨hD₅.trans (congrArg some (lst_snoc ys y)), hDL, hD₀⟩
        · have z := N₄ p (.tail _ (.tail _ (.tail _ (.tail _ hp))))
          exact ⟨hs₅.extBut _ _ (offD p hp) z.1, z.2⟩
      · obtain rfl : i = n := Nat.le_antisymm hi (Nat.not_lt.mp hlt)
        refine W.done _ _ _ hst' fun h₂ tk₂ hk₂ => ?_
        exact hRN _ <| hRR _ _ h₂ tk₂ _ ys hI (fr_but F' hk₂ hIL hI₀) (news_but N' hk₂ fun p hp => by
          rcases List.mem_cons.mp hp with rfl | hp
          · exact hDI
          · exact off p hp) hlow (hn'.at' fun o e => hk₂ _ o (by simpa using hCI) e) hC₀ hCL hCD offC
    · rcases List.mem_cons.mp hp with rfl | hp
      · exact ⟨hacc, hDL, hD₀⟩
      · exact ⟨old _ _ (N p hp).1, (N p hp).2⟩
  exact codeAny_compStart_list loop (W.self 0 _ _ _ hst₁ loop)
def StepC (h₀ : Heap) (L : Addr) (m : Str → Option Value) (s₁ : Shared) (led : Led) (P : Prop) (s₄ : Shared) : Prop := ∃ h' tk', s₄ = { s₁ with heap := h', toks := tk' } ∧ Fr h₀ L h' m ∧ News h₀ L h' led ∧ P
theorem stepC {h₀ : Heap} {L : Addr} {m : Str → Option Value} {s₁ : Shared} {led : Led} {P : Prop} {h' : Heap} {tk' : Nat} (F : Fr h₀ L h' m) (N : News h₀ L h' led) (p : P) : StepC h₀ L m s₁ led P { s₁ with heap := h', toks := tk' } := ⟨_, _, rfl, F, N, p⟩
inductive CompSrcC (prog : Program) (w : World) (A : Around) (h₀ : Heap) (L : Addr) (m : Str → Option Value) (env : Env) (elt : Expr) (x : Str) (scope : Scope) (cl : List (Str × Addr)) (Q : Value → Shared → Prop) (xv : Value) (s₁ : Shared) : Prop
  | intro (r : Addr) (a b : Int) (t u v : Tok) (n : Nat) (news : Led) (Inv : Nat → List Value → Prop) (x0 : xv = .ref r) (x1 : A.handled = none) (x2 : Fr h₀ L s₁.heap m) (x3 : News h₀ L s₁.heap news) (x4 : IsRange s₁.heap r a b 1 t u v) (x5 : Builtin.Range.small a b 1 = true) (x6 : Builtin.Range.rangeSize a b 1 = ((n : Nat) : Int)) (x7 : n ≤ sizeLine) (x8 : Inv 0 []) (x9 : (∀ i ys oI C oC D c oc h tk t (E' : Value → Shared → Prop) I, i < n → Inv i ys → oc.data = .cell (some (.int (a + (i : Int)) t)) → Fr h₀ L h m → News h₀ L h ((I, oI) :: (C, oC) :: (D, lst ys) :: (c, oc) :: news) → Low news D → (@LT.lt Nat _ I D ∧ @LT.lt Nat _ D C ∧ @LT.lt Nat _ C c) →
      wpAny (model prog w) A (eval elt (compEnvC scope ((x, c) :: cl) C env)) (fun y s₄ => StepC h₀ L m s₁ ((I, oI) :: (C, oC) :: (D, lst ys) :: (c, oc) :: news) (Inv (i + 1) (ys ++ [y])) s₄) E' { s₁ with heap := h, toks := tk })) (x10 : ∀ D h tk ys, Inv n ys → Fr h₀ L h m → News h₀ L h ((D, lst ys) :: news) → Low news D → Q (.ref D) { s₁ with heap := h, toks := tk }) : CompSrcC prog w A h₀ L m env elt x scope cl Q xv s₁
theorem CompSrcC.mk {elt : Expr} {x : Str} {scope : Scope} {cl : List (Str × Addr)} {Q : Value → Shared → Prop} {s₁ : Shared} {r : Addr} {a b : Int} {t u v : Tok} {news : Led} (n : Nat) (Inv : Nat → List Value → Prop) (hh : A.handled = none) (F : Fr h₀ L s₁.heap m) (N : News h₀ L s₁.heap news) (hr : IsRange s₁.heap r a b 1 t u v) (hs : Builtin.Range.small a b 1 = true) (hn : Builtin.Range.rangeSize a b 1 = ((n : Nat) : Int)) (hz : n ≤ sizeLine) (h0 : Inv 0 [])
    (step : ∀ i ys oI C oC D c oc h tk t (E' : Value → Shared → Prop) I, i < n → Inv i ys → oc.data = .cell (some (.int (a + (i : Int)) t)) → Fr h₀ L h m → News h₀ L h ((I, oI) :: (C, oC) :: (D, lst ys) :: (c, oc) :: news) → Low news D → (@LT.lt Nat _ I D ∧ @LT.lt Nat _ D C ∧ @LT.lt Nat _ C c) →
      wpAny (model prog w) A (eval elt (compEnvC scope ((x, c) :: cl) C env)) (fun y s₄ => StepC h₀ L m s₁ ((I, oI) :: (C, oC) :: (D, lst ys) :: (c, oc) :: news) (Inv (i + 1) (ys ++ [y])) s₄) E' { s₁ with heap := h, toks := tk })
    (fin : ∀ D h tk ys, Inv n ys → Fr h₀ L h m → News h₀ L h ((D, lst ys) :: news) → Low news D → Q (.ref D) { s₁ with heap := h, toks := tk }) : CompSrcC prog w A h₀ L m env elt x scope cl Q (.ref r) s₁ :=
  ⟨r, a, b, t, u, v, n, news, Inv, rfl, hh, F, N, hr, hs, hn, hz, h0, step, fin⟩
theorem ListComp_C {elt iter : Expr} {x : Str} {px : Pos} {scope : Scope} {cl : List (Str × Addr)} {pos : Pos} {Q : Value → Shared → Prop} (_F₀ : Fr h₀ L s.heap m)
    (hclos : closureFor scope env = pure cl) (hcf : ∀ n, cellsFrom n scope.names cl = (x, n) :: cl) (hpc : ∀ h, pushCells h scope.names = h.push cellNew) (hkind : scope.kind = .function)
    (hnames : ∀ y ∈ scope.names, y.2 = .local → scope.names.lookup y.1 = some .local) (hx : scope.names.lookup x = some .cell)
    (h : wpAny (model prog w) A (eval iter env) (CompSrcC prog w A h₀ L m env elt x scope cl Q) E s)
    (hs : ∀ x, foldedSetIterable iter env x = pure x := by intro _; rfl) :
    wpAny (model prog w) A (eval (.ListComp elt [⟨.Name x px, iter, [], 0⟩] scope pos) env) Q E s := by
  rw [eval_ListComp]
  refine wpAny_comprehension_free (use := none) rfl hs hclos hkind hnames (wpAny_mono h (fun xv s₁ h₁ => ?_) fun _ _ e => e)
  obtain ⟨r, a, b, t, u, v, n, news, Inv, rfl, hh, F, N, hr, hsm, hn, hsz, h0, step, fin⟩ := h₁
  refine wpAny_pyIter_range hr hsm ?_
  refine block_W (Inv := Inv) (news := news) (m := m) (h₀ := h₀) (L := L) (n := n) (range_walks hh a n) (fun b hb => by rw [List.mem_singleton.mp hb]; simp only [Heap.size_push]; exact Nat.lt_succ_self _) (fun i h st => ⟨_, st⟩) (fun i h h' o st e e' _ => e'.trans (e.symm.trans st)) hsz hcf hpc hkind hx (by show IsRangeIter _ _ _ _ _; rw [hn]; simpa using Heap.get?_push_size _ rfl) (F.keeps fun _ _ e => Heap.get?_push_of_some _ e) (N.grown fun _ _ e => Heap.get?_push_of_some _ e) (Nat.ne_of_lt F.ns.lt) (next_is_new F) (fun p hp => Nat.ne_of_lt (Heap.lt_size (N p hp).1)) h0 ?_ ?_
  · rintro i ys oI C oC D c oc h tk E' hi hI ⟨v, ⟨t, rfl⟩, hoc⟩ F' N' low lts
    exact step i ys oI C oC D c oc h tk t E' _ hi hI hoc F' N' low lts
  · intro D C h tk m' ys hI F' N' low hn hC₀ hCL hCD offC
    refine ⟨m', hn, fun h'' hs'' => fin D h'' tk ys hI (F'.change hs'' hCL hC₀) (fun p hp => ?_) low⟩
    refine ⟨hs''.extBut _ _ ?_ (N' p hp).1, (N' p hp).2⟩
    rcases List.mem_cons.mp hp with rfl | hp
    · exact Ne.symm hCD
    · exact offC p hp
end
end
section
/-- a whole run of + -/
def Whole43 (rows : List Str) (r : Run) : Prop := r.1 < 4 ∧ r.2.1 < r.2.2 ∧ r.2.2 ≤ 6 ∧ (∀ k, r.2.1 ≤ k → k < r.2.2 → cell rows r.1 k = 43) ∧ (r.2.1 = 0 ∨ cell rows r.1 (r.2.1 - 1) ≠ 43) ∧ (r.2.2 = 6 ∨ cell rows r.1 r.2.2 ≠ 43)
def RunLt (a b : Run) : Prop := a.1 < b.1 ∨ (a.1 = b.1 ∧ a.2.1 < b.2.1)
structure RunInv (rows : List Str) (i j : Nat) (R : List Run) : Prop where
  each : ∀ r ∈ R, (r.1 < i ∧ Whole43 rows r) ∨ (r.1 = i ∧ r.2.1 < r.2.2 ∧ r.2.2 ≤ j ∧ (∀ k, r.2.1 ≤ k → k < r.2.2 → cell rows i k = 43) ∧ (r.2.1 = 0 ∨ cell rows i (r.2.1 - 1) ≠ 43) ∧ (r.2.2 = j ∨ cell rows i r.2.2 ≠ 43))
  cover : ∀ a k, (a < i ∧ k < 6 ∨ a = i ∧ k < j) → cell rows a k = 43 → ∃ r ∈ R, r.1 = a ∧ r.2.1 ≤ k ∧ k < r.2.2
  sorted : R.Pairwise RunLt
  few : R.length ≤ 6 * i + j
theorem run_start {rows : List Str} : RunInv rows 0 0 [] := ⟨(fun _ h => nomatch h), fun a k h => by (revert h; kjx_bare; intro h; lia), .nil, Nat.le_refl _⟩
theorem run_skip {rows : List Str} {i j : Nat} {R : List Run} (h : RunInv rows i j R) (hc : cell rows i j ≠ 43) : RunInv rows i (j + 1) R := by
  refine ⟨fun r hr => ?_, fun a k hk hc2 => ?_, h.sorted, Nat.le_succ_of_le h.few⟩
  · rcases h.each r hr with e | ⟨e1, e2, e3, e4, e5, e6⟩
    · exact .inl e
    · refine .inr ⟨e1, e2, by (exact Nat.le_of_lt (Nat.lt_succ_of_le e3)), e4, e5, ?_⟩
      rcases e6 with q | q
      · rw [q]; exact .inr hc
      · exact .inr q
  · by_cases e : a = i ∧ k = j
    · exact absurd (by rw [← e.1, ← e.2]; exact hc2) hc
    · exact h.cover a k (by (revert hk e; kjx_bare; intro hk e; lia)) hc2
theorem run_new {rows : List Str} {i j : Nat} {R : List Run} (h : RunInv rows i j R) (hc : cell rows i j = 43) (hp : j = 0 ∨ cell rows i (j - 1) ≠ 43) : RunInv rows i (j + 1) (R ++ [(i, j, j + 1)]) := by
  have old : ∀ r ∈ R, r.1 = i → r.2.2 < j ∨ (r.2.2 = j ∧ False) := fun r hr e => by
    rcases h.each r hr with q | ⟨e1, e2, e3, e4, e5, e6⟩
    · (revert e q; kjx_bare; intro e q; lia)
    · by_cases e7 : r.2.2 = j
      · exfalso
        rcases hp with q | q
        · (revert e2 e7 q; kjx_bare; intro e2 e7 q; lia)
        · exact q (by rw [← e7]; exact e4 _ (by (exact Nat.le_sub_one_of_lt e2)) (by (revert e2; kjx_bare; intro e2; lia)))
      · exact .inl (by (exact Nat.lt_of_le_of_ne e3 e7))
  refine ⟨fun r hr => ?_, fun a k hk hc2 => ?_, ?_, by rw [List.length_append, List.length_singleton]; have := h.few; (exact Nat.lt_of_not_le (Nat.not_lt_of_le this))⟩
  · rcases List.mem_append.mp hr with hr | hr
    · rcases h.each r hr with e | ⟨e1, e2, e3, e4, e5, e6⟩
      · exact .inl e
      · refine .inr ⟨e1, e2, by (exact Nat.le_of_lt (Nat.lt_succ_of_le e3)), e4, e5, ?_⟩
        rcases old r hr e1 with q | q
        · rcases e6 with z | z
          · (exact False.elim (Nat.ne_of_gt q (id (Eq.symm z))))
          · exact .inr z
        · exact absurd q.2 id
    · rw [List.mem_singleton.mp hr]
      refine .inr ⟨rfl, by show j < j + 1; (exact Nat.le_refl j.succ), Nat.le_refl _, fun k a b => ?_, hp, .inl rfl⟩
      have e : k = j := by dsimp only at a b; (revert a b; kjx_bare; intro a b; lia)
      rw [e]; exact hc
  · by_cases e : a = i ∧ k = j
    · exact ⟨_, List.mem_append_right _ (.head _), e.1.symm, by show j ≤ k; (revert e; kjx_bare; intro e; lia), by show k < j + 1; (revert e; kjx_bare; intro e; lia)⟩
    · obtain ⟨r, hr, z⟩ := h.cover a k (by (revert hk e; kjx_bare; intro hk e; lia)) hc2
      exact ⟨r, List.mem_append_left _ hr, z⟩
  · rw [List.pairwise_append]
    refine ⟨h.sorted, List.pairwise_singleton _ _, fun a ha b hb => ?_⟩
    rw [List.mem_singleton.mp hb]
    rcases h.each a ha with e | e
    · exact .inl e.1
    · refine .inr ⟨e.1, ?_⟩
      have := e.2.1
      have := e.2.2.1
      show a.2.1 < j
      (revert e; kjx_bare; intro e; lia)
theorem run_grow {rows : List Str} {i j : Nat} {R : List Run} (h : RunInv rows i j R) (hc : cell rows i j = 43) (h0 : 0 < j) (hp : cell rows i (j - 1) = 43) :
    ∃ R' r, R = R' ++ [r] ∧ r.1 = i ∧ RunInv rows i (j + 1) (R' ++ [(i, r.2.1, j + 1)]) := by
  obtain ⟨r0, hr0, f1, f2, f3⟩ := h.cover i (j - 1) (by (revert h0; kjx_bare; intro h0; lia)) hp
  have g0 : r0.2.2 = j := by
    rcases h.each r0 hr0 with e | e
    · (revert f1 e; kjx_bare; intro f1 e; lia)
    · (revert f3 e; kjx_bare; intro f3 e; lia)
  rcases List.eq_nil_or_concat R with e | ⟨R', r, e⟩
  · rw [e] at hr0; cases hr0
  subst e
  have hs := h.sorted
  rw [List.concat_eq_append] at *
  rw [List.pairwise_append] at hs
  have hr : r0 = r := by
    rcases List.mem_append.mp hr0 with q | q
    · exfalso
      have hl := hs.2.2 r0 q r (.head _)
      rcases h.each r (List.mem_append_right _ (.head _)) with e | ⟨e1, e2, e3, e4, e5, e6⟩
      · rcases hl with z | z <;> (revert f1 e z; kjx_bare; intro f1 e z; lia)
      · rcases hl with z | z
        · (revert f1 e1 z; kjx_bare; intro f1 e1 z; lia)
        · rcases e5 with y | y
          · (revert z y; kjx_bare; intro z y; lia)
          · rcases h.each r0 hr0 with e | ⟨d1, d2, d3, d4, d5, d6⟩
            · (revert e1 z e; kjx_bare; intro e1 z e; lia)
            · exact y (d4 _ (by (revert z; kjx_bare; intro z; lia)) (by (revert g0 e2 e3; kjx_bare; intro g0 e2 e3; lia)))
    · exact List.mem_singleton.mp q
  subst hr
  refine ⟨R', r0, rfl, f1, ⟨fun r hr => ?_, fun a k hk hc2 => ?_, ?_, by have := h.few; rw [List.length_append, List.length_singleton] at *; (exact Nat.le_of_lt (Nat.lt_succ_of_le this))⟩⟩
  · rcases List.mem_append.mp hr with hr | hr
    · rcases h.each r (List.mem_append_left _ hr) with e | ⟨e1, e2, e3, e4, e5, e6⟩
      · exact .inl e
      · refine .inr ⟨e1, e2, by (exact Nat.le_of_lt (Nat.lt_succ_of_le e3)), e4, e5, ?_⟩
        have hl := hs.2.2 r hr r0 (.head _)
        have hlt : r.2.2 < j := by
          rcases hl with z | z
          · (revert f1 e1 z; kjx_bare; intro f1 e1 z; lia)
          · by_cases q : r.2.2 = j
            · exfalso
              rcases h.each r0 hr0 with e | ⟨d1, d2, d3, d4, d5, d6⟩
              · (revert e1 z e; kjx_bare; intro e1 z e; lia)
              · rcases d5 with y | y
                · (revert z y; kjx_bare; intro z y; lia)
                · exact y (e4 _ (by (revert z; kjx_bare; intro z; lia)) (by (revert q d2 d3; kjx_bare; intro q d2 d3; lia)))
            · (exact Nat.lt_of_le_of_ne e3 q)
        rcases e6 with z | z
        · (exact False.elim (Nat.ne_of_gt hlt (id (Eq.symm z))))
        · exact .inr z
    · rw [List.mem_singleton.mp hr]
      rcases h.each r0 hr0 with e | ⟨d1, d2, d3, d4, d5, d6⟩
      · (revert f1 e; kjx_bare; intro f1 e; lia)
      · refine .inr ⟨rfl, by show r0.2.1 < j + 1; (exact Nat.lt_of_lt_of_le d2 (Nat.le.step d3)), Nat.le_refl _, fun k a b => ?_, d5, .inl rfl⟩
        dsimp only at a b
        by_cases q : k = j
        · rw [q]; exact hc
        · exact d4 k a (by (revert g0 b q; kjx_bare; intro g0 b q; lia))
  · by_cases e : a = i ∧ k = j
    · exact ⟨_, List.mem_append_right _ (.head _), e.1.symm, by show r0.2.1 ≤ k; (revert f2 e; kjx_bare; intro f2 e; lia), by show k < j + 1; (revert e; kjx_bare; intro e; lia)⟩
    · obtain ⟨r, hr, z⟩ := h.cover a k (by (revert hk e; kjx_bare; intro hk e; lia)) hc2
      rcases List.mem_append.mp hr with hr | hr
      · exact ⟨r, List.mem_append_left _ hr, z⟩
      · rw [List.mem_singleton.mp hr] at z
        exact ⟨_, List.mem_append_right _ (.head _), by show i = a; (revert f1 z; kjx_bare; intro f1 z; lia), z.2.1, by show k < j + 1; (revert g0 z; kjx_bare; intro g0 z; lia)⟩
  · rw [List.pairwise_append]
    refine ⟨hs.1, List.pairwise_singleton _ _, fun a ha b hb => ?_⟩
    rw [List.mem_singleton.mp hb]
    rcases hs.2.2 a ha r0 (.head _) with z | z
    · exact .inl (by show a.1 < i; (revert f1 z; kjx_bare; intro f1 z; lia))
    · exact .inr ⟨by show a.1 = i; (revert f1 z; kjx_bare; intro f1 z; lia), z.2⟩
theorem run_line {rows : List Str} {i : Nat} {R : List Run} (hi : i < 4) (h : RunInv rows i 6 R) : RunInv rows (i + 1) 0 R := by
  refine ⟨fun r hr => ?_, fun a k hk hc2 => h.cover a k (by (revert hk; kjx_bare; intro hk; lia)) hc2, h.sorted, by have := h.few; (exact this)⟩
  rcases h.each r hr with ⟨e, e2⟩ | ⟨e1, e2, e3, e4, e5, e6⟩
  · exact .inl ⟨by (exact Nat.le_of_lt (Nat.lt_succ_of_le e)), e2⟩
  · exact .inl ⟨by (revert e1; kjx_bare; intro e1; lia), by (revert hi e1; kjx_bare; intro hi e1; lia), e2, e3, by rw [e1]; exact e4, by rw [e1]; exact e5, by rw [e1]; exact e6⟩
end
section
theorem Reach.bounds {page : List Str} {st : Pl} (hst : st.1 < 4 ∧ st.2 < 6) : ∀ {p : Pl}, Reach page st p → p.1 < 4 ∧ p.2 < 6 := by
  intro p h
  induction h with
  | here _ => exact hst
  | up _ _ ih => exact ⟨by have := ih.1; dsimp only at this ⊢; (exact Nat.le_of_lt this), ih.2⟩
  | down _ h2 _ ih => exact ⟨h2, ih.2⟩
  | left _ _ ih => exact ⟨ih.1, by have := ih.2; dsimp only at this ⊢; (exact Nat.le_of_lt this)⟩
  | right _ h2 _ ih => exact ⟨ih.1, h2⟩
theorem Reach.dot {page : List Str} {st : Pl} : ∀ {p : Pl}, Reach page st p → cell page p.1 p.2 = 46 := by
  intro p h
  cases h with
  | here h => exact h
  | up _ h => exact h
  | down _ _ h => exact h
  | left _ h => exact h
  | right _ _ h => exact h
/-- what is filled when nothing waits: what hangs together with the start -/
theorem filled_reach {page rows : List Str} {st : Pl} {runs : List Run} (hst : st.1 < 4 ∧ st.2 < 6) (h : Inv page st rows runs []) : ∀ {p : Pl}, Reach page st p → cell rows p.1 p.2 = 43 := by
  intro p hp
  induction hp with
  | here hc => rcases h.start hc with q | q; exact q; cases q
  | @up i j hr hc ih =>
    have hb := hr.bounds hst
    rcases h.upc i hb.1 j hb.2 ih hc with q | q
    · exact q
    · cases q
  | @down i j hr h2 hc ih =>
    have hb := hr.bounds hst
    rcases h.downc i h2 j hb.2 ih hc with q | q
    · exact q
    · cases q
  | @left i j hr hc ih =>
    have hb := hr.bounds hst
    dsimp only at hb ih hc ⊢
    obtain ⟨r, hr1, r1, r2, r3⟩ := h.inrun i hb.1 (j + 1) hb.2 ih
    obtain ⟨⟨w1, w2, w3, w4, w5, w6⟩, hw⟩ := h.whole r hr1
    subst r1
    by_cases q : r.2.1 ≤ j
    · exact hw j q (by (exact Nat.le_of_lt r3))
    · exfalso
      have e : r.2.1 = j + 1 := by (revert r2 q; kjx_bare; intro r2 q; lia)
      rcases w5 with z | z
      · (revert e z; kjx_bare; intro e z; lia)
      · rw [e, Nat.add_sub_cancel] at z; exact z hc
  | @right i j hr h2 hc ih =>
    have hb := hr.bounds hst
    dsimp only at hb ih hc ⊢
    obtain ⟨r, hr1, r1, r2, r3⟩ := h.inrun i hb.1 j hb.2 ih
    obtain ⟨⟨w1, w2, w3, w4, w5, w6⟩, hw⟩ := h.whole r hr1
    subst r1
    by_cases q : j + 1 < r.2.2
    · exact hw (j + 1) (by (exact Nat.le_of_lt (Nat.lt_succ_of_le r2))) q
    · exfalso
      have e : r.2.2 = j + 1 := by (revert r3 q; kjx_bare; intro r3 q; lia)
      rcases w6 with z | z
      · (revert h2 e z; kjx_bare; intro h2 e z; lia)
      · rw [e] at z; exact z hc
/-- the page with + for what hangs together with the start -/
structure DueIs (page : List Str) (st : Pl) (due : List Str) : Prop where
  four : due.length = 4
  six : ∀ x ∈ due, x.length = 6
  yes : ∀ i < 4, ∀ j < 6, Reach page st (i, j) → cell due i j = 43
  no : ∀ i < 4, ∀ j < 6, ¬ Reach page st (i, j) → cell due i j = cell page i j
theorem str_ext {x y : Str} (h : x.length = y.length) (e : ∀ k < x.length, chAt x k = chAt y k) : x = y := by
  refine Str.ext' (Array.ext_getElem? fun k => ?_)
  by_cases hk : k < x.length
  · have h1 := e k hk
    unfold chAt at h1
    have a : k < x.cps.size := hk
    have b : k < y.cps.size := by show k < y.length; (revert h hk; kjx_bare; intro h hk; lia)
    rw [Array.getElem?_eq_getElem a, Array.getElem?_eq_getElem b]
    rw [Array.getD_eq_getD_getElem?, Array.getD_eq_getD_getElem?, Array.getElem?_eq_getElem a, Array.getElem?_eq_getElem b] at h1
    exact congrArg some h1
  · have a : ¬ k < x.cps.size := hk
    have b : ¬ k < y.cps.size := by show ¬ k < y.length; (revert h hk; kjx_bare; intro h hk; lia)
    rw [Array.getElem?_eq_none (by (exact Nat.le_of_not_lt a)), Array.getElem?_eq_none (by (exact Nat.le_of_not_lt b))]
theorem rows_ext {a b : List Str} (ha : a.length = 4) (hb : b.length = 4) (a6 : ∀ x ∈ a, x.length = 6) (b6 : ∀ x ∈ b, x.length = 6) (h : ∀ i < 4, ∀ j < 6, cell a i j = cell b i j) : a = b := by
  refine List.ext_getElem (by (exact Eq.trans ha (id (Eq.symm hb)))) fun i h1 h2 => ?_
  have e1 := a6 _ (List.getElem_mem h1)
  have e2 := b6 _ (List.getElem_mem h2)
  refine str_ext (by (exact Eq.trans e1 (id (Eq.symm e2)))) fun k hk => ?_
  have := h i (by (first | lia | omega)) k (by (first | lia | omega))
  unfold cell at this
  rw [List.getD_eq_getElem?_getD, List.getD_eq_getElem?_getD, List.getElem?_eq_getElem h1, List.getElem?_eq_getElem h2] at this
  exact this
theorem filled_due {page rows due : List Str} {st : Pl} {runs : List Run} (hst : st.1 < 4 ∧ st.2 < 6) (h : Inv page st rows runs []) (hd : DueIs page st due) : rows = due := by
  refine rows_ext h.four hd.four h.six hd.six fun i hi j hj => ?_
  by_cases q : Reach page st (i, j)
  · rw [hd.yes i hi j hj q]; exact filled_reach hst h q
  · rw [hd.no i hi j hj q]
    rcases h.same i hi j hj with z | z
    · exact z
    · exact absurd (h.reach i hi j hj z.2) q
/-- the bits -/
structure FreeIs (page : List Str) (f : Nat) : Prop where
  lt : f < 2 ^ 28
  bit : ∀ k, f.testBit k = true ↔ ∃ i j, i < 4 ∧ j < 6 ∧ k = 7 * i + j ∧ cell page i j = 46
def stepN (f r : Nat) : Nat := (r ||| r * 2 ||| r / 2 ||| r * 2 ^ 7 ||| r / 2 ^ 7) &&& f
theorem step_bit (f r k : Nat) : (stepN f r).testBit k = true ↔ f.testBit k = true ∧ (r.testBit k = true ∨ (1 ≤ k ∧ r.testBit (k - 1) = true) ∨ r.testBit (k + 1) = true ∨ (7 ≤ k ∧ r.testBit (k - 7) = true) ∨ r.testBit (k + 7) = true) := by
  unfold stepN
  have e1 : r * 2 = r * 2 ^ 1 := by rw [Nat.pow_one]
  have e2 : r / 2 = r / 2 ^ 1 := by rw [Nat.pow_one]
  rw [e1, e2]
  simp only [Nat.testBit_and, Nat.testBit_or, Nat.testBit_mul_two_pow, Nat.testBit_div_two_pow, Bool.and_eq_true, Bool.or_eq_true, decide_eq_true_eq]
  constructor
  · rintro ⟨h, hf⟩
    refine ⟨hf, ?_⟩
    rcases h with (((h | h) | h) | h) | h
    · exact .inl h
    · exact .inr (.inl h)
    · exact .inr (.inr (.inl (by rw [Nat.add_comm]; first | exact h | (rw [Nat.add_comm]; exact h))))
    · exact .inr (.inr (.inr (.inl h)))
    · exact .inr (.inr (.inr (.inr (by rw [Nat.add_comm]; first | exact h | (rw [Nat.add_comm]; exact h)))))
  · rintro ⟨hf, h⟩
    refine ⟨?_, hf⟩
    rcases h with h | h | h | h | h
    · exact .inl (.inl (.inl (.inl h)))
    · exact .inl (.inl (.inl (.inr h)))
    · exact .inl (.inl (.inr (by rw [Nat.add_comm] at h; first | exact h | (rw [Nat.add_comm]; exact h))))
    · exact .inl (.inr h)
    · exact .inr (by rw [Nat.add_comm] at h; first | exact h | (rw [Nat.add_comm]; exact h))
structure BitInv (page : List Str) (st : Pl) (f r : Nat) : Prop where
  sub : ∀ k, r.testBit k = true → f.testBit k = true
  sound : ∀ k, r.testBit k = true → ∃ i j, i < 4 ∧ j < 6 ∧ k = 7 * i + j ∧ Reach page st (i, j)
  start : cell page st.1 st.2 = 46 → r.testBit (7 * st.1 + st.2) = true
theorem bit_lt {r f : Nat} (hf : f < 2 ^ 28) (h : ∀ k, r.testBit k = true → f.testBit k = true) : r < 2 ^ 28 := by
  have e : r &&& f = r := by
    refine Nat.eq_of_testBit_eq fun k => ?_
    rw [Nat.testBit_and]
    cases q : r.testBit k with
    | true => rw [h k q]; rfl
    | false => rfl
  rw [← e]
  exact Nat.and_lt_two_pow _ hf
theorem bit_le {r t : Nat} (h : ∀ k, r.testBit k = true → t.testBit k = true) : r ≤ t := by
  have e : r &&& t = r := by
    refine Nat.eq_of_testBit_eq fun k => ?_
    rw [Nat.testBit_and]
    cases q : r.testBit k with
    | true => rw [h k q]; rfl
    | false => rfl
  rw [← e]
  exact Nat.and_le_right
theorem step_le {page : List Str} {st : Pl} {f r : Nat} (h : BitInv page st f r) : r ≤ stepN f r := bit_le fun k hk => (step_bit f r k).mpr ⟨h.sub k hk, .inl hk⟩
theorem step_inv {page : List Str} {st : Pl} {f r : Nat} (hf : FreeIs page f) (h : BitInv page st f r) : BitInv page st f (stepN f r) := by
  refine ⟨fun k hk => ((step_bit f r k).mp hk).1, fun k hk => ?_, fun hc => (step_bit f r _).mpr ⟨h.sub _ (h.start hc), .inl (h.start hc)⟩⟩
  obtain ⟨hk1, hk2⟩ := (step_bit f r k).mp hk
  obtain ⟨i, j, hi, hj, e, hc⟩ := (hf.bit k).mp hk1
  refine ⟨i, j, hi, hj, e, ?_⟩
  rcases hk2 with q | ⟨q0, q⟩ | q | ⟨q0, q⟩ | q
  · obtain ⟨i', j', hi', hj', e', hr⟩ := h.sound k q
    obtain rfl : i = i' := by (revert hj e hj' e'; kjx_bare; intro hj e hj' e'; lia)
    obtain rfl : j = j' := by (revert e e'; kjx_bare; intro e e'; lia)
    exact hr
  · obtain ⟨i', j', hi', hj', e', hr⟩ := h.sound _ q
    obtain rfl : i = i' := by (revert hj e hj' e'; kjx_bare; intro hj e hj' e'; lia)
    obtain rfl : j = j' + 1 := by (revert e q0 e'; kjx_bare; intro e q0 e'; lia)
    exact .right hr hj hc
  · obtain ⟨i', j', hi', hj', e', hr⟩ := h.sound _ q
    obtain rfl : i = i' := by (revert hj e hj' e'; kjx_bare; intro hj e hj' e'; lia)
    obtain rfl : j' = j + 1 := by (revert e e'; kjx_bare; intro e e'; lia)
    exact .left hr hc
  · obtain ⟨i', j', hi', hj', e', hr⟩ := h.sound _ q
    obtain rfl : i = i' + 1 := by (revert hj e q0 hj' e'; kjx_bare; intro hj e q0 hj' e'; lia)
    obtain rfl : j = j' := by (revert e' e; kjx_bare; intro e' e; lia)
    exact .down hr hi hc
  · obtain ⟨i', j', hi', hj', e', hr⟩ := h.sound _ q
    obtain rfl : i' = i + 1 := by (revert hj e hj' e'; kjx_bare; intro hj e hj' e'; lia)
    obtain rfl : j = j' := by (revert e e'; kjx_bare; intro e e'; lia)
    exact .up hr hc
theorem start_inv {page : List Str} {st : Pl} {f : Nat} (hst : st.1 < 4 ∧ st.2 < 6) (hf : FreeIs page f) : BitInv page st f (2 ^ (7 * st.1 + st.2) &&& f) := by
  refine ⟨fun k hk => ?_, fun k hk => ?_, fun hc => ?_⟩
  · rw [Nat.testBit_and, Bool.and_eq_true] at hk; exact hk.2
  · rw [Nat.testBit_and, Bool.and_eq_true, Nat.testBit_two_pow, decide_eq_true_eq] at hk
    obtain ⟨i, j, hi, hj, e, hc⟩ := (hf.bit k).mp hk.2
    have e1 : i = st.1 := by (revert hst hk hj e; kjx_bare; intro hst hk hj e; lia)
    have e2 : j = st.2 := by (revert hk e e1; kjx_bare; intro hk e e1; lia)
    exact ⟨i, j, hi, hj, e, by rw [e1, e2] at hc ⊢; exact .here hc⟩
  · rw [Nat.testBit_and, Nat.testBit_two_pow, Bool.and_eq_true, decide_eq_true_eq]
    exact ⟨rfl, (hf.bit _).mpr ⟨st.1, st.2, hst.1, hst.2, rfl, hc⟩⟩
theorem closed_reach {page : List Str} {st : Pl} {f r : Nat} (hst : st.1 < 4 ∧ st.2 < 6) (hf : FreeIs page f) (h : BitInv page st f r) (hc : stepN f r = r) {i j : Nat} (hi : i < 4) (hj : j < 6) : r.testBit (7 * i + j) = true ↔ Reach page st (i, j) := by
  constructor
  · intro q
    obtain ⟨i', j', hi', hj', e', hr⟩ := h.sound _ q
    obtain rfl : i = i' := by (revert hj hj' e'; kjx_bare; intro hj hj' e'; lia)
    obtain rfl : j = j' := by (revert e'; kjx_bare; intro e'; lia)
    exact hr
  · intro q
    have key : ∀ p : Pl, Reach page st p → r.testBit (7 * p.1 + p.2) = true := by
      intro p hp
      have fr : ∀ {a b}, a < 4 → b < 6 → cell page a b = 46 → f.testBit (7 * a + b) = true := fun ha hb hc => (hf.bit _).mpr ⟨_, _, ha, hb, rfl, hc⟩
      induction hp with
      | here hc => exact h.start hc
      | @up i j hr hc2 ih =>
        have hb := hr.bounds hst
        dsimp only at hb ih ⊢
        rw [← hc]
        exact (step_bit f r _).mpr ⟨fr (by (revert hb; kjx_bare; intro hb; lia)) hb.2 hc2, .inr (.inr (.inr (.inr (by rw [show 7 * i + j + 7 = 7 * (i + 1) + j from by (kjx_bare; lia)]; exact ih))))⟩
      | @down i j hr h2 hc2 ih =>
        have hb := hr.bounds hst
        dsimp only at hb ih ⊢
        rw [← hc]
        exact (step_bit f r _).mpr ⟨fr h2 hb.2 hc2, .inr (.inr (.inr (.inl ⟨by (kjx_bare; lia), by rw [show 7 * (i + 1) + j - 7 = 7 * i + j from by (kjx_bare; lia)]; exact ih⟩)))⟩
      | @left i j hr hc2 ih =>
        have hb := hr.bounds hst
        dsimp only at hb ih ⊢
        rw [← hc]
        exact (step_bit f r _).mpr ⟨fr hb.1 (by (revert hb; kjx_bare; intro hb; lia)) hc2, .inr (.inr (.inl ih))⟩
      | @right i j hr h2 hc2 ih =>
        have hb := hr.bounds hst
        dsimp only at hb ih ⊢
        rw [← hc]
        exact (step_bit f r _).mpr ⟨fr hb.1 h2 hc2, .inr (.inl ⟨by (exact Nat.lt_of_not_le (Nat.not_lt_zero ((7 * i).add j))), by rw [show 7 * i + (j + 1) - 1 = 7 * i + j from by (exact Eq.refl (7 * i + (j + 1) - 1))]; exact ih⟩)⟩
    exact key (i, j) q
theorem step_zero (f : Nat) : stepN f 0 = 0 := by unfold stepN; simp
theorem bit_div (r k : Nat) : (r / 2 ^ k % 2 = 1) ↔ r.testBit k = true := by
  rw [Nat.testBit_eq_decide_div_mod_eq, decide_eq_true_eq]
structure FreeTo (page : List Str) (i j f : Nat) : Prop where
  lt : f < 2 ^ (7 * i + j)
  bit : ∀ k, f.testBit k = true ↔ ∃ a b, (a < i ∧ b < 6 ∨ a = i ∧ b < j) ∧ k = 7 * a + b ∧ cell page a b = 46
theorem free_start {page : List Str} : FreeTo page 0 0 0 := ⟨by decide, fun k => by
  rw [Nat.zero_testBit]
  constructor
  · intro h; cases h
  · rintro ⟨a, b, h, _⟩; (revert h; kjx_bare; intro h; lia)⟩
theorem free_no {page : List Str} {i j f : Nat} (h : FreeTo page i j f) (hc : cell page i j ≠ 46) : FreeTo page i (j + 1) f := by
  refine ⟨Nat.lt_of_lt_of_le h.lt (Nat.pow_le_pow_right (by decide) (by (exact Nat.le_of_lt (Nat.le_refl (7 * i + j).succ)))), fun k => ?_⟩
  rw [h.bit]
  constructor
  · rintro ⟨a, b, h1, h2, h3⟩; exact ⟨a, b, by (revert h1; kjx_bare; intro h1; lia), h2, h3⟩
  · rintro ⟨a, b, h1, h2, h3⟩
    refine ⟨a, b, ?_, h2, h3⟩
    by_cases q : a = i ∧ b = j
    · exact absurd (by rw [← q.1, ← q.2]; exact h3) hc
    · (revert h1 q; kjx_bare; intro h1 q; lia)
theorem free_yes {page : List Str} {i j f : Nat} (h : FreeTo page i j f) (hj : j < 6) (hc : cell page i j = 46) : FreeTo page i (j + 1) (f + 2 ^ (7 * i + j)) := by
  have hl := h.lt
  refine ⟨by rw [show 7 * i + (j + 1) = 7 * i + j + 1 from by (exact Eq.refl (7 * i + (j + 1))), Nat.pow_succ]; (revert hl; kjx_bare; intro hl; lia), fun k => ?_⟩
  have e : f + 2 ^ (7 * i + j) = 2 ^ (7 * i + j) ||| f := by
    have := Nat.two_pow_add_eq_or_of_lt hl 1
    rw [Nat.mul_one] at this
    rw [Nat.add_comm]; exact this
  rw [e, Nat.testBit_or, Bool.or_eq_true, Nat.testBit_two_pow, decide_eq_true_eq, h.bit]
  constructor
  · rintro (q | ⟨a, b, h1, h2, h3⟩)
    · exact ⟨i, j, .inr ⟨rfl, by (exact Nat.le_refl j.succ)⟩, q.symm, hc⟩
    · exact ⟨a, b, by (revert h1; kjx_bare; intro h1; lia), h2, h3⟩
  · rintro ⟨a, b, h1, h2, h3⟩
    by_cases q : a = i ∧ b = j
    · exact .inl (by rw [h2, q.1, q.2])
    · exact .inr ⟨a, b, by (revert h1 q; kjx_bare; intro h1 q; lia), h2, h3⟩
theorem free_line {page : List Str} {i f : Nat} (h : FreeTo page i 6 f) : FreeTo page (i + 1) 0 f := by
  refine ⟨Nat.lt_of_lt_of_le h.lt (Nat.pow_le_pow_right (by decide) (by (exact Nat.le_of_lt (Nat.le_refl (7 * i + 6).succ)))), fun k => ?_⟩
  rw [h.bit]
  constructor
  · rintro ⟨a, b, h1, h2, h3⟩; exact ⟨a, b, by (revert h1; kjx_bare; intro h1; lia), h2, h3⟩
  · rintro ⟨a, b, h1, h2, h3⟩; exact ⟨a, b, by (revert h1; kjx_bare; intro h1; lia), h2, h3⟩
theorem free_end {page : List Str} {f : Nat} (h : FreeTo page 4 0 f) : FreeIs page f := by
  refine ⟨h.lt, fun k => ?_⟩
  rw [h.bit]
  constructor
  · rintro ⟨a, b, h1, h2, h3⟩; exact ⟨a, b, by (revert h1; kjx_bare; intro h1; lia), by (revert h1; kjx_bare; intro h1; lia), h2, h3⟩
  · rintro ⟨a, b, h1, h1b, h2, h3⟩; exact ⟨a, b, by (exact Or.inl ⟨h1, h1b⟩), h2, h3⟩
theorem pow_val (i j : Nat) : (2 : Int) ^ (((7 : Nat) : Int) * ((i : Nat) : Int) + ((j : Nat) : Int)).toNat = ((2 ^ (7 * i + j) : Nat) : Int) := by
  rw [show (((7 : Nat) : Int) * ((i : Nat) : Int) + ((j : Nat) : Int)).toNat = 7 * i + j from by (first | lia | omega), Int.natCast_pow]; rfl
theorem free_val (f i j : Nat) : ((f : Nat) : Int) + (2 : Int) ^ (((7 : Nat) : Int) * ((i : Nat) : Int) + ((j : Nat) : Int)).toNat = ((f + 2 ^ (7 * i + j) : Nat) : Int) := by
  rw [pow_val, Int.natCast_add]
theorem and_val (a b : Nat) : Builtin.bitAnd ((a : Nat) : Int) ((b : Nat) : Int) = ((a &&& b : Nat) : Int) := by
  unfold Builtin.bitAnd
  rw [decide_eq_true (Int.natCast_nonneg a), decide_eq_true (Int.natCast_nonneg b)]
  simp only [Int.toNat_natCast]
theorem not_not_val (x : Int) : Builtin.bitNot (Builtin.bitNot x) = x := by unfold Builtin.bitNot; (kjx_bare; lia)
theorem or_val (a b : Nat) : Builtin.bitOr ((a : Nat) : Int) ((b : Nat) : Int) = ((a ||| b : Nat) : Int) := by
  unfold Builtin.bitOr Builtin.bitAnd
  rw [decide_eq_false (show ¬ 0 ≤ Builtin.bitNot ((a : Nat) : Int) by unfold Builtin.bitNot; (kjx_bare; lia)), decide_eq_false (show ¬ 0 ≤ Builtin.bitNot ((b : Nat) : Int) by unfold Builtin.bitNot; (kjx_bare; lia))]
  simp only [not_not_val, Int.toNat_natCast]
theorem step_val (r f : Nat) : Builtin.bitAnd (Builtin.bitOr (Builtin.bitOr (Builtin.bitOr (Builtin.bitOr ((r : Nat) : Int) (((r : Nat) : Int) * 2)) (((r : Nat) : Int).fdiv 2)) (((r : Nat) : Int) * (2 : Int) ^ (((7 : Nat) : Int)).toNat)) (((r : Nat) : Int).fdiv ((2 : Int) ^ (((7 : Nat) : Int)).toNat))) ((f : Nat) : Int) = ((stepN f r : Nat) : Int) := by
  have e1 : ((r : Nat) : Int) * 2 = ((r * 2 : Nat) : Int) := by rw [Int.natCast_mul]; rfl
  have e2 : ((r : Nat) : Int).fdiv 2 = ((r / 2 : Nat) : Int) := by rw [Int.fdiv_eq_ediv_of_nonneg _ (by decide)]; rfl
  have e3 : (2 : Int) ^ (((7 : Nat) : Int)).toNat = ((2 ^ 7 : Nat) : Int) := by decide
  rw [e3]
  have e4 : ((r : Nat) : Int) * ((2 ^ 7 : Nat) : Int) = ((r * 2 ^ 7 : Nat) : Int) := by rw [Int.natCast_mul]
  have e5 : ((r : Nat) : Int).fdiv ((2 ^ 7 : Nat) : Int) = ((r / 2 ^ 7 : Nat) : Int) := by rw [Int.fdiv_eq_ediv_of_nonneg _ (by decide)]; rfl
  rw [e1, e2, e4, e5, or_val, or_val, or_val, or_val, and_val]
  rfl
def muR (r b : Nat) : Nat := if r = b then 0 else 2 ^ 28 - r + 1
theorem step_meas {page : List Str} {st : Pl} {f r b : Nat} (hf : f < 2 ^ 28) (h : BitInv page st f r) (hn : r ≠ b) : muR (stepN f r) r < muR r b := by
  have h1 := step_le h
  have h2 : stepN f r < 2 ^ 28 := bit_lt hf fun k hk => ((step_bit f r k).mp hk).1
  unfold muR
  rw [if_neg hn]
  split <;> (first | lia | omega)
theorem step_done {f r b : Nat} (h : r = stepN f b ∨ b = 0) (e : r = b) : stepN f r = r := by
  subst e
  rcases h with h | h
  · exact h.symm
  · rw [h]; exact step_zero f
end
section
open PySem.StrLaws
def dueCh (page : List Str) (r i j : Nat) : Nat := if r.testBit (7 * i + j) = true then 43 else cell page i j
def dueRow (page : List Str) (r i : Nat) : Str := ⟨((List.range 6).map (dueCh page r i)).toArray⟩
theorem due_is {page : List Str} {st : Pl} {f r : Nat} (hst : st.1 < 4 ∧ st.2 < 6) (hf : FreeIs page f) (h : BitInv page st f r) (hc : stepN f r = r) : DueIs page st ((List.range 4).map (dueRow page r)) := by
  have ce : ∀ i < 4, ∀ j < 6, cell ((List.range 4).map (dueRow page r)) i j = dueCh page r i j := by
    intro i hi j hj
    unfold cell
    rw [List.getD_eq_getElem?_getD, List.getElem?_map, List.getElem?_range hi]
    show chAt (dueRow page r i) j = _
    rw [chAt_list]
    show ((List.range 6).map (dueCh page r i)).getD j 0 = _
    rw [List.getD_eq_getElem?_getD, List.getElem?_map, List.getElem?_range hj]
    rfl
  refine ⟨by rw [List.length_map, List.length_range], fun x hx => ?_, fun i hi j hj hr => ?_, fun i hi j hj hr => ?_⟩
  · obtain ⟨i, _, rfl⟩ := List.mem_map.mp hx
    show ((List.range 6).map (dueCh page r i)).toArray.size = 6
    rw [List.size_toArray, List.length_map, List.length_range]
  · rw [ce i hi j hj]
    exact if_pos ((closed_reach hst hf h hc hi hj).mpr hr)
  · rw [ce i hi j hj]
    exact if_neg fun q => hr ((closed_reach hst hf h hc hi hj).mp q)
theorem join_ones (ch : Nat → Nat) : ∀ l : List Nat, (Str.join ⟨#[]⟩ (l.map fun q => (⟨#[ch q]⟩ : Str))).cps.toList = l.map ch
  | [] => rfl
  | [a] => rfl
  | a :: b :: r => by
    have ih := join_ones ch (b :: r)
    simp only [List.map_cons] at ih ⊢
    rw [join_two, app_cps, app_cps, ih]
    rfl
theorem six_join (ch : Nat → Nat) : Txt.join (Str.ofString "") ((List.range 6).map fun q => (⟨#[ch q]⟩ : Str)) = ⟨((List.range 6).map ch).toArray⟩ := by
  show Builtin.Str.glued _ _ = _
  rw [glued_eq_join, show Str.ofString "" = ⟨#[]⟩ from by decide +kernel]
  exact sx (join_ones ch _)
theorem join_six (ch : Nat → Nat) : (((List.range 6).map fun q => (⟨#[ch q]⟩ : Str)).map (·.length)).sum + ((List.range 6).map fun q => (⟨#[ch q]⟩ : Str)).length * (Str.ofString "").length ≤ 16777216 := by
  rw [show Str.ofString "" = ⟨#[]⟩ from by decide +kernel]
  show 6 + 6 * 0 ≤ 16777216
  decide
theorem bit_val (r i j : Nat) : (((r : Nat) : Int).fdiv ((2 : Int) ^ (((7 : Nat) : Int) * ((i : Nat) : Int) + ((j : Nat) : Int)).toNat)).fmod 2 = ((r / 2 ^ (7 * i + j) % 2 : Nat) : Int) := by
  rw [pow_val, Int.fdiv_eq_ediv_of_nonneg _ (Int.natCast_nonneg _), Int.fmod_eq_emod_of_nonneg _ (by decide)]
  rfl
theorem bit_yes {r i j : Nat} (h : (((r : Nat) : Int).fdiv ((2 : Int) ^ (((7 : Nat) : Int) * ((i : Nat) : Int) + ((j : Nat) : Int)).toNat)).fmod 2 ≠ 0) : r.testBit (7 * i + j) = true := by
  have e := bit_val r i j
  exact (bit_div r _).mp (by (first | lia | omega))
theorem bit_no {r i j : Nat} (h : (((r : Nat) : Int).fdiv ((2 : Int) ^ (((7 : Nat) : Int) * ((i : Nat) : Int) + ((j : Nat) : Int)).toNat)).fmod 2 = 0) : ¬ r.testBit (7 * i + j) = true := by
  have e := bit_val r i j
  intro q
  have := (bit_div r _).mpr q
  (first | lia | omega)
theorem due_plus {page : List Str} {r i j : Nat} {zs : List Value} {t : Tok} (h : StrsAre zs ((List.range j).map fun q => (⟨#[dueCh page r i q]⟩ : Str))) (hb : r.testBit (7 * i + j) = true) :
    StrsAre (zs ++ [.str (Str.ofString "+") t]) ((List.range (j + 1)).map fun q => (⟨#[dueCh page r i q]⟩ : Str)) := by
  rw [List.range_succ, List.map_append]
  refine h.append' ?_
  have e : (⟨#[dueCh page r i j]⟩ : Str) = Str.ofString "+" := by unfold dueCh; rw [if_pos hb, plus_is]
  rw [List.map_cons, List.map_nil, e]
  exact .cons _ t .nil
theorem due_same {page : List Str} {r i j : Nat} {row : Str} {zs : List Value} {t : Tok} (h : StrsAre zs ((List.range j).map fun q => (⟨#[dueCh page r i q]⟩ : Str))) (hb : ¬ r.testBit (7 * i + j) = true) (hrow : page.getD i Str.empty = row) (hj : j < row.length) :
    StrsAre (zs ++ [.str (Txt.item row (j : Int)) t]) ((List.range (j + 1)).map fun q => (⟨#[dueCh page r i q]⟩ : Str)) := by
  rw [List.range_succ, List.map_append]
  refine h.append' ?_
  have e : (⟨#[dueCh page r i j]⟩ : Str) = Txt.item row (j : Int) := by
    unfold dueCh cell; rw [if_neg hb, hrow, item_is (by (first | lia | omega)) (by (first | lia | omega)), Int.toNat_natCast]
  rw [List.map_cons, List.map_nil, e]
  exact .cons _ t .nil
end
section
open PySem.Calls
theorem ints_pick {vs : List Value} {ns : List Int} (h : IntsAre vs ns) : ∀ idx : List Nat, ∃ ms, IntsAre (idx.filterMap (vs.toArray[·]?)) ms
  | [] => ⟨[], .nil⟩
  | k :: r => by
    obtain ⟨ms, hm⟩ := ints_pick h r
    cases e : vs.toArray[k]? with
    | none => exact ⟨ms, by rw [List.filterMap_cons_none e]; exact hm⟩
    | some v =>
      have hk : k < ns.length := by
        have := (Array.getElem?_eq_some_iff.mp e).1
        rw [List.size_toArray, h.length] at this
        exact this
      obtain ⟨t, ht⟩ := h.get k (ns[k]) (by simp [hk])
      have e2 : v = .int ns[k] t := by
        have : vs[k]? = some v := by simpa using e
        rw [ht] at this; exact (Option.some.inj this).symm
      exact ⟨ns[k] :: ms, by rw [List.filterMap_cons_some e, e2]; exact .cons _ t hm⟩
section
variable {prog : Program} {w : World} {A : Around} {E : Value → Shared → Prop} {s : Shared} {h₀ : Heap} {L l : Addr} {m : Str → Option Value} {news : Led}
theorem list_stride {value slice : Expr} {vs : List Value} {ns : List Int} {a : Int} {u v : Tok} {ops : List Value} {Q : Value → Shared → Prop} (F : Fr h₀ L s.heap m) (N : News h₀ L s.heap news) (hl : s.heap.IsList l vs.toArray) (hi : IntsAre vs ns) (hz : ns.length ≤ 10000)
    (h : ∀ D h' ys ms, IntsAre ys ms → Fr h₀ L h' m → News h₀ L h' ((D, W.listOf ys.toArray 0) :: news) → (∀ p ∈ news, p.1 < D) → Q (.ref D) { s with heap := h' })
    (hs : subscripted slice false (.ref l) (.ref s.heap.objs.size) = operate ops (getItem (.ref l) (.ref s.heap.objs.size)))
    (ht : ∀ r, letTemporaryGo value (.ref l) r = pure () := by intro _; with_unfolding_all rfl) :
    wpAny (model prog w) A (subscriptTail value slice (.ref l) (.ref s.heap.objs.size)) Q E { s with heap := s.heap.push { cls := .type "slice", data := .fields #[.int a u, .none, .int 5 v] } } := by
  refine slice_list3 F N hl (.int _ _) .none (.int _ _) (by decide) ?_ hs ht (by rw [List.size_toArray, hi.length, sizeLine_eq]; (first | lia | omega))
  intro h' F' N'
  obtain ⟨ms, hm⟩ := ints_pick hi (sliceRange (sliceBounds (some a) none (some 5) vs.toArray.size).1 (sliceBounds (some a) none (some 5) vs.toArray.size).2.1 (sliceBounds (some a) none (some 5) vs.toArray.size).2.2)
  exact h _ h' _ ms hm F' N' fun p hp => Nat.lt_succ_of_lt (Heap.lt_size (N p hp).1)
theorem list_sum {vs : List Value} {ns : List Int} {c : Nat} {Q : Value → Shared → Prop} (hh : A.handled = none) (F : Fr h₀ L s.heap m) (N : News h₀ L s.heap news) (hm : (l, W.listOf vs.toArray c) ∈ news) (hi : IntsAre vs ns)
    (h : ∀ h' tk t', Fr h₀ L h' m → News h₀ L h' news → Q (.int ns.sum t') { s with heap := h', toks := tk }) :
    wpAny (model prog w) A (call (.builtin "sum") [.ref l]) Q E s := by
  have hl : s.heap.IsList l vs.toArray := News.isList N hm
  obtain ⟨xs, hx⟩ := hi.allInts.items
  have hn : numsOf vs.toArray.toList = ns := by rw [show vs.toArray.toList = vs from rfl, hi.numsOf]
  rw [hx] at hl hn
  rw [nums_intItems] at hn
  refine sum_intListG hh hl fun h' tk t' hk => ?_
  have := h h' tk t' (F.keeps hk) (N.grown hk)
  rw [preSum_eq, List.take_of_length_le (by simp), hn]
  exact this
end
end
section
open PySem.Calls PyProof.V PySem.Spec
open LCg
section
variable {prog : Program} {w : World} {A : Around} {R : Result → Shared → Prop} {s : Shared}
theorem compTurn_in (elt t0 i0 t1 i1 : Expr) (ifs : List Expr) (scope : Scope) (pos : Pos) (it acc : Value) (env : Env) :
    compTurn (.ListComp elt [⟨t0, i0, [], 0⟩, ⟨t1, i1, ifs, 0⟩] scope pos) 1 it acc env = (do
      standAt i1.pos
      match ← pyNext it with
      | none => pure (.done .next)
      | some v =>
        letOwnedTupleGo t1 it v
        assign t1 env v
        let mut ok := true
        for c in ifs do
          if ok then ok ← isTrue c env (eval c env)
        if ok then
          (do let _ ← call (.builtin "list.append") [acc, ← eval elt env])
        again (.compLoop (.ListComp elt [⟨t0, i0, [], 0⟩, ⟨t1, i1, ifs, 0⟩] scope pos) 1 it acc env)) := by rfl
theorem compTurn_out (elt t0 i0 t1 i1 : Expr) (ifs : List Expr) (scope : Scope) (pos : Pos) (it acc : Value) (env : Env) :
    compTurn (.ListComp elt [⟨t0, i0, [], 0⟩, ⟨t1, i1, ifs, 0⟩] scope pos) 0 it acc env = (do
      standAt i0.pos
      match ← pyNext it with
      | none => pure (.done .next)
      | some v =>
        letOwnedTupleGo t0 it v
        assign t0 env v
        let mut ok := true
        for c in ([] : List Expr) do
          if ok then ok ← isTrue c env (eval c env)
        if ok then
          let x ← eval i1 env
          standAt i1.pos
          let x ← foldedSetIterable i1 env x
          let _ ← runOwn (.compStart (.ListComp elt [⟨t0, i0, [], 0⟩, ⟨t1, i1, ifs, 0⟩] scope pos) 1 (← holding [x] (pyIter x)) acc env) env
        again (.compLoop (.ListComp elt [⟨t0, i0, [], 0⟩, ⟨t1, i1, ifs, 0⟩] scope pos) 0 it acc env)) := by rfl
theorem codeAny_in {elt t0 i0 t1 i1 : Expr} {ifs : List Expr} {scope : Scope} {pos : Pos} {it acc : Value} {env : Env} (I : Nat → Shared → Prop)
    (turn : ∀ n s (J RN : Shared → Prop) (EE : Value → Shared → Prop), I n s → (∀ m s', m < n → I m s' → J s') → (∀ s', R (.ok .next) s' → RN s') → wpAny (model prog w) A (pyNext it) (fun r s₁ => match r with
      | none => RN s₁
      | some v => wpAny (model prog w) A (assign t1 env v) (fun _ s₂ =>
          wpAny (model prog w) A (forIn ifs true fun c r => if r = true then do let ok ← isTrue c env (eval c env); pure (ForInStep.yield ok) else pure (ForInStep.yield r)) (fun ok s₃ =>
            if ok = true then wpAny (model prog w) A (eval elt env) (fun x s₄ =>
              wpAny (model prog w) A (call (.builtin "list.append") [acc, x]) (fun _ s₅ => J s₅) EE s₄) EE s₃
            else J s₃) EE s₂) EE s₁) EE s)
    (n : Nat) (h : I n s) (ht : ∀ v, letOwnedTupleGo t1 it v = pure () := by intro _; rfl) :
    codeAny (model prog w) A (.compLoop (.ListComp elt [⟨t0, i0, [], 0⟩, ⟨t1, i1, ifs, 0⟩] scope pos) 1 it acc env) R s := by
  refine codeAny_loop rfl I (fun n s hI => ?_) n h
  show wpAny _ A ((compTurn (.ListComp elt [⟨t0, i0, [], 0⟩, ⟨t1, i1, ifs, 0⟩] scope pos) 1 it acc env).onRaise (fun x => do noteFrame x env; theTreesLotGoes x)) _ _ s
  refine wpAny_noted ?_
  rw [compTurn_in]
  refine wpAny_bind (wpAny_standAt (wpAny_bind (wpAny_mono (turn n s (fun s' => ∃ m, m < n ∧ I m s') (fun s' => R (.ok .next) s') _ hI (fun m s' q1 q2 => ⟨m, q1, q2⟩) (fun _ q => q)) (fun r s₁ h₁ => ?_) fun _ _ h' => h')))
  cases r with
  | none => exact wpAny_pure h₁
  | some v =>
    refine wpAny_bind (wpAny_of_eq (ht v) ?_)
    refine wpAny_bind (wpAny_mono h₁ (fun _ s₂ h₂ => wpAny_bind (wpAny_mono h₂ (fun ok s₃ h₃ => ?_) fun _ _ h' => h')) fun _ _ h' => h')
    cases ok with
    | false => exact wpAny_pure ⟨rfl, h₃⟩
    | true =>
      exact wpAny_bind (wpAny_bind (wpAny_mono h₃ (fun x s₄ h₄ => wpAny_bind (wpAny_mono h₄ (fun _ s₅ h₅ => wpAny_pure (wpAny_pure ⟨rfl, h₅⟩)) fun _ _ h' => h')) fun _ _ h' => h'))
theorem codeAny_out {elt t0 i0 t1 i1 : Expr} {ifs : List Expr} {scope : Scope} {pos : Pos} {it acc : Value} {env : Env} (I : Nat → Shared → Prop)
    (turn : ∀ n s (J RN : Shared → Prop) (EE : Value → Shared → Prop), I n s → (∀ m s', m < n → I m s' → J s') → (∀ s', R (.ok .next) s' → RN s') → wpAny (model prog w) A (pyNext it) (fun r s₁ => match r with
      | none => RN s₁
      | some v => wpAny (model prog w) A (assign t0 env v) (fun _ s₂ =>
          wpAny (model prog w) A (eval i1 env) (fun x s₃ => wpAny (model prog w) A (pyIter x) (fun it' s₄ =>
            codeAny (model prog w) A (.compStart (.ListComp elt [⟨t0, i0, [], 0⟩, ⟨t1, i1, ifs, 0⟩] scope pos) 1 it' acc env) (fun r s₅ => match r with | .ok _ => J s₅ | .error _ => False) s₄)
            EE s₃) EE s₂) EE s₁) EE s)
    (n : Nat) (h : I n s) (ht : ∀ v, letOwnedTupleGo t0 it v = pure () := by intro _; rfl) (hs : ∀ x, foldedSetIterable i1 env x = pure x := by intro _; rfl) :
    codeAny (model prog w) A (.compLoop (.ListComp elt [⟨t0, i0, [], 0⟩, ⟨t1, i1, ifs, 0⟩] scope pos) 0 it acc env) R s := by
  refine codeAny_loop rfl I (fun n s hI => ?_) n h
  show wpAny _ A ((compTurn (.ListComp elt [⟨t0, i0, [], 0⟩, ⟨t1, i1, ifs, 0⟩] scope pos) 0 it acc env).onRaise (fun x => do noteFrame x env; theTreesLotGoes x)) _ _ s
  refine wpAny_noted ?_
  rw [compTurn_out]
  refine wpAny_bind (wpAny_standAt (wpAny_bind (wpAny_mono (turn n s (fun s' => ∃ m, m < n ∧ I m s') (fun s' => R (.ok .next) s') _ hI (fun m s' q1 q2 => ⟨m, q1, q2⟩) (fun _ q => q)) (fun r s₁ h₁ => ?_) fun _ _ h' => h')))
  cases r with
  | none => exact wpAny_pure h₁
  | some v =>
    refine wpAny_bind (wpAny_of_eq (ht v) ?_)
    refine wpAny_bind (wpAny_mono h₁ (fun _ s₂ h₂ => wpAny_bind (wpAny_tests_nil ?_)) fun _ _ h' => h')
    refine wpAny_ite ?_
    rw [if_pos rfl]
    refine wpAny_bind (wpAny_mono h₂ (fun x s₃ h₃ => wpAny_bind (wpAny_standAt (wpAny_bind (wpAny_of_eq (hs x) (wpAny_bind (wpAny_holding (wpAny_mono h₃ (fun it' s₄ h₄ => ?_) fun _ _ h' => h'))))))) fun _ _ h' => h')
    refine wpAny_bind (wpAny_runOwn (codeAny_mono h₄ fun r s₅ h₅ => ?_))
    cases r with
    | ok f => exact wpAny_pure ⟨rfl, h₅⟩
    | error e => exact h₅.elim
theorem codeAny_startIn {elt t0 i0 t1 i1 : Expr} {ifs : List Expr} {scope pos it acc env}
    (h0 : codeAny (model prog w) A (.compLoop (.ListComp elt [⟨t0, i0, [], 0⟩, ⟨t1, i1, ifs, 0⟩] scope pos) 1 it acc env) R s)
    (h : wpAny (model prog w) A (pyIter it) (fun it' s' => codeAny (model prog w) A (.compLoop (.ListComp elt [⟨t0, i0, [], 0⟩, ⟨t1, i1, ifs, 0⟩] scope pos) 1 it' acc env) R s')
      (notedBy (model prog w) A env fun x s' => R (.error x) s') s) :
    codeAny (model prog w) A (.compStart (.ListComp elt [⟨t0, i0, [], 0⟩, ⟨t1, i1, ifs, 0⟩] scope pos) 1 it acc env) R s := by
  refine codeAny_of_tree ?_
  show wpAny _ _ ((compStart (.ListComp elt [⟨t0, i0, [], 0⟩, ⟨t1, i1, ifs, 0⟩] scope pos) 1 it acc env).onRaise (fun x => do noteFrame x env; standAt theWindowsPlace)) _ _ s
  refine wpAny_notedAt ?_
  unfold compStart
  show wpAny _ _ (ask >>= _) _ _ s
  refine wpAny_bind (wpAny_askSetting (wpAny_ite ?_))
  split
  · first
      | exact wpAny_bind (wpAny_pure (wpAny_pure (And.intro rfl h0)))
      | exact wpAny_pure (And.intro rfl h0)
  · first
      | exact wpAny_bind (wpAny_rule (wpAny_bind (wpAny_standAt (wpAny_bind (wpAny_mono h (fun it' s' h' => wpAny_pure (And.intro rfl h')) fun _ _ x => x)))))
      | (refine wpAny_bind (wpAny_rule ?_); show wpAny _ _ (standAt i1.pos >>= _) _ _ s; exact wpAny_bind (wpAny_standAt (wpAny_bind (wpAny_mono h (fun it' s' h' => wpAny_pure (And.intro rfl h')) fun _ _ x => x))))
end
def Off4 (I1 I2 C D : Addr) (l : Led) : Prop := ∀ p ∈ l, p.1 ≠ I1 ∧ p.1 ≠ I2 ∧ p.1 ≠ C ∧ p.1 ≠ D
def Step2 (h₀ : Heap) (L : Addr) (m : Str → Option Value) (s₁ : Shared) (I1 : Addr) (oI1 : Obj) (I2 : Addr) (oI2 : Obj) (C : Addr) (oC : Obj) (D : Addr) (oD : Obj) (P : Led → Prop) (s₂ : Shared) : Prop :=
  ∃ h' tk' nw', s₂ = { s₁ with heap := h', toks := tk' } ∧ Fr h₀ L h' m ∧ News h₀ L h' ((I1, oI1) :: (I2, oI2) :: (C, oC) :: (D, oD) :: nw') ∧ Off4 I1 I2 C D nw' ∧ P nw'
def RangeAt (h₀ : Heap) (L : Addr) (m : Str → Option Value) (s₁ : Shared) (led : Led) (n : Nat) (xv : Value) (s' : Shared) : Prop :=
  ∃ (r : Addr) (t u v : Tok) (h' : Heap) (tk' : Nat), xv = .ref r ∧ s' = { s₁ with heap := h', toks := tk' } ∧ Fr h₀ L h' m ∧ News h₀ L h' led ∧ IsRange h' r 0 (n : Nat) 1 t u v
theorem rangeAt {h₀ : Heap} {L : Addr} {m : Str → Option Value} {s₁ : Shared} {led : Led} {n : Nat} {r : Addr} {t u v : Tok} {h' : Heap} {tk' : Nat} (F : Fr h₀ L h' m) (N : News h₀ L h' led) (R : IsRange h' r 0 (n : Nat) 1 t u v) :
    RangeAt h₀ L m s₁ led n (.ref r) { s₁ with heap := h', toks := tk' } := ⟨r, t, u, v, h', tk', rfl, rfl, F, N, R⟩
theorem step2 {h₀ : Heap} {L : Addr} {m : Str → Option Value} {s₁ : Shared} {I1 : Addr} {oI1 : Obj} {I2 : Addr} {oI2 : Obj} {C : Addr} {oC : Obj} {D : Addr} {oD : Obj} {P : Led → Prop} {h' : Heap} {tk' : Nat} {nw' : Led} (F : Fr h₀ L h' m) (N : News h₀ L h' ((I1, oI1) :: (I2, oI2) :: (C, oC) :: (D, oD) :: nw')) (o : Off4 I1 I2 C D nw') (p : P nw') :
    Step2 h₀ L m s₁ I1 oI1 I2 oI2 C oC D oD P { s₁ with heap := h', toks := tk' } := ⟨_, _, nw', rfl, F, N, o, p⟩
inductive Src2 (prog : Program) (w : World) (A : Around) (h₀ : Heap) (L : Addr) (m : Str → Option Value) (env : Env) (elt it2 test : Expr) (x y : Str) (scope : Scope) (cl : List (Str × Addr)) (Fin : Shared → List Value → Led → Prop) (xv : Value) (s₁ : Shared) : Prop
  | intro (r : Addr) (t u v : Tok) (n1 n2 : Nat) (nw : Led) (Inv : Nat → Nat → List Value → Led → Prop) (x0 : xv = .ref r) (x1 : A.handled = none) (x2 : Fr h₀ L s₁.heap m) (x3 : News h₀ L s₁.heap nw) (x4 : IsRange s₁.heap r 0 (n1 : Nat) 1 t u v) (x5 : n1 ≤ 1000) (x6 : n2 ≤ 1000) (x7 : Inv 0 0 [] nw) (x8 : (∀ i j ys nw, Inv i j ys nw → ys.length ≤ 10000)) (x9 : (∀ i ys nw, i < n1 → Inv i n2 ys nw → Inv (i + 1) 0 ys nw)) (x10 : (∀ i I oI C oC D ys nw m₂ h tk (E' : Value → Shared → Prop), i < n1 → Inv i 0 ys nw → NsObj oC m₂ → Fr h₀ L h m → News h₀ L h ((I, oI) :: (C, oC) :: (D, lst ys) :: nw) →
      wpAny (model prog w) A (eval it2 (compEnvC scope cl C env)) (RangeAt h₀ L m s₁ ((I, oI) :: (C, oC) :: (D, lst ys) :: nw) n2) E' { s₁ with heap := h, toks := tk })) (x11 : (∀ i j I1 oI1 I2 oI2 C oC D ys nw m₂ t1 t2 h tk (E' : Value → Shared → Prop), i < n1 → j < n2 → Inv i j ys nw → NsObj oC m₂ → m₂ x = some (.int (i : Nat) t1) → m₂ y = some (.int (j : Nat) t2) → Fr h₀ L h m → News h₀ L h ((I1, oI1) :: (I2, oI2) :: (C, oC) :: (D, lst ys) :: nw) → Off4 I1 I2 C D nw →
      wpAny (model prog w) A (isTrue test (compEnvC scope cl C env) (eval test (compEnvC scope cl C env))) (fun ok s' => if ok = true then
        wpAny (model prog w) A (eval elt (compEnvC scope cl C env)) (fun y s'' => Step2 h₀ L m s₁ I1 oI1 I2 oI2 C oC D (lst ys) (fun nw' => Inv i (j + 1) (ys ++ [y]) nw') s'') E' s'
        else Step2 h₀ L m s₁ I1 oI1 I2 oI2 C oC D (lst ys) (fun nw' => Inv i (j + 1) ys nw') s') E' { s₁ with heap := h, toks := tk })) (x12 : ∀ s₂ : Shared, (∃ h, s₂ = { s₁ with heap := h }) → ∀ ys nw, Inv n1 0 ys nw → Fin s₂ ys nw) : Src2 prog w A h₀ L m env elt it2 test x y scope cl Fin xv s₁
theorem Src2.mk {prog : Program} {w : World} {A : Around} {h₀ : Heap} {L : Addr} {m : Str → Option Value} {env : Env} {elt it2 test : Expr} {x y : Str} {scope : Scope} {cl : List (Str × Addr)} {Fin : Shared → List Value → Led → Prop} {s₁ : Shared} {r : Addr} {t u v : Tok} {nw : Led} (n1 n2 : Nat) (Inv : Nat → Nat → List Value → Led → Prop) (hh : A.handled = none) (F : Fr h₀ L s₁.heap m) (N : News h₀ L s₁.heap nw) (hr : IsRange s₁.heap r 0 (n1 : Nat) 1 t u v) (b1 : n1 ≤ 1000) (b2 : n2 ≤ 1000) (h0 : Inv 0 0 [] nw)
    (len : ∀ i j ys nw, Inv i j ys nw → ys.length ≤ 10000) (line : ∀ i ys nw, i < n1 → Inv i n2 ys nw → Inv (i + 1) 0 ys nw)
    (it : ∀ i I oI C oC D ys nw m₂ h tk (E' : Value → Shared → Prop), i < n1 → Inv i 0 ys nw → NsObj oC m₂ → Fr h₀ L h m → News h₀ L h ((I, oI) :: (C, oC) :: (D, lst ys) :: nw) →
      wpAny (model prog w) A (eval it2 (compEnvC scope cl C env)) (RangeAt h₀ L m s₁ ((I, oI) :: (C, oC) :: (D, lst ys) :: nw) n2) E' { s₁ with heap := h, toks := tk })
    (stp : ∀ i j I1 oI1 I2 oI2 C oC D ys nw m₂ t1 t2 h tk (E' : Value → Shared → Prop), i < n1 → j < n2 → Inv i j ys nw → NsObj oC m₂ → m₂ x = some (.int (i : Nat) t1) → m₂ y = some (.int (j : Nat) t2) → Fr h₀ L h m → News h₀ L h ((I1, oI1) :: (I2, oI2) :: (C, oC) :: (D, lst ys) :: nw) → Off4 I1 I2 C D nw →
      wpAny (model prog w) A (isTrue test (compEnvC scope cl C env) (eval test (compEnvC scope cl C env))) (fun ok s' => if ok = true then
        wpAny (model prog w) A (eval elt (compEnvC scope cl C env)) (fun y s'' => Step2 h₀ L m s₁ I1 oI1 I2 oI2 C oC D (lst ys) (fun nw' => Inv i (j + 1) (ys ++ [y]) nw') s'') E' s'
        else Step2 h₀ L m s₁ I1 oI1 I2 oI2 C oC D (lst ys) (fun nw' => Inv i (j + 1) ys nw') s') E' { s₁ with heap := h, toks := tk })
    (fin : ∀ s₂ : Shared, (∃ h, s₂ = { s₁ with heap := h }) → ∀ ys nw, Inv n1 0 ys nw → Fin s₂ ys nw) :
    Src2 prog w A h₀ L m env elt it2 test x y scope cl Fin (.ref r) s₁ :=
  ⟨r, t, u, v, n1, n2, nw, Inv, rfl, hh, F, N, hr, b1, b2, h0, len, line, it, stp, fin⟩
section
variable {prog : Program} {w : World} {A : Around} {E : Value → Shared → Prop} {s : Shared} {h₀ : Heap} {L : Addr} {m : Str → Option Value} {env : Env}
theorem off4_3 {I1 I2 C D : Addr} {l : Led} (h : Off4 I1 I2 C D l) : ∀ p ∈ l, p.1 ≠ I1 ∧ p.1 ≠ C ∧ p.1 ≠ D := fun p hp => ⟨(h p hp).1, (h p hp).2.2.1, (h p hp).2.2.2⟩
theorem block_2 {elt it1 it2 test : Expr} {x y : Str} {px py : Pos} {scope : Scope} {pos : Pos} {s₂ : Shared} {I D : Addr} {n1 n2 : Nat} {news : Led} {Inv : Nat → Nat → List Value → Led → Prop} {cenv : Env} {m₀ : Str → Option Value} {RR : Result → Shared → Prop}
    (hh : A.handled = none) (hxy : x ≠ y) (hkx : cenv.kindOf x = some .local) (hky : cenv.kindOf y = some .local) (hpl : (cenv.scope.kind == .class || (cenv.scope.kind == .module && cenv.locals != cenv.globals)) = false)
    (hsmall2 : Builtin.Range.small 0 (n2 : Nat) 1 = true) (hn2 : Builtin.Range.rangeSize 0 (n2 : Nat) 1 = ((n2 : Nat) : Int))
    (hst : IsRangeIter s₂.heap I 0 (n1 : Nat) 1) (F : Fr h₀ L s₂.heap m) (N : News h₀ L s₂.heap ((D, lst []) :: news)) (hns : s₂.heap.Ns cenv.locals m₀) (hIL : L ≠ I) (hI₀ : h₀.get? I = none) (hCL : cenv.locals ≠ L) (hC₀ : h₀.get? cenv.locals = none)
    (hCI : cenv.locals ≠ I) (hCD : cenv.locals ≠ D) (hDI : D ≠ I) (off : ∀ p ∈ news, p.1 ≠ I ∧ p.1 ≠ cenv.locals ∧ p.1 ≠ D) (h0 : Inv 0 0 [] news)
    (hlen : ∀ i j ys nw, Inv i j ys nw → ys.length ≤ 10000) (hline : ∀ i ys nw, i < n1 → Inv i n2 ys nw → Inv (i + 1) 0 ys nw)
    (hit2 : ∀ i oI oC ys nw m₂ h tk (E' : Value → Shared → Prop), i < n1 → Inv i 0 ys nw → NsObj oC m₂ → Fr h₀ L h m → News h₀ L h ((I, oI) :: (cenv.locals, oC) :: (D, lst ys) :: nw) →
      wpAny (model prog w) A (eval it2 cenv) (fun xv s' => ∃ (r : Addr) (t u v : Tok) (h' : Heap) (tk' : Nat), xv = .ref r ∧ s' = { s₂ with heap := h', toks := tk' } ∧ Fr h₀ L h' m ∧ News h₀ L h' ((I, oI) :: (cenv.locals, oC) :: (D, lst ys) :: nw) ∧ IsRange h' r 0 (n2 : Nat) 1 t u v) E' { s₂ with heap := h, toks := tk })
    (hstep : ∀ i j oI1 I2 oI2 oC ys nw m₂ t1 t2 h tk (E' : Value → Shared → Prop), i < n1 → j < n2 → Inv i j ys nw → NsObj oC m₂ → m₂ x = some (.int (i : Nat) t1) → m₂ y = some (.int (j : Nat) t2) → Fr h₀ L h m → News h₀ L h ((I, oI1) :: (I2, oI2) :: (cenv.locals, oC) :: (D, lst ys) :: nw) → Off4 I I2 cenv.locals D nw →
      wpAny (model prog w) A (isTrue test cenv (eval test cenv)) (fun ok s' => if ok = true then
        wpAny (model prog w) A (eval elt cenv) (fun y s'' => Step2 h₀ L m s₂ I oI1 I2 oI2 cenv.locals oC D (lst ys) (fun nw' => Inv i (j + 1) (ys ++ [y]) nw') s'') E' s'
        else Step2 h₀ L m s₂ I oI1 I2 oI2 cenv.locals oC D (lst ys) (fun nw' => Inv i (j + 1) ys nw') s') E' { s₂ with heap := h, toks := tk })
    (hRR : ∀ h tk m' ys nw, Inv n1 0 ys nw → Fr h₀ L h m → News h₀ L h ((D, lst ys) :: nw) → (∀ p ∈ nw, p.1 ≠ I ∧ p.1 ≠ cenv.locals ∧ p.1 ≠ D) → h.Ns cenv.locals m' → RR (.ok .next) { s₂ with heap := h, toks := tk })
    (hs2 : ∀ x, foldedSetIterable it2 cenv x = pure x) :
    codeAny (model prog w) A (.compLoop (.ListComp elt [⟨.Name x px, it1, [], 0⟩, ⟨.Name y py, it2, [test], 0⟩] scope pos) 0 (.ref I) (.ref D) cenv) RR s₂ := by
  have W := range_walks (prog := prog) (w := w) (I := I) hh 0 n1
  have hDL : D ≠ L := (N _ (.head _)).2.1
  have hD₀ : h₀.get? D = none := (N _ (.head _)).2.2
  refine codeAny_out (hs := hs2)
    (fun k s' => ∃ h' tk i ys nw m', s' = { s₂ with heap := h', toks := tk } ∧ i ≤ n1 ∧ k = n1 + 1 - i ∧ IsRangeIter h' I (0 + (i : Nat) * 1) ((n1 : Int) - (i : Nat)) 1 ∧ Fr h₀ L h' m ∧ h'.Ns cenv.locals m' ∧ News h₀ L h' ((D, lst ys) :: nw) ∧ (∀ p ∈ nw, p.1 ≠ I ∧ p.1 ≠ cenv.locals ∧ p.1 ≠ D) ∧ Inv i 0 ys nw) ?_ (n1 + 1)
    ⟨s₂.heap, s₂.toks, 0, [], news, m₀, rfl, Nat.zero_le _, rfl, by simpa using hst, F, hns, N, off, h0⟩
  rintro k s' J1 R1 E1 ⟨h', tk, i, ys, nw, m', rfl, hi, rfl, hst', F', hn', N', off', hI⟩ hJ1 hR1
  have offI : ∀ p ∈ ((D, lst ys) :: nw : Led), p.1 ≠ I := fun p hp => by
    rcases List.mem_cons.mp hp with rfl | hp
    · exact hDI
    · exact (off' p hp).1
  by_cases hlt : i < n1
  · refine W.item i _ _ _ hlt hst' fun v h₂ tk₂ hPv hst₂ hk₂ => ?_
    obtain ⟨t1, rfl⟩ := hPv
    rw [Int.zero_add]
    have hn₂ : h₂.Ns cenv.locals m' := hn'.at' fun o e => hk₂ _ o (by simpa using hCI) e
    have F₂ : Fr h₀ L h₂ m := fr_but F' hk₂ hIL hI₀
    have N₂ : News h₀ L h₂ ((D, lst ys) :: nw) := news_but N' hk₂ offI
    refine wpAny_assign_Name (wpAny_storeName_local hkx hn₂ (fun h₃ hn₃ hs₃ => ?_) hpl)
    have F₃ : Fr h₀ L h₃ m := F₂.change hs₃ hCL hC₀
    have hst₃ : IsRangeIter h₃ I (0 + ((i + 1 : Nat) : Int) * 1) ((n1 : Int) - ((i + 1 : Nat) : Int)) 1 := W.frame _ _ _ hst₂ fun b hb o e => hs₃.extBut b o (fun q => hCI (q ▸ List.mem_singleton.mp hb)) e
    obtain ⟨oI, heI⟩ : ∃ o, h₃.get? I = some o := ⟨_, hst₃⟩
    obtain ⟨oC, heC, hoC⟩ := ns_obj hn₃
    have N₃ : News h₀ L h₃ ((I, oI) :: (cenv.locals, oC) :: (D, lst ys) :: nw) := fun p hp => by
      rcases List.mem_cons.mp hp with rfl | hp
      · exact ⟨heI, Ne.symm hIL, hI₀⟩
      rcases List.mem_cons.mp hp with rfl | hp
      · exact ⟨heC, hCL, hC₀⟩
      have z := N₂ p hp
      refine ⟨hs₃.extBut _ _ ?_ z.1, z.2⟩
      rcases List.mem_cons.mp hp with rfl | hp
      · exact Ne.symm hCD
      · exact (off' p hp).2.1
    refine wpAny_mono (hit2 i oI oC ys nw _ h₃ _ _ hlt hI hoC F₃ N₃) (fun xv s₄ q => ?_) fun _ _ e => e
    obtain ⟨r, t, u, v, h₄, tk₄, rfl, rfl, F₄, N₄, hR₄⟩ := q
    refine wpAny_pyIter_range hR₄ hsmall2 ?_
    rw [hn2]
    dsimp only
    generalize hI2 : h₄.objs.size = I2
    generalize hh5 : h₄.push { cls := .type "range_iterator", data := .fields #[rawInt 0, rawInt ((n2 : Nat) : Int), rawInt 1] } = h₅
    have up : ∀ b o, h₄.get? b = some o → h₅.get? b = some o := fun b o e => hh5 ▸ Heap.get?_push_of_some _ e
    have hst5 : IsRangeIter h₅ I2 0 ((n2 : Nat) : Int) 1 := by rw [← hh5, ← hI2]; exact Heap.get?_push_size _ rfl
    have F₅ : Fr h₀ L h₅ m := F₄.keeps up
    have N₅ : News h₀ L h₅ ((I, oI) :: (cenv.locals, oC) :: (D, lst ys) :: nw) := N₄.grown up
    have lt5 : ∀ p ∈ ((I, oI) :: (cenv.locals, oC) :: (D, lst ys) :: nw : Led), p.1 ≠ I2 := fun p hp => by rw [← hI2]; exact Nat.ne_of_lt (Heap.lt_size (N₄ p hp).1)
    have hII2 : I ≠ I2 := lt5 (I, oI) (.head _)
    have hCI2 : cenv.locals ≠ I2 := lt5 (cenv.locals, oC) (.tail _ (.head _))
    have hDI2 : D ≠ I2 := lt5 (D, lst ys) (.tail _ (.tail _ (.head _)))
    have hLI2 : L ≠ I2 := by rw [← hI2]; exact Nat.ne_of_lt F₄.ns.lt
    have hI2₀ : h₀.get? I2 = none := by
      cases e : h₀.get? I2 with
      | none => rfl
      | some o' => exact absurd (Heap.lt_size (F₄.keep _ o' e)) (by rw [hI2]; exact Nat.lt_irrefl _)
    have W2 := range_walks (prog := prog) (w := w) (I := I2) hh 0 n2
    have hn5 : h₅.Ns cenv.locals (fun q => if q = x then some (.int (i : Nat) t1) else m' q) := hoC.ns (N₅ _ (.tail _ (.head _))).1
    have loop : codeAny (model prog w) A (.compLoop (.ListComp elt [⟨.Name x px, it1, [], 0⟩, ⟨.Name y py, it2, [test], 0⟩] scope pos) 1 (.ref I2) (.ref D) cenv)
        (fun r s₅ => match r with | .ok _ => J1 s₅ | .error _ => False) { s₂ with heap := h₅, toks := tk₄ } := by
      refine codeAny_in
        (fun k s' => ∃ h' tk j ys nw m', s' = { s₂ with heap := h', toks := tk } ∧ j ≤ n2 ∧ k = n2 + 1 - j ∧ IsRangeIter h' I2 (0 + (j : Nat) * 1) ((n2 : Int) - (j : Nat)) 1 ∧ Fr h₀ L h' m ∧ h'.Ns cenv.locals m' ∧ m' x = some (.int (i : Nat) t1) ∧ News h₀ L h' ((I, oI) :: (D, lst ys) :: nw) ∧ Off4 I I2 cenv.locals D nw ∧ Inv i j ys nw) ?_ (n2 + 1)
        ⟨h₅, tk₄, 0, ys, nw, _, rfl, Nat.zero_le _, rfl, by simpa using hst5, F₅, hn5, by simp, fun p hp => ?_, fun p hp => ⟨(off' p hp).1, lt5 p (.tail _ (.tail _ (.tail _ hp))), (off' p hp).2⟩, hI⟩
      · rintro k s' J2 R2 E2 ⟨h6, tk6, j, ys, nw, m6, rfl, hj, rfl, hst6, F6, hn6, hmx, N6, off6, hI6⟩ hJ2 hR2
        have offI2 : ∀ p ∈ ((I, oI) :: (D, lst ys) :: nw : Led), p.1 ≠ I2 := fun p hp => by
          rcases List.mem_cons.mp hp with rfl | hp
          · exact hII2
          rcases List.mem_cons.mp hp with rfl | hp
          · exact hDI2
          · exact (off6 p hp).2.1
        by_cases hjl : j < n2
        · refine W2.item j _ _ _ hjl hst6 fun v h7 tk7 hPv hst7 hk7 => ?_
          obtain ⟨t2, rfl⟩ := hPv
          rw [Int.zero_add]
          have hn7 : h7.Ns cenv.locals m6 := hn6.at' fun o e => hk7 _ o (by simpa using hCI2) e
          have F7 : Fr h₀ L h7 m := fr_but F6 hk7 hLI2 hI2₀
          have N7 : News h₀ L h7 ((I, oI) :: (D, lst ys) :: nw) := news_but N6 hk7 offI2
          refine wpAny_assign_Name (wpAny_storeName_local hky hn7 (fun h8 hn8 hs8 => ?_) hpl)
          have F8 : Fr h₀ L h8 m := F7.change hs8 hCL hC₀
          have hst8 : IsRangeIter h8 I2 (0 + ((j + 1 : Nat) : Int) * 1) ((n2 : Int) - ((j + 1 : Nat) : Int)) 1 := W2.frame _ _ _ hst7 fun b hb o e => hs8.extBut b o (fun q => hCI2 (q ▸ List.mem_singleton.mp hb)) e
          obtain ⟨oI2, heI2⟩ : ∃ o, h8.get? I2 = some o := ⟨_, hst8⟩
          obtain ⟨oC8, heC8, hoC8⟩ := ns_obj hn8
          have N8 : News h₀ L h8 ((I, oI) :: (I2, oI2) :: (cenv.locals, oC8) :: (D, lst ys) :: nw) := fun p hp => by
            rcases List.mem_cons.mp hp with rfl | hp
            · have z := N7 _ (.head _)
              exact ⟨hs8.extBut _ _ (Ne.symm hCI) z.1, z.2⟩
            rcases List.mem_cons.mp hp with rfl | hp
            · exact ⟨heI2, Ne.symm hLI2, hI2₀⟩
            rcases List.mem_cons.mp hp with rfl | hp
            · exact ⟨heC8, hCL, hC₀⟩
            have z := N7 p (.tail _ hp)
            refine ⟨hs8.extBut _ _ ?_ z.1, z.2⟩
            rcases List.mem_cons.mp hp with rfl | hp
            · exact Ne.symm hCD
            · exact (off6 p hp).2.2.1
          have fin : ∀ (ys' : List Value) (h9 : Heap) (tk9 : Nat) (nw' : Led), Fr h₀ L h9 m → News h₀ L h9 ((I, oI) :: (I2, oI2) :: (cenv.locals, oC8) :: (D, lst ys') :: nw') → Off4 I I2 cenv.locals D nw' → Inv i (j + 1) ys' nw' →
              J2 { s₂ with heap := h9, toks := tk9 } := by
            intro ys' h9 tk9 nw' F9 N9 off9 hI9
            refine hJ2 (n2 + 1 - (j + 1)) _ (by (first | lia | omega)) ⟨h9, tk9, j + 1, ys', nw', _, rfl, hjl, rfl, ?_, F9, hoC8.ns (N9 _ (.tail _ (.tail _ (.head _)))).1, by simp [hxy, hmx], fun p hp => ?_, off9, hI9⟩
            · have e : h8.get? I2 = some _ := hst8
              show h9.get? I2 = some _
              rw [(N9 (I2, oI2) (.tail _ (.head _))).1, ← heI2]; exact e
            · rcases List.mem_cons.mp hp with rfl | hp
              · exact N9 _ (.head _)
              · exact N9 p (.tail _ (.tail _ (.tail _ hp)))
          refine wpAny_tests_one (wpAny_mono (hstep i j oI I2 oI2 oC8 ys nw _ t1 t2 h8 _ _ hlt hjl hI6 hoC8 (by simp [hxy, hmx]) (by simp) F8 N8 off6) (fun ok s9 q => ?_) fun _ _ e => e)
          cases ok with
          | false =>
            rw [if_neg (by simp)] at q ⊢
            obtain ⟨h9, tk9, nw', rfl, F9, N9, off9, hI9⟩ := q
            exact fin ys h9 tk9 nw' F9 N9 off9 hI9
          | true =>
            rw [if_pos rfl] at q ⊢
            refine wpAny_mono q (fun v s10 q => ?_) fun _ _ e => e
            obtain ⟨h9, tk9, nw', rfl, F9, N9, off9, hI9⟩ := q
            have zD := (N9 (D, lst ys) (.tail _ (.tail _ (.tail _ (.head _))))).1
            refine append_at (hsz := by show ys.toArray.size ≤ sizeLine; rw [List.size_toArray, sizeLine_eq]; have := hlen _ _ _ _ hI6; (first | lia | omega)) zD fun h10 hs10 hD10 => ?_
            refine fin (ys ++ [v]) h10 tk9 nw' (F9.change hs10 hDL hD₀) (fun p hp => ?_) off9 hI9
            rcases List.mem_cons.mp hp with rfl | hp
            · have z := N9 _ (.head _)
              exact ⟨hs10.extBut _ _ (Ne.symm hDI) z.1, z.2⟩
            rcases List.mem_cons.mp hp with rfl | hp
            · have z := N9 _ (.tail _ (.head _))
              exact ⟨hs10.extBut _ _ (Ne.symm hDI2) z.1, z.2⟩
            rcases List.mem_cons.mp hp with rfl | hp
            · have z := N9 _ (.tail _ (.tail _ (.head _)))
              exact ⟨hs10.extBut _ _ hCD z.1, z.2⟩
            rcases List.mem_cons.mp hp with rfl | hp
            · exact ⟨hD10.trans (congrArg some (lst_snoc ys v)), hDL, hD₀⟩
            · have z := N9 p (.tail _ (.tail _ (.tail _ (.tail _ hp))))
              exact ⟨hs10.extBut _ _ (off9 p hp).2.2.2 z.1, z.2⟩
        · obtain rfl : j = n2 := Nat.le_antisymm hj (Nat.not_lt.mp hjl)
          refine W2.done _ _ _ hst6 fun h7 tk7 hk7 => ?_
          have N7 := news_but N6 hk7 offI2
          refine hR2 _ (hJ1 (n1 + 1 - (i + 1)) _ (by (first | lia | omega)) ⟨h7, tk7, i + 1, ys, nw, _, rfl, hlt, rfl, ?_, fr_but F6 hk7 hLI2 hI2₀, hn6.at' fun o e => hk7 _ o (by simpa using hCI2) e, fun p hp => N7 p (.tail _ hp), off4_3 off6, hline i ys nw hlt hI6⟩)
          have e : h₃.get? I = some _ := hst₃
          show h7.get? I = some _
          rw [(N7 (I, oI) (.head _)).1, ← heI]; exact e
      · rcases List.mem_cons.mp hp with rfl | hp
        · exact N₅ _ (.head _)
        · exact N₅ p (.tail _ (.tail _ hp))
    exact codeAny_startIn loop (W2.self 0 _ _ _ (by simpa using hst5) loop)
  · obtain rfl : i = n1 := Nat.le_antisymm hi (Nat.not_lt.mp hlt)
    refine W.done _ _ _ hst' fun h₂ tk₂ hk₂ => ?_
    exact hR1 _ <| hRR h₂ tk₂ m' ys nw hI (fr_but F' hk₂ hIL hI₀) (news_but N' hk₂ offI) off' (hn'.at' fun o e => hk₂ _ o (by simpa using hCI) e)
theorem small_r (n : Nat) (h : n ≤ 1000) : Builtin.Range.small 0 (n : Nat) 1 = true := small_one (by (first | lia | omega)) (by (first | lia | omega)) (by (first | lia | omega)) (by (first | lia | omega))
theorem size_r (n : Nat) : Builtin.Range.rangeSize 0 (n : Nat) 1 = ((n : Nat) : Int) := by
  have := range_size (l := 0) (r := n) (Nat.zero_le _)
  simpa using this
theorem Assign_ListComp_2 {elt it1 it2 test : Expr} {x y z : Str} {px py pz : Pos} {scope : Scope} {cl : List (Str × Addr)} {pos spos : Pos} {Q : Flow → Shared → Prop} (_F₀ : Fr h₀ L s.heap m) (hLe : env.locals = L)
    (hsw : swapsWith (.ListComp elt [⟨.Name x px, it1, [], 0⟩, ⟨.Name y py, it2, [test], 0⟩] scope pos) (some (.Name z pz)) spos.line env = pure true)
    (hclos : closureFor scope env = pure cl) (hcell : ∀ z ∈ scope.names, z.2 ≠ .cell) (hkind : scope.kind = .function)
    (hnames : ∀ z ∈ scope.names, z.2 = .local → scope.names.lookup z.1 = some .local) (hx : scope.names.lookup x = some .local) (hy : scope.names.lookup y = some .local) (hxy : x ≠ y)
    (hz : env.kindOf z = some .local) (hp : (env.scope.kind == .class || (env.scope.kind == .module && env.locals != env.globals)) = false)
    (h : wpAny (model prog w) A (eval it1 env) (Src2 prog w A h₀ L m env elt it2 test x y scope cl (fun s₂ => FinA h₀ L m s₂ z Q)) E s)
    (hs : ∀ x, foldedSetIterable it1 env x = pure x := by intro _; rfl) (hs2 : ∀ cenv x, foldedSetIterable it2 cenv x = pure x := by intro _ _; rfl) :
    wpAny (model prog w) A (exec (.Assign [.Name z pz] (.ListComp elt [⟨.Name x px, it1, [], 0⟩, ⟨.Name y py, it2, [test], 0⟩] scope pos) spos) env) Q E s := by
  subst hLe
  rw [exec_Assign_Name_used _ _ _ _ hsw]
  refine wpAny_bind (wpAny_standAt (wpAny_bind ?_))
  show wpAny _ A (do let _ ← comprehension (.ListComp elt [⟨.Name x px, it1, [], 0⟩, ⟨.Name y py, it2, [test], 0⟩] scope pos) scope env _ (newList []) false (eval it1 env) (some (assign (.Name z pz) env))) _ _ s
  refine wpAny_bind (wpAny_mono (wpAny_comprehension_free (use := some (assign (.Name z pz) env)) (Q := fun _ s' => Q .next s') rfl hs hclos hkind hnames
    (wpAny_mono h (fun xv s₁ h₁ => ?_) fun _ _ e => e)) (fun _ s' hq => wpAny_pure (wpAny_pure hq)) fun _ _ e => e)
  obtain ⟨r, t, u, v, n1, n2, nw, Inv, rfl, hh, F, N, hr, hn1, hn2, h0, hlen, hline, hit2, hstep, fin⟩ := h₁
  refine wpAny_pyIter_range hr (small_r n1 hn1) ?_
  rw [size_r]
  generalize hI : s₁.heap.objs.size = I
  generalize hh2 : s₁.heap.push { cls := .type "range_iterator", data := .fields #[rawInt 0, rawInt ((n1 : Nat) : Int), rawInt 1] } = h₂
  have up : ∀ b o, s₁.heap.get? b = some o → h₂.get? b = some o := fun b o e => hh2 ▸ Heap.get?_push_of_some _ e
  have hst : IsRangeIter h₂ I 0 ((n1 : Nat) : Int) 1 := by rw [← hh2, ← hI]; exact Heap.get?_push_size _ rfl
  have hLI : env.locals ≠ I := by rw [← hI]; exact Nat.ne_of_lt F.ns.lt
  have hI₀ : h₀.get? I = none := by rw [← hI]; exact next_is_new F
  have offI : ∀ p ∈ nw, p.1 ≠ I := fun p hp => by rw [← hI]; exact Nat.ne_of_lt (Heap.lt_size (N p hp).1)
  replace F : Fr h₀ env.locals h₂ m := F.keeps up
  replace N : News h₀ env.locals h₂ nw := N.grown up
  refine wpAny_newObj_type (wpAny_newFunctionEnv hcell (by intro y hy; simp at hy) (fun h₃ hns₃ hsb₃ => ?_) hkind)
  dsimp only at hns₃ hsb₃ ⊢
  generalize hH3 : h₂.push { cls := .type "list", dict := none, data := .seq ([] : List Value).toArray } = H3 at hns₃ hsb₃ ⊢
  generalize hDd : h₂.objs.size = D at *
  generalize hCd : H3.objs.size = C at *
  have hDC : @LT.lt Nat _ D C := by rw [← hCd, ← hH3, Heap.size_push, hDd]; exact Nat.lt_succ_self _
  have fresh₀ : ∀ b : Addr, @LE.le Nat _ D b → h₀.get? b = none := fun b hb => by
    cases e : h₀.get? b with
    | none => rfl
    | some o' => exact absurd (Heap.lt_size (F.keep b o' e)) (by rw [hDd]; exact Nat.not_lt.mpr hb)
  have hC₀ : h₀.get? C = none := fresh₀ _ (Nat.le_of_lt hDC)
  have hD₀ : h₀.get? D = none := fresh₀ _ (Nat.le_refl _)
  have hLlt : @LT.lt Nat _ env.locals D := by rw [← hDd]; exact F.ns.lt
  have hDL : D ≠ env.locals := Nat.ne_of_gt hLlt
  have hCL : C ≠ env.locals := Nat.ne_of_gt (Nat.lt_trans hLlt hDC)
  have hIlt : @LT.lt Nat _ I D := by
    have e : h₂.get? I = some _ := hst
    rw [← hDd]; exact Heap.lt_size e
  have hlow : ∀ p ∈ nw, @LT.lt Nat _ p.1 D := fun p hp => by rw [← hDd]; exact Heap.lt_size (N p hp).1
  have old : ∀ b o, h₂.get? b = some o → h₃.get? b = some o := fun b o e => hsb₃.extBut b o (Nat.ne_of_lt (Nat.lt_trans (by have := Heap.lt_size e; rw [hDd] at this; exact this) hDC)) (Heap.get?_push_of_some _ (hH3 ▸ Heap.get?_push_of_some _ e))
  have hacc : h₃.get? D = some (lst []) := hsb₃.extBut _ _ (Nat.ne_of_lt hDC) (Heap.get?_push_of_some _ (by rw [← hH3, ← hDd]; exact Heap.get?_push_size _ rfl))
  have N₃ : News h₀ env.locals h₃ ((D, lst []) :: nw) := fun p hp => by
    rcases List.mem_cons.mp hp with rfl | hp
    · exact ⟨hacc, hDL, hD₀⟩
    · exact ⟨old _ _ (N p hp).1, (N p hp).2⟩
  have F₃ : Fr h₀ env.locals h₃ m := F.keeps old
  have hst₃ : IsRangeIter h₃ I 0 ((n1 : Nat) : Int) 1 := old _ _ hst
  have hCI : C ≠ I := Nat.ne_of_gt (Nat.lt_trans hIlt hDC)
  have loop : ∀ tk, codeAny (model prog w) A (.compLoop (.ListComp elt [⟨.Name x px, it1, [], 0⟩, ⟨.Name y py, it2, [test], 0⟩] scope pos) 0 (.ref I) (.ref D) (compEnvC scope cl C env))
      (compPost (model prog w) A E (some (assign (.Name z pz) env)) (fun _ s' => Q .next s') (.ref D) C) { s₁ with heap := h₃, toks := tk } := fun tk => by
    refine block_2 (cenv := compEnvC scope cl C env) (Inv := Inv) (n2 := n2) (news := nw) hh hxy (lookup_relabel_local hx) (lookup_relabel_local hy) (by simp [compEnvC, relabel, hkind]) (small_r n2 hn2) (size_r n2) hst₃ F₃ N₃ hns₃ hLI hI₀ hCL hC₀
      hCI (Nat.ne_of_gt hDC) (Nat.ne_of_gt hIlt) (fun p hp => ⟨offI p hp, Nat.ne_of_lt (Nat.lt_trans (hlow p hp) hDC), Nat.ne_of_lt (hlow p hp)⟩) h0 hlen hline ?_ ?_ ?_ (hs2 _)
    · intro i oI oC ys nw m₂ h tk E' hi hI hoC F' N'
      exact hit2 i I oI C oC D ys nw m₂ h tk E' hi hI hoC F' N'
    · intro i j oI1 I2 oI2 oC ys nw m₂ t1 t2 h tk E' hi hj hI hoC hmx hmy F' N' off'
      exact hstep i j I oI1 I2 oI2 C oC D ys nw m₂ t1 t2 h tk E' hi hj hI hoC hmx hmy F' N' off'
    · intro h' tk' m' ys nw' hI' F' N' off' hn
      show wpAny _ A (assign (.Name z pz) env (.ref D)) _ _ _
      refine wpAny_assign_Name (wpAny_storeName_local hz F'.ns (fun h₄ hn₄ hs₄ => ?_) hp)
      have hL₀ : h₀.get? env.locals = none := Heap.get?_none_of_le F'.above
      have F₄ : Fr h₀ env.locals h₄ (fun q => if q = z then some (.ref D) else m q) := ⟨hn₄, fun b o e => hs₄.extBut b o (fun q => by rw [q, hL₀] at e; cases e) (F'.keep b o e), F'.above⟩
      refine ⟨m', hn.sameBut hs₄ hCL, fun h'' hs'' => fin { s₁ with heap := h₂ } ⟨_, rfl⟩ ys nw' hI' D h'' _ (F₄.change hs'' hCL hC₀) (fun p hp => ?_) ?_⟩
      · have z := hs₄.extBut _ _ (N' p hp).2.1 (N' p hp).1
        refine ⟨hs''.extBut _ _ ?_ z, (N' p hp).2⟩
        rcases List.mem_cons.mp hp with rfl | hp
        · exact Nat.ne_of_lt hDC
        · exact (off' p hp).2.1
      · clear hn F' N' hI' F₄ hs₄ hn₄
        induction nw' with
        | nil => trivial
        | cons q r ih => exact ⟨(off' q (.head _)).2.2, ih fun p hp => off' p (.tail _ hp)⟩
  exact codeAny_compStart_list (loop _) (range_walks (prog := prog) (w := w) (I := I) hh 0 n1 |>.self 0 _ _ _ (by simpa using hst₃) (loop _))
end
end
section
open PySem.Calls PyProof.V PySem.Spec
open LCg
section
variable {prog : Program} {w : World} {A : Around} {E : Value → Shared → Prop} {s : Shared} {h₀ : Heap} {L : Addr} {m : Str → Option Value} {env : Env}
theorem news_lst {h : Heap} {news : Led} {ax : Addr} {its : Array Value} {ka : Nat} (N : News h₀ L h news) (hm : (ax, W.listOf its ka) ∈ news) : h.IsList ax its := ⟨_, (N _ hm).1, rfl, _, rfl⟩
inductive CompSrcCL (prog : Program) (w : World) (A : Around) (h₀ : Heap) (L : Addr) (m : Str → Option Value) (env : Env) (elt : Expr) (x : Str) (scope : Scope) (cl : List (Str × Addr)) (Q : Value → Shared → Prop) (xv : Value) (s₁ : Shared) : Prop
  | intro (ax : Addr) (its : Array Value) (ka : Nat) (news : Led) (Inv : Nat → List Value → Prop) (x0 : xv = .ref ax) (x1 : A.handled = none) (x2 : Fr h₀ L s₁.heap m) (x3 : News h₀ L s₁.heap news) (x4 : (ax, W.listOf its ka) ∈ news) (x5 : its.size ≤ sizeLine) (x6 : Inv 0 []) (x7 : (∀ i ys oI C oC D c oc h tk (E' : Value → Shared → Prop) I, i < its.size → Inv i ys → (∃ v, its[i]? = some v ∧ oc.data = .cell (some v)) → Fr h₀ L h m → News h₀ L h ((I, oI) :: (C, oC) :: (D, lst ys) :: (c, oc) :: news) → Low news D → (@LT.lt Nat _ I D ∧ @LT.lt Nat _ D C ∧ @LT.lt Nat _ C c) →
      wpAny (model prog w) A (eval elt (compEnvC scope ((x, c) :: cl) C env)) (fun y s₄ => StepC h₀ L m s₁ ((I, oI) :: (C, oC) :: (D, lst ys) :: (c, oc) :: news) (Inv (i + 1) (ys ++ [y])) s₄) E' { s₁ with heap := h, toks := tk })) (x8 : ∀ D h tk ys, Inv its.size ys → Fr h₀ L h m → News h₀ L h ((D, lst ys) :: news) → Low news D → Q (.ref D) { s₁ with heap := h, toks := tk }) : CompSrcCL prog w A h₀ L m env elt x scope cl Q xv s₁
theorem CompSrcCL.mk {elt : Expr} {x : Str} {scope : Scope} {cl : List (Str × Addr)} {Q : Value → Shared → Prop} {s₁ : Shared} {ax : Addr} {its : Array Value} {ka : Nat} {news : Led} (Inv : Nat → List Value → Prop) (hh : A.handled = none) (F : Fr h₀ L s₁.heap m) (N : News h₀ L s₁.heap news) (ha : (ax, W.listOf its ka) ∈ news) (hz : its.size ≤ sizeLine) (h0 : Inv 0 [])
    (step : ∀ i ys oI C oC D c oc h tk (E' : Value → Shared → Prop) I, i < its.size → Inv i ys → (∃ v, its[i]? = some v ∧ oc.data = .cell (some v)) → Fr h₀ L h m → News h₀ L h ((I, oI) :: (C, oC) :: (D, lst ys) :: (c, oc) :: news) → Low news D → (@LT.lt Nat _ I D ∧ @LT.lt Nat _ D C ∧ @LT.lt Nat _ C c) →
      wpAny (model prog w) A (eval elt (compEnvC scope ((x, c) :: cl) C env)) (fun y s₄ => StepC h₀ L m s₁ ((I, oI) :: (C, oC) :: (D, lst ys) :: (c, oc) :: news) (Inv (i + 1) (ys ++ [y])) s₄) E' { s₁ with heap := h, toks := tk })
    (fin : ∀ D h tk ys, Inv its.size ys → Fr h₀ L h m → News h₀ L h ((D, lst ys) :: news) → Low news D → Q (.ref D) { s₁ with heap := h, toks := tk }) : CompSrcCL prog w A h₀ L m env elt x scope cl Q (.ref ax) s₁ :=
  ⟨ax, its, ka, news, Inv, rfl, hh, F, N, ha, hz, h0, step, fin⟩
theorem ListComp_CL {elt iter : Expr} {x : Str} {px : Pos} {scope : Scope} {cl : List (Str × Addr)} {pos : Pos} {Q : Value → Shared → Prop} (_F₀ : Fr h₀ L s.heap m)
    (hclos : closureFor scope env = pure cl) (hcf : ∀ n, cellsFrom n scope.names cl = (x, n) :: cl) (hpc : ∀ h, pushCells h scope.names = h.push cellNew) (hkind : scope.kind = .function)
    (hnames : ∀ y ∈ scope.names, y.2 = .local → scope.names.lookup y.1 = some .local) (hx : scope.names.lookup x = some .cell)
    (h : wpAny (model prog w) A (eval iter env) (CompSrcCL prog w A h₀ L m env elt x scope cl Q) E s)
    (hs : ∀ x, foldedSetIterable iter env x = pure x := by intro _; rfl) :
    wpAny (model prog w) A (eval (.ListComp elt [⟨.Name x px, iter, [], 0⟩] scope pos) env) Q E s := by
  rw [eval_ListComp]
  refine wpAny_comprehension_free (use := none) rfl hs hclos hkind hnames (wpAny_mono h (fun xv s₁ h₁ => ?_) fun _ _ e => e)
  obtain ⟨ax, its, ka, news, Inv, rfl, hh, F, N, hax, hsz, h0, step, fin⟩ := h₁
  refine wpAny_pyIter_list (news_lst N hax) ?_
  have hne : ax ≠ s₁.heap.objs.size := Nat.ne_of_lt (Heap.lt_size (N _ hax).1)
  refine block_W (Inv := Inv) (news := news) (m := m) (h₀ := h₀) (L := L) (Walks.list hh _ ax hne its) (fun b hb => ?_) (fun i h st => st.1.imp fun _ e => e.1) (fun i h h' o st e e' N' => ?_) hsz hcf hpc hkind hx ⟨⟨_, Heap.get?_push_size _ rfl, rfl, rfl⟩, _, Heap.get?_push_of_some _ (N _ hax).1, rfl, _, rfl⟩ (F.keeps fun _ _ e => Heap.get?_push_of_some _ e) (N.grown fun _ _ e => Heap.get?_push_of_some _ e) (Nat.ne_of_lt F.ns.lt) (next_is_new F) (fun p hp => Nat.ne_of_lt (Heap.lt_size (N p hp).1)) h0 ?_ ?_
  · simp only [Heap.size_push]
    rcases List.mem_cons.mp hb with rfl | hb
    · exact Nat.lt_succ_self _
    · rw [List.mem_singleton.mp hb]; exact Nat.lt_succ_of_lt (Heap.lt_size (N _ hax).1)
  · obtain ⟨o', q, r⟩ := st.1
    rw [e] at q
    cases q
    exact ⟨⟨_, e', r⟩, news_lst N' hax⟩
  · intro i ys oI C oC D c oc h tk E' hi hI hoc F' N' low lts
    exact step i ys oI C oC D c oc h tk E' _ hi hI hoc F' N' low lts
  · intro D C h tk m' ys hI F' N' low hn hC₀ hCL hCD offC
    refine ⟨m', hn, fun h'' hs'' => fin D h'' tk ys hI (F'.change hs'' hCL hC₀) (fun p hp => ?_) low⟩
    refine ⟨hs''.extBut _ _ ?_ (N' p hp).1, (N' p hp).2⟩
    rcases List.mem_cons.mp hp with rfl | hp
    · exact Ne.symm hCD
    · exact offC p hp
end
end
section
def bitCh (x : Int) (q : Nat) : Nat := if (x.fdiv ((2 : Int) ^ ((q : Nat) : Int).toNat)).fmod 2 = 0 then 46 else 35
def rowOf (x : Int) : Str := ⟨((List.range 6).map (bitCh x)).toArray⟩
theorem rowOf_len (x : Int) : (rowOf x).length = 6 := rfl
theorem rowOf_at (x : Int) {j : Nat} (hj : j < 6) : chAt (rowOf x) j = bitCh x j := by
  rw [chAt_list]
  show ((List.range 6).map (bitCh x)).getD j 0 = _
  rw [List.getD_eq_getElem?_getD, List.getElem?_map, List.getElem?_range hj]
  rfl
theorem page_of {ns : List Int} (h : ns.length = 4) : Page (ns.map rowOf) := by
  refine ⟨by rw [List.length_map, h], fun x hx => ?_, fun i hi j hj => ?_⟩
  · obtain ⟨n, _, rfl⟩ := List.mem_map.mp hx
    rfl
  · have e : cell (ns.map rowOf) i j = bitCh (ns[i]) j := by
      unfold cell
      rw [List.getD_eq_getElem?_getD, List.getElem?_map, List.getElem?_eq_getElem (by (first | lia | omega))]
      exact rowOf_at _ hj
    rw [e]
    unfold bitCh
    split
    · exact .inl rfl
    · exact .inr rfl
theorem sign_item {x : Int} {q : Nat} : Txt.item (Str.ofString ".#") ((x.fdiv ((2 : Int) ^ ((q : Nat) : Int).toNat)).fmod 2) = ⟨#[bitCh x q]⟩ := by
  have h0 := Int.fmod_nonneg_of_pos (x.fdiv ((2 : Int) ^ ((q : Nat) : Int).toNat)) (b := 2) (by decide)
  have h1 := Int.fmod_lt_of_pos (x.fdiv ((2 : Int) ^ ((q : Nat) : Int).toNat)) (b := 2) (by decide)
  unfold bitCh
  generalize (x.fdiv ((2 : Int) ^ ((q : Nat) : Int).toNat)).fmod 2 = r at h0 h1
  by_cases e : r = 0
  · subst e; decide +kernel
  · have : r = 1 := by (first | lia | omega)
    subst this; decide +kernel
theorem signs_next {x : Int} {j : Nat} {zs : List Value} {t : Tok} (h : StrsAre zs ((List.range j).map fun q => (⟨#[bitCh x q]⟩ : Str))) :
    StrsAre (zs ++ [.str (Txt.item (Str.ofString ".#") ((x.fdiv ((2 : Int) ^ ((j : Nat) : Int).toNat)).fmod 2)) t]) ((List.range (j + 1)).map fun q => (⟨#[bitCh x q]⟩ : Str)) := by
  rw [sign_item, List.range_succ, List.map_append]
  exact h.append' (.cons _ t .nil)
theorem fmod2 (y : Int) : 0 ≤ y.fmod 2 ∧ y.fmod 2 < 2 := ⟨Int.fmod_nonneg_of_pos _ (by decide), Int.fmod_lt_of_pos _ (by decide)⟩
theorem int_at {ns : List Int} {vs : List Value} (h : IntsAre vs ns) {i : Nat} {v : Value} (hv : vs.toArray[i]? = some v) : ∃ x t, v = .int x t ∧ ns[i]? = some x := by
  have hi : i < ns.length := by
    have := (Array.getElem?_eq_some_iff.mp hv).1
    rw [List.size_toArray, h.length] at this
    exact this
  obtain ⟨t, ht⟩ := h.get i (ns[i]) (by simp [hi])
  have : vs[i]? = some v := by simpa using hv
  rw [ht] at this
  exact ⟨_, t, (Option.some.inj this).symm, by simp [hi]⟩
theorem rows_next {ns : List Int} {i : Nat} {ys : List Value} {x : Int} {t : Tok} (h : StrsAre ys ((ns.take i).map rowOf)) (hx : ns[i]? = some x) : StrsAre (ys ++ [.str (rowOf x) t]) ((ns.take (i + 1)).map rowOf) := by
  rw [List.take_add_one, hx, List.map_append]
  exact h.append' (.cons _ t .nil)
end
section
/-- pairs of ints that the ledger holds -/
def PairsAre (l : Led) : List Value → List Pl → Prop
  | [], [] => True
  | v :: vs, p :: ps => (∃ T ta tb, v = .ref T ∧ (T, tup2 (.int (p.1 : Nat) ta) (.int (p.2 : Nat) tb)) ∈ l) ∧ PairsAre l vs ps
  | _, _ => False
theorem PairsAre.mono {l l' : Led} (hs : Sub l l') : ∀ {vs : List Value} {ps : List Pl}, PairsAre l vs ps → PairsAre l' vs ps
  | [], [], h => h
  | _ :: _, _ :: _, ⟨⟨T, ta, tb, e, m⟩, h⟩ => ⟨⟨T, ta, tb, e, hs _ m⟩, PairsAre.mono hs h⟩
theorem PairsAre.snoc {l : Led} {v : Value} {p : Pl} : ∀ {vs : List Value} {ps : List Pl}, PairsAre l vs ps → (∃ T ta tb, v = .ref T ∧ (T, tup2 (.int (p.1 : Nat) ta) (.int (p.2 : Nat) tb)) ∈ l) → PairsAre l (vs ++ [v]) (ps ++ [p])
  | [], [], _, e => ⟨e, trivial⟩
  | _ :: _, _ :: _, ⟨a, h⟩, e => ⟨a, PairsAre.snoc h e⟩
theorem PairsAre.length {l : Led} : ∀ {vs : List Value} {ps : List Pl}, PairsAre l vs ps → vs.length = ps.length
  | [], [], _ => rfl
  | _ :: _, _ :: _, ⟨_, h⟩ => by rw [List.length_cons, List.length_cons, PairsAre.length h]
theorem PairsAre.get {l : Led} : ∀ {vs : List Value} {ps : List Pl}, PairsAre l vs ps → ∀ k, k < vs.length → ∃ T ta tb p, vs[k]? = some (.ref T) ∧ p ∈ ps ∧ (T, tup2 (.int (p.1 : Nat) ta) (.int (p.2 : Nat) tb)) ∈ l
  | [], [], _, k, hk => absurd hk (Nat.not_lt_zero _)
  | v :: vs, p :: ps, ⟨⟨T, ta, tb, e, m⟩, h⟩, 0, _ => ⟨T, ta, tb, p, by rw [e]; rfl, .head _, m⟩
  | v :: vs, p :: ps, ⟨_, h⟩, k + 1, hk => by
    obtain ⟨T, ta, tb, q, e, hq, m⟩ := PairsAre.get h k (by simpa using hk)
    exact ⟨T, ta, tb, q, by simpa using e, .tail _ hq, m⟩
end
section
section
variable {w : World} {k : Nat} {f : Addr} {args : List Value} {news : Led}
    {p : Program} {loose : List Str} {mean : ExcName → Option Value} {mg mb : Str → Option Value} {dp un : Nat} {gd : Option (List Code)} {cn : Str} {cs : Scope} {a : Addr} {ccd : Value} {cl : List (Str × Addr)} {outer : List Env} {A₀ : Around} {base h₀ : Heap} {L : Addr} {m : Str → Option Value} {s : Shared}
    {Q E : Value → Shared → Prop}
theorem use_filled {page : List Str} {st : Pl} {rest : Led} (C : Ctr w k f args news (FilledPost page st rest))
    (B : Below A₀ base outer h₀) (F : Fr h₀ L s.heap m) (X : (Mine.hd.heap_39 w.params).In h₀) (N : News h₀ L s.heap news) (T : Top p loose mean mg mb h₀) (hk : cs.kind = .function)
    (hd : dp + k < recursionLimit) (hu : un + 10 * k < cLine) (c1 : CodeHd base 48 44) (c2 : CodeHd base 55 51)
    (ret : ∀ T rA rv rn uA uv un rows runs more p44 p51 h' tk', Fr h₀ L h' m → News h₀ L h' ((T, tup2 (.ref rA) (.ref uA)) :: (rA, W.listOf rv.toArray rn) :: (uA, W.listOf uv.toArray un) :: more) → Sub rest more → StrsAre rv rows → RunsAre more uv runs → Inv page st rows runs [] → (44, tabObj p44) ∈ more → (51, tabObj p51) ∈ more → Q (.ref T) { s with heap := h', toks := tk' }) :
    wpAny (model PySem.Challenge.rw_ph0018_01.row.prog w) (ktrTop dp un gd cn cs L a ccd cl outer) (call (.ref f) args) Q E s :=
  C.use B F X N T hk hd hu c1 c2 (by
    rintro r n h' tk' F' N' ⟨T, rA, rv, rn, uA, uv, un, rows, runs, more, p44, p51, rfl, rfl, x1, x2, x3, x4, x5, x6⟩
    exact ret T rA rv rn uA uv un rows runs more p44 p51 h' tk' F' N' x1 x2 x3 x4 x5 x6)
theorem use_reached {page : List Str} {st : Pl} {rest : Led} (C : Ctr w k f args news fun r news' => ∃ rA rv rn due more, r = .ref rA ∧ news' = (rA, W.listOf rv.toArray rn) :: more ∧ Sub rest more ∧ StrsAre rv due ∧ DueIs page st due)
    (B : Below A₀ base outer h₀) (F : Fr h₀ L s.heap m) (X : (Mine.hd.heap_39 w.params).In h₀) (N : News h₀ L s.heap news) (T : Top p loose mean mg mb h₀) (hk : cs.kind = .function)
    (hd : dp + k < recursionLimit) (hu : un + 10 * k < cLine) (c1 : CodeHd base 48 44) (c2 : CodeHd base 55 51)
    (ret : ∀ rA rv rn due more h' tk', Fr h₀ L h' m → News h₀ L h' ((rA, W.listOf rv.toArray rn) :: more) → Sub rest more → StrsAre rv due → DueIs page st due → Q (.ref rA) { s with heap := h', toks := tk' }) :
    wpAny (model PySem.Challenge.rw_ph0018_01.row.prog w) (ktrTop dp un gd cn cs L a ccd cl outer) (call (.ref f) args) Q E s :=
  C.use B F X N T hk hd hu c1 c2 (by
    rintro r n h' tk' F' N' ⟨rA, rv, rn, due, more, rfl, rfl, x1, x2, x3⟩
    exact ret rA rv rn due more h' tk' F' N' x1 x2 x3)
theorem use_runs {rows : List Str} {rest : Led} (C : Ctr w k f args news fun r news' => ∃ uA uv un R, r = .ref uA ∧ (uA, W.listOf uv.toArray un) ∈ news' ∧ Sub rest news' ∧ RunsAre news' uv R ∧ RunInv rows 4 0 R)
    (B : Below A₀ base outer h₀) (F : Fr h₀ L s.heap m) (X : (Mine.hd.heap_39 w.params).In h₀) (N : News h₀ L s.heap news) (T : Top p loose mean mg mb h₀) (hk : cs.kind = .function)
    (hd : dp + k < recursionLimit) (hu : un + 10 * k < cLine) (c1 : CodeHd base 48 44) (c2 : CodeHd base 55 51)
    (ret : ∀ uA uv un R news' h' tk', Fr h₀ L h' m → News h₀ L h' news' → (uA, W.listOf uv.toArray un) ∈ news' → Sub rest news' → RunsAre news' uv R → RunInv rows 4 0 R → Q (.ref uA) { s with heap := h', toks := tk' }) :
    wpAny (model PySem.Challenge.rw_ph0018_01.row.prog w) (ktrTop dp un gd cn cs L a ccd cl outer) (call (.ref f) args) Q E s :=
  C.use B F X N T hk hd hu c1 c2 (by
    rintro r n h' tk' F' N' ⟨uA, uv, un, R, rfl, x1, x2, x3, x4⟩
    exact ret uA uv un R n h' tk' F' N' x1 x2 x3 x4)
theorem use_str {x : Str} {rest : Led} (C : Ctr w k f args news fun r news' => ∃ t', r = .str x t' ∧ news' = rest)
    (B : Below A₀ base outer h₀) (F : Fr h₀ L s.heap m) (X : (Mine.hd.heap_39 w.params).In h₀) (N : News h₀ L s.heap news) (T : Top p loose mean mg mb h₀) (hk : cs.kind = .function)
    (hd : dp + k < recursionLimit) (hu : un + 10 * k < cLine) (c1 : CodeHd base 48 44) (c2 : CodeHd base 55 51)
    (ret : ∀ t' h' tk', Fr h₀ L h' m → News h₀ L h' rest → Q (.str x t') { s with heap := h', toks := tk' }) :
    wpAny (model PySem.Challenge.rw_ph0018_01.row.prog w) (ktrTop dp un gd cn cs L a ccd cl outer) (call (.ref f) args) Q E s :=
  C.use B F X N T hk hd hu c1 c2 (by
    rintro r n h' tk' F' N' ⟨t', rfl, rfl⟩
    exact ret t' h' tk' F' N')
end
theorem five_elim {P : List Value → Prop} {ys : List Value} {ns : List Int} (h : IntsAre ys ns) (h5 : ns.length = 5)
    (k : ∀ (a b c d e : Int) (ta tb tc td te : Tok), P [.int a ta, .int b tb, .int c tc, .int d td, .int e te]) : P ys := by
  match ns, h5 with
  | [a, b, c, d, e], _ =>
    cases h with
    | cons _ ta h => cases h with
      | cons _ tb h => cases h with
        | cons _ tc h => cases h with
          | cons _ td h => cases h with
            | cons _ te h => cases h; exact k a b c d e ta tb tc td te
theorem cell_int {vs : List Value} {ns : List Int} {i : Nat} {oc : Obj} {P : Prop} (h : IntsAre vs ns) (hoc : ∃ v, vs.toArray[i]? = some v ∧ oc.data = .cell (some v))
    (k : ∀ x tx, oc.data = .cell (some (.int x tx)) → ns[i]? = some x → P) : P := by
  obtain ⟨v, hv, hc⟩ := hoc
  obtain ⟨x, tx, rfl, hx⟩ := int_at h hv
  exact k x tx hc hx
/-- what the law's list of places holds while it is built -/
def PgInv (base : Led) (i j : Nat) (ys : List Value) (nw : Led) : Prop :=
  ∃ new ps, nw = (44, tabObj #[]) :: (51, tabObj #[]) :: (new ++ base) ∧ PairsAre (new ++ base) ys ps ∧ (∀ p ∈ ps, p.1 < 4 ∧ p.2 < 6) ∧ ys.length ≤ 6 * i + j ∧ i ≤ 4 ∧ j ≤ 6 ∧ Off 44 (new ++ base) ∧ Off 51 (new ++ base)
theorem PgInv.start {base : Led} (h1 : Off 44 base) (h2 : Off 51 base) : PgInv base 0 0 [] ((44, tabObj #[]) :: (51, tabObj #[]) :: ([] ++ base)) :=
  ⟨[], [], rfl, trivial, (fun _ h => nomatch h), Nat.le_refl _, by decide, by decide, h1, h2⟩
theorem PgInv.len {base : Led} : ∀ (i j : Nat) (ys : List Value) (nw : Led), PgInv base i j ys nw → ys.length ≤ 10000 := by
  rintro i j ys nw ⟨new, ps, _, _, _, h, h1, h2, _, _⟩
  omega
theorem PgInv.line {base : Led} : ∀ (i : Nat) (ys : List Value) (nw : Led), i < 4 → PgInv base i 6 ys nw → PgInv base (i + 1) 0 ys nw := by
  rintro i ys nw hi ⟨new, ps, e, h1, h2, h3, h4, h5, h6, h7⟩
  exact ⟨new, ps, e, h1, h2, by omega, by omega, by omega, h6, h7⟩
theorem PgInv.elim {base : Led} {i j : Nat} {ys : List Value} {nw : Led} {P : Led → Prop} (h : PgInv base i j ys nw)
    (k : ∀ new ps, PairsAre (new ++ base) ys ps → (∀ p ∈ ps, p.1 < 4 ∧ p.2 < 6) → ys.length ≤ 6 * i + j → i ≤ 4 → j ≤ 6 → Off 44 (new ++ base) → Off 51 (new ++ base) → P ((44, tabObj #[]) :: (51, tabObj #[]) :: (new ++ base))) : P nw := by
  obtain ⟨new, ps, rfl, a, b, c, d, e, f, g⟩ := h
  exact k new ps a b c d e f g
theorem PgInv.yes {base new : Led} {i j : Nat} {ys : List Value} {ps : List Pl} {T : Addr} {t1 t2 : Tok} (hP : PairsAre (new ++ base) ys ps) (hps : ∀ p ∈ ps, p.1 < 4 ∧ p.2 < 6) (hl : ys.length ≤ 6 * i + j) (hi : i < 4) (hj : j < 6)
    (o44 : Off 44 (new ++ base)) (o51 : Off 51 (new ++ base)) (h44 : @LT.lt Nat _ 44 T) (h51 : @LT.lt Nat _ 51 T) :
    PgInv base i (j + 1) (ys ++ [.ref T]) ((44, tabObj #[]) :: (51, tabObj #[]) :: (((T, tup2 (.int (i : Nat) t1) (.int (j : Nat) t2)) :: new) ++ base)) := by
  refine ⟨_, ps ++ [(i, j)], rfl, PairsAre.snoc (hP.mono (Sub.consL _ _)) ⟨T, _, _, rfl, .head _⟩, ?_, ?_, Nat.le_of_lt hi, hj, ?_, ?_⟩
  · intro p hp
    rcases List.mem_append.mp hp with hp | hp
    · exact hps p hp
    · rw [List.mem_singleton.mp hp]; exact ⟨hi, hj⟩
  · rw [List.length_append, List.length_singleton]; omega
  · exact List.forall_mem_cons.mpr ⟨Nat.ne_of_gt h44, o44⟩
  · exact List.forall_mem_cons.mpr ⟨Nat.ne_of_gt h51, o51⟩
theorem PgInv.no {base new : Led} {i j : Nat} {ys : List Value} {ps : List Pl} (hP : PairsAre (new ++ base) ys ps) (hps : ∀ p ∈ ps, p.1 < 4 ∧ p.2 < 6) (hl : ys.length ≤ 6 * i + j) (hi : i ≤ 4) (hj : j < 6)
    (o44 : Off 44 (new ++ base)) (o51 : Off 51 (new ++ base)) : PgInv base i (j + 1) ys ((44, tabObj #[]) :: (51, tabObj #[]) :: (new ++ base)) :=
  ⟨new, ps, rfl, hP, hps, Nat.le_succ_of_le hl, hi, hj, o44, o51⟩
end
section
open PySem.Calls
section
variable {prog : Program} {w : World} {A : Around} {E : Value → Shared → Prop} {s : Shared} {h₀ : Heap} {L D : Addr} {m : Str → Option Value} {news : Led}
theorem pair_item {value slice : Expr} {vs : List Value} {ps : List Pl} {l : Led} {n : Nat} {k : Int} {u : Tok} {Q : Value → Shared → Prop} (N : News h₀ L s.heap news) (hm : (D, W.listOf vs.toArray n) ∈ news) (hP : PairsAre l vs ps)
    (h0 : 0 ≤ k) (h1 : k < vs.length) (hf : k < 1000000) (h : ∀ T ta tb p, p ∈ ps → (T, tup2 (.int (p.1 : Nat) ta) (.int (p.2 : Nat) tb)) ∈ l → Q (.ref T) s)
    (hs : subscripted slice false (.ref D) (.int k u) = operate [.ref D, .int k u] (getItem (.ref D) (.int k u)) := by with_unfolding_all rfl) :
    wpAny (model prog w) A (subscriptTail value slice (.ref D) (.int k u)) Q E s := by
  obtain ⟨T, ta, tb, p, e, hp, m⟩ := hP.get k.toNat (by (first | lia | omega))
  have hl := News.isList N hm
  exact tail_any hl.typeIs slot_list_getitem.lookup (wpAny_getItem_list hl h0 (by (first | lia | omega)) (by simpa using e) (h T ta tb p hp m)) hs
end
/-- a chosen place -/
structure CT where
  T : Addr
  p : Pl
  ta : Tok
  tb : Tok
end
section
/-- the tree of questions, answered by ranks: it ends in Q -/
def AskOk {α : Type} (n : Nat) (f : Nat → Nat) : KasT α → (α → Prop) → Prop
  | .ret a, Q => Q a
  | .ask i j k, Q => i < n ∧ j < n ∧ AskOk n f (k (decide (f i < f j))) Q
theorem askOk_bind {α β : Type} {n : Nat} {f : Nat → Nat} {g : α → KasT β} {Q : β → Prop} : ∀ (t : KasT α), AskOk n f t (fun a => AskOk n f (g a) Q) → AskOk n f (t.bind g) Q
  | .ret _, h => h
  | .ask _ _ k, ⟨a, b, h⟩ => ⟨a, b, askOk_bind (k _) h⟩
theorem askOk_mono {α : Type} {n : Nat} {f : Nat → Nat} {Q Q' : α → Prop} (hq : ∀ a, Q a → Q' a) : ∀ (t : KasT α), AskOk n f t Q → AskOk n f t Q'
  | .ret _, h => hq _ h
  | .ask _ _ k, ⟨a, b, h⟩ => ⟨a, b, askOk_mono hq (k _) h⟩
theorem askOk_run {α : Type} {n : Nat} {f : Nat → Nat} {Q : α → Prop} {G : α → Shared → Prop} {cmp : Nat → Nat → (Bool → Shared → Prop) → Shared → Prop} {R : Shared → Prop}
    (hc : ∀ i j (C : Bool → Shared → Prop) s, i < n → j < n → R s → (∀ s', R s' → C (decide (f i < f j)) s') → cmp i j C s) (hG : ∀ a s, Q a → R s → G a s) :
    ∀ (t : KasT α) (s : Shared), AskOk n f t Q → R s → t.kasWp cmp G s
  | .ret _, _, h, r => hG _ _ h r
  | .ask _ _ k, s, ⟨a, b, h⟩, r => hc _ _ _ s a b r fun s' r' => askOk_run hc hG (k _) s' h r'
/-- a permutation of the first n numbers -/
structure PermOf (n : Nat) (p : Array Nat) : Prop where
  size : p.size = n
  perm : p.Perm (List.range n).toArray
theorem PermOf.lt {n : Nat} {p : Array Nat} (h : PermOf n p) (h0 : 0 < n) (k : Nat) : p.getD k 0 < n := by
  by_cases hk : k < p.size
  · have : p.getD k 0 ∈ p := by simp [Array.getD, hk]
    have := h.perm.mem_iff.mp this
    simpa using this
  · have : p.getD k 0 = 0 := by simp [Array.getD, hk]
    (revert h0 this; kjx_bare; intro h0 this; lia)
theorem PermOf.ne {n : Nat} {p : Array Nat} (h : PermOf n p) {a b : Nat} (ha : a < n) (hb : b < n) (hab : a ≠ b) : p.getD a 0 ≠ p.getD b 0 := by
  have nd : p.toList.Nodup := (h.perm.toList.nodup_iff).mpr (by simpa using List.nodup_range)
  have ha' : a < p.size := by rw [h.size]; exact ha
  have hb' : b < p.size := by rw [h.size]; exact hb
  intro e
  have e2 : p.toList[a]'(by simpa using ha') = p.toList[b]'(by simpa using hb') := by
    simpa [Array.getD, ha', hb'] using e
  have pw := List.pairwise_iff_getElem.mp nd
  rcases Nat.lt_or_gt_of_ne hab with q | q
  · exact pw a b (by simpa using ha') (by simpa using hb') q e2
  · exact pw b a (by simpa using hb') (by simpa using ha') q e2.symm
def Inj (n : Nat) (f : Nat → Nat) : Prop := ∀ i j, i < n → j < n → f i = f j → i = j
/-- the k-th rank -/
def rk (f : Nat → Nat) (p : Array Nat) (k : Nat) : Nat := f (p.getD k 0)
theorem rk_ne {n : Nat} {f : Nat → Nat} {p : Array Nat} (hf : Inj n f) (h : PermOf n p) {a b : Nat} (ha : a < n) (hb : b < n) (hab : a ≠ b) : rk f p a ≠ rk f p b := fun e =>
  h.ne ha hb hab (hf _ _ (h.lt (by (revert hb; kjx_bare; intro hb; lia)) _) (h.lt (by (revert hb; kjx_bare; intro hb; lia)) _) e)
def Up (f : Nat → Nat) (p : Array Nat) (m : Nat) : Prop := ∀ i j, i < j → j < m → rk f p i < rk f p j
def Down (f : Nat → Nat) (p : Array Nat) (m : Nat) : Prop := ∀ i j, i < j → j < m → rk f p j < rk f p i
theorem Up.next {f : Nat → Nat} {p : Array Nat} {m : Nat} (h : Up f p m) (h1 : 1 ≤ m) (hl : rk f p (m - 1) < rk f p m) : Up f p (m + 1) := by
  intro i j hij hj
  by_cases e : j = m
  · subst e
    by_cases e2 : i = j - 1
    · rw [e2]; exact hl
    · exact Nat.lt_trans (h i (j - 1) (by (revert hij e2; kjx_bare; intro hij e2; lia)) (by (exact Nat.sub_one_lt (Nat.ne_of_gt h1)))) hl
  · exact h i j hij (by (revert hj e; kjx_bare; intro hj e; lia))
theorem Down.next {f : Nat → Nat} {p : Array Nat} {m : Nat} (h : Down f p m) (h1 : 1 ≤ m) (hl : rk f p m < rk f p (m - 1)) : Down f p (m + 1) := by
  intro i j hij hj
  by_cases e : j = m
  · subst e
    by_cases e2 : i = j - 1
    · rw [e2]; exact hl
    · exact Nat.lt_trans hl (h i (j - 1) (by (revert hij e2; kjx_bare; intro hij e2; lia)) (by (exact Nat.sub_one_lt (Nat.ne_of_gt h1))))
  · exact h i j hij (by (revert hj e; kjx_bare; intro hj e; lia))
section
variable {n : Nat} {f : Nat → Nat}
theorem asc_ok {p : Array Nat} (hf : Inj n f) (hp : PermOf n p) : ∀ (k m : Nat), 1 ≤ m → m + k = n → Up f p m → AskOk n f (kas_asc p k m) fun r => m ≤ r ∧ r ≤ n ∧ Up f p r ∧ (r < n → rk f p r < rk f p (r - 1))
  | 0, m, h1, hm, hu => ⟨Nat.le_refl _, by (exact Nat.le_of_eq hm), hu, fun h => by (revert hm h; kjx_bare; intro hm h; lia)⟩
  | k + 1, m, h1, hm, hu => by
    refine ⟨hp.lt (by (revert hm; kjx_bare; intro hm; lia)) _, hp.lt (by (revert hm; kjx_bare; intro hm; lia)) _, ?_⟩
    by_cases c : rk f p m < rk f p (m - 1)
    · rw [decide_eq_true (show f (p.getD m 0) < f (p.getD (m - 1) 0) from c)]
      dsimp only
      rw [if_pos rfl]
      exact ⟨Nat.le_refl _, by (revert hm; kjx_bare; intro hm; lia), hu, fun _ => c⟩
    · rw [decide_eq_false (show ¬ f (p.getD m 0) < f (p.getD (m - 1) 0) from c)]
      dsimp only
      rw [if_neg (by simp)]
      have hne := rk_ne hf hp (a := m - 1) (b := m) (by (revert hm; kjx_bare; intro hm; lia)) (by (revert hm; kjx_bare; intro hm; lia)) (by (revert h1; kjx_bare; intro h1; lia))
      refine askOk_mono (fun r h => ⟨by (revert h; kjx_bare; intro h; lia), h.2⟩) _ (asc_ok hf hp k (m + 1) (by (exact Nat.lt_of_not_le (Nat.not_lt_zero m))) (by (revert hm; kjx_bare; intro hm; lia)) (hu.next h1 (by (revert c hne; kjx_bare; intro c hne; lia))))
theorem desc_ok {p : Array Nat} (hf : Inj n f) (hp : PermOf n p) : ∀ (k m : Nat), 1 ≤ m → m + k = n → Down f p m → AskOk n f (kas_desc k p m 0) fun r => r.1 = p ∧ m ≤ r.2.1 ∧ r.2.1 ≤ n ∧ r.2.2 = 0 ∧ Down f p r.2.1
  | 0, m, h1, hm, hu => ⟨rfl, Nat.le_refl _, by show m ≤ n; (exact Nat.le_of_eq hm), rfl, hu⟩
  | k + 1, m, h1, hm, hu => by
    refine ⟨hp.lt (by (revert hm; kjx_bare; intro hm; lia)) _, hp.lt (by (revert hm; kjx_bare; intro hm; lia)) _, ?_⟩
    by_cases c : rk f p m < rk f p (m - 1)
    · rw [decide_eq_true (show f (p.getD m 0) < f (p.getD (m - 1) 0) from c)]
      dsimp only
      rw [if_pos rfl, if_neg (by (exact Nat.not_lt_of_le (Nat.le_of_not_lt (Nat.lt_irrefl 0))))]
      refine askOk_mono (fun r h => ⟨h.1, by (revert h; kjx_bare; intro h; lia), h.2.2⟩) _ (desc_ok hf hp k (m + 1) (by (exact Nat.lt_of_not_le (Nat.not_lt_zero m))) (by (revert hm; kjx_bare; intro hm; lia)) (hu.next h1 c))
    · rw [decide_eq_false (show ¬ f (p.getD m 0) < f (p.getD (m - 1) 0) from c)]
      dsimp only
      rw [if_neg (by simp)]
      have hne := rk_ne hf hp (a := m - 1) (b := m) (by (revert hm; kjx_bare; intro hm; lia)) (by (revert hm; kjx_bare; intro hm; lia)) (by (revert h1; kjx_bare; intro h1; lia))
      refine ⟨hp.lt (by (revert hm; kjx_bare; intro hm; lia)) _, hp.lt (by (revert hm; kjx_bare; intro hm; lia)) _, ?_⟩
      rw [decide_eq_true (show f (p.getD (m - 1) 0) < f (p.getD m 0) from (by show rk f p (m - 1) < rk f p m; (revert c hne; kjx_bare; intro c hne; lia)))]
      dsimp only
      rw [if_pos rfl]
      exact ⟨rfl, Nat.le_refl _, by show m ≤ n; (revert hm; kjx_bare; intro hm; lia), rfl, hu⟩
theorem getD_of {p q : Array Nat} {a b : Nat} (h : p[a]? = q[b]?) : p.getD a 0 = q.getD b 0 := by
  rw [Array.getD_eq_getD_getElem?, Array.getD_eq_getD_getElem?, h]
theorem PermOf.rev {p : Array Nat} (hp : PermOf n p) (m : Nat) : PermOf n (kas_rev p 0 m) := ⟨by unfold kas_rev; rw [mirror_size]; exact hp.size, (mirror_perm _ _ _ _).trans hp.perm⟩
theorem rev_up {p : Array Nat} (hp : PermOf n p) {m : Nat} (hm : m ≤ n) (h : Down f p m) : Up f (kas_rev p 0 m) m := by
  have key : ∀ k, k < m → rk f (kas_rev p 0 m) k = rk f p (m - 1 - k) := fun k hk => by
    unfold rk
    rw [getD_of (p := kas_rev p 0 m) (q := p) (b := m - 1 - k)]
    unfold kas_rev
    rw [getElem?_mirror_all (by rw [hp.size]; exact hm), if_pos (by (exact ⟨Nat.zero_le k, hk⟩))]
    congr 1; (kjx_bare; lia)
  intro i j hij hj
  rw [key i (by (exact Nat.le_of_lt (Nat.lt_of_le_of_lt hij hj))), key j hj]
  exact h _ _ (by (revert hij hj; kjx_bare; intro hij hj; lia)) (by (revert hj; kjx_bare; intro hj; lia))
/-- a run at the front, sorted -/
def CountOk (n : Nat) (f : Nat → Nat) (r : Nat × Array Nat) : Prop := 1 ≤ r.1 ∧ r.1 ≤ n ∧ PermOf n r.2 ∧ Up f r.2 r.1
theorem tail3_ok {p : Array Nat} (hf : Inj n f) (hp : PermOf n p) {m : Nat} (h1 : 1 ≤ m) (hm : m ≤ n) (hd : Down f p m) : AskOk n f (kas_tail3 m n p) (CountOk n f) := by
  unfold kas_tail3
  refine askOk_bind _ (askOk_mono (fun r h => ?_) _ (asc_ok hf (hp.rev m) (n - m) m h1 (by (exact Nat.add_sub_of_le hm)) (rev_up hp hm hd)))
  exact ⟨by show 1 ≤ r; (revert h1 h; kjx_bare; intro h1 h; lia), h.2.1, hp.rev m, h.2.2.1⟩
theorem count_ok {p : Array Nat} (hf : Inj n f) (hp : PermOf n p) (h2 : 2 ≤ n) : AskOk n f (kas_count n p) (CountOk n f) := by
  unfold kas_count
  refine askOk_bind _ (askOk_mono (fun r h => ?_) _ (asc_ok hf hp (n - 1) 1 (Nat.le_refl _) (by (exact Nat.add_sub_of_le (Nat.le_of_lt h2))) fun i j _ _ => by (first | lia | omega)))
  obtain ⟨a1, a2, a3, a4⟩ := h
  by_cases e : r = n
  · rw [if_pos (by rw [e]; exact beq_self_eq_true _)]
    exact ⟨a1, a2, hp, a3⟩
  · rw [if_neg (by simpa using e)]
    by_cases e2 : r > 1
    · rw [if_pos e2]
      refine ⟨hp.lt (by (revert a2 e; kjx_bare; intro a2 e; lia)) _, hp.lt (by (revert a2 e; kjx_bare; intro a2 e; lia)) _, ?_⟩
      rw [decide_eq_true (show f (p.getD 0 0) < f (p.getD (r - 1) 0) from a3 0 (r - 1) (by (exact Nat.le_sub_one_of_lt e2)) (by (revert e2; kjx_bare; intro e2; lia)))]
      dsimp only
      rw [if_pos rfl]
      exact ⟨a1, a2, hp, a3⟩
    · rw [if_neg e2]
      have e3 : r = 1 := by (revert a1 e2; kjx_bare; intro a1 e2; lia)
      subst e3
      unfold kas_descPart
      have hd : Down f p 2 := Down.next (m := 1) (fun i j _ _ => by (first | lia | omega)) (Nat.le_refl _) (a4 (by (exact Nat.lt_of_le_of_ne a2 e)))
      refine askOk_bind _ (askOk_mono (fun r h => ?_) _ (desc_ok hf hp (n - (1 + 1)) 2 (by (exact Nat.le_of_lt (Nat.le_refl (Nat.succ 1)))) (by (revert a2 e; kjx_bare; intro a2 e; lia)) hd))
      obtain ⟨b1, b2, b3, b4, b5⟩ := h
      rw [if_neg (by (exact Nat.not_lt_of_le (Nat.le_of_eq b4))), b1]
      exact tail3_ok hf hp (by (exact Nat.le_of_lt b2)) b3 b5
theorem place_ok {p : Array Nat} (hf : Inj n f) (hp : PermOf n p) {k : Nat} (hk : k < n) (hu : Up f p k) : ∀ (g l r : Nat), l ≤ r → r ≤ k → r - l ≤ g → (∀ i, i < l → rk f p i < rk f p k) → (∀ i, r ≤ i → i < k → rk f p k < rk f p i) →
      AskOk n f (kas_place p k g l r) fun a => a ≤ k ∧ (∀ i, i < a → rk f p i < rk f p k) ∧ ∀ i, a ≤ i → i < k → rk f p k < rk f p i
  | 0, l, r, h1, h2, h3, h4, h5 => ⟨by (exact Nat.le_trans h1 h2), h4, fun i h6 h7 => h5 i (by (revert h3 h6; kjx_bare; intro h3 h6; lia)) h7⟩
  | g + 1, l, r, h1, h2, h3, h4, h5 => by
    unfold kas_place
    by_cases e : l ≥ r
    · rw [if_pos e]; exact ⟨by (exact Nat.le_trans h1 h2), h4, fun i h6 h7 => h5 i (by (exact Nat.le_trans e h6)) h7⟩
    · rw [if_neg e]
      refine ⟨hp.lt (by (revert hk; kjx_bare; intro hk; lia)) _, hp.lt (by (revert hk; kjx_bare; intro hk; lia)) _, ?_⟩
      have hm : (l + r) / 2 < r := by (revert e; kjx_bare; intro e; lia)
      by_cases c : rk f p k < rk f p ((l + r) / 2)
      · rw [decide_eq_true (show f (p.getD k 0) < f (p.getD ((l + r) / 2) 0) from c)]
        dsimp only
        rw [if_pos rfl]
        refine place_ok hf hp hk hu g _ _ (by (revert hm; kjx_bare; intro hm; lia)) (by (revert h1 h2; kjx_bare; intro h1 h2; lia)) (by (revert h3; kjx_bare; intro h3; lia)) h4 fun i h6 h7 => ?_
        by_cases e2 : i = (l + r) / 2
        · rw [e2]; exact c
        · exact Nat.lt_trans c (hu _ _ (by (revert h6 e2; kjx_bare; intro h6 e2; lia)) h7)
      · rw [decide_eq_false (show ¬ f (p.getD k 0) < f (p.getD ((l + r) / 2) 0) from c)]
        dsimp only
        rw [if_neg (by simp)]
        have hne := rk_ne hf hp (a := k) (b := (l + r) / 2) hk (by (revert hk h1 h2; kjx_bare; intro hk h1 h2; lia)) (by (revert h2 hm; kjx_bare; intro h2 hm; lia))
        refine place_ok hf hp hk hu g _ _ (by (exact hm)) (by (exact h2)) (by (revert h3; kjx_bare; intro h3; lia)) (fun i h6 => ?_) h5
        by_cases e2 : i = (l + r) / 2
        · rw [e2]; (revert c hne; kjx_bare; intro c hne; lia)
        · exact Nat.lt_trans (hu i ((l + r) / 2) (by (revert h6 e2; kjx_bare; intro h6 e2; lia)) (by (exact Nat.lt_of_lt_of_le hm h2))) (by (revert c hne; kjx_bare; intro c hne; lia))
theorem bubble_up {p : Array Nat} (hp : PermOf n p) {k a : Nat} (hk : k < n) (ha : a ≤ k) (hu : Up f p k) (h1 : ∀ i, i < a → rk f p i < rk f p k) (h2 : ∀ i, a ≤ i → i < k → rk f p k < rk f p i) : PermOf n (bubble p k (k - a)) ∧ Up f (bubble p k (k - a)) (k + 1) := by
  refine ⟨⟨by rw [bubble_size]; exact hp.size, (bubble_perm _ _ _).trans hp.perm⟩, ?_⟩
  have key : ∀ i, rk f (bubble p k (k - a)) i = if i = a then rk f p k else if a < i ∧ i ≤ k then rk f p (i - 1) else rk f p i := fun i => by
    have e := getElem?_bubble (xs := p) (src := k) (by rw [hp.size]; exact hk) (k - a) (by (exact Nat.sub_le k a)) i
    rw [show k - (k - a) = a from by (exact Nat.sub_sub_self ha)] at e
    unfold rk
    by_cases c1 : i = a
    · rw [if_pos c1] at e ⊢; rw [getD_of e]
    · rw [if_neg c1] at e ⊢
      by_cases c2 : a < i ∧ i ≤ k
      · rw [if_pos c2] at e ⊢; rw [getD_of e]
      · rw [if_neg c2] at e ⊢; rw [getD_of e]
  intro i j hij hj
  rw [key, key]
  by_cases c1 : i = a
  · rw [if_pos c1, if_neg (by (revert hij c1; kjx_bare; intro hij c1; lia)), if_pos (by (revert hij hj c1; kjx_bare; intro hij hj c1; lia))]; exact h2 _ (by (revert hij c1; kjx_bare; intro hij c1; lia)) (by (revert hij hj; kjx_bare; intro hij hj; lia))
  · rw [if_neg c1]
    by_cases c2 : j = a
    · rw [if_pos c2, if_neg (by (revert hij c2; kjx_bare; intro hij c2; lia))]; exact h1 i (by (revert hij c2; kjx_bare; intro hij c2; lia))
    · rw [if_neg c2]
      by_cases c3 : a < i
      · rw [if_pos (by (revert hij hj c3; kjx_bare; intro hij hj c3; lia)), if_pos (by (revert hij hj c3; kjx_bare; intro hij hj c3; lia))]; exact hu _ _ (by (revert hij c3; kjx_bare; intro hij c3; lia)) (by (revert hij hj; kjx_bare; intro hij hj; lia))
      · rw [if_neg (by (exact fun (a_1 : a < i ∧ i ≤ k) => c3 a_1.left))]
        by_cases c4 : a < j
        · rw [if_pos (by (revert hj c4; kjx_bare; intro hj c4; lia))]; exact hu _ _ (by (revert c1 c3 c4; kjx_bare; intro c1 c3 c4; lia)) (by (revert hj c4; kjx_bare; intro hj c4; lia))
        · rw [if_neg (by (exact fun (a_1 : a < j ∧ j ≤ k) => c4 a_1.left))]; exact hu _ _ (by (exact hij)) (by (revert ha c2 c4; kjx_bare; intro ha c2 c4; lia))
theorem bin_ok (hf : Inj n f) : ∀ (g : Nat) (p : Array Nat) (k : Nat), PermOf n p → k + g = n → Up f p k → AskOk n f (kas_bin g p k) fun p' => PermOf n p' ∧ Up f p' n
  | 0, p, k, hp, hk, hu => ⟨hp, by rw [show n = k from by (exact id (Eq.symm hk))]; exact hu⟩
  | g + 1, p, k, hp, hk, hu => by
    unfold kas_bin
    refine askOk_bind _ (askOk_mono (fun a h => ?_) _ (place_ok hf hp (by (revert hk; kjx_bare; intro hk; lia)) hu k 0 k (by (exact Nat.zero_le k)) (Nat.le_refl _) (by (exact Nat.sub_le k 0)) (fun i h => by (exact False.elim (Nat.le.casesOn (motive := fun (a : Nat) (x : i.succ.le a) => 0 = a → h ≍ x → False) h (fun (h_1 : 0 = i.succ) => False.elim (noConfusion_of_Nat Nat.ctorIdx h_1)) (fun {m : Nat} (a : i.succ.le m) (h_1 : 0 = m.succ) => False.elim (noConfusion_of_Nat Nat.ctorIdx h_1)) (Eq.refl 0) (HEq.refl h)))) fun i h6 h7 => by (revert h6 h7; kjx_bare; intro h6 h7; lia)))
    have b := bubble_up hp (by (revert hk; kjx_bare; intro hk; lia)) h.1 hu h.2.1 h.2.2
    exact bin_ok hf g _ (k + 1) b.1 (by (revert hk; kjx_bare; intro hk; lia)) b.2
theorem sort_ok (hf : Inj n f) (h2 : 2 ≤ n) : AskOk n f (kas_sort n) fun p => PermOf n p ∧ Up f p n := by
  unfold kas_sort
  have hp : PermOf n (List.toArray (List.range n)) := ⟨by simp, Array.Perm.refl _⟩
  refine askOk_bind _ (askOk_mono (fun r h => ?_) _ (count_ok hf hp h2))
  obtain ⟨a1, a2, a3, a4⟩ := h
  by_cases e : r.1 < n
  · rw [if_pos e]
    have em : max r.1 1 = r.1 := by (revert a1; kjx_bare; intro a1; lia)
    rw [em]
    exact bin_ok hf _ _ _ a3 (by (exact Nat.add_sub_of_le (Nat.le_of_lt e))) a4
  · rw [if_neg e]
    exact ⟨a3, by rw [show n = r.1 from by (revert a2 e; kjx_bare; intro a2 e; lia)]; exact a4⟩
end
end
section
open PySem.Calls
def rank (r : Run) : Nat := 100 * r.1 + 10 * r.2.1 + r.2.2
def Small (r : Run) : Prop := r.1 < 10 ∧ r.2.1 < 10 ∧ r.2.2 < 10
theorem rank_inj {r q : Run} (hr : Small r) (hq : Small q) (h : rank r = rank q) : r = q := by
  obtain ⟨a, b, c⟩ := r
  obtain ⟨d, e, f⟩ := q
  unfold Small at hr hq
  unfold rank at h
  dsimp only at hr hq h
  have e1 : a = d := by (revert hr hq h; kjx_bare; intro hr hq h; lia)
  have e2 : b = e := by (revert hr hq h; kjx_bare; intro hr hq h; lia)
  have e3 : c = f := by (revert hr hq h; kjx_bare; intro hr hq h; lia)
  rw [e1, e2, e3]
section
variable {prog : Program} {w : World} {A : Around} {E : Value → Shared → Prop} {s : Shared} {h₀ : Heap} {L : Addr} {m : Str → Option Value} {news : Led}
theorem ask_runs {a b : Addr} {r q : Run} {ta tb tc ua ub uc : Tok} {C : Bool → Shared → Prop} {l : Led} (N : News h₀ L s.heap l) (ha : (a, tup3 (.int (r.1 : Nat) ta) (.int (r.2.1 : Nat) tb) (.int (r.2.2 : Nat) tc)) ∈ l) (hb : (b, tup3 (.int (q.1 : Nat) ua) (.int (q.2.1 : Nat) ub) (.int (q.2.2 : Nat) uc)) ∈ l)
    (hr : Small r) (hq : Small q) (h : C (decide (rank r < rank q)) s) : wpAny (model prog w) A (keyLt' (tuples' true) (.ref a) (.ref b)) C E s := by
  refine kat_lt (N _ ha).1 rfl (N _ hb).1 rfl ?_
  show KatLex prog w A true (decide (3 < 3)) C [(.int (r.1 : Nat) ta, .int (q.1 : Nat) ua), (.int (r.2.1 : Nat) tb, .int (q.2.1 : Nat) ub), (.int (r.2.2 : Nat) tc, .int (q.2.2 : Nat) uc)] 0 s
  unfold Small at hr hq
  unfold rank at h
  refine kat_cons (wpAny_eqBool_int (kat_go (fun e1 => ?_) fun e1 => ?_))
  · have e1' := eq_of_beq e1
    refine kat_yes (kat_cons (wpAny_eqBool_int (kat_go (fun e2 => ?_) fun e2 => ?_)))
    · have e2' := eq_of_beq e2
      refine kat_yes (kat_cons (wpAny_eqBool_int (kat_go (fun e3 => ?_) fun e3 => ?_)))
      · have e3' := eq_of_beq e3
        refine kat_yes (kat_nil ?_)
        rw [decide_eq_false (by (revert e1' e2' e3'; kjx_bare; intro e1' e2' e3'; lia))] at h
        exact h
      · refine kat_no (kat_one _ _ (wpAny_lt_int ?_))
        show C (decide (((r.2.2 : Nat) : Int) < ((q.2.2 : Nat) : Int))) s
        rw [show decide (((r.2.2 : Nat) : Int) < ((q.2.2 : Nat) : Int)) = decide (100 * r.1 + 10 * r.2.1 + r.2.2 < 100 * q.1 + 10 * q.2.1 + q.2.2) from decide_eq_decide.mpr (by (revert e1' e2'; kjx_bare; intro e1' e2'; lia))]
        exact h
    · have e2' : ¬ ((r.2.1 : Nat) : Int) = ((q.2.1 : Nat) : Int) := by simpa using e2
      refine kat_no (kat_one _ _ (wpAny_lt_int ?_))
      show C (decide (((r.2.1 : Nat) : Int) < ((q.2.1 : Nat) : Int))) s
      rw [show decide (((r.2.1 : Nat) : Int) < ((q.2.1 : Nat) : Int)) = decide (100 * r.1 + 10 * r.2.1 + r.2.2 < 100 * q.1 + 10 * q.2.1 + q.2.2) from decide_eq_decide.mpr (by (revert hr hq e1' e2'; kjx_bare; intro hr hq e1' e2'; lia))]
      exact h
  · have e1' : ¬ ((r.1 : Nat) : Int) = ((q.1 : Nat) : Int) := by simpa using e1
    refine kat_no (oneLt_int ?_)
    rw [show decide (((r.1 : Nat) : Int) < ((q.1 : Nat) : Int)) = decide (100 * r.1 + 10 * r.2.1 + r.2.2 < 100 * q.1 + 10 * q.2.1 + q.2.2) from decide_eq_decide.mpr (by (revert hr hq e1'; kjx_bare; intro hr hq e1'; lia))]
    exact h
theorem RunsAre.tups {h : Heap} {l : Led} (N : News h₀ L h l) : ∀ {vs : List Value} {R : List Run}, RunsAre l vs R → ∃ fs, KatTups h vs fs ∧ fs.length = R.length ∧ ∀ f ∈ fs, ∃ n t, f = .int n t
  | [], [], _ => ⟨[], .nil, rfl, fun _ h => nomatch h⟩
  | _ :: _, r :: rs, ⟨⟨T, ta, tb, tc, e, hm⟩, hr⟩ => by
    obtain ⟨fs, h1, h2, h3⟩ := RunsAre.tups N hr
    subst e
    refine ⟨.int (r.1 : Nat) ta :: fs, .cons (N _ hm).1 rfl rfl rfl h1, by rw [List.length_cons, List.length_cons, h2], fun f hf => ?_⟩
    rcases List.mem_cons.mp hf with rfl | hf
    · exact ⟨_, _, rfl⟩
    · exact h3 f hf
abbrev run0 : Run := (0, 0, 0)
theorem RunsAre.at {l : Led} : ∀ {vs : List Value} {R : List Run}, RunsAre l vs R → ∀ k, k < vs.length → ∃ T ta tb tc, vs.getD k .none = .ref T ∧ (T, tup3 (.int ((R.getD k run0).1 : Nat) ta) (.int ((R.getD k run0).2.1 : Nat) tb) (.int ((R.getD k run0).2.2 : Nat) tc)) ∈ l
  | [], [], _, k, hk => absurd hk (Nat.not_lt_zero _)
  | v :: vs, p :: ps, ⟨⟨T, ta, tb, tc, e, m⟩, h⟩, 0, _ => ⟨T, ta, tb, tc, by rw [e]; rfl, m⟩
  | v :: vs, p :: ps, ⟨_, h⟩, k + 1, hk => by
    obtain ⟨T, ta, tb, tc, e, m⟩ := RunsAre.at h k (by simpa using hk)
    exact ⟨T, ta, tb, tc, by simpa using e, by simpa using m⟩
theorem RunsAre.pick {l : Led} {vs : List Value} {R : List Run} (h : RunsAre l vs R) : ∀ ks : List Nat, (∀ k ∈ ks, k < vs.length) → RunsAre l (ks.map fun k => vs.getD k .none) (ks.map fun k => R.getD k run0)
  | [], _ => trivial
  | k :: ks, hk => ⟨h.at k (hk k (.head _)), RunsAre.pick h ks fun q hq => hk q (.tail _ hq)⟩
theorem range_getD : ∀ R : List Run, (List.range R.length).map (fun k => R.getD k run0) = R := fun R => by
  apply List.ext_getElem
  · simp
  · intro i h1 h2
    simp [List.getD_eq_getElem?_getD, List.getElem?_eq_getElem h2]
theorem sorted_big {l : Addr} {vs : List Value} {n : Nat} {R : List Run} {Q : Value → Shared → Prop} (F : Fr h₀ L s.heap m) (N : News h₀ L s.heap news) (hm : (l, W.listOf vs.toArray n) ∈ news) (hR : RunsAre news vs R) (hs : ∀ r ∈ R, Small r) (hn : R.Nodup) (h2 : 2 ≤ R.length) (h64 : R.length < 64)
    (h : ∀ D ws c h' R', Fr h₀ L h' m → News h₀ L h' ((D, W.listOf ws.toArray c) :: news) → (∀ p ∈ news, p.1 < D) → RunsAre news ws R' → R'.Perm R → R'.Pairwise (fun a b => rank a < rank b) → Q (.ref D) { s with heap := h' }) :
    wpAny (model prog w) A (call (.builtin "sorted") [.ref l]) Q E s := by
  have hl : vs.length = R.length := hR.length
  refine kat_sorted F N (News.isList N hm) (by (revert h2 hl; kjx_bare; intro h2 hl; lia)) (by (revert h64 hl; kjx_bare; intro h64 hl; lia)) fun D e1 h' F' N' lD => ?_
  have N2 : News h₀ L h' news := fun p hp => N' p (.tail _ hp)
  obtain ⟨fs, t1, t2, t3⟩ := RunsAre.tups N2 hR
  refine kat_kind (T := .type "int") t1 (by (revert h2 t2; kjx_bare; intro h2 t2; lia)) (fun v hv => ?_) rfl ?_
  · obtain ⟨k, t, rfl⟩ := t3 v hv
    exact Looks.of_pure rfl
  have inj : Inj vs.length fun i => rank (R.getD i run0) := by
    intro i j hi hj e
    have e1 : R.getD i run0 = R[i]'(by (revert hl hi; kjx_bare; intro hl hi; lia)) := by simp [List.getD_eq_getElem?_getD, List.getElem?_eq_getElem (show i < R.length by (revert hl hi; kjx_bare; intro hl hi; lia))]
    have e2 : R.getD j run0 = R[j]'(by (first | lia | omega)) := by simp [List.getD_eq_getElem?_getD, List.getElem?_eq_getElem (show j < R.length by (first | lia | omega))]
    have e3 : R.getD i run0 = R.getD j run0 := rank_inj (hs _ (by rw [e1]; exact List.getElem_mem _)) (hs _ (by rw [e2]; exact List.getElem_mem _)) e
    rw [e1, e2] at e3
    have pw := List.pairwise_iff_getElem.mp hn
    rcases Nat.lt_trichotomy i j with q | q | q
    · exact absurd e3 (pw i j _ _ q)
    · exact q
    · exact absurd e3.symm (pw j i _ _ q)
  refine askOk_run (n := vs.length) (f := fun i => rank (R.getD i run0)) (R := fun s' => s' = { s with heap := h' }) ?hc ?hG _ _ (sort_ok inj (by (revert h2 hl; kjx_bare; intro h2 hl; lia))) rfl
  case hc =>
    rintro i j C s' hi hj rfl hC
    obtain ⟨T1, ta, tb, tc, e1, m1⟩ := hR.at i hi
    obtain ⟨T2, ua, ub, uc, e2, m2⟩ := hR.at j hj
    show wpAny _ _ (keyLt' _ (vs.getD i .none) (vs.getD j .none)) _ _ _
    rw [e1, e2]
    have sm : ∀ k, k < vs.length → Small (R.getD k run0) := fun k hk => hs _ (by
      rw [List.getD_eq_getElem?_getD, List.getElem?_eq_getElem (show k < R.length by (revert hl hk; kjx_bare; intro hl hk; lia))]; exact List.getElem_mem _)
    exact ask_runs N2 m1 m2 (sm i hi) (sm j hj) (hC _ rfl)
  case hG =>
    rintro p s' ⟨hp, hu⟩ rfl
    have hlt : ∀ k ∈ p.toList, k < vs.length := fun k hk => by
      have := (hp.perm.toList.mem_iff).mp hk
      simpa using this
    refine KasFin.intro F' N' (UpdF.head fun q hq => Nat.ne_of_lt (lD q hq)) fun h'' c F'' N'' => h D _ c h'' (p.toList.map fun k => R.getD k run0) F'' N'' lD (hR.pick _ hlt) ?_ ?_
    · have := (hp.perm.toList).map (fun k => R.getD k run0)
      rw [hl] at this
      exact this.trans (List.Perm.of_eq (range_getD R))
    · rw [List.pairwise_iff_getElem]
      intro i j hi hj hij
      have hsz := hp.size
      rw [List.length_map, Array.length_toList] at hi hj
      have := hu i j hij (by (revert hj hsz; kjx_bare; intro hj hsz; lia))
      unfold rk at this
      simpa [Array.getD, hi, hj] using this
theorem zip_snd : ∀ vs : List Value, (List.zipWith Prod.mk vs vs).map (·.2) = vs
  | [] => rfl
  | v :: r => by rw [List.zipWith_cons_cons, List.map_cons, zip_snd r]
theorem short_list_sort {a : Addr} {vs : List Value} {n : Nat} {P : PySem.Fin → Shared → Prop} (F : Fr h₀ L s.heap m) (N : News h₀ L s.heap news) (ho : s.heap.get? a = some (seqObj "list" vs.toArray n)) (haL : a ≠ L) (ha0 : h₀.get? a = none) (hna : ∀ p ∈ news, p.1 ≠ a)
    (h2 : vs.length < 2) (h : ∀ c h', Fr h₀ L h' m → News h₀ L h' ((a, W.listOf vs.toArray c) :: news) → P (.done (.ret .none)) { s with heap := h' }) :
    wpAny (model prog w) A (Builtin.«list.sort» ⟨[.ref a], []⟩) P E s := by
  have ha : a < s.heap.objs.size := Heap.lt_size ho
  have s1 := Heap.SameBut.update s.heap a (Obj.mapSeq fun _ => (#[] : Array Value))
  obtain ⟨e1, ho1⟩ : ∃ e1, (s.heap.update a (Obj.mapSeq fun _ => (#[] : Array Value))).get? a = some (seqObj "list" #[] e1) := ⟨_, get?_update_seq ho fun _ => #[]⟩
  have F3 : Fr h₀ L (((s.heap.update a (Obj.mapSeq fun _ => (#[] : Array Value))).push (seqObj "tuple" vs.toArray 0)).push (seqObj "list" #[] 0)) m := ((kas_fr F s1 haL ha0).push _).push _
  have N2 : News h₀ L (((s.heap.update a (Obj.mapSeq fun _ => (#[] : Array Value))).push (seqObj "tuple" vs.toArray 0)).push (seqObj "list" #[] 0)) news :=
    (kas_news N s1 hna).grown fun b x e => Heap.get?_push_of_some _ (Heap.get?_push_of_some _ e)
  have N3 : News h₀ L (((s.heap.update a (Obj.mapSeq fun _ => (#[] : Array Value))).push (seqObj "tuple" vs.toArray 0)).push (seqObj "list" #[] 0)) ([] ++ (a, seqObj "list" #[] e1) :: news) := fun p hp => by
    rcases List.mem_cons.mp hp with rfl | hp
    · exact ⟨Heap.get?_push_of_some _ (Heap.get?_push_of_some _ ho1), haL, ha0⟩
    · exact N2 p hp
  rw [list_sort_plain]
  refine wpAny_bind (listItems_at ho rfl ?_)
  refine wpAny_bind (listUpdate_at ho rfl ?_ (by rw [List.size_toArray, sizeLine_eq]; (revert h2; kjx_bare; intro h2; lia)) (Nat.zero_le _))
  refine wpAny_bind (seqEpoch_at ho1 rfl ?_)
  refine wpAny_bind (wpAny_newTuple ?_ (by show vs.length ≤ _; rw [sizeLine_eq]; (revert h2; kjx_bare; intro h2; lia)))
  refine wpAny_bind (wpAny_newList ?_ (Nat.zero_le _))
  refine wpAny_holding ?_
  show wpAny (model prog w) A _ P E { s with heap := ((s.heap.update a (Obj.mapSeq fun _ => (#[] : Array Value))).push (seqObj "tuple" vs.toArray 0)).push (seqObj "list" #[] 0) }
  dsimp only
  have hn2 : vs.toArray.size < 2 := by rw [List.size_toArray]; (exact h2)
  rw [if_pos hn2, if_pos hn2]
  refine wpAny_bind (wpAny_pure ?_)
  rw [StateT.run_pure]
  refine wpAny_bind (wpAny_pure ?_)
  dsimp only
  have na := N3 (a, seqObj "list" #[] e1) (.head _)
  have hout : (arrOf (SortSt.mk' general' (vs.toArray.zip vs.toArray) #[] 7 none)).map (·.2) = vs.toArray := by
    show (vs.toArray.zip vs.toArray).map (·.2) = vs.toArray
    apply Array.toList_inj.mp
    rw [Array.toList_map, ksk_zip]
    exact zip_snd vs
  rw [hout]
  generalize hs2 : ({ s with heap := ((s.heap.update a (Obj.mapSeq fun _ => (#[] : Array Value))).push (seqObj "tuple" vs.toArray 0)).push (seqObj "list" #[] 0) } : Shared) = s2
  have hh2 : s2.heap = ((s.heap.update a (Obj.mapSeq fun _ => (#[] : Array Value))).push (seqObj "tuple" vs.toArray 0)).push (seqObj "list" #[] 0) := by rw [← hs2]
  rw [← hh2] at na F3 N3
  have s3 := Heap.SameBut.update s2.heap a (Obj.mapSeq fun _ => vs.toArray)
  obtain ⟨c2, hc2⟩ : ∃ c2, (s2.heap.update a (Obj.mapSeq fun _ => vs.toArray)).get? a = some (seqObj "list" vs.toArray c2) := ⟨_, get?_update_seq na.1 fun _ => vs.toArray⟩
  refine wpAny_bind (seqEpoch_at na.1 rfl ?_)
  refine wpAny_bind (listUpdate_at na.1 rfl ?_ (Nat.zero_le _) (by rw [List.size_toArray, sizeLine_eq]; (revert h2; kjx_bare; intro h2; lia)))
  simp only [bne_self_eq_false, Bool.false_eq_true, if_false]
  refine wpAny_pure ?_
  have := h c2 _ (kas_fr F3 s3 haL ha0) (news_set N3 (fun _ h => nomatch h) hna s3 hc2)
  subst hs2
  exact this
theorem sorted_short {l : Addr} {vs : List Value} {Q : Value → Shared → Prop} (F : Fr h₀ L s.heap m) (N : News h₀ L s.heap news) (hl : s.heap.IsList l vs.toArray) (h2 : vs.length < 2)
    (h : ∀ D c h', Fr h₀ L h' m → News h₀ L h' ((D, W.listOf vs.toArray c) :: news) → (∀ q ∈ news, q.1 < D) → Q (.ref D) { s with heap := h' }) :
    wpAny (model prog w) A (call (.builtin "sorted") [.ref l]) Q E s := by
  refine Calls.call_function_entry kind_sorted plain_sorted entry_sorted (args_sorted1 _) ?_
  unfold Builtin.«sorted»
  refine wpAny_bind (m := checkCount "sorted" 1 1 _) (wpAny_pure ?_)
  refine wpAny_bind (collect_list hl ?_ (by rw [sizeLine_eq]; (revert h2; kjx_bare; intro h2; lia)))
  refine wpAny_bind (wpAny_newList ?_ (by rw [sizeLine_eq]; (revert h2; kjx_bare; intro h2; lia)))
  have hsz : ((s.heap.push (seqObj "list" #[] 0)).update s.heap.objs.size (Obj.mapSeq (· ++ vs.toArray))).objs.size = s.heap.objs.size + 1 := by
    rw [Heap.size_update, size_push']
  have hoL : (((s.heap.push (seqObj "list" #[] 0)).update s.heap.objs.size (Obj.mapSeq (· ++ vs.toArray))).push (seqObj "list" vs.toArray 0)).get? (s.heap.objs.size + 1) = some (seqObj "list" vs.toArray 0) := by
    rw [← hsz]; exact Heap.get?_push_size _ rfl
  have keep : ∀ b o, s.heap.get? b = some o → (((s.heap.push (seqObj "list" #[] 0)).update s.heap.objs.size (Obj.mapSeq (· ++ vs.toArray))).push (seqObj "list" vs.toArray 0)).get? b = some o := fun b o q => by
    have hlt : b < s.heap.objs.size := Heap.lt_size q
    rw [Heap.get?_push_ne _ _ _ (by rw [hsz]; exact Nat.ne_of_lt (Nat.lt_succ_of_lt hlt)), Heap.get?_update_ne _ _ _ _ (Nat.ne_of_lt hlt), Heap.get?_push_ne _ _ _ (Nat.ne_of_lt hlt)]
    exact q
  have hL : L < s.heap.objs.size := F.ns.lt
  show wpAny _ _ _ _ _ { s with heap := ((s.heap.push (seqObj "list" #[] 0)).update s.heap.objs.size (Obj.mapSeq (· ++ vs.toArray))).push (seqObj "list" vs.toArray 0) }
  rw [hsz]
  refine wpAny_bind (wpAny_holding (wpAny_call_entry slot_list_sort ⟨_, hoL, rfl⟩ entry_list_sort ?body (args_list_sort _)))
  case body =>
    refine short_list_sort (s := { s with heap := ((s.heap.push (seqObj "list" #[] 0)).update s.heap.objs.size (Obj.mapSeq (· ++ vs.toArray))).push (seqObj "list" vs.toArray 0) })
      (F.kept keep) (N.grown keep) hoL (Nat.ne_of_gt (Nat.lt_succ_of_lt hL)) (Heap.get?_none_of_le (Nat.le_trans F.above (Nat.le_succ_of_le (Nat.le_of_lt hL))))
      (fun p hp => Nat.ne_of_lt (Nat.lt_succ_of_lt (Heap.lt_size (N p hp).1))) h2 fun c h' F' N' => ?_
    exact ⟨_, rfl, wpAny_pure ⟨_, rfl, h _ c h' F' N' fun q hq => Nat.lt_succ_of_lt (Heap.lt_size (N q hq).1)⟩⟩
theorem sorted_runs {l : Addr} {vs : List Value} {n : Nat} {R : List Run} {Q : Value → Shared → Prop} (F : Fr h₀ L s.heap m) (N : News h₀ L s.heap news) (hm : (l, W.listOf vs.toArray n) ∈ news) (hR : RunsAre news vs R) (hs : ∀ r ∈ R, Small r) (hn : R.Nodup) (h64 : R.length < 64)
    (h : ∀ D ws c h' R', Fr h₀ L h' m → News h₀ L h' ((D, W.listOf ws.toArray c) :: news) → (∀ p ∈ news, p.1 < D) → RunsAre news ws R' → R'.Perm R → R'.Pairwise (fun a b => rank a < rank b) → Q (.ref D) { s with heap := h' }) :
    wpAny (model prog w) A (call (.builtin "sorted") [.ref l]) Q E s := by
  by_cases h2 : 2 ≤ R.length
  · exact sorted_big F N hm hR hs hn h2 h64 h
  · have hl : vs.length = R.length := hR.length
    refine sorted_short F N (News.isList N hm) (by (revert h2 hl; kjx_bare; intro h2 hl; lia)) fun D c h' F' N' lD => h D vs c h' R F' N' lD hR (List.Perm.refl _) ?_
    rw [List.pairwise_iff_getElem]
    intro i j hi hj hij
    (revert h2 hij; kjx_bare; intro h2 hij; lia)
end
end
section
open PySem.Calls
theorem readsAll_strs {h : Heap} {vs : List Value} {ss : List Str} (hS : StrsAre vs ss) : ReadsAll h vs (ss.map PyData.str) [] := by
  induction hS with
  | nil => exact .nil
  | cons x t _ ih => exact readsAll_cons_val (.str x t) ih
def runData (r : Run) : PyData := .tuple [.int (r.1 : Nat), .int (r.2.1 : Nat), .int (r.2.2 : Nat)]
theorem readsAll_runs {h₀ h : Heap} {L : Addr} {l : Led} (N : News h₀ L h l) : ∀ {vs : List Value} {R : List Run}, RunsAre l vs R → ReadsAll h vs (R.map runData) []
  | [], [], _ => .nil
  | _ :: _, r :: rs, ⟨⟨T, ta, tb, tc, e, m⟩, hr⟩ => by
    subst e
    exact readsAll_cons_val (reads_tuple_at (N _ m).1 rfl rfl (readsAll_cons_val (.int _ ta) (readsAll_cons_val (.int _ tb) (readsAll_cons_val (.int _ tc) .nil)))) (readsAll_runs N hr)
theorem lay_strs : ∀ ss : List Str, (∀ x ∈ ss, PyData.strOk x = true) → PyData.canLayAll0 (ss.map PyData.str) = true
  | [], _ => rfl
  | x :: r, h => by simp [PyData.canLayAll0, PyData.canLay0, lay_strs r fun y hy => h y (.tail _ hy), h x (.head _)]
theorem strOk_of {x : Str} (h : ∀ k < x.length, chAt x k < 0x110000) : PyData.strOk x = true := by
  unfold PyData.strOk
  rw [Array.all_eq_true]
  intro i hi
  have := h i hi
  unfold chAt at this
  rw [decide_eq_true_eq]
  simpa [Array.getD, hi] using this
theorem depth_strs : ∀ ss : List Str, PyData.depthAll (ss.map PyData.str) = 0
  | [] => rfl
  | _ :: r => by simp [PyData.depthAll, PyData.depth, depth_strs r]
theorem lay_runs : ∀ R : List Run, PyData.canLayAll0 (R.map runData) = true
  | [] => rfl
  | _ :: r => by simp [PyData.canLayAll0, PyData.canLay0, runData, lay_runs r]
theorem depth_runs : ∀ R : List Run, PyData.depthAll (R.map runData) ≤ 2
  | [] => Nat.zero_le _
  | _ :: r => by
    have := depth_runs r
    simp only [List.map_cons, PyData.depthAll, PyData.depth, runData]
    (first | lia | omega)
theorem shaped_strs (ss : List Str) (hok : ∀ x ∈ ss, PyData.strOk x = true) : SeqAt.shaped (.list (ss.map PyData.str)) = true := by
  simp [SeqAt.shaped, PyData.canLay0, PyData.depth, lay_strs ss hok, depth_strs]
theorem shaped_runs (R : List Run) : SeqAt.shaped (.list (R.map runData)) = true := by
  have := depth_runs R
  have h2 : (PyData.list (R.map runData)).depth ≤ 64 := by
    simp only [PyData.depth]
    (first | lia | omega)
  simp [SeqAt.shaped, PyData.canLay0, lay_runs, h2]
section
variable {prog : Program} {w : World} {A : Around} {E : Value → Shared → Prop} {s : Shared} {h₀ : Heap} {L a b : Addr} {m : Str → Option Value} {news : Led}
theorem ne_strs {vs ws : List Value} {n k : Nat} {ss : List Str} {Q : Value → Shared → Prop} (N : News h₀ L s.heap news) (ha : (a, W.listOf vs.toArray n) ∈ news) (hb : (b, W.listOf ws.toArray k) ∈ news) (hv : StrsAre vs ss) (hw : StrsAre ws ss) (hok : ∀ x ∈ ss, PyData.strOk x = true) (hu : A.units + 64 < cLine)
    (h : Q (.bool false) s) : wpAny (model prog w) A (compareOp .NotEq (.ref a) (.ref b)) Q E s := by
  refine ne_dataH (reads_list_at (N _ ha).1 rfl rfl (readsAll_strs hv)) (reads_list_at (N _ hb).1 rfl rfl (readsAll_strs hw)) (shaped_strs ss hok) (shaped_strs ss hok) hu ?_
  rw [show PyData.eqv (.list (ss.map PyData.str)) (.list (ss.map PyData.str)) = true from by
    simp only [PyData.eqv]
    exact SeqAt.eqvAll_refl _ (lay_strs ss hok)]
  exact h
theorem ne_runs {vs ws : List Value} {n k : Nat} {R : List Run} {Q : Value → Shared → Prop} (N : News h₀ L s.heap news) (ha : (a, W.listOf vs.toArray n) ∈ news) (hb : (b, W.listOf ws.toArray k) ∈ news) (hv : RunsAre news vs R) (hw : RunsAre news ws R) (hu : A.units + 64 < cLine)
    (h : Q (.bool false) s) : wpAny (model prog w) A (compareOp .NotEq (.ref a) (.ref b)) Q E s := by
  refine ne_dataH (reads_list_at (N _ ha).1 rfl rfl (readsAll_runs N hv)) (reads_list_at (N _ hb).1 rfl rfl (readsAll_runs N hw)) (shaped_runs R) (shaped_runs R) hu ?_
  rw [show PyData.eqv (.list (R.map runData)) (.list (R.map runData)) = true from by
    simp only [PyData.eqv]
    exact SeqAt.eqvAll_refl _ (lay_runs R)]
  exact h
end
end
section
open PySem.Calls
theorem sorted_eq : ∀ (a b : List Run), a.Pairwise (fun x y => rank x < rank y) → b.Pairwise (fun x y => rank x < rank y) → (∀ x, x ∈ a ↔ x ∈ b) → a = b
  | [], [], _, _, _ => rfl
  | [], y :: b, _, _, h => nomatch (h y).mpr (.head _)
  | x :: a, [], _, _, h => nomatch (h x).mp (.head _)
  | x :: a, y :: b, ha, hb, h => by
    have ha' := List.pairwise_cons.mp ha
    have hb' := List.pairwise_cons.mp hb
    have e : x = y := by
      rcases List.mem_cons.mp ((h x).mp (.head _)) with e | e
      · exact e
      · rcases List.mem_cons.mp ((h y).mpr (.head _)) with e2 | e2
        · exact e2.symm
        · have := hb'.1 x e
          have := ha'.1 y e2
          (first | lia | omega)
    subst e
    rw [sorted_eq a b ha'.2 hb'.2 fun z => ?_]
    constructor
    · intro hz
      rcases List.mem_cons.mp ((h z).mp (.tail _ hz)) with e | e
      · subst e; exact absurd (ha'.1 _ hz) (Nat.lt_irrefl _)
      · exact e
    · intro hz
      rcases List.mem_cons.mp ((h z).mpr (.tail _ hz)) with e | e
      · subst e; exact absurd (hb'.1 _ hz) (Nat.lt_irrefl _)
      · exact e
theorem whole_eq {rows : List Str} {r q : Run} (hr : Whole43 rows r) (hq : Whole43 rows q) (h1 : r.1 = q.1) {k : Nat} (k1 : r.2.1 ≤ k) (k2 : k < r.2.2) (k3 : q.2.1 ≤ k) (k4 : k < q.2.2) : r = q := by
  obtain ⟨i, l, u⟩ := r
  obtain ⟨i', l', u'⟩ := q
  obtain ⟨a1, a2, a3, a4, a5, a6⟩ := hr
  obtain ⟨b1, b2, b3, b4, b5, b6⟩ := hq
  dsimp only at *
  subst h1
  have e1 : l = l' := by
    rcases Nat.lt_trichotomy l l' with h | h | h
    · rcases b5 with b5 | b5
      · (revert h b5; kjx_bare; intro h b5; lia)
      · exact absurd (a4 (l' - 1) (by (exact Nat.le_sub_one_of_lt h)) (by (revert k2 k3; kjx_bare; intro k2 k3; lia))) b5
    · exact h
    · rcases a5 with a5 | a5
      · (revert h a5; kjx_bare; intro h a5; lia)
      · exact absurd (b4 (l - 1) (by (exact Nat.le_sub_one_of_lt h)) (by (revert k1 k4; kjx_bare; intro k1 k4; lia))) a5
  have e2 : u = u' := by
    rcases Nat.lt_trichotomy u u' with h | h | h
    · rcases a6 with a6 | a6
      · (revert b3 h a6; kjx_bare; intro b3 h a6; lia)
      · exact absurd (b4 u (by (exact Nat.le_of_lt (Nat.lt_of_le_of_lt k3 k2))) (by (exact h))) a6
    · exact h
    · rcases b6 with b6 | b6
      · (revert a3 h b6; kjx_bare; intro a3 h b6; lia)
      · exact absurd (a4 u' (by (revert b2 e1; kjx_bare; intro b2 e1; lia)) (by (exact h))) b6
  rw [e1, e2]
theorem inv_whole {page rows : List Str} {st : Pl} {runs : List Run} {wait : List Pl} (hp : Page page) (h : Inv page st rows runs wait) {r : Run} (hr : r ∈ runs) : Whole43 rows r := by
  obtain ⟨⟨w1, w2, w3, w4, w5, w6⟩, w7⟩ := h.whole r hr
  have no : ∀ k, k < 6 → cell page r.1 k ≠ 46 → cell rows r.1 k ≠ 43 := fun k hk hc e => by
    rcases h.same r.1 w1 k hk with q | q
    · rcases hp.signs r.1 w1 k hk with z | z <;> (revert e q z; kjx_bare; intro e q z; lia)
    · exact hc q.1
  refine ⟨w1, w2, w3, w7, ?_, ?_⟩
  · rcases w5 with q | q
    · exact .inl q
    · exact .inr (no _ (by (revert w2 w3; kjx_bare; intro w2 w3; lia)) q)
  · rcases w6 with q | q
    · exact .inl q
    · by_cases e : r.2.2 = 6
      · exact .inl e
      · exact .inr (no _ (by (exact Nat.lt_of_le_of_ne w3 e)) q)
theorem inv_runs_whole {rows : List Str} {R : List Run} (h : RunInv rows 4 0 R) {r : Run} (hr : r ∈ R) : Whole43 rows r := by
  rcases h.each r hr with q | q
  · exact q.2
  · (revert q; kjx_bare; intro q; lia)
theorem whole_small {rows : List Str} {r : Run} (h : Whole43 rows r) : Small r := ⟨by have := h.1; (revert this; kjx_bare; intro this; lia), by have := h.2.1; have := h.2.2.1; (first | lia | omega), by have := h.2.2.1; (revert this; kjx_bare; intro this; lia)⟩
theorem runs_sorted {rows : List Str} {R : List Run} (h : RunInv rows 4 0 R) : R.Pairwise fun x y => rank x < rank y := by
  have key : ∀ (l : List Run), (∀ r ∈ l, Small r) → l.Pairwise RunLt → l.Pairwise fun x y => rank x < rank y := by
    intro l hs hl
    induction hl with
    | nil => exact .nil
    | cons hx _ ih =>
      refine .cons (fun b hb => ?_) (ih fun r hr => hs r (.tail _ hr))
      have s1 := hs _ (.head _)
      have s2 := hs b (.tail _ hb)
      unfold Small at s1 s2
      unfold rank
      rcases hx b hb with q | q <;> (revert s1 q; kjx_bare; intro s1 q; lia)
  exact key R (fun r hr => whole_small (inv_runs_whole h hr)) h.sorted
theorem runs_same {page rows : List Str} {st : Pl} {runs R R' : List Run} {wait : List Pl} (hp : Page page) (h : Inv page st rows runs wait) (hR : RunInv rows 4 0 R) (hP : R'.Perm runs) (hs : R'.Pairwise fun x y => rank x < rank y) : R' = R := by
  refine sorted_eq _ _ hs (runs_sorted hR) fun r => (hP.mem_iff).trans ⟨fun hr => ?_, fun hr => ?_⟩
  · have w := inv_whole hp h hr
    obtain ⟨q, hq, e1, e2, e3⟩ := hR.cover r.1 r.2.1 (by have := w.1; have := w.2.1; have := w.2.2.1; (first | lia | omega)) (w.2.2.2.1 _ (Nat.le_refl _) w.2.1)
    rw [whole_eq w (inv_runs_whole hR hq) e1.symm (Nat.le_refl _) w.2.1 e2 e3]
    exact hq
  · have w := inv_runs_whole hR hr
    obtain ⟨q, hq, e1, e2, e3⟩ := h.inrun r.1 w.1 r.2.1 (by have := w.2.1; have := w.2.2.1; (first | lia | omega)) (w.2.2.2.1 _ (Nat.le_refl _) w.2.1)
    rw [whole_eq w (inv_whole hp h hq) e1.symm (Nat.le_refl _) w.2.1 e2 e3]
    exact hq
theorem nodup_len : ∀ (l R : List Run), l.Nodup → (∀ x ∈ l, x ∈ R) → l.length ≤ R.length
  | [], _, _, _ => Nat.zero_le _
  | x :: l, R, hn, h => by
    have hn' := List.pairwise_cons.mp hn
    have hx := h x (.head _)
    have := nodup_len l (R.erase x) hn'.2 fun y hy => (List.mem_erase_of_ne (fun e => hn'.1 y hy e.symm)).mpr (h y (.tail _ hy))
    rw [List.length_erase_of_mem hx] at this
    have := List.length_pos_of_mem hx
    rw [List.length_cons]
    (first | lia | omega)
theorem row_exist {rows : List Str} {i : Nat} {R : List Run} (h : RunInv rows i 0 R) : ∀ j, ∃ R', RunInv rows i j R'
  | 0 => ⟨R, h⟩
  | j + 1 => by
    obtain ⟨R', h'⟩ := row_exist h j
    by_cases hc : cell rows i j = 43
    · by_cases hp : j = 0 ∨ cell rows i (j - 1) ≠ 43
      · exact ⟨_, run_new h' hc hp⟩
      · obtain ⟨R'', r, _, _, h''⟩ := run_grow h' hc (by (revert hp; kjx_bare; intro hp; lia)) (by by_cases q : cell rows i (j - 1) = 43; exact q; exact absurd (.inr q) hp)
        exact ⟨_, h''⟩
    · exact ⟨R', run_skip h' hc⟩
theorem runs_exist {rows : List Str} : ∀ i, i ≤ 4 → ∃ R, RunInv rows i 0 R
  | 0, _ => ⟨[], run_start⟩
  | i + 1, hi => by
    obtain ⟨R, h⟩ := runs_exist (rows := rows) i (by (exact Nat.le_of_lt hi))
    obtain ⟨R', h'⟩ := row_exist h 6
    exact ⟨R', run_line (by (exact hi)) h'⟩
theorem runs_few {page rows : List Str} {st : Pl} {runs : List Run} {wait : List Pl} (hp : Page page) (h : Inv page st rows runs wait) : runs.length < 64 := by
  obtain ⟨R, hR⟩ := runs_exist (rows := rows) 4 (Nat.le_refl _)
  have := nodup_len runs R h.nodup fun r hr => by
    have w := inv_whole hp h hr
    obtain ⟨q, hq, e1, e2, e3⟩ := hR.cover r.1 r.2.1 (by have := w.1; have := w.2.1; have := w.2.2.1; (first | lia | omega)) (w.2.2.2.1 _ (Nat.le_refl _) w.2.1)
    rw [whole_eq w (inv_runs_whole hR hq) e1.symm (Nat.le_refl _) w.2.1 e2 e3]
    exact hq
  have := hR.few
  (first | lia | omega)
theorem due_ok {page rows : List Str} {st : Pl} {runs : List Run} {wait : List Pl} (hp : Page page) (h : Inv page st rows runs wait) : ∀ x ∈ rows, PyData.strOk x = true := fun x hx => by
  obtain ⟨i, hi, rfl⟩ := List.mem_iff_getElem.mp hx
  refine strOk_of fun k hk => ?_
  rw [h.six _ hx] at hk
  have h4 := h.four
  have e : chAt rows[i] k = cell rows i k := by unfold cell; rw [List.getD_eq_getElem?_getD, List.getElem?_eq_getElem hi]; rfl
  rw [e]
  rcases h.same i (by (first | lia | omega)) k hk with q | q
  · rw [q]
    rcases hp.signs i (by (first | lia | omega)) k hk with z | z <;> (first | lia | omega)
  · (revert q; kjx_bare; intro q; lia)
end
section
open PySem.StrLaws
theorem at_chAt (x : Str) (j : Nat) (h : j < x.cps.toList.length) : x.cps.toList[j] = chAt x j := by
  rw [chAt_list, List.getD_eq_getElem?_getD, List.getElem?_eq_getElem h]; rfl
def unfill (c : Nat) : Nat := if c = 43 then 46 else c
theorem join_one (sep a : Str) : Str.join sep [a] = a := rfl
theorem join_cons_app (sep q p : Str) (ps : List Str) : Str.join sep ((q ++ p) :: ps) = q ++ Str.join sep (p :: ps) := by
  cases ps with
  | nil => rfl
  | cons b r =>
    rw [join_two, join_two]
    refine sx ?_
    simp only [app_cps, List.append_assoc]
theorem pieces : ∀ xs : List Nat, ∃ (p : Str) (ps : List Str), (∀ y ∈ p :: ps, 43 ∉ y.cps.toList) ∧ (Str.join ⟨#[43]⟩ (p :: ps)).cps.toList = xs ∧ (Str.join ⟨#[46]⟩ (p :: ps)).cps.toList = xs.map unfill
  | [] => ⟨⟨#[]⟩, [], by intro y hy; rw [List.mem_singleton.mp hy]; exact List.not_mem_nil, rfl, rfl⟩
  | c :: r => by
    obtain ⟨p, ps, h1, h2, h3⟩ := pieces r
    by_cases hc : c = 43
    · subst hc
      refine ⟨⟨#[]⟩, p :: ps, fun y hy => ?_, ?_, ?_⟩
      · rcases List.mem_cons.mp hy with rfl | hy
        · exact List.not_mem_nil
        · exact h1 y hy
      · rw [join_two, app_cps, app_cps, h2]; rfl
      · rw [join_two, app_cps, app_cps, h3]; rfl
    · refine ⟨⟨#[c]⟩ ++ p, ps, fun y hy => ?_, ?_, ?_⟩
      · rcases List.mem_cons.mp hy with rfl | hy
        · rw [app_cps]
          intro hm
          rcases List.mem_append.mp hm with hm | hm
          · exact hc (List.mem_singleton.mp hm).symm
          · exact h1 p (.head _) hm
        · exact h1 y (.tail _ hy)
      · rw [join_cons_app, app_cps, h2]; rfl
      · rw [join_cons_app, app_cps, h3, List.map_cons]
        unfold unfill
        rw [if_neg hc]; rfl
theorem replaced (x : Str) : (Txt.join (Str.ofString ".") (Txt.split x (Str.ofString "+"))).cps.toList = x.cps.toList.map unfill := by
  obtain ⟨p, ps, h1, h2, h3⟩ := pieces x.cps.toList
  have e : Txt.split x (Str.ofString "+") = p :: ps := by
    rw [plus_is]
    exact split_is (fun e => nomatch e) h1 (sx h2)
  show (Builtin.Str.glued _ _).cps.toList = _
  rw [e, dot_is, glued_eq_join, h3]
theorem four_rows {l : List Str} (h : l.length = 4) : ∃ a b c d, l = [a, b, c, d] := by
  match l, h with
  | [a, b, c, d], _ => exact ⟨a, b, c, d, rfl⟩
theorem join4 (a b c d : Str) : (Txt.join (Str.ofString "\n") [a, b, c, d]).cps.toList = a.cps.toList ++ [10] ++ (b.cps.toList ++ [10] ++ (c.cps.toList ++ [10] ++ d.cps.toList)) := by
  show (Builtin.Str.glued _ _).cps.toList = _
  rw [glued_eq_join, nl_is, join_two, join_two, join_two, join_one]
  simp only [app_cps]
theorem row_unfill {page rows : List Str} {st : Pl} {runs : List Run} {wait : List Pl} (hp : Page page) (h : Inv page st rows runs wait) {i : Nat} (hi : i < 4) : (rows.getD i Str.empty).cps.toList.map unfill = (page.getD i Str.empty).cps.toList := by
  have l1 : (rows.getD i Str.empty).length = 6 := h.six _ (by rw [List.getD_eq_getElem?_getD, List.getElem?_eq_getElem (by rw [h.four]; exact hi)]; exact List.getElem_mem _)
  have l2 : (page.getD i Str.empty).length = 6 := hp.six _ (by rw [List.getD_eq_getElem?_getD, List.getElem?_eq_getElem (by rw [hp.four]; exact hi)]; exact List.getElem_mem _)
  have k1 := len_list (rows.getD i Str.empty)
  have k2 := len_list (page.getD i Str.empty)
  apply List.ext_getElem
  · rw [List.length_map]; (revert l1 l2 k1 k2; kjx_bare; intro l1 l2 k1 k2; lia)
  · intro j h1 h2
    rw [List.getElem_map]
    have hj : j < 6 := by (revert l2 k2 h2; kjx_bare; intro l2 k2 h2; lia)
    have e1 : (rows.getD i Str.empty).cps.toList[j]'(by rw [List.length_map] at h1; exact h1) = cell rows i j := at_chAt _ _ _
    have e2 : (page.getD i Str.empty).cps.toList[j]'h2 = cell page i j := at_chAt _ _ _
    rw [e1, e2]
    unfold unfill
    rcases h.same i hi j hj with q | q
    · rw [q, if_neg (by rcases hp.signs i hi j hj with z | z <;> (revert z; kjx_bare; intro z; lia))]
    · rw [if_pos q.2, q.1]
/-- the page's text -/
def textOf (page : List Str) : Str := Txt.join (Str.ofString "\n") page
theorem text_back {page rows : List Str} {st : Pl} {runs : List Run} {wait : List Pl} (hp : Page page) (h : Inv page st rows runs wait) : Txt.join (Str.ofString ".") (Txt.split (textOf rows) (Str.ofString "+")) = textOf page := by
  refine sx ?_
  rw [replaced]
  obtain ⟨a, b, c, d, ra⟩ := four_rows h.four
  obtain ⟨a', b', c', d', pa⟩ := four_rows hp.four
  have e0 := row_unfill hp h (i := 0) (by decide)
  have e1 := row_unfill hp h (i := 1) (by decide)
  have e2 := row_unfill hp h (i := 2) (by decide)
  have e3 := row_unfill hp h (i := 3) (by decide)
  rw [ra, pa] at e0 e1 e2 e3
  unfold textOf
  rw [ra, pa, join4, join4]
  simp only [List.map_append]
  show a.cps.toList.map unfill ++ _ ++ (b.cps.toList.map unfill ++ _ ++ (c.cps.toList.map unfill ++ _ ++ d.cps.toList.map unfill)) = _
  rw [show a.cps.toList.map unfill = a'.cps.toList from e0, show b.cps.toList.map unfill = b'.cps.toList from e1, show c.cps.toList.map unfill = c'.cps.toList from e2, show d.cps.toList.map unfill = d'.cps.toList from e3]
  rfl
theorem text_len {rows : List Str} (h4 : rows.length = 4) (h6 : ∀ x ∈ rows, x.length = 6) : (textOf rows).length = 27 := by
  obtain ⟨a, b, c, d, rfl⟩ := four_rows h4
  rw [← len_list]
  unfold textOf
  rw [join4]
  simp only [List.length_append, List.length_singleton, len_list]
  rw [h6 a (by simp), h6 b (by simp), h6 c (by simp), h6 d (by simp)]
theorem text_sum {rows : List Str} (h4 : rows.length = 4) (h6 : ∀ x ∈ rows, x.length = 6) : (rows.map (·.length)).sum = 24 := by
  obtain ⟨a, b, c, d, rfl⟩ := four_rows h4
  simp only [List.map_cons, List.map_nil, List.sum_cons, List.sum_nil, h6 a (by simp), h6 b (by simp), h6 c (by simp), h6 d (by simp)]
  rfl
theorem sign_sp : ∀ c, c = 46 ∨ c = 35 → Unicode.isSpace c = false := by
  intro c h
  rcases h with rfl | rfl <;> decide +kernel
theorem page_sign {page : List Str} (hp : Page page) {x : Str} (hx : x ∈ page) : ∀ c ∈ x.cps.toList, c = 46 ∨ c = 35 := by
  intro c hc
  obtain ⟨i, hi, rfl⟩ := List.mem_iff_getElem.mp hx
  obtain ⟨j, hj, rfl⟩ := List.mem_iff_getElem.mp hc
  have h6 := hp.six _ hx
  have k := len_list page[i]
  have h4 := hp.four
  have e : page[i].cps.toList[j] = cell page i j := by
    unfold cell
    rw [List.getD_eq_getElem?_getD, List.getElem?_eq_getElem hi, chAt_list, List.getD_eq_getElem?_getD, Option.getD_some, List.getElem?_eq_getElem hj]
    rfl
  rw [e]
  exact hp.signs i (by (first | lia | omega)) j (by (first | lia | omega))
theorem rstrip_ne {x : Str} (h0 : 0 < x.length) (h1 : Unicode.isSpace (x.cps.getD 0 0) = false) : (Txt.rstrip x).length ≠ 0 := by
  unfold Txt.rstrip
  rw [PyProof.Rows.stripBy_eq]
  have e : stripLo Unicode.isSpace false x = 0 := rfl
  rw [e]
  obtain ⟨k1, k2, k3, k4⟩ := hi_facts Unicode.isSpace x 0 (Nat.zero_le _)
  generalize stripHi Unicode.isSpace true x 0 = hi at k1 k2 k3 k4
  have hpos : 0 < hi := by
    rcases Nat.eq_zero_or_pos hi with q | q
    · have := k3 0 (by (exact Nat.le_of_eq q)) h0
      rw [h1] at this; cases this
    · exact q
  rw [← len_list, strSub_toList, List.length_take, List.length_drop, len_list]
  (revert k2 hpos; kjx_bare; intro k2 hpos; lia)
theorem text_split {page : List Str} (hp : Page page) : splitL (linesOf (textOf page)) = (Str.ofString "", textOf page) ∧ ((linesOf (textOf page)).map (·.length)).sum + (linesOf (textOf page)).length ≤ 100000 := by
  obtain ⟨a, b, c, d, rfl⟩ := four_rows hp.four
  have la := hp.six a (by simp)
  have lb := hp.six b (by simp)
  have lc := hp.six c (by simp)
  have ld := hp.six d (by simp)
  have sa := page_sign hp (x := a) (by simp)
  have sd := page_sign hp (x := d) (by simp)
  have sb := page_sign hp (x := b) (by simp)
  rw [← len_list] at la lb lc ld
  have e : linesOf (textOf [a, b, c, d]) = [a, b, c, d] := by
    unfold linesOf
    have st : Txt.strip (textOf [a, b, c, d]) = textOf [a, b, c, d] := by
      have hl : textOf [a, b, c, d] = ⟨([] ++ (a.cps.toList ++ [10] ++ (b.cps.toList ++ [10] ++ (c.cps.toList ++ [10] ++ d.cps.toList))) ++ []).toArray⟩ := by
        refine sx ?_
        rw [List.append_nil, List.nil_append]
        exact join4 a b c d
      rw [hl, strip_mid (fun _ h => absurd h List.not_mem_nil) (fun _ h => absurd h List.not_mem_nil)]
      · rw [List.append_nil, List.nil_append]
      · intro h
        have := congrArg List.length h
        simp only [List.length_append, List.length_singleton, List.length_nil] at this
        (revert this; kjx_bare; intro this; lia)
      · refine sign_sp _ (sa _ ?_)
        rw [List.getD_eq_getElem?_getD, List.getElem?_append_left (by simp only [List.length_append, List.length_singleton]; (exact Nat.lt_of_not_le (Nat.not_lt_zero a.cps.toList.length))), List.getElem?_append_left (by (revert la; kjx_bare; intro la; lia)), List.getElem?_eq_getElem (by (revert la; kjx_bare; intro la; lia))]
        exact List.getElem_mem _
      · refine sign_sp _ (sd _ ?_)
        simp only [List.length_append, List.length_singleton]
        rw [List.getD_eq_getElem?_getD, List.getElem?_append_right (by simp only [List.length_append, List.length_singleton]; (kjx_bare; lia)), List.getElem?_append_right (by simp only [List.length_append, List.length_singleton]; (kjx_bare; lia)), List.getElem?_append_right (by simp only [List.length_append, List.length_singleton]; (revert ld; kjx_bare; intro ld; lia))]
        rw [List.getElem?_eq_getElem (by simp only [List.length_append, List.length_singleton]; (revert ld; kjx_bare; intro ld; lia))]
        exact List.getElem_mem _
    rw [st, nl_is]
    refine split_is (fun h => nomatch h) (fun p hpm hc => ?_) ?_
    · rcases page_sign hp hpm 10 hc with q | q <;> (first | lia | omega)
    · unfold textOf
      rw [nl_is]
      exact (glued_eq_join _ _).symm
  rw [e]
  constructor
  · refine splitL_full (z := b) (by show 2 ≤ 4; decide) rfl (rstrip_ne (by rw [← len_list]; (revert lb; kjx_bare; intro lb; lia)) (sign_sp _ (sb _ ?_)))
    rw [← getD_list, List.getD_eq_getElem?_getD, List.getElem?_eq_getElem (by (revert lb; kjx_bare; intro lb; lia))]
    exact List.getElem_mem _
  · have := text_sum hp.four hp.six
    rw [this]
    show 24 + 4 ≤ 100000
    decide
end
section
open PySem.Calls
theorem text_ok {page : List Str} (hp : Page page) : PyData.strOk (textOf page) = true := by
  obtain ⟨a, b, c, d, rfl⟩ := four_rows hp.four
  refine strOk_of fun k hk => ?_
  rw [chAt_list]
  have hk' : k < (textOf [a, b, c, d]).cps.toList.length := hk
  rw [List.getD_eq_getElem?_getD, List.getElem?_eq_getElem hk']
  have hm : (textOf [a, b, c, d]).cps.toList[k] ∈ (textOf [a, b, c, d]).cps.toList := List.getElem_mem _
  have key : ∀ z ∈ (textOf [a, b, c, d]).cps.toList, z < 0x110000 := by
    intro z hz
    unfold textOf at hz
    rw [join4] at hz
    have big : ∀ x, x ∈ [a, b, c, d] → z ∈ x.cps.toList → z < 0x110000 := fun x hx hz => by
      rcases page_sign hp hx z hz with q | q <;> (first | lia | omega)
    simp only [List.mem_append, List.mem_singleton] at hz
    rcases hz with (hz | hz) | (hz | hz) | (hz | hz) | hz
    · exact big a (by simp) hz
    · (first | lia | omega)
    · exact big b (by simp) hz
    · (first | lia | omega)
    · exact big c (by simp) hz
    · (first | lia | omega)
    · exact big d (by simp) hz
  exact key _ hm
section
variable {prog : Program} {w : World} {A : Around} {E : Value → Shared → Prop} {s : Shared} {h₀ : Heap} {L a b : Addr} {m : Str → Option Value} {news : Led}
theorem eq_pair {x y : Str} {t1 t2 u1 u2 : Tok} {Q : Value → Shared → Prop} (N : News h₀ L s.heap news) (ha : (a, tup2 (.str x t1) (.str y t2)) ∈ news) (hb : (b, tup2 (.str x u1) (.str y u2)) ∈ news) (hx : PyData.strOk x = true) (hy : PyData.strOk y = true) (hu : A.units + 64 < cLine)
    (h : Q (.bool true) s) : wpAny (model prog w) A (compareOp .Eq (.ref a) (.ref b)) Q E s := by
  have sh : SeqAt.shaped (.tuple [.str x, .str y]) = true := by
    simp [SeqAt.shaped, PyData.canLay0, PyData.canLayAll0, PyData.depth, PyData.depthAll, hx, hy]
  have rd : ∀ {c : Addr} {v1 v2 : Tok}, (c, tup2 (.str x v1) (.str y v2)) ∈ news → Reads s.heap (.ref c) (.tuple [.str x, .str y]) [] := fun hc =>
    reads_tuple_at (N _ hc).1 rfl rfl (readsAll_cons_val (.str x _) (readsAll_cons_val (.str y _) .nil))
  refine eq_dataH (rd ha) (rd hb) sh sh hu ?_
  rw [SeqAt.eqv_refl _ (by simp [PyData.canLay0, PyData.canLayAll0, hx, hy])]
  exact h
end
end
local macro_rules | `(tactic| walk_at "subscriptTail Name Constant ref int") => `(tactic| (k_here; k_dflt (refine' str_item (by k_asm) (by k_mem) (by assumption) (by (first | decide | walk_at "ar")) (by (simp only [List.length_map, List.length_cons]; walk_at "ar")) (by (first | decide | walk_at "ar")) ?_ (by with_unfolding_all rfl); k_whole); intro t'))
local macro_rules | `(tactic| walk_at "subscriptTail Name Name ref int") => `(tactic| (k_here; k_dflt (refine' str_item (by k_asm) (by k_mem) (by assumption) (by walk_at "ar") (by walk_at "ar") (by walk_at "ar") ?_ (by with_unfolding_all rfl); k_whole); intro t'))
local macro_rules | `(tactic| walk_at "subscriptTail Name Slice ref ref") => `(tactic| (k_here; k_dflt (refine' strs_slice (by k_asm) (by k_asm) (by k_mem) (by (first | decide | walk_at "ar")) (by walk_at "ar") ?_ (by with_unfolding_all rfl) (by (intro _; with_unfolding_all rfl)); k_whole); intro D' h' F' N' l1; (try k_lt l1)))
local macro_rules | `(tactic| walk_at "binaryOp Add ref ref") => `(tactic| (k_here; k_dflt (refine' list_add (by k_asm) (by k_asm) (by k_mem) (by k_mem) (by (first | walk_at "ar" | (rw [List.length_drop]; walk_at "ar") | (simp only [List.length_cons, List.length_nil]; walk_at "ar"))) (by (first | walk_at "ar" | (rw [List.length_drop]; walk_at "ar") | (simp only [List.length_cons, List.length_nil]; walk_at "ar"))) ?_; k_whole); intro D' h' F' N' l1; (try k_lt l1)))
local macro_rules | `(tactic| walk_at "eval IfExp") => `(tactic| ((with_reducible show wpAny _ _ (eval (Expr.IfExp (Expr.Name _ _) (Expr.Subscript _ _ _) _ _) _) _ _ _); refine Mine.Stop.out ?_))
local macro_rules | `(tactic| walk_at "call builtin:list.append") => `(tactic| (k_here; (with_reducible show wpAny _ _ (call (Value.builtin _) [Value.ref _, _]) _ _ _); k_dflt (refine' list_append (by k_asm) (by k_asm) (by k_upd) ?_ (by walk_at "ar"); k_whole); intro h' F' N'))
local macro_rules | `(tactic| walk_at "setItem ref int") => `(tactic| (refine Mine.Stop.out ?_))
local macro_rules | `(tactic| walk_at "CompSrc") => `(tactic| (refine Mine.Stop.out ?_))
local macro_rules | `(tactic| walk_at "CompSrcT") => `(tactic| (refine Mine.Stop.out ?_))
local macro_rules | `(tactic| walk_at "subscriptTail Name Name ref int") => `(tactic| (k_here; k_dflt (refine' str_itemN (by k_asm) (by k_mem) (by assumption) (by walk_at "ar") (by walk_at "ar") (by first | with_reducible assumption | exact rfl) ?_ (by with_unfolding_all rfl); k_whole); intro t'))
local macro_rules | `(tactic| walk_at "subscriptTail Name Slice str ref") => `(tactic| ((with_reducible show wpAny _ _ (subscriptTail _ (Expr.Slice none (some _) none _) _ _) _ _ _); (with_reducible rename Fr _ _ _ _ => F'); (with_reducible rename News _ _ _ _ => N'); (refine slice_strN_ns (hsz := ?hsz) (s := ⟨_, _, _, _, _⟩) F' N' ?_); (case hsz => (rw [sizeLine_eq]; walk_at "ar")); intro h' t' k' F' N'))
local macro_rules | `(tactic| walk_at "subscriptTail Name Slice str ref") => `(tactic| ((with_reducible show wpAny _ _ (subscriptTail _ (Expr.Slice (some _) none none _) _ _) _ _ _); (with_reducible rename Fr _ _ _ _ => F'); (with_reducible rename News _ _ _ _ => N'); (refine slice_strN_sn (hsz := ?hsz) (s := ⟨_, _, _, _, _⟩) F' N' ?_); (case hsz => (rw [sizeLine_eq]; walk_at "ar")); intro h' t' k' F' N'))
local macro_rules | `(tactic| walk_at "call builtin:len") => `(tactic| (k_here; (with_reducible show wpAny _ _ (call (Value.builtin "len") [Value.ref _]) _ _ _); k_dflt (refine' list_len (by k_asm) (by k_mem) (by assumption) (by walk_at "ar") ?_; k_whole)))
local macro_rules | `(tactic| walk_at "inplaceOp Add ref") => `(tactic| (k_here; (with_reducible show wpAny _ _ (inplaceOp Operator.Add (Value.ref _) (Value.ref _)) _ _ _); k_dflt (refine' list_iadd (by k_asm) (by k_asm) (by k_mem) (by (intro k'; k_upd)) (by first | walk_at "ar" | exact Nat.zero_le _) (by walk_at "ar") ?_; k_whole); intro k' h' F' N'))
section
local macro_rules | `(tactic| walk_at "mine enterS") => `(tactic| (refine' kp_rest (by k_asm) (by k_asm) (by k_asm) (by k_asm) (by k_asm) (by exact rfl) (by exact rfl) (by assumption) (by k_is) (by k_is) (by ktr_room) (by kl_lit) (by exact rfl) (by exact fun _ => rfl) (by exact fun _ => locs rfl) ?_ (by exact rfl) (by exact rfl) (by exact rfl) (by decide); k_whole; intro D' g' L' h' l1 FG' F' N' B' X' T'; (try dsimp only); (try k_lift B'); (try k_fold)))
structure RS where
  y : Str
  t : Tok
  T : Addr
  vs : Array Value
def replace_c_P : {P : (World) → (Str) → (Tok) → (Tok) → (Tok) → (Led) → (Program) → (List Str) → (ExcName → Option Value) → (Str → Option Value) → (Str → Option Value) → (Nat) → (Nat) → (Option (List Code)) → (Str) → (Scope) → (Addr) → (Value) → (List (Str × Addr)) → (List Env) → (Around) → (Heap) → (Heap) → (Addr) → (Str → Option Value) → (Shared) → (Value → Shared → Prop) → (Value → Shared → Prop) → (Heap) → (Addr) → (Heap) → (Flow → Shared → Prop) → (Shared) → Prop // (∀ w x t tp td rest p loose mean mg mb dp un gd cn cs a ccd cl outer A₀ base h₀ L m s Q E g' L' h' Q0 s0, P w x t tp td rest p loose mean mg mb dp un gd cn cs a ccd cl outer A₀ base h₀ L m s Q E g' L' h' Q0 s0) → ∀ (w : World) (x : Str) (t tp td : Tok) (rest : Led) (hlen : x.length < 1000),
    Ctr w 2 28 [.str x t, .str (Str.ofString "+") tp, .str (Str.ofString ".") td] rest fun r news' => ∃ t', r = .str (Txt.join (Str.ofString ".") (Txt.split x (Str.ofString "+"))) t' ∧ news' = rest} := by
  apply Subtype.mk
  intro hall w x t tp td rest hlen
  unfold Ctr
  w_top off
  k_fill
  intro p loose mean mg mb dp un gd cn cs a ccd cl outer A₀ base h₀ L m s Q E B F X N T hk hdp hun hC1 hC2 hret
  refine wpAny_call ?_
  k_dflt walk_at "mine enterS"
  refine gen_post ?_
  intro Q0 s0 hQ0
  rename_i z0_D g' L' h' z4_l1 z5_FG z6_F z7_N z8_B z9_X z10_T
  revert hlen B F X N T hk hdp hun hC1 hC2 hret z0_D z4_l1 z5_FG z6_F z7_N z8_B z9_X z10_T qk ek hQ0
  exact hall w x t tp td rest p loose mean mg mb dp un gd cn cs a ccd cl outer A₀ base h₀ L m s Q E g' L' h' Q0 s0
noncomputable def replace_c_v : LV ((Str) × (Tok) × (Tok) × (Tok) × (Led)) := Classical.choose (LV.ex ((default : Str), (default : Tok), (default : Tok), (default : Tok), (default : Led)) fun v => replace_c_P.1 (v.w) (v.own.1) (v.own.2.1) (v.own.2.2.1) (v.own.2.2.2.1) (v.own.2.2.2.2) (v.p) (v.loose) (v.mean) (v.mg) (v.mb) (v.dp) (v.un) (v.gd) (v.cn) (v.cs) (v.a) (v.ccd) (v.cl) (v.outer) (v.A₀) (v.base) (v.h₀) (v.L) (v.m) (v.s) (v.Q) (v.E) (v.g') (v.L') (v.h') (v.Q0) (v.s0))
theorem replace_c_m : replace_c_P.1 (replace_c_v.w) (replace_c_v.own.1) (replace_c_v.own.2.1) (replace_c_v.own.2.2.1) (replace_c_v.own.2.2.2.1) (replace_c_v.own.2.2.2.2) (replace_c_v.p) (replace_c_v.loose) (replace_c_v.mean) (replace_c_v.mg) (replace_c_v.mb) (replace_c_v.dp) (replace_c_v.un) (replace_c_v.gd) (replace_c_v.cn) (replace_c_v.cs) (replace_c_v.a) (replace_c_v.ccd) (replace_c_v.cl) (replace_c_v.outer) (replace_c_v.A₀) (replace_c_v.base) (replace_c_v.h₀) (replace_c_v.L) (replace_c_v.m) (replace_c_v.s) (replace_c_v.Q) (replace_c_v.E) (replace_c_v.g') (replace_c_v.L') (replace_c_v.h') (replace_c_v.Q0) (replace_c_v.s0) := by
  unfold replace_c_P
  dsimp (config := { zeta := false }) only
  intro hlen B F X N T hk hdp hun hC1 hC2 hret _ _ _ _ _ _ _ _ qk ek hQ0
  k_steps
  unfold Stop
  rename Fr _ _ _ _ => F2
  rename News _ _ _ _ => N2
  rename_i D l1 FG B' X' T'
  refine while_cut (σ := RS) (fun c => (c.T, { cls := .type "tuple", data := .seq c.vs }) :: (replace_c_v.own.2.2.2.2)) (fun c => [(Str.ofString "text", .str c.y c.t), (Str.ofString "pairs", .ref c.T)]) (fun _ => True) []
    (fun c => (c.vs = #[.str (Str.ofString "+") (replace_c_v.own.2.2.1), .str (Str.ofString ".") (replace_c_v.own.2.2.2.1)] ∧ c.y = (replace_c_v.own.1)) ∨ (c.vs = #[] ∧ c.y = Txt.join (Str.ofString ".") (Txt.split (replace_c_v.own.1) (Str.ofString "+"))))
    (fun c => c.y = Txt.join (Str.ofString ".") (Txt.split (replace_c_v.own.1) (Str.ofString "+")))
    (fun c => c.vs.size) ⟨(replace_c_v.own.1), (replace_c_v.own.2.1), D, #[.str (Str.ofString "+") (replace_c_v.own.2.2.1), .str (Str.ofString ".") (replace_c_v.own.2.2.2.1)]⟩ F2 N2 trivial (by kst_all) (.inl ⟨rfl, rfl⟩) ?turn ?after (by passes_own)
  case turn =>
    rintro ⟨y, ty, T2, vs⟩ u h3 tk3 - hP F3 N3
    dsimp only at hP F3 N3
    clear F2 N2
    refine gen_ite ?_
    intro Kw Ww sw hKw hWw
    rcases hP with ⟨rfl, rfl⟩ | ⟨rfl, rfl⟩
    · k_steps
      unfold Stop
      rename StrsAre _ _ => hs
      rename (List.map _ _ = Txt.split _ _) => hl
      rw [hl] at hs
      rename News _ _ _ _ => N4
      refine join_list (News.isList N4 (.head _)) (by simpa using hs) ?_ ?_
      · have := split_weight (replace_c_v.own.1) (Str.ofString "+") (by decide +kernel)
        rw [show (Str.ofString ".").length = 1 from by decide +kernel]
        (walk_at "ar")
      intro t9 k9
      k_steps
      rename Fr _ _ _ _ => F5
      rename News _ _ _ _ => N5
      k_dflt (refine' slice_tuple_from (a := 2) F5 N5 (News.isTup N5 (.tail _ (.head _))) ?z1 ?z2 ?_ ?z3 ?z4 ?z5)
      (case z1 => decide); (case z2 => exact Nat.le_refl 2); (case z3 => with_unfolding_all rfl); (case z4 => (intro _; with_unfolding_all rfl)); (case z5 => (show 2 ≤ sizeLine; decide))
      intro h6 F6 N6
      clear F5 N5
      k_steps
      rename Fr _ _ _ _ => F7
      rename News _ _ _ _ => N7
      refine hKw _ _ _ ?_
      refine ksw_end ⟨_, t9, _, #[]⟩ F7 N7 ?_ trivial (by kst_all) (by (intro z h2 h3; first | rfl | ((simp only [List.forall_mem_cons, List.not_mem_nil, false_implies, implies_true, and_true, ne_eq] at h2); first | (simp [kstB, h2]; done) | ((simp only [List.contains_cons, List.contains_nil, Bool.or_false, Bool.or_eq_false_iff, beq_eq_false_iff_ne, ne_eq] at h3); (simp [kstB, h2, h3]; done))))) (.inr ⟨rfl, rfl⟩) (by show 0 < 2; decide)
      walk_at "mine sub"
    · k_steps
      refine hWw _ _ ?_
      exact wend ⟨_, ty, T2, #[]⟩ F3 N3 (fun p hp => hp) (by kst_all) (by (intro z h2 h3; first | rfl | ((simp only [List.forall_mem_cons, List.not_mem_nil, false_implies, implies_true, and_true, ne_eq] at h2); first | (simp [kstB, h2]; done) | ((simp only [List.contains_cons, List.contains_nil, Bool.or_false, Bool.or_eq_false_iff, beq_eq_false_iff_ne, ne_eq] at h3); (simp [kstB, h2, h3]; done))))) rfl
  case after =>
    rintro ⟨y, ty, T2, vs⟩ u h3 tk3 hy F3 N3
    dsimp only at hy F3 N3
    subst hy
    k_steps
    refine hQ0 _ _ _ ?_
    k_steps
    (first | rename Fr h₀ L _ m => kF | rename Fr replace_c_v.h₀ replace_c_v.L _ replace_c_v.m => kF)
    (first | rename News h₀ L _ _ => kN | rename News replace_c_v.h₀ replace_c_v.L _ _ => kN)
    exact hret _ _ _ _ kF (cb_drop kN fun p hp => .tail _ hp) ⟨_, rfl, rfl⟩
theorem replace_c (w : World) (x : Str) (t tp td : Tok) (rest : Led) (hlen : x.length < 1000) :
    Ctr w 2 28 [.str x t, .str (Str.ofString "+") tp, .str (Str.ofString ".") td] rest fun r news' => ∃ t', r = .str (Txt.join (Str.ofString ".") (Txt.split x (Str.ofString "+"))) t' ∧ news' = rest :=
  replace_c_P.2 (fun w x t tp td rest p loose mean mg mb dp un gd cn cs a ccd cl outer A₀ base h₀ L m s Q E g' L' h' Q0 s0 => Classical.choose_spec (LV.ex ((default : Str), (default : Tok), (default : Tok), (default : Tok), (default : Led)) fun v => replace_c_P.1 (v.w) (v.own.1) (v.own.2.1) (v.own.2.2.1) (v.own.2.2.2.1) (v.own.2.2.2.2) (v.p) (v.loose) (v.mean) (v.mg) (v.mb) (v.dp) (v.un) (v.gd) (v.cn) (v.cs) (v.a) (v.ccd) (v.cl) (v.outer) (v.A₀) (v.base) (v.h₀) (v.L) (v.m) (v.s) (v.Q) (v.E) (v.g') (v.L') (v.h') (v.Q0) (v.s0)) replace_c_m ⟨(x, t, tp, td, rest), w, p, loose, mean, mg, mb, dp, un, gd, cn, cs, a, ccd, cl, outer, A₀, base, h₀, L, m, s, Q, E, g', L', h', 0, default, default, default, Q0, s0⟩) w x t tp td rest hlen
end
section
local macro_rules | `(tactic| walk_at "binaryOp Pow int int") => `(tactic| (k_here; (with_reducible refine pow_int_small ?kb1 ?kb2 ?kb3 ?_); (case kb1 | kb2 => walk_at "ar"); (case kb3 => decide)))
local macro_rules | `(tactic| walk_at "binaryOp FloorDiv int int") => `(tactic| (k_here; (with_reducible show wpAny _ _ (binaryOp Operator.FloorDiv _ (Value.int (_ ^ _) _)) _ _ _); (with_reducible refine floordiv_int ?kbe ?_ (Or.inl (PyProof.noPylong_of_log2 ?kbp))); (case kbe => exact Int.ne_of_gt (pow_pos_of (by decide) _)); (case kbp => exact kbt_py (by walk_at "ar"))))
local macro_rules | `(tactic| walk_at "eval ListComp") => `(tactic| (refine Mine.Stop.out ?_))
local macro_rules | `(tactic| walk_at "exec While Compare") => `(tactic| (refine Mine.Stop.out ?_))
local macro_rules | `(tactic| walk_at "subscriptTail Name Constant ref int") => `(tactic| (k_here; k_dflt (refine' str_item (by k_asm) (by k_mem) (by assumption) (by decide) (by walk_at "ar") (by decide) ?_ (by with_unfolding_all rfl); k_whole); intro t'))
local macro_rules | `(tactic| walk_at "call type:range") => `(tactic| ((rename Fr _ _ _ _ => F'); (rename News _ _ _ _ => N'); first | (with_unfolding_all refine range1_rows F' N' ?_; intro _ _ _ _ _ _ _ _ _) | (with_unfolding_all refine range2_rows F' N' ?_; intro _ _ _ _ _ _ _ _ _)))
local macro_rules | `(tactic| walk_at "pyIter ref") => `(tactic| (refine Mine.Stop.out ?_))
structure RW where
  r : Nat
  b : Nat
  tr : Tok
  tb : Tok
  ob : Obj
def reached_c_P : {P : (World) → (Addr) → (List Value) → (Nat) → (List Str) → (Pl) → (Tok) → (Tok) → (Led) → (Program) → (List Str) → (ExcName → Option Value) → (Str → Option Value) → (Str → Option Value) → (Nat) → (Nat) → (Option (List Code)) → (Str) → (Scope) → (Addr) → (Value) → (List (Str × Addr)) → (List Env) → (Around) → (Heap) → (Heap) → (Addr) → (Str → Option Value) → (Shared) → (Value → Shared → Prop) → (Value → Shared → Prop) → (Heap) → (Addr) → (Heap) → (Nat) → (Obj) → (Obj) → (Obj) → (Flow → Shared → Prop) → (Shared) → Prop // (∀ w pA pvs pn page st tl tc rest p loose mean mg mb dp un gd cn cs a ccd cl outer A₀ base h₀ L m s Q E g' L' h' tk' o1 o2 o3 Q0 s0, P w pA pvs pn page st tl tc rest p loose mean mg mb dp un gd cn cs a ccd cl outer A₀ base h₀ L m s Q E g' L' h' tk' o1 o2 o3 Q0 s0) → ∀ (w : World) (pA : Addr) (pvs : List Value) (pn : Nat) (page : List Str) (st : Pl) (tl tc : Tok) (rest : Led) (hp : (pA, W.listOf pvs.toArray pn) ∈ rest) (hS : StrsAre pvs page) (hpg : Page page) (hst : st.1 < 4 ∧ st.2 < 6),
    Ctr w 2 66 [.ref pA, .int st.1 tl, .int st.2 tc] rest fun r news' => ∃ rA rv rn due more, r = .ref rA ∧ news' = (rA, W.listOf rv.toArray rn) :: more ∧ Sub rest more ∧ StrsAre rv due ∧ DueIs page st due} := by
  apply Subtype.mk
  intro hall w pA pvs pn page st tl tc rest hp hS hpg hst
  have h4 := hpg.four
  have hpl : pvs.length = 4 := by rw [hS.length, h4]
  have h06 : (page.getD (Int.toNat 0) Str.empty).length = 6 := hpg.six _ (by rw [List.getD_eq_getElem?_getD, List.getElem?_eq_getElem (by rw [h4]; decide)]; exact List.getElem_mem _)
  unfold Ctr
  w_top off
  k_fill
  intro p loose mean mg mb dp un gd cn cs a ccd cl outer A₀ base h₀ L m s Q E B F X N T hk hdp hun hC1 hC2 hret
  refine wpAny_call ?_
  k_dflt walk_at "mine enterC"
  refine gen_post ?_
  intro Q0 s0 hQ0
  rename_i g' L' h' tk' z4_FG z5_F z6_B z7_X z8_T z9_l1 o1 o2 o3 z13_d1 z14_d2 z15_d3 z16_N
  revert hp hS hpg hst h4 hpl h06 B F X N T hk hdp hun hC1 hC2 hret z4_FG z5_F z6_B z7_X z8_T z9_l1 z13_d1 z14_d2 z15_d3 z16_N hQ0
  exact hall w pA pvs pn page st tl tc rest p loose mean mg mb dp un gd cn cs a ccd cl outer A₀ base h₀ L m s Q E g' L' h' tk' o1 o2 o3 Q0 s0
noncomputable def reached_c_v : LV ((Addr) × (List Value) × (Nat) × (List Str) × (Pl) × (Tok) × (Tok) × (Led)) := Classical.choose (LV.ex ((default : Addr), (default : List Value), (default : Nat), (default : List Str), (default : Pl), (default : Tok), (default : Tok), (default : Led)) fun v => reached_c_P.1 (v.w) (v.own.1) (v.own.2.1) (v.own.2.2.1) (v.own.2.2.2.1) (v.own.2.2.2.2.1) (v.own.2.2.2.2.2.1) (v.own.2.2.2.2.2.2.1) (v.own.2.2.2.2.2.2.2) (v.p) (v.loose) (v.mean) (v.mg) (v.mb) (v.dp) (v.un) (v.gd) (v.cn) (v.cs) (v.a) (v.ccd) (v.cl) (v.outer) (v.A₀) (v.base) (v.h₀) (v.L) (v.m) (v.s) (v.Q) (v.E) (v.g') (v.L') (v.h') (v.tk') (v.o1) (v.o2) (v.o3) (v.Q0) (v.s0))
theorem reached_c_m : reached_c_P.1 (reached_c_v.w) (reached_c_v.own.1) (reached_c_v.own.2.1) (reached_c_v.own.2.2.1) (reached_c_v.own.2.2.2.1) (reached_c_v.own.2.2.2.2.1) (reached_c_v.own.2.2.2.2.2.1) (reached_c_v.own.2.2.2.2.2.2.1) (reached_c_v.own.2.2.2.2.2.2.2) (reached_c_v.p) (reached_c_v.loose) (reached_c_v.mean) (reached_c_v.mg) (reached_c_v.mb) (reached_c_v.dp) (reached_c_v.un) (reached_c_v.gd) (reached_c_v.cn) (reached_c_v.cs) (reached_c_v.a) (reached_c_v.ccd) (reached_c_v.cl) (reached_c_v.outer) (reached_c_v.A₀) (reached_c_v.base) (reached_c_v.h₀) (reached_c_v.L) (reached_c_v.m) (reached_c_v.s) (reached_c_v.Q) (reached_c_v.E) (reached_c_v.g') (reached_c_v.L') (reached_c_v.h') (reached_c_v.tk') (reached_c_v.o1) (reached_c_v.o2) (reached_c_v.o3) (reached_c_v.Q0) (reached_c_v.s0) := by
  unfold reached_c_P
  dsimp (config := { zeta := false }) only
  intro hp hS hpg hst h4 hpl h06 B F X N T hk hdp hun hC1 hC2 hret _ _ _ _ _ _ _ _ _ _ hQ0
  k_steps
  unfold Stop
  rename Fr _ _ _ _ => F2
  rename News _ _ _ _ => N2
  rename IsRange _ _ _ _ _ _ _ _ => hR2
  rename_i FG B' X' T' low d1 d2 dP _ t0 _ oW dW _ _ _ _ _ _ _ _ _
  rw [h06, show ((6 : Nat) : Int) + 1 = ((7 : Nat) : Int) from rfl] at dW
  have offs : ∀ x : Nat, @LE.le Nat _ (reached_c_v.L') x → Off x (reached_c_v.own.2.2.2.2.2.2.2) := fun x hx p hp => Nat.ne_of_lt (Nat.lt_of_lt_of_le (low p hp) hx)
  refine range_cut (σ := Nat × Tok) (fun _ => ((reached_c_v.L') + 1 + 1 + 1, (reached_c_v.o1)) :: ((reached_c_v.L') + 1 + 1, oW) :: ((reached_c_v.L') + 1, (reached_c_v.o3)) :: (reached_c_v.own.2.2.2.2.2.2.2)) (fun c => [(Str.ofString "free", .int c.1 c.2)]) [Str.ofString "j"]
    (fun i c => FreeTo (reached_c_v.own.2.2.2.1) i 0 c.1) ⟨0, _⟩ rfl hR2 (by decide) (show _ = ((4 : Nat) : Int) by decide) F2 N2 (by kst_all) free_start ?turn ?after
  case turn =>
    intro i c t1 u1 h3 tk3 I oI hi hP hlI hoI F3 N3
    obtain ⟨f, tf⟩ := c
    dsimp only at hP hlI hoI F3 N3
    clear F2 N2
    rw [Int.zero_add] at F3
    have six : ((reached_c_v.own.2.2.2.1).getD i Str.empty).length = 6 := hpg.six _ (by rw [List.getD_eq_getElem?_getD, List.getElem?_eq_getElem (by (walk_at "ar"))]; exact List.getElem_mem _)
    generalize hrow : (reached_c_v.own.2.2.2.1).getD i Str.empty = row at six
    k_lt hlI
    refine gen_post ?_
    intro Q1 s1 hQ1
    k_steps
    unfold Stop
    rename Fr _ _ _ _ => F4
    rename News _ _ _ _ => N4
    rename IsRange _ _ _ _ _ _ _ _ => hR4
    refine range_cut (σ := Nat × Tok) (n := 6) (fun _ => (I, oI) :: ((reached_c_v.L') + 1 + 1 + 1, (reached_c_v.o1)) :: ((reached_c_v.L') + 1 + 1, oW) :: ((reached_c_v.L') + 1, (reached_c_v.o3)) :: (reached_c_v.own.2.2.2.2.2.2.2)) (fun c => [(Str.ofString "free", .int c.1 c.2)]) []
      (fun j c => FreeTo (reached_c_v.own.2.2.2.1) i j c.1) ⟨f, tf⟩ rfl hR4 (small_one (by (walk_at "ar")) (by (walk_at "ar")) (by (walk_at "ar")) (by (walk_at "ar"))) (by rw [six]; decide) F4 N4 (by kst_all) hP ?turn2 ?after2
    case turn2 =>
      clear F4 N4 hP
      intro j c t2 u2 h5 tk5 I2 oI2 hj hP hlI2 hoI2 F5 N5
      obtain ⟨f, tf⟩ := c
      dsimp only at hP hlI2 hoI2 F5 N5
      rw [Int.zero_add] at F5
      k_lt hlI2
      have oI2n := (List.forall_mem_cons.mp hoI2).1
      refine gen_post ?_
      intro Q2 s2 hQ2
      k_steps
      · rename ((Txt.item _ _ == _) = true) => q1
        rw [item_dot (by (walk_at "ar")) (by (walk_at "ar")), decide_eq_true_eq, Int.toNat_natCast] at q1
        have c1 : cell (reached_c_v.own.2.2.2.1) i j = 46 := by unfold cell; rw [hrow]; exact q1
        rename Fr _ _ _ _ => F8
        rename News _ _ _ _ => N8
        rw [free_val] at F8
        refine hQ2 _ _ _ ?_
        exact tend ⟨f + 2 ^ (7 * i + j), _⟩ F8 N8 (.head _) (fun p hp => .tail _ hp) hoI2 (by kst_all) (by intro z hz h2 h3; simp only [List.forall_mem_cons, List.not_mem_nil, false_implies, implies_true, and_true, ne_eq] at h2; simp [kstB, hz, h2]) (free_yes hP hj c1)
      · rename ((Txt.item _ _ == _) = false) => q1
        rw [item_dot (by (walk_at "ar")) (by (walk_at "ar")), decide_eq_false_iff_not, Int.toNat_natCast] at q1
        have c1 : cell (reached_c_v.own.2.2.2.1) i j ≠ 46 := by unfold cell; rw [hrow]; exact q1
        rename Fr _ _ _ _ => F8
        rename News _ _ _ _ => N8
        refine hQ2 _ _ _ ?_
        exact tend ⟨f, tf⟩ F8 N8 (.head _) (fun p hp => .tail _ hp) hoI2 (by kst_all) (by intro z hz h2 h3; simp only [List.forall_mem_cons, List.not_mem_nil, false_implies, implies_true, and_true, ne_eq] at h2; simp [kstB, hz, h2]) (free_no hP c1)
    case after2 =>
      intro c u3 h5 tk5 hP2 F5 N5
      obtain ⟨f2, tf2⟩ := c
      dsimp only at hP2 F5 N5
      clear F4 N4
      k_steps
      rename Fr _ _ _ _ => F8
      rename News _ _ _ _ => N8
      refine hQ1 _ _ _ ?_
      exact tend ⟨f2, tf2⟩ F8 N8 (.head _) (fun p hp => .tail _ hp) hoI (by kst_all) (by intro z hz h2 h3; simp only [List.forall_mem_cons, List.not_mem_nil, false_implies, implies_true, and_true, ne_eq] at h2; simp only [List.contains_cons, List.contains_nil, Bool.or_false, beq_eq_false_iff_ne, ne_eq] at h3; simp [kstB, hz, h2, h3]) (free_line hP2)
  case after =>
    intro c u3 h5 tk5 hP F5 N5
    obtain ⟨f, tf⟩ := c
    dsimp only at hP F5 N5
    clear F2 N2
    have hF := free_end hP
    have hflt := hF.lt
    k_steps
    unfold Stop
    rename Fr _ _ _ _ => F6
    rename News _ _ _ _ => N6
    rename (_ = Data.cell (some (Value.int (Builtin.bitAnd _ _) _))) => dr
    rw [pow_val, and_val] at dr
    rename_i DT _ _ _ oB _
    refine while_cut (σ := RW) (fun c => ((reached_c_v.L') + 1 + 1 + 1, c.ob) :: ((reached_c_v.L') + 1 + 1, oW) :: ((reached_c_v.L') + 1, (reached_c_v.o3)) :: (reached_c_v.own.2.2.2.2.2.2.2)) (fun c => [(Str.ofString "before", .int c.b c.tb)]) (fun c => c.ob.data = Data.cell (some (Value.int c.r c.tr))) []
      (fun c => BitInv (reached_c_v.own.2.2.2.1) (reached_c_v.own.2.2.2.2.1) f c.r ∧ (c.r = stepN f c.b ∨ c.b = 0)) (fun c => c.ob.data = Data.cell (some (Value.int c.r c.tr)) ∧ BitInv (reached_c_v.own.2.2.2.1) (reached_c_v.own.2.2.2.2.1) f c.r ∧ stepN f c.r = c.r)
      (fun c => muR c.r c.b) ⟨2 ^ (7 * (reached_c_v.own.2.2.2.2.1).1 + (reached_c_v.own.2.2.2.2.1).2) &&& f, 0, _, _, oB⟩ F6 (cb_drop N6 fun p hp => .tail _ hp) dr (by kst_all) ⟨start_inv hst hF, .inr rfl⟩ ?wturn ?wafter (by passes_own)
    case wturn =>
      clear F6 N6 dr
      rintro ⟨r, b, tr, tb, ob⟩ u h7 tk7 hob hP7 F7 N7
      dsimp only at hob hP7 F7 N7
      refine and2 hP7 ?_
      intro hI hr
      have hrlt := bit_lt hflt hI.sub
      refine gen_ite ?_
      intro Kw Ww sw hKw hWw
      k_steps
      · skip
        rename (_ = Data.cell (some (Value.int (Builtin.bitAnd _ _) _))) => dn
        replace dn := dn.trans (congrArg (fun z => Data.cell (some (Value.int z _))) (step_val r f))
        dsimp only at dn
        rename Fr _ _ _ _ => F9
        rename News _ _ _ _ => N9
        rename_i hne _ _ oN
        refine hKw _ _ _ ?_
        refine ksw_end ⟨stepN f r, r, _, tr, oN⟩ F9 N9 (fun p hp => hp) dn (by kst_all) (by (intro z h2 h3; first | rfl | ((simp only [List.forall_mem_cons, List.not_mem_nil, false_implies, implies_true, and_true, ne_eq] at h2); first | (simp [kstB, h2]; done) | ((simp only [List.contains_cons, List.contains_nil, Bool.or_false, Bool.or_eq_false_iff, beq_eq_false_iff_ne, ne_eq] at h3); (simp [kstB, h2, h3]; done))))) ⟨step_inv hF hI, .inl rfl⟩ (step_meas hflt hI (fun e => hne (by rw [e])))
      · rename (((r : Nat) : Int) = ((b : Nat) : Int)) => heq
        have heq2 : r = b := by (walk_at "ar")
        refine hWw _ _ ?_
        exact wend ⟨r, b, tr, tb, ob⟩ F7 N7 (fun p hp => hp) (by kst_all) (by (intro z h2 h3; first | rfl | ((simp only [List.forall_mem_cons, List.not_mem_nil, false_implies, implies_true, and_true, ne_eq] at h2); first | (simp [kstB, h2]; done) | ((simp only [List.contains_cons, List.contains_nil, Bool.or_false, Bool.or_eq_false_iff, beq_eq_false_iff_ne, ne_eq] at h3); (simp [kstB, h2, h3]; done))))) ⟨hob, hI, step_done hr heq2⟩
    case wafter =>
      rintro ⟨r, b, tr, tb, ob⟩ u7 h7 tk7 hq7 F7 N7
      refine and3 hq7 ?_
      intro hob hI hc
      clear hq7
      dsimp only at hob hI hc F7 N7
      have hrlt := bit_lt hflt hI.sub
      clear F6 N6 dr
      k_steps
      unfold Stop
      k_dflt (refine ListComp_C (_F₀ := by k_asm) (by with_unfolding_all rfl) (by intro n; rfl) (by intro h; rfl) (by rfl) (by decide) (by rfl) ?_)
      k_steps
      rename Fr _ _ _ _ => F8
      rename News _ _ _ _ => N8
      rename IsRange _ _ _ _ _ _ _ _ => hR8
      refine CompSrcC.mk 4 (fun i ys => StrsAre ys ((List.range i).map (dueRow (reached_c_v.own.2.2.2.1) r))) rfl F8 N8 hR8 (by decide) (by decide) (by decide) .nil ?ostep ?ofin
      case ostep =>
        intro i ys oI C oC D c oc h9 tk9 t9 E' I hi hys hoc F9 N9 low9 lts9
        clear F8 N8
        rw [Int.zero_add] at hoc
        have six : ((reached_c_v.own.2.2.2.1).getD i Str.empty).length = 6 := hpg.six _ (by rw [List.getD_eq_getElem?_getD, List.getElem?_eq_getElem (by (walk_at "ar"))]; exact List.getElem_mem _)
        generalize hrow : (reached_c_v.own.2.2.2.1).getD i Str.empty = row at six
        k_steps
        unfold Stop
        k_dflt (refine LCg.ListComp_U (F₀ := by k_asm) (by with_unfolding_all rfl) (by decide) (by rfl) (by decide) (by rfl) ?_)
        k_steps
        unfold Stop
        rename Fr _ _ _ _ => F10
        rename News _ _ _ _ => N10
        rename IsRange _ _ _ _ _ _ _ _ => hR10
        refine LCg.CompSrc.range (n := 6) rfl F10 N10 hR10 (small_one (by (walk_at "ar")) (by (walk_at "ar")) (by (walk_at "ar")) (by (walk_at "ar"))) (by rw [six]; decide) (by decide) ?_
        intro gg
        refine comp_same 6 (fun j zs => StrsAre zs ((List.range j).map fun q => (⟨#[dueCh (reached_c_v.own.2.2.2.1) r i q]⟩ : Str))) .nil ?istp ?ifin
        case istp =>
          intro j v zs I2 oI2 C2 oC2 D2 m₂ h11 tk11 E3 hj hv hzs hC2
          apply int_elim hv
          intro tv hx2 F11 N11 off11 ne11
          rw [Int.zero_add] at hx2
          clear F10 N10
          refine gen_post ?_
          intro Qc sc hQc
          k_steps
          · skip
            rename (Int.fmod _ _ ≠ 0) => q5
            refine hQc _ _ _ ?_
            exact cend F11 N11 off11 (fun p hp => hp) trivial ⟨rfl, due_plus hzs (bit_yes q5)⟩
          · rename (Int.fmod _ _ = 0) => q5
            refine hQc _ _ _ ?_
            exact cend F11 N11 off11 (fun p hp => hp) trivial ⟨rfl, due_same hzs (bit_no q5) hrow (by (walk_at "ar"))⟩
        case ifin =>
          intro zs hzs
          unfold LCg.FinE
          intro D2 h11 tk11 F11 N11 off11
          clear F10 N10
          k_steps
          unfold Stop
          rename Fr _ _ _ _ => F12
          rename News _ _ _ _ => N12
          refine join_list (ys := (List.range 6).map fun q => (⟨#[dueCh (reached_c_v.own.2.2.2.1) r i q]⟩ : Str)) (News.isList N12 (.head _)) (by simpa using hzs) (join_six _) ?_
          intro t13 k13
          rw [six_join]
          k_steps
          refine stepC F12 (fun p hp => N12 p (.tail _ hp)) ?_
          rw [show List.range (i + 1) = List.range i ++ [i] from List.range_succ, List.map_append]
          exact hys.append' (.cons (dueRow (reached_c_v.own.2.2.2.1) r i) t13 .nil)
      case ofin =>
        intro D h9 tk9 ys hys F9 N9 low9
        k_steps
        refine hQ0 _ _ _ ?_
        k_steps
        (first | rename Fr h₀ L _ m => kF | rename Fr reached_c_v.h₀ reached_c_v.L _ reached_c_v.m => kF)
        (first | rename News h₀ L _ _ => kN | rename News reached_c_v.h₀ reached_c_v.L _ _ => kN)
        refine hret _ _ _ _ kF kN ⟨_, _, _, _, _, rfl, rfl, ?_, hys, due_is hst hF hI hc⟩
        exact fun p hp => .tail _ (.tail _ (.tail _ hp))
theorem reached_c (w : World) (pA : Addr) (pvs : List Value) (pn : Nat) (page : List Str) (st : Pl) (tl tc : Tok) (rest : Led) (hp : (pA, W.listOf pvs.toArray pn) ∈ rest) (hS : StrsAre pvs page) (hpg : Page page) (hst : st.1 < 4 ∧ st.2 < 6) :
    Ctr w 2 66 [.ref pA, .int st.1 tl, .int st.2 tc] rest fun r news' => ∃ rA rv rn due more, r = .ref rA ∧ news' = (rA, W.listOf rv.toArray rn) :: more ∧ Sub rest more ∧ StrsAre rv due ∧ DueIs page st due :=
  reached_c_P.2 (fun w pA pvs pn page st tl tc rest p loose mean mg mb dp un gd cn cs a ccd cl outer A₀ base h₀ L m s Q E g' L' h' tk' o1 o2 o3 Q0 s0 => Classical.choose_spec (LV.ex ((default : Addr), (default : List Value), (default : Nat), (default : List Str), (default : Pl), (default : Tok), (default : Tok), (default : Led)) fun v => reached_c_P.1 (v.w) (v.own.1) (v.own.2.1) (v.own.2.2.1) (v.own.2.2.2.1) (v.own.2.2.2.2.1) (v.own.2.2.2.2.2.1) (v.own.2.2.2.2.2.2.1) (v.own.2.2.2.2.2.2.2) (v.p) (v.loose) (v.mean) (v.mg) (v.mb) (v.dp) (v.un) (v.gd) (v.cn) (v.cs) (v.a) (v.ccd) (v.cl) (v.outer) (v.A₀) (v.base) (v.h₀) (v.L) (v.m) (v.s) (v.Q) (v.E) (v.g') (v.L') (v.h') (v.tk') (v.o1) (v.o2) (v.o3) (v.Q0) (v.s0)) reached_c_m ⟨(pA, pvs, pn, page, st, tl, tc, rest), w, p, loose, mean, mg, mb, dp, un, gd, cn, cs, a, ccd, cl, outer, A₀, base, h₀, L, m, s, Q, E, g', L', h', tk', o1, o2, o3, Q0, s0⟩) w pA pvs pn page st tl tc rest hp hS hpg hst
end
section
local macro_rules | `(tactic| walk_at "call type:range") => `(tactic| ((rename Fr _ _ _ _ => F'); (rename News _ _ _ _ => N'); first | (with_unfolding_all refine range1_rows F' N' ?_; intro _ _ _ _ _ _ _ _ _) | (with_unfolding_all refine range2_rows F' N' ?_; intro _ _ _ _ _ _ _ _ _)))
local macro_rules | `(tactic| walk_at "pyIter ref") => `(tactic| (refine Mine.Stop.out ?_))
structure RU where
  uv : List Value
  un : Nat
  new : Led
  R : List Run
def runs_c_P : {P : (World) → (Addr) → (List Value) → (Nat) → (List Str) → (Led) → (Program) → (List Str) → (ExcName → Option Value) → (Str → Option Value) → (Str → Option Value) → (Nat) → (Nat) → (Option (List Code)) → (Str) → (Scope) → (Addr) → (Value) → (List (Str × Addr)) → (List Env) → (Around) → (Heap) → (Heap) → (Addr) → (Str → Option Value) → (Shared) → (Value → Shared → Prop) → (Value → Shared → Prop) → (Heap) → (Addr) → (Heap) → (Flow → Shared → Prop) → (Shared) → Prop // (∀ w rA rvs rn rows rest p loose mean mg mb dp un gd cn cs a ccd cl outer A₀ base h₀ L m s Q E g' L' h' Q0 s0, P w rA rvs rn rows rest p loose mean mg mb dp un gd cn cs a ccd cl outer A₀ base h₀ L m s Q E g' L' h' Q0 s0) → ∀ (w : World) (rA : Addr) (rvs : List Value) (rn : Nat) (rows : List Str) (rest : Led) (hr : (rA, W.listOf rvs.toArray rn) ∈ rest) (hS : StrsAre rvs rows) (h4 : rows.length = 4) (h6 : ∀ x ∈ rows, x.length = 6),
    Ctr w 2 73 [.ref rA] rest fun r news' => ∃ uA uv un R, r = .ref uA ∧ (uA, W.listOf uv.toArray un) ∈ news' ∧ Sub rest news' ∧ RunsAre news' uv R ∧ RunInv rows 4 0 R} := by
  apply Subtype.mk
  intro hall w rA rvs rn rows rest hr hS h4 h6
  unfold Ctr
  w_top off
  k_fill
  intro p loose mean mg mb dp un gd cn cs a ccd cl outer A₀ base h₀ L m s Q E B F X N T hk hdp hun hC1 hC2 hret
  refine wpAny_call ?_
  k_dflt walk_at "mine enter"
  refine gen_post ?_
  intro Q0 s0 hQ0
  rename_i g' L' h' z3_FG z4_F z5_N z6_B z7_X z8_T
  revert hr hS h4 h6 B F X N T hk hdp hun hC1 hC2 hret z3_FG z4_F z5_N z6_B z7_X z8_T qk ek hQ0
  exact hall w rA rvs rn rows rest p loose mean mg mb dp un gd cn cs a ccd cl outer A₀ base h₀ L m s Q E g' L' h' Q0 s0
noncomputable def runs_c_v : LV ((Addr) × (List Value) × (Nat) × (List Str) × (Led)) := Classical.choose (LV.ex ((default : Addr), (default : List Value), (default : Nat), (default : List Str), (default : Led)) fun v => runs_c_P.1 (v.w) (v.own.1) (v.own.2.1) (v.own.2.2.1) (v.own.2.2.2.1) (v.own.2.2.2.2) (v.p) (v.loose) (v.mean) (v.mg) (v.mb) (v.dp) (v.un) (v.gd) (v.cn) (v.cs) (v.a) (v.ccd) (v.cl) (v.outer) (v.A₀) (v.base) (v.h₀) (v.L) (v.m) (v.s) (v.Q) (v.E) (v.g') (v.L') (v.h') (v.Q0) (v.s0))
theorem runs_c_m : runs_c_P.1 (runs_c_v.w) (runs_c_v.own.1) (runs_c_v.own.2.1) (runs_c_v.own.2.2.1) (runs_c_v.own.2.2.2.1) (runs_c_v.own.2.2.2.2) (runs_c_v.p) (runs_c_v.loose) (runs_c_v.mean) (runs_c_v.mg) (runs_c_v.mb) (runs_c_v.dp) (runs_c_v.un) (runs_c_v.gd) (runs_c_v.cn) (runs_c_v.cs) (runs_c_v.a) (runs_c_v.ccd) (runs_c_v.cl) (runs_c_v.outer) (runs_c_v.A₀) (runs_c_v.base) (runs_c_v.h₀) (runs_c_v.L) (runs_c_v.m) (runs_c_v.s) (runs_c_v.Q) (runs_c_v.E) (runs_c_v.g') (runs_c_v.L') (runs_c_v.h') (runs_c_v.Q0) (runs_c_v.s0) := by
  unfold runs_c_P
  dsimp (config := { zeta := false }) only
  intro hr hS h4 h6 B F X N T hk hdp hun hC1 hC2 hret _ _ _ _ _ _ qk ek hQ0
  have hrl : (runs_c_v.own.2.1).length = 4 := by rw [hS.length, h4]
  k_steps
  unfold Stop
  rename Fr _ _ _ _ => F2
  rename News _ _ _ _ => N2
  rename IsRange _ _ _ _ _ _ _ _ => hR2
  rename_i uA _ lu _ _ _ _ _ _ _ _ _
  have offu : Off uA (runs_c_v.own.2.2.2.2) := fun p hp => Nat.ne_of_lt (lu p hp)
  have lowu : Low (runs_c_v.own.2.2.2.2) uA := lu
  refine range_cut (σ := RU) (fun c => (uA, W.listOf c.uv.toArray c.un) :: (c.new ++ (runs_c_v.own.2.2.2.2))) (fun _ => []) [Str.ofString "col"]
    (fun i c => RunsAre (c.new ++ (runs_c_v.own.2.2.2.2)) c.uv c.R ∧ HighA c.new [uA] ∧ RunInv (runs_c_v.own.2.2.2.1) i 0 c.R ∧ c.uv.length = c.R.length) ⟨[], 0, [], []⟩ rfl hR2 (by decide) (show _ = ((4 : Nat) : Int) by decide) F2 N2 (fun _ h => nomatch h) ⟨trivial, (fun _ h => nomatch h), run_start, rfl⟩ ?turn ?after
  case turn =>
    intro i c t1 u1 h3 tk3 I oI hi hP hlI hoI F3 N3
    obtain ⟨uv, un, new, R⟩ := c
    dsimp only at hP hlI hoI F3 N3
    refine and4 hP ?_
    intro p1 p2 p3 p4
    clear hP
    clear F2 N2
    rw [Int.zero_add] at F3
    have six : ((runs_c_v.own.2.2.2.1).getD i Str.empty).length = 6 := h6 _ (by rw [List.getD_eq_getElem?_getD, List.getElem?_eq_getElem (by (walk_at "ar"))]; exact List.getElem_mem _)
    generalize hrow : (runs_c_v.own.2.2.2.1).getD i Str.empty = row at six
    k_lt hlI
    have oIn : Off I (new ++ (runs_c_v.own.2.2.2.2)) := fun p hp => hoI p (.tail _ hp)
    refine gen_post ?_
    intro Q1 s1 hQ1
    k_steps
    unfold Stop
    rename Fr _ _ _ _ => F4
    rename News _ _ _ _ => N4
    rename IsRange _ _ _ _ _ _ _ _ => hR4
    refine range_cut (σ := RU) (n := 6) (fun c => (I, oI) :: (uA, W.listOf c.uv.toArray c.un) :: (c.new ++ (runs_c_v.own.2.2.2.2))) (fun _ => []) []
      (fun j c => RunsAre (c.new ++ (runs_c_v.own.2.2.2.2)) c.uv c.R ∧ HighA c.new [uA] ∧ RunInv (runs_c_v.own.2.2.2.1) i j c.R ∧ c.uv.length = c.R.length ∧ Off I (c.new ++ (runs_c_v.own.2.2.2.2))) ⟨uv, un, new, R⟩ rfl hR4 (small_one (by (walk_at "ar")) (by (walk_at "ar")) (by (walk_at "ar")) (by (walk_at "ar"))) (by rw [six]; decide) F4 N4 (fun _ h => nomatch h) ⟨p1, p2, p3, p4, oIn⟩ ?turn2 ?after2
    case turn2 =>
      clear F4 N4 p1 p2 p3 p4 hoI oIn
      intro j c t2 u2 h5 tk5 I2 oI2 hj hP hlI2 hoI2 F5 N5
      obtain ⟨uv, un, new, R⟩ := c
      dsimp only at hP hlI2 hoI2 F5 N5
      refine and5 hP ?_
      intro p1 p2 p3 p4 p5
      clear hP
      rw [Int.zero_add] at F5
      k_lt hlI2
      have oI2n : Off I2 (new ++ (runs_c_v.own.2.2.2.2)) := fun p hp => hoI2 p (.tail _ (.tail _ hp))
      have ou : Off uA (new ++ (runs_c_v.own.2.2.2.2)) := p2.off (.head _) offu
      have hfew : uv.length ≤ 100 := by have := p3.few; (walk_at "ar")
      refine gen_post ?_
      intro Q2 s2 hQ2
      k_steps
      · rename ((Txt.item _ _ == _) = true) => q2
        revert q2
        rename ((Txt.item _ _ == _) = true) => q1
        intro q2
        rw [item_plus (by (walk_at "ar")) (by (walk_at "ar")), decide_eq_true_eq] at q1 q2
        have c1 : cell (runs_c_v.own.2.2.2.1) i j = 43 := by unfold cell; rw [hrow]; exact q1
        have c2 : cell (runs_c_v.own.2.2.2.1) i (j - 1) = 43 := by unfold cell; rw [hrow, ← show ((j : Int) - 1).toNat = j - 1 from by (walk_at "ar")]; exact q2
        obtain ⟨R', r, rfl, hr1, hIn⟩ := run_grow p3 c1 (by (walk_at "ar")) c2
        obtain ⟨uv', T2, ta, tb, tc, rfl, hRa, mT⟩ := p1.last
        rename Fr _ _ _ _ => F6
        rename News _ _ _ _ => N6
        k_dflt (refine' list_last N6 ?lm ?_ ?ls)
        (case lm => k_mem); (case ls => with_unfolding_all rfl)
        k_steps
        unfold Stop
        rename Fr _ _ _ _ => F7
        rename News _ _ _ _ => N7
        k_dflt (refine' list_setLast F7 N7 ?lU ?_)
        (case lU => k_upd)
        intro h8 F8 N8
        rename_i Dn _ lD
        clear F7 N7
        k_steps
        rename Fr _ _ _ _ => F9
        rename News _ _ _ _ => N9
        refine hQ2 _ _ _ ?_
        refine tend ⟨uv' ++ [.ref Dn], un, (Dn, tup3 (.int i t1) (.int r.2.1 tb) (.int ((j : Int) + 1) _)) :: new, R' ++ [(i, r.2.1, j + 1)]⟩ F9 N9 (.tail _ (.head _)) (List.forall_mem_cons.mpr ⟨.tail _ (.tail _ (.head _)), List.forall_mem_cons.mpr ⟨.tail _ (.tail _ (.tail _ (.head _))), List.forall_mem_cons.mpr ⟨.head _, fun p hp => .tail _ (.tail _ (.tail _ (.tail _ hp)))⟩⟩⟩) ?_ (fun _ h => nomatch h) (by (intro z h2 h3; first | rfl | ((simp only [List.forall_mem_cons, List.not_mem_nil, false_implies, implies_true, and_true, ne_eq] at h2); first | (simp [kstB, h2]; done) | ((simp only [List.contains_cons, List.contains_nil, Bool.or_false, Bool.or_eq_false_iff, beq_eq_false_iff_ne, ne_eq] at h3); (simp [kstB, h2, h3]; done))))) ⟨RunsAre.snoc (hRa.mono (Sub.consL _ _)) ⟨Dn, _, _, _, rfl, .head _⟩, p2.cons ?_, hIn, ?_, ?_⟩
        · exact List.forall_mem_cons.mpr ⟨neN (by dsimp only; (walk_at "ar")), List.forall_mem_cons.mpr ⟨neN (by dsimp only; (walk_at "ar")), List.forall_mem_cons.mpr ⟨neN (by dsimp only; (walk_at "ar")), oI2n⟩⟩⟩
        · intro a ha
          rw [List.mem_singleton.mp ha]
          exact ltN (by dsimp only; (walk_at "ar"))
        · rw [List.length_append, List.length_append] at *; exact p4
        · exact List.forall_mem_cons.mpr ⟨neN (by dsimp only; (walk_at "ar")), p5⟩
      · rename ((Txt.item _ _ == _) = true) => q1
        rename ((Txt.item _ _ == _) = false) => q2
        rw [item_plus (by (walk_at "ar")) (by (walk_at "ar")), decide_eq_true_eq] at q1
        rw [item_plus (by (walk_at "ar")) (by (walk_at "ar")), decide_eq_false_iff_not] at q2
        have c1 : cell (runs_c_v.own.2.2.2.1) i j = 43 := by unfold cell; rw [hrow]; exact q1
        have c2 : cell (runs_c_v.own.2.2.2.1) i (j - 1) ≠ 43 := by unfold cell; rw [hrow, ← show ((j : Int) - 1).toNat = j - 1 from by (walk_at "ar")]; exact q2
        rename Fr _ _ _ _ => F8
        rename News _ _ _ _ => N8
        rename_i Dn _ _ _ lD _
        have hRn : RunInv (runs_c_v.own.2.2.2.1) i (j + 1) (R ++ [(i, j, j + 1)]) := run_new p3 c1 (.inr c2)
        refine hQ2 _ _ _ ?_
        refine tend ⟨uv ++ [.ref Dn], un + 1, (Dn, tup3 (.int i t1) (.int j t2) (.int ((j : Int) + 1) _)) :: new, R ++ [(i, j, j + 1)]⟩ F8 N8 (.tail _ (.head _)) (List.forall_mem_cons.mpr ⟨.tail _ (.tail _ (.head _)), List.forall_mem_cons.mpr ⟨.tail _ (.tail _ (.tail _ (.head _))), List.forall_mem_cons.mpr ⟨.head _, fun p hp => .tail _ (.tail _ (.tail _ (.tail _ hp)))⟩⟩⟩) ?_ (fun _ h => nomatch h) (by (intro z h2 h3; first | rfl | ((simp only [List.forall_mem_cons, List.not_mem_nil, false_implies, implies_true, and_true, ne_eq] at h2); first | (simp [kstB, h2]; done) | ((simp only [List.contains_cons, List.contains_nil, Bool.or_false, Bool.or_eq_false_iff, beq_eq_false_iff_ne, ne_eq] at h3); (simp [kstB, h2, h3]; done))))) ⟨RunsAre.snoc (p1.mono (Sub.consL _ _)) ⟨Dn, _, _, _, rfl, .head _⟩, p2.cons ?_, hRn, ?_, ?_⟩
        · exact List.forall_mem_cons.mpr ⟨neN (by dsimp only; (walk_at "ar")), List.forall_mem_cons.mpr ⟨neN (by dsimp only; (walk_at "ar")), List.forall_mem_cons.mpr ⟨neN (by dsimp only; (walk_at "ar")), oI2n⟩⟩⟩
        · intro a ha
          rw [List.mem_singleton.mp ha]
          exact ltN (by dsimp only; (walk_at "ar"))
        · rw [List.length_append, List.length_append, p4]; rfl
        · exact List.forall_mem_cons.mpr ⟨neN (by dsimp only; (walk_at "ar")), p5⟩
      · rename ((Txt.item _ _ == _) = true) => q1
        rw [item_plus (by (walk_at "ar")) (by (walk_at "ar")), decide_eq_true_eq] at q1
        have c1 : cell (runs_c_v.own.2.2.2.1) i j = 43 := by unfold cell; rw [hrow]; exact q1
        rename Fr _ _ _ _ => F8
        rename News _ _ _ _ => N8
        rename_i Dn _ _ _ lD _
        have hRn : RunInv (runs_c_v.own.2.2.2.1) i (j + 1) (R ++ [(i, j, j + 1)]) := run_new p3 c1 (.inl (by (walk_at "ar")))
        refine hQ2 _ _ _ ?_
        refine tend ⟨uv ++ [.ref Dn], un + 1, (Dn, tup3 (.int i t1) (.int j t2) (.int ((j : Int) + 1) _)) :: new, R ++ [(i, j, j + 1)]⟩ F8 N8 (.tail _ (.head _)) (List.forall_mem_cons.mpr ⟨.tail _ (.tail _ (.head _)), List.forall_mem_cons.mpr ⟨.tail _ (.tail _ (.tail _ (.head _))), List.forall_mem_cons.mpr ⟨.head _, fun p hp => .tail _ (.tail _ (.tail _ (.tail _ hp)))⟩⟩⟩) ?_ (fun _ h => nomatch h) (by (intro z h2 h3; first | rfl | ((simp only [List.forall_mem_cons, List.not_mem_nil, false_implies, implies_true, and_true, ne_eq] at h2); first | (simp [kstB, h2]; done) | ((simp only [List.contains_cons, List.contains_nil, Bool.or_false, Bool.or_eq_false_iff, beq_eq_false_iff_ne, ne_eq] at h3); (simp [kstB, h2, h3]; done))))) ⟨RunsAre.snoc (p1.mono (Sub.consL _ _)) ⟨Dn, _, _, _, rfl, .head _⟩, p2.cons ?_, hRn, ?_, ?_⟩
        · exact List.forall_mem_cons.mpr ⟨neN (by dsimp only; (walk_at "ar")), List.forall_mem_cons.mpr ⟨neN (by dsimp only; (walk_at "ar")), List.forall_mem_cons.mpr ⟨neN (by dsimp only; (walk_at "ar")), oI2n⟩⟩⟩
        · intro a ha
          rw [List.mem_singleton.mp ha]
          exact ltN (by dsimp only; (walk_at "ar"))
        · rw [List.length_append, List.length_append, p4]; rfl
        · exact List.forall_mem_cons.mpr ⟨neN (by dsimp only; (walk_at "ar")), p5⟩
      · rename ((Txt.item _ _ == _) = false) => q1
        rw [item_plus (by (walk_at "ar")) (by (walk_at "ar")), decide_eq_false_iff_not] at q1
        have c1 : cell (runs_c_v.own.2.2.2.1) i j ≠ 43 := by unfold cell; rw [hrow]; exact q1
        rename Fr _ _ _ _ => F8
        rename News _ _ _ _ => N8
        refine hQ2 _ _ _ ?_
        exact tend ⟨uv, un, new, R⟩ F8 N8 (.head _) (fun p hp => .tail _ hp) hoI2 (fun _ h => nomatch h) (by (intro z h2 h3; first | rfl | ((simp only [List.forall_mem_cons, List.not_mem_nil, false_implies, implies_true, and_true, ne_eq] at h2); first | (simp [kstB, h2]; done) | ((simp only [List.contains_cons, List.contains_nil, Bool.or_false, Bool.or_eq_false_iff, beq_eq_false_iff_ne, ne_eq] at h3); (simp [kstB, h2, h3]; done))))) ⟨p1, p2, run_skip p3 c1, p4, p5⟩
    case after2 =>
      intro c u3 h5 tk5 hP F5 N5
      obtain ⟨uv, un, new, R⟩ := c
      dsimp only at hP F5 N5
      refine and5 hP ?_
      intro p1 p2 p3 p4 p5
      clear hP
      clear F4 N4
      k_steps
      rename Fr _ _ _ _ => F8
      rename News _ _ _ _ => N8
      refine hQ1 _ _ _ ?_
      exact tend ⟨uv, un, new, R⟩ F8 N8 (.head _) (fun p hp => .tail _ hp) (List.forall_mem_cons.mpr ⟨neN (by dsimp only; (walk_at "ar")), p5⟩) (fun _ h => nomatch h) (by intro z hz h2 h3; simp only [List.contains_cons, List.contains_nil, Bool.or_false, beq_eq_false_iff_ne, ne_eq] at h3; simp [kstB, hz, h3]) ⟨p1, p2, run_line hi p3, p4⟩
  case after =>
    intro c u3 h5 tk5 hP F5 N5
    obtain ⟨uv, un, new, R⟩ := c
    dsimp only at hP F5 N5
    refine and4 hP ?_
    intro p1 p2 p3 p4
    clear hP
    clear F2 N2
    k_steps
    refine hQ0 _ _ _ ?_
    k_steps
    (first | rename Fr h₀ L _ m => kF | rename Fr runs_c_v.h₀ runs_c_v.L _ runs_c_v.m => kF)
    (first | rename News h₀ L _ _ => kN | rename News runs_c_v.h₀ runs_c_v.L _ _ => kN)
    exact hret _ _ _ _ kF kN ⟨uA, uv, un, R, rfl, .head _, fun p hp => .tail _ (List.mem_append_right _ hp), p1.mono (fun p hp => .tail _ hp), p3⟩
theorem runs_c (w : World) (rA : Addr) (rvs : List Value) (rn : Nat) (rows : List Str) (rest : Led) (hr : (rA, W.listOf rvs.toArray rn) ∈ rest) (hS : StrsAre rvs rows) (h4 : rows.length = 4) (h6 : ∀ x ∈ rows, x.length = 6) :
    Ctr w 2 73 [.ref rA] rest fun r news' => ∃ uA uv un R, r = .ref uA ∧ (uA, W.listOf uv.toArray un) ∈ news' ∧ Sub rest news' ∧ RunsAre news' uv R ∧ RunInv rows 4 0 R :=
  runs_c_P.2 (fun w rA rvs rn rows rest p loose mean mg mb dp un gd cn cs a ccd cl outer A₀ base h₀ L m s Q E g' L' h' Q0 s0 => Classical.choose_spec (LV.ex ((default : Addr), (default : List Value), (default : Nat), (default : List Str), (default : Led)) fun v => runs_c_P.1 (v.w) (v.own.1) (v.own.2.1) (v.own.2.2.1) (v.own.2.2.2.1) (v.own.2.2.2.2) (v.p) (v.loose) (v.mean) (v.mg) (v.mb) (v.dp) (v.un) (v.gd) (v.cn) (v.cs) (v.a) (v.ccd) (v.cl) (v.outer) (v.A₀) (v.base) (v.h₀) (v.L) (v.m) (v.s) (v.Q) (v.E) (v.g') (v.L') (v.h') (v.Q0) (v.s0)) runs_c_m ⟨(rA, rvs, rn, rows, rest), w, p, loose, mean, mg, mb, dp, un, gd, cn, cs, a, ccd, cl, outer, A₀, base, h₀, L, m, s, Q, E, g', L', h', 0, default, default, default, Q0, s0⟩) w rA rvs rn rows rest hr hS h4 h6
end
section
local macro_rules | `(tactic| walk_at "exec If") => `(tactic| ((with_reducible show wpAny _ _ (exec (Stmt.If (Expr.Compare (Expr.Subscript (Expr.Subscript _ _ _) _ _) _ _ _) _ _ _) _) _ _ _); refine Mine.Stop.out ?_))
local macro_rules | `(tactic| walk_at "exec If") => `(tactic| ((with_reducible show wpAny _ _ (exec (Stmt.If (Expr.Compare (Expr.Constant _ _ _) _ _ _) _ _ _) _) _ _ _); refine Mine.Stop.out ?_))
local macro_rules | `(tactic| walk_at "mine none") => `(tactic| skip)
structure FI where
  ps : Array Value
  rv : List Value
  uv : List Value
  un : Nat
  ob : Obj
  new : Led
  rows : List Str
  runs : List Run
  fs : List Pl
  fv : List Value
  fn : Nat
structure FS where
  ps : Array Value
  rv : List Value
  uv : List Value
  un : Nat
  wA : Addr
  wv : List Value
  wn : Nat
  ob : Obj
  new : Led
  rows : List Str
  runs : List Run
  wait : List Pl
  tn : Tok
def filled_c_P : {P : (World) → (Addr) → (List Value) → (Nat) → (List Str) → (Pl) → (Tok) → (Led) → (Program) → (List Str) → (ExcName → Option Value) → (Str → Option Value) → (Str → Option Value) → (Nat) → (Nat) → (Option (List Code)) → (Str) → (Scope) → (Addr) → (Value) → (List (Str × Addr)) → (List Env) → (Around) → (Heap) → (Heap) → (Addr) → (Str → Option Value) → (Shared) → (Value → Shared → Prop) → (Value → Shared → Prop) → (Heap) → (Addr) → (Heap) → (Nat) → (Obj) → (Obj) → (Flow → Shared → Prop) → (Shared) → Prop // (∀ w pA pvs pn page st t rest p loose mean mg mb dp un gd cn cs a ccd cl outer A₀ base h₀ L m s Q E g' L' h' tk' o1 o2 Q0 s0, P w pA pvs pn page st t rest p loose mean mg mb dp un gd cn cs a ccd cl outer A₀ base h₀ L m s Q E g' L' h' tk' o1 o2 Q0 s0) → ∀ (w : World) (pA : Addr) (pvs : List Value) (pn : Nat) (page : List Str) (st : Pl) (t : Tok) (rest : Led) (hp : (pA, listOf pvs.toArray pn) ∈ rest) (hS : StrsAre pvs page) (hpg : Page page) (hst : st.1 < 4 ∧ st.2 < 6) (hoff : Off 44 rest) (hoff2 : Off 51 rest),
    Ctr w 10 61 [.ref pA, .str (pStr st) t] ((44, tabObj #[]) :: (51, tabObj #[]) :: rest) (FilledPost page st rest)} := by
  apply Subtype.mk
  intro hall w pA pvs pn page st t rest hp hS hpg hst hoff hoff2
  unfold Ctr
  w_top off
  k_fill
  intro p loose mean mg mb dp un gd cn cs a ccd cl outer A₀ base h₀ L m s Q E B F X N T hk hdp hun hC1 hC2 hret
  refine wpAny_call ?_
  k_dflt walk_at "mine enterC"
  refine gen_post ?_
  intro Q0 s0 hQ0
  rename_i g' L' h' tk' z4_FG z5_F z6_B z7_X z8_T z9_l1 o1 o2 z12_d1 z13_d2 z14_N
  revert hp hS hpg hst hoff hoff2 B F X N T hk hdp hun hC1 hC2 hret z4_FG z5_F z6_B z7_X z8_T z9_l1 z12_d1 z13_d2 z14_N hQ0
  exact hall w pA pvs pn page st t rest p loose mean mg mb dp un gd cn cs a ccd cl outer A₀ base h₀ L m s Q E g' L' h' tk' o1 o2 Q0 s0
noncomputable def filled_c_v : LV ((Addr) × (List Value) × (Nat) × (List Str) × (Pl) × (Tok) × (Led)) := Classical.choose (LV.ex ((default : Addr), (default : List Value), (default : Nat), (default : List Str), (default : Pl), (default : Tok), (default : Led)) fun v => filled_c_P.1 (v.w) (v.own.1) (v.own.2.1) (v.own.2.2.1) (v.own.2.2.2.1) (v.own.2.2.2.2.1) (v.own.2.2.2.2.2.1) (v.own.2.2.2.2.2.2) (v.p) (v.loose) (v.mean) (v.mg) (v.mb) (v.dp) (v.un) (v.gd) (v.cn) (v.cs) (v.a) (v.ccd) (v.cl) (v.outer) (v.A₀) (v.base) (v.h₀) (v.L) (v.m) (v.s) (v.Q) (v.E) (v.g') (v.L') (v.h') (v.tk') (v.o1) (v.o2) (v.Q0) (v.s0))
theorem filled_c_m : filled_c_P.1 (filled_c_v.w) (filled_c_v.own.1) (filled_c_v.own.2.1) (filled_c_v.own.2.2.1) (filled_c_v.own.2.2.2.1) (filled_c_v.own.2.2.2.2.1) (filled_c_v.own.2.2.2.2.2.1) (filled_c_v.own.2.2.2.2.2.2) (filled_c_v.p) (filled_c_v.loose) (filled_c_v.mean) (filled_c_v.mg) (filled_c_v.mb) (filled_c_v.dp) (filled_c_v.un) (filled_c_v.gd) (filled_c_v.cn) (filled_c_v.cs) (filled_c_v.a) (filled_c_v.ccd) (filled_c_v.cl) (filled_c_v.outer) (filled_c_v.A₀) (filled_c_v.base) (filled_c_v.h₀) (filled_c_v.L) (filled_c_v.m) (filled_c_v.s) (filled_c_v.Q) (filled_c_v.E) (filled_c_v.g') (filled_c_v.L') (filled_c_v.h') (filled_c_v.tk') (filled_c_v.o1) (filled_c_v.o2) (filled_c_v.Q0) (filled_c_v.s0) := by
  unfold filled_c_P
  dsimp (config := { zeta := false }) only
  intro hp hS hpg hst hoff hoff2 B F X N T hk hdp hun hC1 hC2 hret _ _ _ _ _ _ _ _ _ hQ0
  rename (∀ (p : Addr × Obj), p ∈ _ → p.fst < _) => low
  refine and2 (List.forall_mem_cons.mp low) ?_
  intro low1 low2
  refine and2 (List.forall_mem_cons.mp low2) ?_
  intro low3 low4
  replace low4 : Low (filled_c_v.own.2.2.2.2.2.2) _ := low4
  replace low1 := ltN low1
  replace low3 := ltN low3
  dsimp only at low1 low3
  clear low low2
  have low1b := Nat.lt_add_right 1 low1
  have low1c := Nat.lt_add_right 1 low1b
  have low3b := Nat.lt_add_right 1 low3
  have low3c := Nat.lt_add_right 1 low3b
  have hpl : (filled_c_v.own.2.1).length = 4 := by rw [hS.length, hpg.four]
  k_steps
  unfold Stop
  rename Fr _ _ _ _ => F2
  rename News _ _ _ _ => N2
  refine list_copyK F2 N2 (News.isList N2 (.tail _ (.tail _ (.tail _ (.tail _ hp))))) ?_ (by rw [List.size_toArray, hpl, sizeLine_eq]; (walk_at "ar"))
  intro rA rc h9 F3 N3 lr
  k_lt lr
  clear F2 N2
  k_steps
  unfold Stop
  rename_i FG B1 X1 T1 dB dR uA hb F4 N4 lu
  have hoffP : Off 51 ((uA, W.listOf #[] 0) :: (rA, W.listOf (filled_c_v.own.2.1).toArray rc) :: ((filled_c_v.L') + 1 + 1, (filled_c_v.o1)) :: ((filled_c_v.L') + 1, (filled_c_v.o2)) :: (44, tabObj #[]) :: (filled_c_v.own.2.2.2.2.2.2)) := by
    refine List.forall_mem_cons.mpr ⟨neN ?_, List.forall_mem_cons.mpr ⟨neN ?_, List.forall_mem_cons.mpr ⟨neN ?_, List.forall_mem_cons.mpr ⟨neN ?_, List.forall_mem_cons.mpr ⟨neN ?_, hoff2⟩⟩⟩⟩⟩ <;> dsimp only <;> (walk_at "ar")
  k_dflt (refine' use_prog (Ctr.led (program_c (filled_c_v.w) _ hoffP) ?sub) ?k1 ?k2 ?k3 N4 ?k5 ?kK ?kd ?ku ?kc1 ?kc2 ?_)
  case sub =>
    walk_at "mine sub"
  (case k1 => k_asm); (case k2 => k_asm); (case k3 => k_asm); (case k5 => k_asm); (case kK => exact rfl); (case kd => ktr_room); (case ku => ktr_units); (case kc1 => assumption); (case kc2 => assumption)
  intro ps51 new0 fp dp' gp fdp hsp kp fgp h10 tk10 F5 N5 hh0 hProg mp1 mp2 mp3 hSc
  clear F4 N4
  have hhd : ∀ q ∈ new0, uA < q.1 := fun q hq => hh0 q hq _ (.tail _ (.head _))
  have N6 : News (filled_c_v.g') (filled_c_v.L') h10 (((filled_c_v.L') + 1, (filled_c_v.o2)) :: ((filled_c_v.L') + 1 + 1, (filled_c_v.o1)) :: (rA, W.listOf (filled_c_v.own.2.1).toArray rc) :: (uA, W.listOf #[] 0) :: (44, tabObj #[]) :: ((51, tabObj ps51) :: (new0 ++ (filled_c_v.own.2.2.2.2.2.2)))) := cb_drop N5 (by
    walk_at "mine sub")
  have offb : ∀ x : Nat, x ≤ uA → (x = 44 ∨ @LT.lt Nat _ (filled_c_v.L') x) → Off x ((51, tabObj ps51) :: (new0 ++ (filled_c_v.own.2.2.2.2.2.2))) := by
    intro x hx1 hx2 p hp
    rcases List.mem_cons.mp hp with rfl | hp
    · refine neN ?_; dsimp only; (walk_at "ar")
    · rcases List.mem_append.mp hp with hp | hp
      · exact Nat.ne_of_gt (Nat.lt_of_le_of_lt hx1 (hhd p hp))
      · rcases hx2 with rfl | hx2
        · exact hoff p hp
        · exact Nat.ne_of_lt (Nat.lt_trans (low4 p hp) hx2)
  have hpb : Sub new0 ((51, tabObj ps51) :: (new0 ++ (filled_c_v.own.2.2.2.2.2.2))) := fun p hp => .tail _ (List.mem_append_left _ hp)
  generalize hbs : ((51, tabObj ps51) :: (new0 ++ (filled_c_v.own.2.2.2.2.2.2))) = bs at N6 offb hpb
  have ob1 := offb ((filled_c_v.L') + 1) (leN (by (walk_at "ar"))) (.inr (ltN (by (walk_at "ar"))))
  have ob2 := offb ((filled_c_v.L') + 1 + 1) (leN (by (walk_at "ar"))) (.inr (ltN (by (walk_at "ar"))))
  have ob3 := offb rA (leN (by (walk_at "ar"))) (.inr (ltN (by (walk_at "ar"))))
  have ob4 := offb uA (Nat.le_refl _) (.inr (ltN (by (walk_at "ar"))))
  have ob5 := offb 44 (leN (by (walk_at "ar"))) (.inl rfl)
  clear N5
  k_steps
  unfold Stop
  rename Fr _ _ _ _ => F7
  rename News _ _ _ _ => N7
  rename (_ = Data.cell (some (Value.ref rA))) => dR7
  rename_i D1 hx1 lD1 hx2 hx3 oR7 hx4 hx5 tkx wA hx6 lw D2 hx7 lD2 hx8 hx9 hx10
  refine while_cut (σ := FS) (fun c => (44, tabObj c.ps) :: (rA, W.listOf c.rv.toArray rc) :: (uA, W.listOf c.uv.toArray c.un) :: ((filled_c_v.L') + 1 + 1, c.ob) :: ((filled_c_v.L') + 1, oR7) :: (c.new ++ bs))
    (fun c => [(Str.ofString "notes", .str (notesOf c.wait) c.tn), (Str.ofString "waiting", .ref c.wA)]) (fun _ => True)
    [Str.ofString "head", Str.ofString "line", Str.ofString "col", Str.ofString "further", Str.ofString "found", Str.ofString "ahead", Str.ofString "left", Str.ofString "right", Str.ofString "again"]
    (fun c => StrsAre c.rv c.rows ∧ RunsAre (c.new ++ bs) c.uv c.runs ∧ (c.wA, W.listOf c.wv.toArray c.wn) ∈ c.new ++ bs ∧ StrsAre c.wv (c.wait.map pStr) ∧ Tab44 c.ps (c.new ++ bs) ∧ HighA c.new [44, rA, uA, (filled_c_v.L') + 1 + 1, (filled_c_v.L') + 1] ∧ Inv (filled_c_v.own.2.2.2.1) (filled_c_v.own.2.2.2.2.1) c.rows c.runs c.wait ∧ c.uv.length = c.runs.length ∧ c.runs.length + measureOf c.rows c.wait ≤ 400 ∧ ∃ v, c.ob.data = .cell v)
    (fun c => StrsAre c.rv c.rows ∧ RunsAre (c.new ++ bs) c.uv c.runs ∧ HighA c.new [44, rA, uA, (filled_c_v.L') + 1 + 1, (filled_c_v.L') + 1] ∧ Inv (filled_c_v.own.2.2.2.1) (filled_c_v.own.2.2.2.2.1) c.rows c.runs [])
    (fun c => measureOf c.rows c.wait) ⟨#[], (filled_c_v.own.2.1), [], 0, wA, [.str (pStr (filled_c_v.own.2.2.2.2.1)) (filled_c_v.own.2.2.2.2.2.1)], 0, (filled_c_v.o1), [(wA, W.listOf #[.str (pStr (filled_c_v.own.2.2.2.2.1)) (filled_c_v.own.2.2.2.2.2.1)] 0)], (filled_c_v.own.2.2.2.1), [], [(filled_c_v.own.2.2.2.2.1)], (filled_c_v.own.2.2.2.2.2.1)⟩ F7 (cb_drop N7 ?ns) trivial ?bi ?p0 ?turn ?after (by passes_own)
  case ns =>
    walk_at "mine sub"
  case bi =>
    refine List.forall_mem_cons.mpr ⟨?_, List.forall_mem_cons.mpr ⟨rfl, List.forall_mem_nil _⟩⟩
    dsimp only
    rw [notes_one]
    rfl
  case p0 =>
    have h0 := inv_start hpg hst
    refine ⟨hS, trivial, .head _, .cons _ _ .nil, .inl rfl, ?_, h0.1, rfl, h0.2, _, dB⟩
    intro q hq
    rw [List.mem_singleton.mp hq]
    simp only [List.mem_cons, List.not_mem_nil, or_false, forall_eq_or_imp, forall_eq]
    refine ⟨?_, ?_, ?_, ?_, ?_⟩ <;> (refine ltN ?_; (walk_at "ar"))
  case turn =>
    clear F7 N7
    rintro ⟨ps2, rv, uv, un2, wA2, wv, wn, ob, new, rows, runs, wait, tn⟩ u h tk2 - hP F3 N3
    refine gen_ite ?_
    intro QK QW sK hQK hQW
    refine and10 hP ?_
    intro hrv huv hwA hwv htb hHA hI hul hmu hob0
    refine Exists.elim hob0 ?_
    intro vb hob
    clear hP hob0
    dsimp only at hrv huv hwA hwv htb hHA hI hul hmu hob F3 N3
    cases wait with
    | nil =>
      k_steps
      refine hQW _ _ ?_
      exact wend ⟨ps2, rv, uv, un2, wA2, wv, wn, ob, new, rows, runs, [], tn⟩ F3 N3 (fun p hp => hp) (by kst_all) (by (intro z h2 h3; first | rfl | ((simp only [List.forall_mem_cons, List.not_mem_nil, false_implies, implies_true, and_true, ne_eq] at h2); first | (simp [kstB, h2]; done) | ((simp only [List.contains_cons, List.contains_nil, Bool.or_false, Bool.or_eq_false_iff, beq_eq_false_iff_ne, ne_eq] at h3); (simp [kstB, h2, h3]; done))))) ⟨hrv, huv, hHA, hI⟩
    | cons pl wt =>
      have hnl := notes_len pl wt
      have hwt : wt.length ≤ 400 := by unfold measureOf at hmu; simp only [List.length_cons] at hmu; (walk_at "ar")
      have hns := notes_split pl wt (fun q hq => ⟨Nat.lt_of_lt_of_le (hI.range q hq).1 (by decide), Nat.lt_of_lt_of_le (hI.range q hq).2 (by decide)⟩)
      generalize hx : notesOf (pl :: wt) = nx at F3 hnl hns
      obtain ⟨hnx0, hnx1⟩ := nx_fits hnl hwt
      k_steps
      rotate_left
      · exfalso
        rename (_ = (0 : Int)) => h9
        (walk_at "ar")
      unfold Stop
      have hxl : (Str.ofString "\n " ++ nx ++ Str.ofString " \n").length < 10000 := by
        exact hnx1.2.2
      rename Fr _ _ _ _ => F9
      rename News _ _ _ _ => N9
      k_dflt (refine' use_tup (splitdoc_c (filled_c_v.w) _ _ _ hxl (Nat.le_trans hns.2 (by simp only [List.length_cons]; (walk_at "ar")))) ?k1 ?k2 ?k3 N9 ?k5 ?kK ?kd ?ku ?kc1 ?kc2 ?_)
      (case k1 => k_asm); (case k2 => k_asm); (case k3 => k_asm); (case k5 => k_asm); (case kK => exact rfl); (case kd => ktr_room); (case ku => ktr_units); (case kc1 => assumption); (case kc2 => assumption)
      intro T20 t21 t22 h20 tk20 F20 N20 low20
      rw [hns.1] at N20
      dsimp only at N20
      clear F9 N9 hns
      generalize hx2 : notesOf wt = nx2 at N20
      have hwvl : wv.length ≤ 1001 := by rw [hwv.length, List.length_map, List.length_cons]; (walk_at "ar")
      have hr4 := hI.four
      have hp1 := (hI.range pl List.mem_cons_self).1
      have hp2 := (hI.range pl List.mem_cons_self).2
      k_steps
      · exfalso
        rename ((_ != _) = true) => h9
        exact absurd h9 (by simp)
      unfold Stop
      rename Fr _ _ _ _ => F21
      rename News _ _ _ _ => N21
      refine join_list (ys := wt.map pStr) (News.isList N21 (.head _)) (by simpa using hwv.drop' 1) (join_b1 _ (by (walk_at "ar"))) ?_
      intro t31 k31
      rw [show Txt.join (Str.ofString "\n \n") (wt.map pStr) = nx2 from hx2]
      have N22 := cb_drop N21 (news := (44, tabObj ps2) :: (rA, W.listOf rv.toArray rc) :: (uA, W.listOf uv.toArray un2) :: ((filled_c_v.L') + 1 + 1, ob) :: ((filled_c_v.L') + 1, oR7) :: (new ++ bs)) (fun p hp => .tail _ (.tail _ hp))
      clear N21
      k_steps
      · exfalso
        rename ((_ != _) = true) => h9
        exact absurd h9 (by simp)
      unfold Stop
      k_dflt (refine' use_tup (glc_c (filled_c_v.w) pl.1 pl.2 (Nat.lt_of_lt_of_le hp1 (by decide)) (Nat.lt_of_lt_of_le hp2 (by decide)) _ _) ?k1 ?k2 ?k3 N22 ?k5 ?kK ?kd ?ku ?kc1 ?kc2 ?_)
      (case k1 => k_asm); (case k2 => k_asm); (case k3 => k_asm); (case k5 => k_asm); (case kK => exact rfl); (case kd => ktr_room); (case ku => ktr_units); (case kc1 => assumption); (case kc2 => assumption)
      intro T40 t41 t42 h40 tk40 F40 N40 low40
      clear N22
      have hT44 : @LT.lt Nat _ 44 T40 := low40 _ (.head _)
      have six : (rows.getD pl.1 Str.empty).length = 6 := hI.six _ (by rw [List.getD_eq_getElem?_getD, List.getElem?_eq_getElem (by (walk_at "ar"))]; exact List.getElem_mem _)
      generalize hrow : rows.getD pl.1 Str.empty = row at six
      have hps : pl.2 < row.length := six ▸ hp2
      have hnx2 : nx2.length ≤ 6 * wt.length := by rw [← hx2]; exact notes_bound wt
      have hnx3 : nx2.length < 10000 := nx2_fits hnx2 hwt
      k_steps
      unfold Stop
      rename Fr _ _ _ _ => F50
      rename News _ _ _ _ => N50
      rename_i hy1 hy2 hy3 fA hy4 lf hy5
      have hfA0 : Off fA (new ++ bs) := AllLt.off lf.2.2.2.2.2.2 (Nat.le_refl _)
      refine stmt_cut (σ := FI) (fun c => (fA, W.listOf c.fv.toArray c.fn) :: (44, tabObj c.ps) :: (rA, W.listOf c.rv.toArray rc) :: (uA, W.listOf c.uv.toArray c.un) :: ((filled_c_v.L') + 1 + 1, c.ob) :: ((filled_c_v.L') + 1, oR7) :: (c.new ++ bs))
        (fun c => [(Str.ofString "further", .ref fA), (Str.ofString "notes", .str nx2 t22), (Str.ofString "waiting", .ref wA2)])
        [Str.ofString "found", Str.ofString "ahead", Str.ofString "left", Str.ofString "right", Str.ofString "again"]
        (fun c => StrsAre c.rv c.rows ∧ RunsAre (c.new ++ bs) c.uv c.runs ∧ (wA2, W.listOf wv.toArray wn) ∈ c.new ++ bs ∧ StrsAre c.fv (c.fs.map pStr) ∧ Tab44 c.ps (c.new ++ bs) ∧ HighA c.new [44, rA, uA, (filled_c_v.L') + 1 + 1, (filled_c_v.L') + 1] ∧ Inv (filled_c_v.own.2.2.2.1) (filled_c_v.own.2.2.2.2.1) c.rows c.runs (c.fs ++ wt) ∧ c.uv.length = c.runs.length
          ∧ c.runs.length + measureOf c.rows (c.fs ++ wt) ≤ 400 ∧ measureOf c.rows (c.fs ++ wt) < measureOf rows (pl :: wt) ∧ ∃ v, c.ob.data = .cell v) F50 ?iff ?tail
      case iff =>
        refine gen_post ?_
        intro Qiff siff hQiff
        refine wpAny_If ?_
        k_steps
        rotate_left
        · rename ((Txt.item _ _ == _) = false) => q9
          rename Fr _ _ _ _ => F51
          rename News _ _ _ _ => N51
          rw [item_dot (by (walk_at "ar")) (by (walk_at "ar")), decide_eq_false_iff_not, Int.toNat_natCast] at q9
          have hI2 := inv_skip hI (by unfold cell; rw [hrow]; exact q9)
          refine hQiff _ _ _ ?_
          refine wend ⟨ps2, rv, uv, un2, ob, new, rows, runs, [], [], 0⟩ F51 N51 ?_ (by kst_all) (by (intro z h2 h3; first | rfl | ((simp only [List.forall_mem_cons, List.not_mem_nil, false_implies, implies_true, and_true, ne_eq] at h2); first | (simp [kstB, h2]; done) | ((simp only [List.contains_cons, List.contains_nil, Bool.or_false, Bool.or_eq_false_iff, beq_eq_false_iff_ne, ne_eq] at h3); (simp [kstB, h2, h3]; done))))) ⟨hrv, huv, hwA, .nil, htb, hHA, hI2, hul, ?_, measure_skip _ _ _, vb, hob⟩
          · walk_at "mine sub"
          · exact Nat.le_of_lt (Nat.lt_of_lt_of_le (Nat.add_lt_add_left (measure_skip rows pl wt) _) hmu)
        unfold Stop
        rename ((Txt.item _ _ == _) = true) => q9
        rw [item_dot (by (walk_at "ar")) (by (walk_at "ar")), decide_eq_true_eq, Int.toNat_natCast] at q9
        rename Fr _ _ _ _ => F51
        rename News _ _ _ _ => N51
        have off44 : Off 44 ((fA, W.listOf #[] 0) :: (T40, tup2 (.int pl.1 t41) (.int pl.2 t42)) :: (rA, W.listOf rv.toArray rc) :: (uA, W.listOf uv.toArray un2) :: ((filled_c_v.L') + 1 + 1, ob) :: ((filled_c_v.L') + 1, oR7) :: (new ++ bs)) := by
          refine List.forall_mem_cons.mpr ⟨neN ?_, List.forall_mem_cons.mpr ⟨neN ?_, List.forall_mem_cons.mpr ⟨neN ?_, List.forall_mem_cons.mpr ⟨neN ?_, List.forall_mem_cons.mpr ⟨neN ?_, List.forall_mem_cons.mpr ⟨neN ?_, ?_⟩⟩⟩⟩⟩⟩
          all_goals first | (dsimp only; (walk_at "ar")) | skip
          · exact fun p hp => (List.mem_append.mp hp).elim (fun q => Nat.ne_of_gt (hHA p q 44 (.head _))) (ob5 p)
        have hkb : Sub (new ++ bs) ((fA, W.listOf #[] 0) :: (T40, tup2 (.int pl.1 t41) (.int pl.2 t42)) :: (rA, W.listOf rv.toArray rc) :: (uA, W.listOf uv.toArray un2) :: ((filled_c_v.L') + 1 + 1, ob) :: ((filled_c_v.L') + 1, oR7) :: (new ++ bs)) := fun p hp => .tail _ (.tail _ (.tail _ (.tail _ (.tail _ (.tail _ hp)))))
        k_dflt (refine' use_tab (Ctr.led (searchrev_c (filled_c_v.w) (.ref fp) row pl.2 _ _ ps2 (new ++ bs) new0 _ hkb (fun p hp => hkb p (List.mem_append_right _ (hpb p hp))) (by (walk_at "ar")) (by (walk_at "ar")) off44 htb hProg) ?sub) ?k1 ?k2 ?k3 N51 ?k5 ?kK ?kd ?ku ?kc1 ?kc2 ?_)
        case sub =>
          walk_at "mine sub"
        (case k1 => k_asm); (case k2 => k_asm); (case k3 => k_asm); (case k5 => k_asm); (case kK => exact rfl); (case kd => ktr_room); (case ku => ktr_units); (case kc1 => assumption); (case kc2 => assumption)
        intro rf ps5 newS of h52 tk52 F52 N52 ht5 hh5 hend hitf
        clear F51 N51
        have N53 := cb_drop N52 (news := (44, tabObj ps5) :: (fA, W.listOf #[] 0) :: (T40, tup2 (.int pl.1 t41) (.int pl.2 t42)) :: (rA, W.listOf rv.toArray rc) :: (uA, W.listOf uv.toArray un2) :: ((filled_c_v.L') + 1 + 1, ob) :: ((filled_c_v.L') + 1, oR7) :: ((newS ++ new) ++ bs)) (by
          walk_at "mine sub")
        have hHA4 : HighA (newS ++ new) [44, rA, uA, (filled_c_v.L') + 1 + 1, (filled_c_v.L') + 1] := HighA.app (hh5.highA (by
          intro x hx
          simp only [List.mem_cons, List.not_mem_nil, or_false] at hx
          rcases hx with rfl | rfl | rfl | rfl | rfl
          · exact ⟨_, .head _, rfl⟩
          · exact ⟨_, .tail _ (.tail _ (.tail _ (.head _))), rfl⟩
          · exact ⟨_, .tail _ (.tail _ (.tail _ (.tail _ (.head _)))), rfl⟩
          · exact ⟨_, .tail _ (.tail _ (.tail _ (.tail _ (.tail _ (.head _))))), rfl⟩
          · exact ⟨_, .tail _ (.tail _ (.tail _ (.tail _ (.tail _ (.tail _ (.head _)))))), rfl⟩)) hHA
        have hg4 : Sub (new ++ bs) ((newS ++ new) ++ bs) := fun p hp => by rw [List.append_assoc]; exact List.mem_append_right _ hp
        replace hwA := hg4 _ hwA
        replace huv := huv.mono hg4
        rw [← List.append_assoc] at ht5 hitf
        have hfA4 : Off fA ((newS ++ new) ++ bs) := Off.app3 (fun q hq => hh5 q hq _ (.tail _ (.head _))) hfA0
        clear N52 hh5 hkb off44 hHA htb
        generalize hn4 : newS ++ new = new4 at *
        clear hn4
        have mq1 : (fp, fnObj fdp (some dp')) ∈ new4 ++ bs := List.mem_append_right _ (hpb _ mp1)
        have mq2 : (dp', attrObj hsp kp (Str.ofString "search") (Value.ref gp)) ∈ new4 ++ bs := List.mem_append_right _ (hpb _ mp2)
        have mq3 : (gp, fnObj fgp none) ∈ new4 ++ bs := List.mem_append_right _ (hpb _ mp3)
        k_steps
        unfold Stop
        have hkb4 : Sub (new4 ++ bs) ((fA, W.listOf #[] 0) :: (T40, tup2 (.int pl.1 t41) (.int pl.2 t42)) :: (rA, W.listOf rv.toArray rc) :: (uA, W.listOf uv.toArray un2) :: ((filled_c_v.L') + 1 + 1, ob) :: ((filled_c_v.L') + 1, oR7) :: (new4 ++ bs)) := fun p hp => .tail _ (.tail _ (.tail _ (.tail _ (.tail _ (.tail _ hp)))))
        have off44 : Off 44 ((fA, W.listOf #[] 0) :: (T40, tup2 (.int pl.1 t41) (.int pl.2 t42)) :: (rA, W.listOf rv.toArray rc) :: (uA, W.listOf uv.toArray un2) :: ((filled_c_v.L') + 1 + 1, ob) :: ((filled_c_v.L') + 1, oR7) :: (new4 ++ bs)) := by
          refine List.forall_mem_cons.mpr ⟨neN ?_, List.forall_mem_cons.mpr ⟨neN ?_, List.forall_mem_cons.mpr ⟨neN ?_, List.forall_mem_cons.mpr ⟨neN ?_, List.forall_mem_cons.mpr ⟨neN ?_, List.forall_mem_cons.mpr ⟨neN ?_, ?_⟩⟩⟩⟩⟩⟩
          all_goals first | (dsimp only; (walk_at "ar")) | skip
          exact fun p hp => (List.mem_append.mp hp).elim (fun q => Nat.ne_of_gt (hHA4 p q 44 (.head _))) (ob5 p)
        rename Fr _ _ _ _ => F54
        rename News _ _ _ _ => N54
        k_dflt (refine' use_tab (P := NextIs row pl.2) (hSc _ (new4 ++ bs) (fun p hp => hkb4 p (List.mem_append_right _ (hpb p hp))) hkb4 row pl.2 _ _ ps5 (by (walk_at "ar")) (by (walk_at "ar")) off44 ht5).1 ?k1 ?k2 ?k3 N54 ?k5 ?kK ?kd ?ku ?kc1 ?kc2 ?_)
        (case k1 => k_asm); (case k2 => k_asm); (case k3 => k_asm); (case k5 => k_asm); (case kK => exact rfl); (case kd => ktr_room); (case ku => ktr_units); (case kc1 => assumption); (case kc2 => assumption)
        intro ra ps6 newT oa h55 tk55 F55 N55 ht6 hh6 hnext hita
        clear F54 N54
        have N56 := cb_drop N55 (news := (44, tabObj ps6) :: (fA, W.listOf #[] 0) :: (rA, W.listOf rv.toArray rc) :: (uA, W.listOf uv.toArray un2) :: ((filled_c_v.L') + 1 + 1, ob) :: ((filled_c_v.L') + 1, oR7) :: ((newT ++ new4) ++ bs)) (by
          walk_at "mine sub")
        have hHA6 : HighA (newT ++ new4) [44, rA, uA, (filled_c_v.L') + 1 + 1, (filled_c_v.L') + 1] := HighA.app (hh6.highA (by
          intro x hx
          simp only [List.mem_cons, List.not_mem_nil, or_false] at hx
          rcases hx with rfl | rfl | rfl | rfl | rfl
          · exact ⟨_, .head _, rfl⟩
          · exact ⟨_, .tail _ (.tail _ (.tail _ (.head _))), rfl⟩
          · exact ⟨_, .tail _ (.tail _ (.tail _ (.tail _ (.head _)))), rfl⟩
          · exact ⟨_, .tail _ (.tail _ (.tail _ (.tail _ (.tail _ (.head _))))), rfl⟩
          · exact ⟨_, .tail _ (.tail _ (.tail _ (.tail _ (.tail _ (.tail _ (.head _)))))), rfl⟩)) hHA4
        have hg6 : Sub (new4 ++ bs) ((newT ++ new4) ++ bs) := fun p hp => by rw [List.append_assoc]; exact List.mem_append_right _ hp
        replace hwA := hg6 _ hwA
        replace huv := huv.mono hg6
        replace hitf := hitf.mono hg6
        rw [← List.append_assoc] at ht6 hita
        have hfA6 : Off fA ((newT ++ new4) ++ bs) := Off.app3 (fun q hq => hh6 q hq _ (.tail _ (.head _))) hfA4
        clear N55 hh6 hkb4 off44 hHA4 ht5 mq1 mq2 mq3 hfA4
        generalize hn6 : newT ++ new4 = new6 at *
        clear hn6
        have hkc : Sub (new6 ++ bs) ((44, tabObj ps6) :: (fA, W.listOf #[] 0) :: (rA, W.listOf rv.toArray rc) :: (uA, W.listOf uv.toArray un2) :: ((filled_c_v.L') + 1 + 1, ob) :: ((filled_c_v.L') + 1, oR7) :: (new6 ++ bs)) := fun p hp => .tail _ (.tail _ (.tail _ (.tail _ (.tail _ (.tail _ hp)))))
        k_steps
        unfold Stop
        rename Fr _ _ _ _ => F57
        rename News _ _ _ _ => N57
        refine expr_cut (σ := Nat × Tok) (fun _ => (44, tabObj ps6) :: (fA, W.listOf #[] 0) :: (rA, W.listOf rv.toArray rc) :: (uA, W.listOf uv.toArray un2) :: ((filled_c_v.L') + 1 + 1, ob) :: ((filled_c_v.L') + 1, oR7) :: (new6 ++ bs)) (fun c => .int c.1 c.2) (fun c => c.1 = endOf of) F57 ?lft ?lft2
        case lft =>
          cases of with
          | none =>
            cases hitf
            refine gen_post ?_
            intro Qlft slft hQlft
            refine wpAny_IfExp ?_
            k_steps
            rename Fr _ _ _ _ => F58
            rename News _ _ _ _ => N58
            refine hQlft _ _ _ ?_
            exact eend (0, _) F58 N58 (fun p hp => .tail _ hp) rfl
          | some ij =>
            obtain ⟨i1, j1⟩ := ij
            revert F57
            apply Hit.elim hitf
            intro fm dm gm fdm hsm km fgm mm1 mm2 mm3 hSp F57
            refine gen_post ?_
            intro Qlft slft hQlft
            refine wpAny_IfExp ?_
            k_steps
            unfold Stop
            rename Fr _ _ _ _ => F58
            rename News _ _ _ _ => N58
            k_dflt (refine' use_tup (hSp _ (hkc.trans (fun p hp => .tail _ hp))) ?k1 ?k2 ?k3 N58 ?k5 ?kK ?kd ?ku ?kc1 ?kc2 ?_)
            (case k1 => k_asm); (case k2 => k_asm); (case k3 => k_asm); (case k5 => k_asm); (case kK => exact rfl); (case kd => ktr_room); (case ku => ktr_units); (case kc1 => assumption); (case kc2 => assumption)
            intro T7 ti7 tj7 h70 tk70 F70 N70 low7
            clear F58 N58
            k_steps
            rename Fr _ _ _ _ => F59
            rename News _ _ _ _ => N59
            refine hQlft _ _ _ ?_
            exact eend (j1, tj7) F59 N59 (fun p hp => .tail _ (.tail _ hp)) rfl
        case lft2 =>
        rintro ⟨lf9, tlf⟩ h71 tk71 hlf F71 N71
        dsimp only at hlf F71 N71
        clear F57 N57
        k_steps
        unfold Stop
        rename Fr _ _ _ _ => F57
        rename News _ _ _ _ => N57
        refine expr_cut (σ := Nat × Tok) (fun _ => (44, tabObj ps6) :: (fA, W.listOf #[] 0) :: (rA, W.listOf rv.toArray rc) :: (uA, W.listOf uv.toArray un2) :: ((filled_c_v.L') + 1 + 1, ob) :: ((filled_c_v.L') + 1, oR7) :: (new6 ++ bs)) (fun c => .int c.1 c.2) (fun c => c.1 = rightOf row oa) F57 ?rgt ?rgt2
        case rgt =>
          cases oa with
          | none =>
            cases hita
            refine gen_post ?_
            intro Qrgt srgt hQrgt
            refine wpAny_IfExp ?_
            k_steps
            rename Fr _ _ _ _ => F58
            rename News _ _ _ _ => N58
            refine hQrgt _ _ _ ?_
            (refine eend (row.length, _) F58 N58 ?_ rfl); exact fun p hp => hp
          | some ij =>
            obtain ⟨i1, j1⟩ := ij
            revert F57
            apply Hit.elim hita
            intro fm dm gm fdm hsm km fgm mm1 mm2 mm3 hSp F57
            refine gen_post ?_
            intro Qrgt srgt hQrgt
            refine wpAny_IfExp ?_
            k_steps
            unfold Stop
            rename Fr _ _ _ _ => F58
            rename News _ _ _ _ => N58
            k_dflt (refine' use_tup (hSp _ hkc) ?k1 ?k2 ?k3 N58 ?k5 ?kK ?kd ?ku ?kc1 ?kc2 ?_)
            (case k1 => k_asm); (case k2 => k_asm); (case k3 => k_asm); (case k5 => k_asm); (case kK => exact rfl); (case kd => ktr_room); (case ku => ktr_units); (case kc1 => assumption); (case kc2 => assumption)
            intro T7 ti7 tj7 h70 tk70 F70 N70 low7
            clear F58 N58
            k_steps
            rename Fr _ _ _ _ => F59
            rename News _ _ _ _ => N59
            refine hQrgt _ _ _ ?_
            exact eend (i1, ti7) F59 N59 (fun p hp => .tail _ hp) rfl
        case rgt2 =>
        rintro ⟨rt9, trt⟩ h72 tk72 hrt F72 N72
        dsimp only at hrt F72 N72
        clear F57 N57
        refine and5 (offs5 hHA6 ob5 ob3 ob4 ob2 ob1) ?_
        intro oz1 oz2 oz3 oz4 oz5
        have hfill := inv_fill hpg hI (by unfold cell; rw [hrow]; exact q9) (by rw [hrow]; exact hend) (by rw [hrow]; exact hnext)
        rw [hrow, ← hrt, ← hlf] at hfill
        refine and6 hfill ?_
        intro g1 g2 g3 hI2 hm2 hag
        have hcat := row_cat six (Nat.le_trans g1 (Nat.le_of_lt g2)) g3
        dsimp only
        k_steps
        unfold Stop
        rename Fr _ _ _ _ => F80
        rename News _ _ _ _ => N80
        rename_i Dr _ _ _ lDr _ _ _ _ _ _ _ _ _ _ _ _ _ _ _ _ _ _ _ _ _ _ _
        k_dflt (refine' list_setS (y := rowFill row lf9 rt9) F80 N80 hrv (fill_is (by (walk_at "ar")) (by (walk_at "ar"))) ?sU ?sa ?sb ?_)
        (case sU => (intro vs'; k_upd)); (case sa => (walk_at "ar")); (case sb => (walk_at "ar"))
        intro rv2 h81 hrv2 F81 N81
        clear F80 N80
        have hrow2 : (rows.set pl.1 (rowFill row lf9 rt9)).getD pl.1 Str.empty = rowFill row lf9 rt9 := by rw [getD_set (by (walk_at "ar")), if_pos rfl]
        have hlen2 : (rowFill row lf9 rt9).length = 6 := by rw [fill_len (by (walk_at "ar")) (by (walk_at "ar"))]; exact six
        have hl42 : (rows.set pl.1 (rowFill row lf9 rt9)).length = 4 := hI2.four
        generalize hrows2 : rows.set pl.fst (rowFill row lf9 rt9) = rows2 at *
        generalize hrf2 : rowFill row lf9 rt9 = rf2 at *
        have N83 := cb_drop N81 (news := (44, tabObj ps6) :: (fA, W.listOf #[] 0) :: (rA, W.listOf rv2.toArray rc) :: (uA, W.listOf (uv ++ [Value.ref Dr]).toArray (un2 + 1)) :: ((filled_c_v.L') + 1 + 1, ob) :: ((filled_c_v.L') + 1, oR7) :: (((Dr, tup3 (.int pl.1 t41) (.int lf9 tlf) (.int rt9 trt)) :: new6) ++ bs)) (by
          walk_at "mine sub")
        clear N81
        have hHA7 : HighA ((Dr, tup3 (.int pl.1 t41) (.int lf9 tlf) (.int rt9 trt)) :: new6) [44, rA, uA, (filled_c_v.L') + 1 + 1, (filled_c_v.L') + 1] := HighA.cons hHA6 (lt5 lDr.1 lDr.2.2.1 lDr.2.2.2.1 lDr.2.2.2.2.1 lDr.2.2.2.2.2.1)
        have hg7 : Sub (new6 ++ bs) (((Dr, tup3 (.int pl.1 t41) (.int lf9 tlf) (.int rt9 trt)) :: new6) ++ bs) := fun p hp => .tail _ hp
        replace hwA := hg7 _ hwA
        have huv7 : RunsAre (((Dr, tup3 (.int pl.1 t41) (.int lf9 tlf) (.int rt9 trt)) :: new6) ++ bs) (uv ++ [.ref Dr]) (runs ++ [(pl.1, lf9, rt9)]) := RunsAre.snoc (huv.mono hg7) ⟨Dr, _, _, _, rfl, .head _⟩
        replace ht6 := ht6.mono hg7
        have hfA7 : Off fA (((Dr, tup3 (.int pl.1 t41) (.int lf9 tlf) (.int rt9 trt)) :: new6) ++ bs) := List.forall_mem_cons.mpr ⟨Nat.ne_of_gt lDr.2.1, hfA6⟩
        clear huv hita hitf hg7 hkc hHA6 oz1 oz2 oz3 oz4 oz5 hfA6
        generalize hn7 : ((Dr, tup3 (.int pl.1 t41) (.int lf9 tlf) (.int rt9 trt)) :: new6) = new7 at *
        clear hn7
        have off44 : Off 44 ((fA, W.listOf #[] 0) :: (rA, W.listOf rv2.toArray rc) :: (uA, W.listOf (uv ++ [Value.ref Dr]).toArray (un2 + 1)) :: ((filled_c_v.L') + 1 + 1, ob) :: ((filled_c_v.L') + 1, oR7) :: (new7 ++ bs)) := by
          refine List.forall_mem_cons.mpr ⟨neN ?_, List.forall_mem_cons.mpr ⟨neN ?_, List.forall_mem_cons.mpr ⟨neN ?_, List.forall_mem_cons.mpr ⟨neN ?_, List.forall_mem_cons.mpr ⟨neN ?_, ?_⟩⟩⟩⟩⟩
          all_goals first | (dsimp only; (walk_at "ar")) | skip
          exact hHA7.off (by simp) ob5
        have hkb : Sub (new7 ++ bs) ((fA, W.listOf #[] 0) :: (rA, W.listOf rv2.toArray rc) :: (uA, W.listOf (uv ++ [Value.ref Dr]).toArray (un2 + 1)) :: ((filled_c_v.L') + 1 + 1, ob) :: ((filled_c_v.L') + 1, oR7) :: (new7 ++ bs)) := fun p hp => .tail _ (.tail _ (.tail _ (.tail _ (.tail _ hp))))
        k_steps
        unfold Stop
        rename Fr _ _ _ _ => F84
        rename News _ _ _ _ => N84
        rw [ar_pred (Nat.lt_of_le_of_lt (Nat.zero_le _) g2)]
        have hrt6 : rt9 - 1 ≤ rf2.length := hlen2 ▸ Nat.le_trans (Nat.sub_le _ _) g3
        k_dflt (refine' use_tab (searchrev_c (filled_c_v.w) (.ref fp) rf2 (rt9 - 1) _ _ ps6 (new7 ++ bs) new0 _ hkb (fun p hp => hkb p (List.mem_append_right _ (hpb p hp))) (by (walk_at "ar")) (by (walk_at "ar")) off44 ht6 hProg) ?sk1 ?sk2 ?sk3 N84 ?sk5 ?skK ?skd ?sku ?skc1 ?skc2 ?_)
        (case sk1 => k_asm); (case sk2 => k_asm); (case sk3 => k_asm); (case sk5 => k_asm); (case skK => exact rfl); (case skd => ktr_room); (case sku => ktr_units); (case skc1 => assumption); (case skc2 => assumption)
        intro rg ps8 newU og h86 tk86 F86 N86 ht8 hh8 hend8 hitg
        clear F84 N84
        have N87 := cb_drop N86 (news := (44, tabObj ps8) :: (fA, W.listOf #[] 0) :: (rA, W.listOf rv2.toArray rc) :: (uA, W.listOf (uv ++ [Value.ref Dr]).toArray (un2 + 1)) :: ((filled_c_v.L') + 1 + 1, ob) :: ((filled_c_v.L') + 1, oR7) :: ((newU ++ new7) ++ bs)) (by
          walk_at "mine sub")
        have hHA8 : HighA (newU ++ new7) [44, rA, uA, (filled_c_v.L') + 1 + 1, (filled_c_v.L') + 1] := HighA.app (hh8.highA (by
          intro x hx
          simp only [List.mem_cons, List.not_mem_nil, or_false] at hx
          rcases hx with rfl | rfl | rfl | rfl | rfl
          · exact ⟨_, .head _, rfl⟩
          · exact ⟨_, .tail _ (.tail _ (.head _)), rfl⟩
          · exact ⟨_, .tail _ (.tail _ (.tail _ (.head _))), rfl⟩
          · exact ⟨_, .tail _ (.tail _ (.tail _ (.tail _ (.head _)))), rfl⟩
          · exact ⟨_, .tail _ (.tail _ (.tail _ (.tail _ (.tail _ (.head _))))), rfl⟩)) hHA7
        have hg8 : Sub (new7 ++ bs) ((newU ++ new7) ++ bs) := fun p hp => by rw [List.append_assoc]; exact List.mem_append_right _ hp
        replace hwA := hg8 _ hwA
        replace huv7 := huv7.mono hg8
        rw [← List.append_assoc] at ht8 hitg
        have hfA8 : Off fA ((newU ++ new7) ++ bs) := Off.app3 (fun q hq => hh8 q hq _ (.tail _ (.head _))) hfA7
        clear N86 hh8 hkb off44 hHA7 ht6 hfA7
        generalize hn8 : newU ++ new7 = new8 at *
        clear hn8
        refine and5 (offs5 hHA8 ob5 ob3 ob4 ob2 ob1) ?_
        intro oz1 oz2 oz3 oz4 oz5
        have hkd : Sub (new8 ++ bs) ((44, tabObj ps8) :: (fA, W.listOf #[] 0) :: (rA, W.listOf rv2.toArray rc) :: (uA, W.listOf (uv ++ [Value.ref Dr]).toArray (un2 + 1)) :: ((filled_c_v.L') + 1 + 1, ob) :: ((filled_c_v.L') + 1, oR7) :: (new8 ++ bs)) := fun p hp => .tail _ (.tail _ (.tail _ (.tail _ (.tail _ (.tail _ hp)))))
        have hge := hag _ hend8
        k_steps
        unfold Stop
        rename Fr _ _ _ _ => F88
        rename News _ _ _ _ => N88
        refine expr_cut (σ := Nat × Tok) (fun _ => (44, tabObj ps8) :: (fA, W.listOf #[] 0) :: (rA, W.listOf rv2.toArray rc) :: (uA, W.listOf (uv ++ [Value.ref Dr]).toArray (un2 + 1)) :: ((filled_c_v.L') + 1 + 1, ob) :: ((filled_c_v.L') + 1, oR7) :: (new8 ++ bs)) (fun c => .int c.1 c.2) (fun c => c.1 = endOf og) F88 ?agn ?agn2
        case agn =>
          cases og with
          | none =>
            cases hitg
            refine gen_post ?_
            intro Qagn sagn hQagn
            refine wpAny_IfExp ?_
            k_steps
            rename Fr _ _ _ _ => F58
            rename News _ _ _ _ => N58
            refine hQagn _ _ _ ?_
            (refine eend (0, _) F58 N58 ?_ rfl); exact fun p hp => hp
          | some ij =>
            obtain ⟨i1, j1⟩ := ij
            revert F88
            apply Hit.elim hitg
            intro fm dm gm fdm hsm km fgm mm1 mm2 mm3 hSp F88
            refine gen_post ?_
            intro Qagn sagn hQagn
            refine wpAny_IfExp ?_
            k_steps
            unfold Stop
            rename Fr _ _ _ _ => F58
            rename News _ _ _ _ => N58
            k_dflt (refine' use_tup (hSp _ hkd) ?tk1 ?tk2 ?tk3 N58 ?tk5 ?tkK ?tkd ?tku ?tkc1 ?tkc2 ?_)
            (case tk1 => k_asm); (case tk2 => k_asm); (case tk3 => k_asm); (case tk5 => k_asm); (case tkK => exact rfl); (case tkd => ktr_room); (case tku => ktr_units); (case tkc1 => assumption); (case tkc2 => assumption)
            intro T7 ti7 tj7 h70 tk70 F70 N70 low7
            clear F58 N58
            k_steps
            rename Fr _ _ _ _ => F59
            rename News _ _ _ _ => N59
            refine hQagn _ _ _ ?_
            exact eend (j1, tj7) F59 N59 (fun p hp => .tail _ hp) rfl
        case agn2 =>
        rintro ⟨ag9, tag⟩ h89 tk89 hag9 F89 N89
        dsimp only at hag9 F89 N89 ⊢
        rw [hge] at hag9
        have hag9 := hag9.symm
        subst hag9
        clear F88 N88 hitg hend8 hag hge
        k_steps
        · exfalso
          (walk_at "ar")
        rename Fr _ _ _ _ => F90
        rename News _ _ _ _ => N90
        rename_i D9 h90 l90
        refine iter_tupTurns (vs := [.int ((pl.1 : Int) - 1) _, .int ((pl.1 : Int) + 1) _]) rfl F90 N90 (.head _) rfl rfl ?_
        intro I9 lI9
        k_lt lI9
        clear F90 N90
        have hrv2l : rv2.length = 4 := by rw [hrv2.length, hl42]
        refine items_cut (σ := (List Value × Nat) × Obj) (fun c => (D9, { cls := .type "tuple", data := .seq (#[.int ((pl.1 : Int) - 1) (tk89 + 1), .int ((pl.1 : Int) + 1) (tk89 + 1 + 1 + 1)] : Array Value) }) :: (44, tabObj ps8) :: (fA, W.listOf c.1.1.toArray c.1.2) :: (rA, W.listOf rv2.toArray rc) :: (uA, W.listOf (uv ++ [Value.ref Dr]).toArray (un2 + 1)) :: ((filled_c_v.L') + 1 + 1, c.2) :: ((filled_c_v.L') + 1, oR7) :: (new8 ++ bs))
          (fun _ => [(Str.ofString "further", .ref fA)]) [] (fun i c => StrsAre c.1.1 ((besN rows2 pl.1 lf9 rt9 i).map pStr) ∧ ∃ v, c.2.data = .cell v) (([], 0), ob) (fun _ => ⟨.head _, trivial⟩) (by kst_all) ⟨.nil, _, hob⟩ ?turnB ?doneB
        case turnB =>
          rintro i v ⟨⟨fv1, fn1⟩, oB0⟩ u91 h91 tk91 oI hv hP91 F91 N91
          refine and2 hP91 ?_
          intro hfv1 hob1
          refine Exists.elim hob1 ?_
          intro vB0 hob0
          clear hP91 hob1
          apply bes_elim (rows := rows2) (l := lf9) (r := rt9) hv hp1
          intro b tb hbes
          dsimp only at hfv1 hob0 F91 N91
          have hf1 : fv1.length ≤ 12 := by
            rw [hfv1.length, List.length_map]
            exact bes_len g3
          refine gen_seq ?_
          intro QU1 sU1 hQU1
          k_steps
          unfold Stop
          clear F91 N91
          rename Fr _ _ _ _ => Fr1
          rename News _ _ _ _ => Ns1
          rename (_ = Data.cell (some (Value.int _ _))) => dB1
          rename_i hs1 oB1
          refine stmt_cut (σ := List Value × Nat) (fun c => (I9, oI) :: (D9, { cls := .type "tuple", data := .seq (#[.int ((pl.1 : Int) - 1) (tk89 + 1), .int ((pl.1 : Int) + 1) (tk89 + 1 + 1 + 1)] : Array Value) }) :: (44, tabObj ps8) :: (fA, W.listOf c.1.toArray c.2) :: (rA, W.listOf rv2.toArray rc) :: (uA, W.listOf (uv ++ [Value.ref Dr]).toArray (un2 + 1)) :: ((filled_c_v.L') + 1 + 1, oB1) :: ((filled_c_v.L') + 1, oR7) :: (new8 ++ bs)) (fun c => [(Str.ofString "further", .ref fA)]) []
            (fun c => StrsAre c.1 ((besN rows2 pl.1 lf9 rt9 (i + 1)).map pStr)) Fr1 ?fcut1 ?fnxt1
          case fcut1 =>
            refine gen_post ?_
            intro Qfcut1 sfcut1 hQfcut1
            refine wpAny_If ?_
            rcases Int.lt_or_le b 0 with e0 | e0
            · k_steps
              rename Fr _ _ _ _ => F58
              rename News _ _ _ _ => N58
              refine hQfcut1 _ _ _ ?_
              exact wend (fv1, fn1) F58 N58 (fun p hp => hp) (by kst_all) (by (intro z h2 h3; first | rfl | ((simp only [List.forall_mem_cons, List.not_mem_nil, false_implies, implies_true, and_true, ne_eq] at h2); first | (simp [kstB, h2]; done) | ((simp only [List.contains_cons, List.contains_nil, Bool.or_false, Bool.or_eq_false_iff, beq_eq_false_iff_ne, ne_eq] at h3); (simp [kstB, h2, h3]; done))))) (by rw [hbes, bes_out (.inl e0)]; exact hfv1)
            rcases Int.lt_or_le b 4 with e4 | e4
            rotate_left
            · k_steps
              rename Fr _ _ _ _ => F58
              rename News _ _ _ _ => N58
              refine hQfcut1 _ _ _ ?_
              exact wend (fv1, fn1) F58 N58 (fun p hp => hp) (by kst_all) (by (intro z h2 h3; first | rfl | ((simp only [List.forall_mem_cons, List.not_mem_nil, false_implies, implies_true, and_true, ne_eq] at h2); first | (simp [kstB, h2]; done) | ((simp only [List.contains_cons, List.contains_nil, Bool.or_false, Bool.or_eq_false_iff, beq_eq_false_iff_ne, ne_eq] at h3); (simp [kstB, h2, h3]; done))))) (by rw [hbes, bes_out (.inr e4)]; exact hfv1)
            obtain ⟨n, rfl⟩ := Int.eq_ofNat_of_zero_le e0
            replace e4 : n < 4 := Int.ofNat_lt.mp e4
            clear e0
            k_steps
            unfold Stop
            rename Fr _ _ _ _ => F60
            rename News _ _ _ _ => N60
            rename IsRange _ _ _ _ _ _ _ _ => hRg
            have hn2 : n < rows2.length := hl42 ▸ e4
            have hrb6 : (rows2.getD n Str.empty).length = 6 := hI2.six _ (by rw [List.getD_eq_getElem?_getD, List.getElem?_eq_getElem hn2]; exact List.getElem_mem _)
            refine LCt.CompSrcT.range (n := rt9 - lf9) rfl F60 N60 hRg (small_in (Nat.le_trans g1 (Nat.le_of_lt g2)) g3) (range_size (Nat.le_trans g1 (Nat.le_of_lt g2))) (by rw [sizeLine_eq]; exact Nat.le_trans (Nat.sub_le _ _) (Nat.le_trans g3 (by decide))) ?_
            intro gg
            refine comp_sameT (rt9 - lf9) (fun k ys => StrsAre ys (((List.range' lf9 k).filter (fun q => cell rows2 n q == 46)).map fun q => pStr (n, q))) .nil ?stp1 ?fin1
            case stp1 =>
              intro k v ys I oI C oC Dl m₂ h3 tk3 E3 hk hv hI3 hC
              apply int_elim hv
              intro tv hx F3 N3 off3 ne3
              rw [show ((lf9 : Nat) : Int) + ((k : Nat) : Int) = ((lf9 + k : Nat) : Int) from (Int.natCast_add _ _).symm] at hx
              have hlk : lf9 + k < 6 := Nat.lt_of_lt_of_le (Nat.add_lt_of_lt_sub' hk) g3
              have hlk2 : lf9 + k < (rows2.getD n Str.empty).length := hrb6 ▸ hlk
              clear F60 N60
              refine gen_ite ?_
              intro QY QN sY hQY hQN
              k_steps
              · rename ((Txt.item _ _ == _) = true) => q3
                rw [item_dot (Int.natCast_nonneg _) (ar_ll hlk2), decide_eq_true_eq, Int.toNat_natCast] at q3
                refine hQY _ _ _ ?_
                exact cend F3 N3 off3 (fun p hp => hp) trivial ⟨rfl, spots_yes hI3 q3 (Nat.lt_of_lt_of_le e4 (by decide)) (Nat.lt_of_lt_of_le hlk (by decide))⟩
              · rename ((Txt.item _ _ == _) = false) => q3
                rw [item_dot (Int.natCast_nonneg _) (ar_ll hlk2), decide_eq_false_iff_not, Int.toNat_natCast] at q3
                refine hQN _ _ ?_
                exact cend F3 N3 off3 (fun p hp => hp) trivial ⟨rfl, spots_no hI3 q3⟩
            case fin1 =>
              intro ys hys
              unfold LCg.FinE
              intro Dl h3 tk3 F3 N3 off3
              clear F60 N60
              simp only [LCg.Off1] at off3
              have hyl : ys.length ≤ 6 := by
                rw [hys.length, List.length_map]
                have := List.length_filter_le (fun q => cell rows2 n q == 46) (List.range' lf9 (rt9 - lf9))
                rw [List.length_range'] at this
                exact Nat.le_trans this (Nat.le_trans (Nat.sub_le _ _) g3)
              k_steps
              rename Fr _ _ _ _ => F64
              rename News _ _ _ _ => N64
              rename_i kf _ _
              refine hQfcut1 _ _ _ ?_
              refine wend (fv1 ++ ys, kf) F64 N64 ?_ (by kst_all) (by (intro z h2 h3; first | rfl | ((simp only [List.forall_mem_cons, List.not_mem_nil, false_implies, implies_true, and_true, ne_eq] at h2); first | (simp [kstB, h2]; done) | ((simp only [List.contains_cons, List.contains_nil, Bool.or_false, Bool.or_eq_false_iff, beq_eq_false_iff_ne, ne_eq] at h3); (simp [kstB, h2, h3]; done))))) ?_
              · walk_at "mine sub"
              · rw [hbes, List.map_append, bes_in e4, spots_map (b := n)]
                exact hfv1.append' hys
          case fnxt1 =>
            rintro ⟨fv2, fn2⟩ u92 h92 tk92 hfv2 F92 N92
            dsimp only at hfv2 F92 N92
            clear Fr1 Ns1
            k_steps
            refine hQU1 _ _ _ ?_
            rename Fr _ _ _ _ => Fw1
            rename News _ _ _ _ => Nw1
            refine wend ((fv2, fn2), oB1) Fw1 Nw1 (fun p hp => hp) (by kst_all) (by (intro z h2 h3; first | rfl | ((simp only [List.forall_mem_cons, List.not_mem_nil, false_implies, implies_true, and_true, ne_eq] at h2); first | (simp [kstB, h2]; done) | ((simp only [List.contains_cons, List.contains_nil, Bool.or_false, Bool.or_eq_false_iff, beq_eq_false_iff_ne, ne_eq] at h3); (simp [kstB, h2, h3]; done))))) ⟨?_, hfv2, _, dB1⟩
            intro p hp
            exact Nat.ne_of_lt ((List.forall_mem_cons.mpr ⟨lI9.1, List.forall_mem_cons.mpr ⟨lI9.2.1, List.forall_mem_cons.mpr ⟨lI9.2.2.1, List.forall_mem_cons.mpr ⟨lI9.2.2.2.1, List.forall_mem_cons.mpr ⟨lI9.2.2.2.2.1, List.forall_mem_cons.mpr ⟨lI9.2.2.2.2.2.1, List.forall_mem_cons.mpr ⟨lI9.2.2.2.2.2.2.1, AllLt.low lI9.2.2.2.2.2.2.2⟩⟩⟩⟩⟩⟩⟩ : Low _ I9) p hp)
        case doneB =>
          rintro ⟨⟨fv2, fn2⟩, oB2⟩ u93 h93 tk93 hP93 F93 N93
          refine and2 hP93 ?_
          intro hfv2 dB1
          refine Exists.elim dB1 ?_
          intro vB2 dB2
          clear hP93 dB1
          dsimp only at hfv2 dB2 F93 N93
          k_steps
          rename Fr _ _ _ _ => F94
          rename News _ _ _ _ => N94
          refine hQiff _ _ _ ?_
          refine wend ⟨ps8, rv2, uv ++ [.ref Dr], un2 + 1, oB2, new8, rows2, runs ++ [(pl.1, lf9, rt9)], besides rows2 pl.1 lf9 rt9, fv2, fn2⟩ F94 N94 ?_ (by kst_all) (by (intro z h2 h3; first | rfl | ((simp only [List.forall_mem_cons, List.not_mem_nil, false_implies, implies_true, and_true, ne_eq] at h2); first | (simp [kstB, h2]; done) | ((simp only [List.contains_cons, List.contains_nil, Bool.or_false, Bool.or_eq_false_iff, beq_eq_false_iff_ne, ne_eq] at h3); (simp [kstB, h2, h3]; done))))) ⟨hrv2, huv7, hwA, hfv2, ht8, hHA8, hI2, ?_, ?_, hm2, _, dB2⟩
          · walk_at "mine sub"
          · rw [List.length_append, List.length_append, hul]; rfl
          · dsimp only
            rw [List.length_append, List.length_singleton]
            (walk_at "ar")
      case tail =>
        rintro ⟨ps3, rv3, uv3, un3, ob3, new3, rows3, runs3, fs, fv, fn⟩ u3 h60 tk60 hP60 F60 N60
        refine and11 hP60 ?_
        intro krv kuv kwA kfv ktb kHA kI kul kmu klt kob0
        refine Exists.elim kob0 ?_
        intro kv kob
        clear hP60 kob0
        dsimp only at krv kuv kwA kfv ktb kHA kI kul kmu klt kob F60 N60
        have hfl : fv.length ≤ 400 := by
          rw [kfv.length, List.length_map]; unfold measureOf at kmu; rw [List.length_append] at kmu; (walk_at "ar")
        clear F50 N50 hwA huv hrv htb hHA hI hul hmu hob
        k_steps
        · unfold Stop
          rename_i D3 hz1 l3 wN hz2 l4 hz3 a5 lX hz4 F69 N69 l5 lJ hz5 F70 N70 l6
          refine join_list (ys := fs.map pStr ++ [nx2]) (News.isList N70 (.head _)) (by simpa using kfv.append' (.cons nx2 t22 .nil)) (join_b2 _ _ (by rw [← List.length_map (f := pStr), ← kfv.length]; (walk_at "ar")) (by (walk_at "ar"))) ?_
          intro t71 k71
          rw [show Txt.join (Str.ofString "\n \n") (fs.map pStr ++ [nx2]) = notesOf (fs ++ wt) from by
            rw [← notes_on fs wt, hx2, if_neg (by (walk_at "ar"))]; rfl]
          clear F69 N69
          k_steps
          rename Fr _ _ _ _ => F72
          rename News _ _ _ _ => N72
          refine hQK _ _ _ ?_
          refine ksw_end ⟨ps3, rv3, uv3, un3, wN, fv ++ wv.drop 1, 0, ob3, (wN, W.listOf (fv ++ wv.drop 1).toArray 0) :: new3, rows3, runs3, fs ++ wt, t71⟩ F72 N72 ?_ trivial (by kst_all) (by (intro z h2 h3; first | rfl | ((simp only [List.forall_mem_cons, List.not_mem_nil, false_implies, implies_true, and_true, ne_eq] at h2); first | (simp [kstB, h2]; done) | ((simp only [List.contains_cons, List.contains_nil, Bool.or_false, Bool.or_eq_false_iff, beq_eq_false_iff_ne, ne_eq] at h3); (simp [kstB, h2, h3]; done)))))
            ⟨krv, kuv.mono (Sub.consL _ _), .head _, ?_, ktb.mono (Sub.consL _ _), kHA.cons (lt5 (ltN (by (walk_at "ar"))) (ltN (by (walk_at "ar"))) (ltN (by (walk_at "ar"))) (ltN (by (walk_at "ar"))) (ltN (by (walk_at "ar")))), kI, kul, kmu, kv, kob⟩ klt
          · walk_at "mine sub"
          · dsimp only
            rw [List.map_append]
            exact kfv.append' (hwv.drop' 1)
        · unfold Stop
          rename_i D3 hz1 l3 wN hz2 l4 hz3 a5 lX hz4 F69 N69 l5 lJ hz5 F70 N70 l6
          refine join_list (ys := fs.map pStr ++ []) (News.isList N70 (.head _)) (by simpa using kfv) (by rw [List.append_nil]; exact join_b1 _ (by rw [← List.length_map (f := pStr), ← kfv.length]; (walk_at "ar"))) ?_
          intro t71 k71
          rw [show Txt.join (Str.ofString "\n \n") (fs.map pStr ++ []) = notesOf (fs ++ wt) from by
            rw [← notes_on fs wt, hx2, if_pos (by (walk_at "ar"))]; rfl]
          clear F69 N69
          k_steps
          rename Fr _ _ _ _ => F72
          rename News _ _ _ _ => N72
          refine hQK _ _ _ ?_
          refine ksw_end ⟨ps3, rv3, uv3, un3, wN, fv ++ wv.drop 1, 0, ob3, (wN, W.listOf (fv ++ wv.drop 1).toArray 0) :: new3, rows3, runs3, fs ++ wt, t71⟩ F72 N72 ?_ trivial (by kst_all) (by (intro z h2 h3; first | rfl | ((simp only [List.forall_mem_cons, List.not_mem_nil, false_implies, implies_true, and_true, ne_eq] at h2); first | (simp [kstB, h2]; done) | ((simp only [List.contains_cons, List.contains_nil, Bool.or_false, Bool.or_eq_false_iff, beq_eq_false_iff_ne, ne_eq] at h3); (simp [kstB, h2, h3]; done)))))
            ⟨krv, kuv.mono (Sub.consL _ _), .head _, ?_, ktb.mono (Sub.consL _ _), kHA.cons (lt5 (ltN (by (walk_at "ar"))) (ltN (by (walk_at "ar"))) (ltN (by (walk_at "ar"))) (ltN (by (walk_at "ar"))) (ltN (by (walk_at "ar")))), kI, kul, kmu, kv, kob⟩ klt
          · walk_at "mine sub"
          · dsimp only
            rw [List.map_append]
            exact kfv.append' (hwv.drop' 1)
  case after =>
    rintro ⟨ps2, rv, uv, un2, wA2, wv, wn, ob, new, rows, runs, wait, tn⟩ u h tk2 hP F3 N3
    refine and4 hP ?_
    intro hrv huv hHA hI
    clear hP
    dsimp only at hrv huv hHA hI F3 N3
    clear F7 N7
    k_steps
    refine hQ0 _ _ _ ?_
    k_steps
    (first | rename Fr h₀ L _ m => kF | rename Fr filled_c_v.h₀ filled_c_v.L _ filled_c_v.m => kF)
    (first | rename News h₀ L _ _ => kN | rename News filled_c_v.h₀ filled_c_v.L _ _ => kN)
    refine hret _ _ _ _ kF (cb_drop kN ?_) ⟨_, rA, rv, rc, uA, uv, un2, rows, runs, (44, tabObj ps2) :: (new ++ bs), ps2, ps51, rfl, rfl, ?_, hrv, huv.mono (Sub.consL _ _), hI, .head _, ?_⟩
    · walk_at "mine sub"
    · rw [← hbs]
      exact fun p hp => .tail _ (List.mem_append_right _ (.tail _ (List.mem_append_right _ hp)))
    · rw [← hbs]
      exact .tail _ (List.mem_append_right _ (.head _))
theorem filled_c (w : World) (pA : Addr) (pvs : List Value) (pn : Nat) (page : List Str) (st : Pl) (t : Tok) (rest : Led) (hp : (pA, listOf pvs.toArray pn) ∈ rest) (hS : StrsAre pvs page) (hpg : Page page) (hst : st.1 < 4 ∧ st.2 < 6) (hoff : Off 44 rest) (hoff2 : Off 51 rest) :
    Ctr w 10 61 [.ref pA, .str (pStr st) t] ((44, tabObj #[]) :: (51, tabObj #[]) :: rest) (FilledPost page st rest) :=
  filled_c_P.2 (fun w pA pvs pn page st t rest p loose mean mg mb dp un gd cn cs a ccd cl outer A₀ base h₀ L m s Q E g' L' h' tk' o1 o2 Q0 s0 => Classical.choose_spec (LV.ex ((default : Addr), (default : List Value), (default : Nat), (default : List Str), (default : Pl), (default : Tok), (default : Led)) fun v => filled_c_P.1 (v.w) (v.own.1) (v.own.2.1) (v.own.2.2.1) (v.own.2.2.2.1) (v.own.2.2.2.2.1) (v.own.2.2.2.2.2.1) (v.own.2.2.2.2.2.2) (v.p) (v.loose) (v.mean) (v.mg) (v.mb) (v.dp) (v.un) (v.gd) (v.cn) (v.cs) (v.a) (v.ccd) (v.cl) (v.outer) (v.A₀) (v.base) (v.h₀) (v.L) (v.m) (v.s) (v.Q) (v.E) (v.g') (v.L') (v.h') (v.tk') (v.o1) (v.o2) (v.Q0) (v.s0)) filled_c_m ⟨(pA, pvs, pn, page, st, t, rest), w, p, loose, mean, mg, mb, dp, un, gd, cn, cs, a, ccd, cl, outer, A₀, base, h₀, L, m, s, Q, E, g', L', h', tk', o1, o2, default, Q0, s0⟩) w pA pvs pn page st t rest hp hS hpg hst hoff hoff2
end
section
local macro_rules | `(tactic| walk_at "call type:range") => `(tactic| ((rename Fr _ _ _ _ => F'); (rename News _ _ _ _ => N'); first | (with_unfolding_all refine range1_rows F' N' ?_; intro _ _ _ _ _ _ _ _ _) | (with_unfolding_all refine range2_rows F' N' ?_; intro _ _ _ _ _ _ _ _ _)))
local macro_rules | `(tactic| walk_at "pyIter ref") => `(tactic| (refine Mine.Stop.out ?_))
local macro_rules | `(tactic| walk_at "subscriptTail Name Slice ref ref") => `(tactic| ((with_reducible show wpAny _ _ (subscriptTail _ (Expr.Slice (some _) none (some _) _) _ _) _ _ _); refine Mine.Stop.out ?_))
local macro_rules | `(tactic| walk_at "call builtin:sum") => `(tactic| (k_here; (with_reducible show wpAny _ _ (call (Value.builtin "sum") [Value.ref _]) _ _ _); k_dflt (refine' list_sum (by rfl) (by k_asm) (by k_asm) (by k_mem) (by assumption) ?_; k_whole); intro h' tk' t' F' N'))
local macro_rules | `(tactic| walk_at "eval ListComp") => `(tactic| (refine Mine.Stop.out ?_))
local macro_rules | `(tactic| walk_at "binaryOp Pow int int") => `(tactic| (k_here; (with_reducible refine pow_int_small ?kb1 ?kb2 ?kb3 ?_); (case kb1 | kb2 => omega); (case kb3 => decide)))
local macro_rules | `(tactic| walk_at "binaryOp FloorDiv int int") => `(tactic| (k_here; (with_reducible show wpAny _ _ (binaryOp Operator.FloorDiv _ (Value.int (_ ^ _) _)) _ _ _); (with_reducible refine floordiv_int ?kbe ?_ (Or.inl (PyProof.noPylong_of_log2 ?kbp))); (case kbe => exact Int.ne_of_gt (pow_pos_of (by decide) _)); (case kbp => exact kbt_py (by omega))))
local macro_rules | `(tactic| walk_at "exec Assign") => `(tactic| ((with_reducible show wpAny _ _ (exec (Stmt.Assign [_] (Expr.ListComp _ [_, _] _ _) _) _) _ _ _); refine Mine.Stop.out ?_))
local macro_rules | `(tactic| walk_at "Src2") => `(tactic| (refine Mine.Stop.out ?_))
local macro_rules | `(tactic| walk_at "subscriptTail Name BinOp ref int") => `(tactic| (refine Mine.Stop.out ?_))
local macro_rules | `(tactic| walk_at "compareOp NotEq ref ref") => `(tactic| (refine Mine.Stop.out ?_))
local macro_rules | `(tactic| walk_at "compareOp Eq ref ref") => `(tactic| (refine Mine.Stop.out ?_))
local macro_rules | `(tactic| walk_at "call builtin:sorted") => `(tactic| (refine Mine.Stop.out ?_))
theorem law_holds : PySem.Challenge.rw_ph0018_01.Holds := by
  refine hd ?_
  k_go0
  all_goals try k_fold
  rename Fr _ _ _ _ => F0
  refine fr_cut [(Str.ofString "script", _)] F0 (List.forall_mem_cons.mpr ⟨rfl, fun _ h => nomatch h⟩) ?_
  clear F0
  intro u0 F0
  k_steps
  unfold Stop
  rename Fr _ _ _ _ => F1
  rename News _ _ _ _ => N1
  rename IsRange _ _ _ _ _ _ _ _ => hR
  rename_i rowA rvs _ hrI hrC hrL lrow _ oRow dRow startA _ lst _ oStart _ _ dStart _ _ _ _ _ _
  refine LCg.CompSrc.range (n := 5) rfl F1 N1 hR (by decide) (by decide) (by decide) ?_
  intro gg
  refine comp_same 5 (fun k ys => ∃ ns : List Int, ns.length = k ∧ IntsAre ys ns) ⟨[], rfl, .nil⟩ ?nstp ?nfin
  case nstp =>
    intro k v ys I oI C oC Dl m₂ h3 tk3 E3 hk hv hns hC hx F3 N3 off3 ne3
    refine Exists.elim hns ?_
    intro ns hq
    refine and2 hq ?_
    intro hnl hns
    clear hq
    revert hx
    apply int_elim hv
    intro tv hx
    clear F1 N1
    rw [Int.zero_add] at hx
    refine gen_post ?_
    intro Qn sn hQn
    k_steps
    unfold Stop
    rename Fr _ _ _ _ => F7
    rename News _ _ _ _ => N7
    k_dflt (refine' list_stride (ns := List.take 63 _) F7 N7 (News.isList N7 ?lm) hrI ?z ?_ ?s ?t)
    case lm => k_mem
    case z => omega
    case s => with_unfolding_all rfl
    case t => (intro _; with_unfolding_all rfl)
    intro Dz hz9 yz mz hiz F8 N8 lz
    k_steps
    rename Fr _ _ _ _ => F4
    rename News _ _ _ _ => N4
    refine hQn _ _ _ ?_
    exact cend F4 N4 off3 (fun p hp => .tail _ hp) trivial ⟨rfl, ns ++ [_], by rw [List.length_append, List.length_singleton, hnl], hns.append (.cons _ _ .nil)⟩
  case nfin =>
    intro ys hys
    refine Exists.elim hys ?_
    intro ns hq
    refine and2 hq ?_
    intro hnl hns
    clear hq
    unfold LCg.FinA
    intro Dn h3 tk3 F3 N3 off3
    dsimp only
    rename_i rowA rvs _ hrI hrC hrL lrow _ oRow dRow startA _ lst _ oStart _ _ dStart _ _ _ _ _ _ _ _ _ _ _ ys ns hnl hns Dn _ _ _ _ _
    clear hrI hrC hrL dRow dStart
    rename LCg.Off1 _ _ => offn
    dsimp only [LCg.Off1] at offn
    rename News _ _ _ _ => N0
    have hns2 := hns
    revert N0 hns2
    apply five_elim hns hnl
    intro na nb nc nd ne ta tb tc td te N0 hns2
    k_steps
    unfold Stop
    k_dflt (refine ListComp_CL (_F₀ := by k_asm) (by with_unfolding_all rfl) (by intro n; rfl) (by intro h; rfl) (by rfl) (by decide) (by rfl) ?_)
    k_steps
    rename Fr _ _ _ _ => F5
    rename News _ _ _ _ => N5
    refine CompSrcCL.mk (its := #[.int na ta, .int nb tb, .int nc tc, .int nd td]) (ka := 0) (fun i ys => StrsAre ys (([na, nb, nc, nd].take i).map rowOf)) rfl F5 N5 (.head _) (by show 4 ≤ sizeLine; decide) .nil ?ostep ?ofin
    case ostep =>
      intro i zs oI C oC D c oc h9 tk9 E' I hi hys hoc F9 N9 low9 lts9
      clear F5 N5
      refine cell_int (.cons na ta (.cons nb tb (.cons nc tc (.cons nd td .nil)))) hoc ?_
      intro x tx hoc hx
      k_steps
      unfold Stop
      k_dflt (refine LCg.ListComp_U (F₀ := by k_asm) (by with_unfolding_all rfl) (by decide) (by rfl) (by decide) (by rfl) ?_)
      k_steps
      unfold Stop
      rename Fr _ _ _ _ => F10
      rename News _ _ _ _ => N10
      rename IsRange _ _ _ _ _ _ _ _ => hR10
      refine LCg.CompSrc.range (n := 6) rfl F10 N10 hR10 (by decide) (by decide) (by decide) ?_
      intro gg
      refine comp_same 6 (fun j zs => StrsAre zs ((List.range j).map fun q => (⟨#[bitCh x q]⟩ : Str))) .nil ?istp ?ifin
      case istp =>
        intro j v zs I2 oI2 C2 oC2 D2 m₂ h11 tk11 E3 hj hv hzs hC2
        apply int_elim hv
        intro tv hx2 F11 N11 off11 ne11
        rw [Int.zero_add] at hx2
        clear F10 N10
        have hm := fmod2 (x.fdiv ((2 : Int) ^ ((j : Nat) : Int).toNat))
        refine gen_post ?_
        intro Qi si hQi
        k_steps
        refine hQi _ _ _ ?_
        exact cend F11 N11 off11 (fun p hp => hp) trivial ⟨rfl, signs_next hzs⟩
      case ifin =>
        intro zs2 hzs
        unfold LCg.FinE
        intro D2 h11 tk11 F11 N11 off11
        clear F10 N10
        k_steps
        unfold Stop
        rename Fr _ _ _ _ => F12
        rename News _ _ _ _ => N12
        refine join_list (ys := (List.range 6).map fun q => (⟨#[bitCh x q]⟩ : Str)) (News.isList N12 (.head _)) (by simpa using hzs) (join_six _) ?_
        intro t13 k13
        rw [six_join]
        k_steps
        exact stepC F12 (fun p hp => N12 p (.tail _ hp)) (rows_next hys hx)
    case ofin =>
      intro pA h9 tk9 pvs hpS F9 N9 low9
      clear F5 N5
      k_lt low9
      replace hpS : StrsAre pvs ([na, nb, nc, nd].map rowOf) := hpS
      have hpg := page_of (ns := [na, nb, nc, nd]) rfl
      generalize hpageE : [na, nb, nc, nd].map rowOf = page at hpS hpg
      k_steps
      unfold Stop
      rename Fr _ _ _ _ => F5
      rename News _ _ _ _ => N5
      rename Obj => oP
      rename (Obj.data oP = _) => dP
      rename Shared => s1
      rename_i lN _ _ lP _ hpageE hpS hpg h5
      obtain ⟨base, hbase⟩ : ∃ base : Led, base = [(pA, W.listOf pvs.toArray pvs.length), (Dn, W.listOf #[.int na ta, .int nb tb, .int nc tc, .int nd td, .int ne te] 5), ((s1.heap.objs.size + 1 + 1 + 1 : Nat), oP)] := ⟨_, rfl⟩
      have mb1 : (pA, W.listOf pvs.toArray pvs.length) ∈ base := by rw [hbase]; exact .head _
      have mb2 : (Dn, W.listOf #[.int na ta, .int nb tb, .int nc tc, .int nd td, .int ne te] 5) ∈ base := by rw [hbase]; exact .tail _ (.head _)
      have mb3 : ((s1.heap.objs.size + 1 + 1 + 1 : Nat), oP) ∈ base := by rw [hbase]; exact .tail _ (.tail _ (.head _))
      have off44 : Off 44 base := by rw [hbase]; exact List.forall_mem_cons.mpr ⟨neN (by dsimp only; omega), List.forall_mem_cons.mpr ⟨neN (by dsimp only; omega), List.forall_mem_cons.mpr ⟨neN (by dsimp only; omega), fun _ h => nomatch h⟩⟩⟩
      have off51 : Off 51 base := by rw [hbase]; exact List.forall_mem_cons.mpr ⟨neN (by dsimp only; omega), List.forall_mem_cons.mpr ⟨neN (by dsimp only; omega), List.forall_mem_cons.mpr ⟨neN (by dsimp only; omega), fun _ h => nomatch h⟩⟩⟩
      replace N5 : News _ _ _ ((44, tabObj #[]) :: (51, tabObj #[]) :: ([] ++ base)) := cb_drop N5 (by rw [hbase]; intro p hp; simp only [List.mem_cons, List.nil_append, List.not_mem_nil, or_false] at hp ⊢; rcases hp with h | h | h | h | h <;> simp [h])
      clear hbase
      k_dflt (refine Assign_ListComp_2 (_F₀ := by k_asm) (by rfl) (by with_unfolding_all rfl) (by with_unfolding_all rfl) (by decide) (by rfl) (by decide) (by rfl) (by rfl) (by decide) (by rfl) (by rfl) ?_)
      k_steps
      unfold Stop
      rename Fr _ _ _ _ => F6
      rename News _ _ _ _ => N6
      rename IsRange _ _ _ _ _ _ _ _ => hR6
      refine Src2.mk 4 6 (PgInv base) rfl F6 N6 hR6 (by decide) (by decide) (PgInv.start off44 off51) PgInv.len PgInv.line ?it2 ?stp ?fin
      case it2 =>
        intro i I oI C oC D ys nw m₂ h tk E' hi hI hC F7 N7
        clear F6 N6
        k_steps
        rename Fr _ _ _ _ => F9
        rename News _ _ _ _ => N9
        rename IsRange _ _ _ _ _ _ _ _ => hR9
        exact rangeAt F9 N9 hR9
      case stp =>
        intro i j I1 oI1 I2 oI2 C oC D ys nw m₂ t1 t2 h tk E' hi hj hI hC hx hy F7
        clear F6 N6 hR6
        apply PgInv.elim hI
        intro new ps hP hps hl hi4 hj6 o44 o51 N7 off7
        clear hI
        have mb1' : (pA, W.listOf pvs.toArray pvs.length) ∈ new ++ base := List.mem_append_right _ mb1
        have mb3' : ((s1.heap.objs.size + 1 + 1 + 1 : Nat), oP) ∈ new ++ base := List.mem_append_right _ mb3
        have six : (page.getD i Str.empty).length = 6 := hpg.six _ (by rw [List.getD_eq_getElem?_getD, List.getElem?_eq_getElem (by rw [hpg.four]; omega)]; exact List.getElem_mem _)
        have four := hpg.four
        generalize hrow : page.getD i Str.empty = row at six
        k_steps
        · rename Fr _ _ _ _ => F8
          rename News _ _ _ _ => N8
          rename (_ ∧ _) => lT
          rename_i T9 h9
          refine and7 lT ?_
          intro lT1 lT2 lT3 lT4 lT5 lT6 lT7
          refine step2 F8 (cb_drop N8 ?_) ?_ (PgInv.yes (t1 := t1) (t2 := t2) hP hps hl hi hj o44 o51 lT5 lT6)
          · walk_at "mine sub"
          · exact List.forall_mem_cons.mpr ⟨off7 _ (.head _), List.forall_mem_cons.mpr ⟨off7 _ (.tail _ (.head _)), List.forall_mem_cons.mpr ⟨⟨Nat.ne_of_gt lT1, Nat.ne_of_gt lT2, Nat.ne_of_gt lT3, Nat.ne_of_gt lT4⟩, fun p hp => off7 _ (.tail _ (.tail _ hp))⟩⟩⟩
        · rename Fr _ _ _ _ => F8
          rename News _ _ _ _ => N8
          exact step2 F8 N8 off7 (PgInv.no hP hps hl hi4 hj o44 o51)
      case fin =>
        rintro s2 ⟨gg2, rfl⟩ ys nw hI
        apply PgInv.elim hI
        intro new ps hP hps hl _ _ o44 o51
        clear hI
        unfold LCg.FinA
        intro dA h9 tk9 F9 N9 offd
        clear F6 N6 hR6
        dsimp only
        have mb1' : (pA, W.listOf pvs.toArray pvs.length) ∈ new ++ base := List.mem_append_right _ mb1
        have mb2' : (Dn, W.listOf #[.int na ta, .int nb tb, .int nc tc, .int nd td, .int ne te] 5) ∈ new ++ base := List.mem_append_right _ mb2
        have mb3' : ((s1.heap.objs.size + 1 + 1 + 1 : Nat), oP) ∈ new ++ base := List.mem_append_right _ mb3
        clear mb1 mb2 mb3 off44 off51
        generalize new ++ base = bs at *
        rename Fr _ _ _ _ => F5
        rename News _ _ _ _ => N5
        rename PairsAre _ _ _ => hP
        rename LCg.Off1 _ _ => offd
        rename (∀ p : Pl, p ∈ _ → p.1 < 4 ∧ p.2 < 6) => hps
        rename (List.length _ ≤ 6 * 4 + 0) => hl
        rename Off 44 _ => o44
        rename Off 51 _ => o51
        k_steps
        unfold Stop
        rename Fr _ _ _ _ => F6
        rename News _ _ _ _ => N6
        refine expr_cut (σ := CT) (fun c => (44, tabObj #[]) :: (51, tabObj #[]) :: (c.T, tup2 (.int (c.p.1 : Nat) c.ta) (.int (c.p.2 : Nat) c.tb)) :: bs) (fun c => .ref c.T) (fun c => c.p.1 < 4 ∧ c.p.2 < 6 ∧ c.T ≠ 44 ∧ c.T ≠ 51) F6 ?way ?on
        case way =>
          clear offd
          refine gen_post ?_
          intro Qy sy hQy
          refine wpAny_IfExp ?_
          cases ys with
          | nil =>
            k_steps
            rename Fr _ _ _ _ => F7
            rename News _ _ _ _ => N7
            rename (_ ∧ _) => lT
            rename_i T7 h7
            obtain ⟨ta7, tb7, N8⟩ : ∃ ta tb, News _ _ _ ((T7, tup2 (.int ((0 : Nat) : Int) ta) (.int ((0 : Nat) : Int) tb)) :: (dA, LCg.lst []) :: (44, tabObj #[]) :: (51, tabObj #[]) :: bs) := ⟨_, _, N7⟩
            refine hQy _ _ _ ?_
            refine eend (CT.mk T7 (0, 0) ta7 tb7) F7 N8 ?_ ⟨show 0 < 4 from by decide, show 0 < 6 from by decide, Nat.ne_of_gt lT.2.1, Nat.ne_of_gt lT.2.2.1⟩
            exact List.forall_mem_cons.mpr ⟨.tail _ (.tail _ (.head _)), List.forall_mem_cons.mpr ⟨.tail _ (.tail _ (.tail _ (.head _))), List.forall_mem_cons.mpr ⟨.head _, fun q hq => .tail _ (.tail _ (.tail _ (.tail _ hq)))⟩⟩⟩
          | cons v ys =>
            generalize hn : (v :: ys).length = n at hl
            have hn0 : 0 < n := by rw [← hn]; exact Nat.succ_pos _
            k_steps
            unfold Stop
            k_dflt (refine' pair_item N6 (.head _) hP ?pia ?pib ?pic ?_ ?pis)
            (case pia => exact Int.fmod_nonneg_of_pos _ (by omega)); (case pib => (rw [hn]; exact Int.fmod_lt_of_pos _ (by omega))); (case pic => exact Int.lt_trans (Int.fmod_lt_of_pos _ (by omega)) (by omega)); (case pis => with_unfolding_all rfl)
            intro T ta tb p hp mT
            refine hQy _ _ _ ?_
            refine eend (CT.mk T p ta tb) F6 N6 ?_ ⟨(hps p hp).1, (hps p hp).2, o44 _ mT, o51 _ mT⟩
            exact List.forall_mem_cons.mpr ⟨.tail _ (.head _), List.forall_mem_cons.mpr ⟨.tail _ (.tail _ (.head _)), List.forall_mem_cons.mpr ⟨.tail _ (.tail _ (.tail _ mT)), fun q hq => .tail _ (.tail _ (.tail _ hq))⟩⟩⟩
        case on =>
          rintro ⟨T, p, ta, tb⟩ h tk hd F7 N7
          refine and4 hd ?_
          intro d1 d2 d3 d4
          clear hd
          dsimp only at d1 d2 d3 d4 F7 N7
          clear F6 N6 offd hl hps hP
          k_steps
          unfold Stop
          rename Fr _ _ _ _ => F5
          rename News _ _ _ _ => N5
          rename World => w
          have e := place_text p.1 (by omega) p.2 (by omega)
          rw [e]
          clear e
          k_dflt (refine' use_filled (Ctr.led (filled_c w pA pvs pvs.length page p _ ((T, tup2 (.int (p.1 : Nat) ta) (.int (p.2 : Nat) tb)) :: bs) ?hp ?hS ?hg ?hst ?o1 ?o2) ?sub) ?k1 ?k2 ?k3 N5 ?k5 ?kK ?kd ?ku ?kc1 ?kc2 ?_)
          (case hp => exact .tail _ mb1'); (case hS => assumption); (case hg => assumption); (case hst => exact ⟨d1, d2⟩)
          (case o1 => exact List.forall_mem_cons.mpr ⟨d3, o44⟩); (case o2 => exact List.forall_mem_cons.mpr ⟨d4, o51⟩); (case sub => exact fun _ h => h)
          (case k1 => k_asm); (case k2 => k_asm); (case k3 => k_asm); (case k5 => k_asm); (case kK => exact rfl); (case kd => first | ktr_room | decide +kernel); (case ku => first | ktr_units | decide +kernel); (case kc1 => assumption); (case kc2 => assumption)
          intro T2 rA rv rn uA uv un rows runs more p44 p51 h7 tk7 F7 N7 hsub hrv huv hI m44 m51
          have mb1 := hsub _ (.tail _ mb1')
          have mb3 := hsub _ (.tail _ mb3')
          clear F5 N5 hsub o44 o51 mb1' mb2' mb3' d3 d4
          k_steps
          unfold Stop
          rename Fr _ _ _ _ => F8
          rename News _ _ _ _ => N8
          k_dflt (refine' use_reached (Ctr.led (reached_c w pA pvs pvs.length page p ta tb ((T2, tup2 (.ref rA) (.ref uA)) :: (rA, W.listOf rv.toArray rn) :: (uA, W.listOf uv.toArray un) :: more) ?hp ?hS ?hg ?hst) ?sub) ?k1 ?k2 ?k3 N8 ?k5 ?kK ?kd ?ku ?kc1 ?kc2 ?_)
          (case hp => exact .tail _ (.tail _ (.tail _ mb1))); (case hS => assumption); (case hg => assumption); (case hst => exact ⟨d1, d2⟩)
          (case sub => exact fun _ h => h)
          (case k1 => k_asm); (case k2 => k_asm); (case k3 => k_asm); (case k5 => k_asm); (case kK => exact rfl); (case kd => first | ktr_room | decide +kernel); (case ku => first | ktr_units | decide +kernel); (case kc1 => assumption); (case kc2 => assumption)
          intro qA qv qn due more2 h9 tk9 F9 N9 hsub hqv hD
          have mb1' := hsub _ (.tail _ (.tail _ (.tail _ mb1)))
          have mb3' := hsub _ (.tail _ (.tail _ (.tail _ mb3)))
          have m44' := hsub _ (.tail _ (.tail _ (.tail _ m44)))
          have m51' := hsub _ (.tail _ (.tail _ (.tail _ m51)))
          have mr' := hsub _ (.tail _ (.head _))
          have mu' := hsub _ (.tail _ (.tail _ (.head _)))
          have huv' := huv.mono (fun q hq => hsub q (.tail _ (.tail _ (.tail _ hq))))
          replace hqv : StrsAre qv rows := (filled_due ⟨d1, d2⟩ hI hD).symm ▸ hqv
          clear F8 N8 hsub mb1 mb3 m44 m51 huv hD
          k_steps
          unfold Stop
          rename Fr _ _ _ _ => F10
          rename News _ _ _ _ => N10
          refine ne_strs N10 (.tail _ mr') (.head _) hrv hqv (due_ok hpg hI) ?u1 ?_
          (case u1 => first | units_room | exact Nat.le_of_ble_eq_true rfl)
          k_steps
          unfold Stop
          refine sorted_runs F10 N10 (.tail _ mu') (huv'.mono (Sub.consL _ _)) (fun r hr => whole_small (inv_whole hpg hI hr)) hI.nodup (runs_few hpg hI) ?_
          intro D11 ws c11 h11 R' F11 N11 lD hws hperm hpw
          clear F10 N10
          k_steps
          unfold Stop
          rename Fr _ _ _ _ => F12
          rename News _ _ _ _ => N12
          k_dflt (refine' use_runs (Ctr.led (runs_c w qA qv qn rows ((D11, W.listOf ws.toArray c11) :: (qA, W.listOf qv.toArray qn) :: more2) ?hp ?hS ?h4 ?h6) ?sub) ?k1 ?k2 ?k3 N12 ?k5 ?kK ?kd ?ku ?kc1 ?kc2 ?_)
          (case hp => exact .tail _ (.head _)); (case hS => assumption); (case h4 => exact hI.four); (case h6 => exact hI.six)
          (case sub => exact fun _ h => h)
          (case k1 => k_asm); (case k2 => k_asm); (case k3 => k_asm); (case k5 => k_asm); (case kK => exact rfl); (case kd => first | ktr_room | decide +kernel); (case ku => first | ktr_units | decide +kernel); (case kc1 => assumption); (case kc2 => assumption)
          intro uA2 uv2 un2 R led13 h13 tk13 F13 N13 mu2 hsub2 huv2 hRI
          have eRR := runs_same hpg hI hRI hperm hpw
          rw [eRR] at hws
          have mD := hsub2 _ (.head _)
          have hws2 := hws.mono (fun q hq => hsub2 q (.tail _ hq))
          have mb1 := hsub2 _ (.tail _ (.tail _ mb1'))
          have mb3 := hsub2 _ (.tail _ (.tail _ mb3'))
          have m44 := hsub2 _ (.tail _ (.tail _ m44'))
          have m51 := hsub2 _ (.tail _ (.tail _ m51'))
          have mr := hsub2 _ (.tail _ (.tail _ mr'))
          clear F12 N12 hsub2 mb1' mb3' m44' m51' mr' mu' huv' hws hperm hpw lD
          k_steps
          unfold Stop
          rename Fr _ _ _ _ => F14
          rename News _ _ _ _ => N14
          refine ne_runs N14 mD mu2 hws2 huv2 ?u2 ?_
          (case u2 => first | units_room | exact Nat.le_of_ble_eq_true rfl)
          k_steps
          unfold Stop
          have jb : ∀ {l : List Str}, l.length = 4 → (∀ x ∈ l, x.length = 6) → (l.map (·.length)).sum + l.length * (Str.ofString "\n").length ≤ 16777216 := fun h4 h6 => by
            rw [text_sum h4 h6, h4, nl_len]; decide
          refine join_list (ys := page) (News.isList N14 mb1) (by simpa using hpS) (jb hpg.four hpg.six) ?_
          intro t15 k15
          rw [show Txt.join (Str.ofString "\n") page = textOf page from rfl]
          k_steps
          unfold Stop
          rename Fr _ _ _ _ => F16
          rename News _ _ _ _ => N16
          refine join_list (ys := rows) (News.isList N16 mr) (by simpa using hrv) (jb hI.four hI.six) ?_
          intro t17 k17
          rw [show Txt.join (Str.ofString "\n") rows = textOf rows from rfl]
          k_steps
          unfold Stop
          rename Fr _ _ _ _ => F18
          rename News _ _ _ _ => N18
          k_dflt (refine' use_str (replace_c w (textOf rows) _ _ _ led13 ?hl) ?k1 ?k2 ?k3 N18 ?k5 ?kK ?kd ?ku ?kc1 ?kc2 ?_)
          (case hl => (rw [text_len hI.four hI.six]; decide))
          (case k1 => k_asm); (case k2 => k_asm); (case k3 => k_asm); (case k5 => k_asm); (case kK => exact rfl); (case kd => first | ktr_room | decide +kernel); (case ku => first | ktr_units | decide +kernel); (case kc1 => assumption); (case kc2 => assumption)
          intro t19 h19 tk19 F19 N19
          rw [text_back hpg hI]
          k_steps
          unfold Stop
          k_dflt (refine' use_tup (splitdoc_c w (textOf page) _ _ ?hl ?hb) ?k1 ?k2 ?k3 N19 ?k5 ?kK ?kd ?ku ?kc1 ?kc2 ?_)
          (case hl => (rw [text_len hpg.four hpg.six]; decide)); (case hb => exact (text_split hpg).2)
          (case k1 => k_asm); (case k2 => k_asm); (case k3 => k_asm); (case k5 => k_asm); (case kK => exact rfl); (case kd => first | ktr_room | decide +kernel); (case ku => first | ktr_units | decide +kernel); (case kc1 => assumption); (case kc2 => assumption)
          intro T21 t21 u21 h21 tk21 F21 N21 low21
          rw [(text_split hpg).1] at N21
          k_steps
          unfold Stop
          rename Fr _ _ _ _ => F22
          rename News _ _ _ _ => N22
          refine eq_pair N22 (.tail _ (.head _)) (.head _) (show PyData.strOk (Str.ofString "") = true by decide +kernel) (text_ok hpg) ?u3 ?_
          (case u3 => first | units_room | exact Nat.le_of_ble_eq_true rfl)
          have m44' := List.mem_cons_of_mem (T21, tup2 (.str (Str.ofString "", textOf page).1 t21) (.str (Str.ofString "", textOf page).2 u21)) m44
          have m51' := List.mem_cons_of_mem (T21, tup2 (.str (Str.ofString "", textOf page).1 t21) (.str (Str.ofString "", textOf page).2 u21)) m51
          k_steps
end
end Mine
theorem PySem.Challenge.cw_ph0018_01_holds : PySem.Challenge.rw_ph0018_01.Holds :=
  Mine.law_holds
