import PyProof.Rows.All
import Wide.All
import OpenK.AllK
import Wide.FinOn
import Lean
import PySem.Challenge.RW_rw0020_01
open PySem PySem.W PyProof.Rows
set_option Elab.async false
set_option compiler.extract_closed false
namespace Mine
set_option maxRecDepth 100000 in
set_option maxHeartbeats 8000000 in
set_option synthInstance.maxSize 1 in
open_top hd for PySem.Challenge.rw_rw0020_01
open PyProof.Rows.LCg PySem.Calls
/-- a call of the text's own def, as a claim -/
abbrev Claim (w : World) (f : Addr) (news : List (Addr × Obj)) (vs : List Value) (dp' un' : Nat) (post : (h₀ : Heap) → (L : Addr) → (m : Str → Option Value) → (s : Shared) → (Q : Value → Shared → Prop) → Prop) : Prop :=
  ∀ (p : Program) (loose : List Str) (mean : ExcName → Option Value) (mg mb : Str → Option Value) (dp un : Nat) (gd : Option (List Code)) (cn : Str) (cs : Scope) (a : Addr) (ccd : Value) (cl : List (Str × Addr)) (outer : List Env) (A₀ : Around) (base h₀ : Heap) (L : Addr) (m : Str → Option Value) (s : Shared) (Q E : Value → Shared → Prop),
    Below A₀ base outer h₀ → Fr h₀ L s.heap m → (Mine.hd.heap_39 w.params).In h₀ → News h₀ L s.heap news → Top p loose mean mg mb h₀ → cs.kind = .function →
    dp + dp' < recursionLimit → un + un' < cLine → post h₀ L m s Q →
      wpAny (model PySem.Challenge.rw_rw0020_01.row.prog w) (ktrTop dp un gd cn cs L a ccd cl outer) (call (.ref f) vs) Q E s

theorem Claim.use {w : World} {f : Addr} {news : List (Addr × Obj)} {vs : List Value} {dp' un' : Nat} {post : (h₀ : Heap) → (L : Addr) → (m : Str → Option Value) → (s : Shared) → (Q : Value → Shared → Prop) → Prop} (C : Claim w f news vs dp' un' post)
    {p : Program} {loose : List Str} {mean : ExcName → Option Value} {mg mb : Str → Option Value} {dp un : Nat} {gd : Option (List Code)} {cn : Str} {cs : Scope} {a : Addr} {ccd : Value} {cl : List (Str × Addr)} {outer : List Env} {A₀ : Around} {base h₀ : Heap} {L : Addr} {m : Str → Option Value} {s : Shared} {Q E : Value → Shared → Prop}
    (B : Below A₀ base outer h₀) (F : Fr h₀ L s.heap m) (X : (Mine.hd.heap_39 w.params).In h₀) (N : News h₀ L s.heap news) (T : Top p loose mean mg mb h₀) (hk : cs.kind = .function)
    (hd : dp + dp' < recursionLimit) (hu : un + un' < cLine) (hp : post h₀ L m s Q) :
    wpAny (model PySem.Challenge.rw_rw0020_01.row.prog w) (ktrTop dp un gd cn cs L a ccd cl outer) (call (.ref f) vs) Q E s := C _ _ _ _ _ _ _ _ _ _ _ _ _ _ _ _ _ _ _ _ _ _ B F X N T hk hd hu hp

theorem Claim.go {w : World} {f : Addr} {news : List (Addr × Obj)} {vs : List Value} {dp' un' : Nat} {post : (h₀ : Heap) → (L : Addr) → (m : Str → Option Value) → (s : Shared) → (Q : Value → Shared → Prop) → Prop}
    {p : Program} {loose : List Str} {mean : ExcName → Option Value} {mg mb : Str → Option Value} {dp un : Nat} {gd : Option (List Code)} {cn : Str} {cs : Scope} {a : Addr} {ccd : Value} {cl : List (Str × Addr)} {outer : List Env} {A₀ : Around} {base h₀ : Heap} {L : Addr} {m : Str → Option Value} {s : Shared} {Q E : Value → Shared → Prop}
    (F : Fr h₀ L s.heap m) (N : News h₀ L s.heap news) (B : Below A₀ base outer h₀) (X : (Mine.hd.heap_39 w.params).In h₀) (T : Top p loose mean mg mb h₀) (hk : cs.kind = .function) (C : Claim w f news vs dp' un' post)
    (hd : dp + dp' < recursionLimit) (hu : un + un' < cLine) (hp : post h₀ L m s Q) :
    wpAny (model PySem.Challenge.rw_rw0020_01.row.prog w) (ktrTop dp un gd cn cs L a ccd cl outer) (call (.ref f) vs) Q E s := C.use B F X N T hk hd hu hp

/-- the same of the code, so that it may be met under a method object -/
abbrev ClaimC (w : World) (f : Addr) (news : List (Addr × Obj)) (vs : List Value) (dp' un' : Nat) (post : (h₀ : Heap) → (L : Addr) → (m : Str → Option Value) → (s : Shared) → (Q : Value → Shared → Prop) → Prop) : Prop :=
  ∀ (p : Program) (loose : List Str) (mean : ExcName → Option Value) (mg mb : Str → Option Value) (dp un : Nat) (gd : Option (List Code)) (cn : Str) (cs : Scope) (a : Addr) (ccd : Value) (cl : List (Str × Addr)) (outer : List Env) (A₀ : Around) (base h₀ : Heap) (L : Addr) (m : Str → Option Value) (s : Shared) (R : Result → Shared → Prop),
    Below A₀ base outer h₀ → Fr h₀ L s.heap m → (Mine.hd.heap_39 w.params).In h₀ → News h₀ L s.heap news → Top p loose mean mg mb h₀ → cs.kind = .function →
    dp + dp' < recursionLimit → un + un' < cLine → post h₀ L m s (fun v s' => R (.ok (.ret v)) s') →
      codeAny (model PySem.Challenge.rw_rw0020_01.row.prog w) (ktrTop dp un gd cn cs L a ccd cl outer) (.call (.ref f) ⟨vs, []⟩) R s
theorem ClaimC.toClaim {w : World} {f : Addr} {news : List (Addr × Obj)} {vs : List Value} {dp' un' : Nat} {post : (h₀ : Heap) → (L : Addr) → (m : Str → Option Value) → (s : Shared) → (Q : Value → Shared → Prop) → Prop} (C : ClaimC w f news vs dp' un' post) : Claim w f news vs dp' un' post := by
  intro p loose mean mg mb dp un gd cn cs a ccd cl outer A₀ base h₀ L m s Q E B F X N T hk hd hu hp
  exact wpAny_call (C _ _ _ _ _ _ _ _ _ _ _ _ _ _ _ _ _ _ _ _ _ B F X N T hk hd hu hp)

/-- a goal that the walk leaves to the hand -/
def Stop (P : Prop) : Prop := P
theorem stop_at {P : Prop} (h : Stop P) : P := h
theorem Stop.out {P : Prop} (h : P) : Stop P := h

/-- the addresses of a ledger lie below d -/
def Lts (d : Nat) : List Nat → Prop
  | [] => True
  | a :: r => @LT.lt Nat _ a d ∧ Lts d r
def addrs : List (Addr × Obj) → List Nat
  | [] => []
  | p :: r => p.1 :: addrs r
def nthA : List Nat → Nat → Option Nat
  | [], _ => none
  | a :: _, 0 => some a
  | _ :: r, n + 1 => nthA r n
theorem lts_of {d : Addr} : ∀ {l : List (Addr × Obj)}, (∀ p ∈ l, p.1 < d) → Lts d (addrs l)
  | [], _ => trivial
  | p :: _, h => ⟨h p (.head _), lts_of fun q hq => h q (.tail _ hq)⟩
theorem lts_all {d : Addr} : ∀ {l : List (Addr × Obj)}, AllLt d l → Lts d (addrs l)
  | [], _ => trivial
  | _ :: _, h => ⟨h.1, lts_all h.2⟩
theorem lts_lt {d a : Nat} : ∀ {as : List Nat} (_ : Lts d as) (i : Nat) (_ : some a = nthA as i), @LT.lt Nat _ a d
  | [], _, _, e => nomatch e
  | _ :: _, h, 0, e => by cases e; exact h.1
  | _ :: _, h, n + 1, e => lts_lt h.2 n e
theorem ltA {d a : Nat} {as : List Nat} (h : Lts d as) (i : Nat) (e : some a = nthA as i) : a ≠ d := Nat.ne_of_lt (lts_lt h i e)
theorem gtA {d a : Nat} {as : List Nat} (h : Lts d as) (i : Nat) (e : some a = nthA as i) : d ≠ a := Nat.ne_of_gt (lts_lt h i e)
theorem lts_drop {d : Nat} : ∀ {as : List Nat} (k : Nat), Lts d as → Lts d (as.drop k)
  | _, 0, h => h
  | [], _ + 1, _ => trivial
  | _ :: _, k + 1, h => lts_drop k h.2
theorem lts_mem {d : Nat} : ∀ {l : List (Addr × Obj)}, Lts d (addrs l) → ∀ p ∈ l, @LT.lt Nat _ p.1 d
  | [], _, _, hp => nomatch hp
  | _ :: _, h, _, .head _ => h.1
  | _ :: _, h, _, .tail _ hp => lts_mem h.2 _ hp
theorem allA {d : Addr} {as : List Nat} {l : List (Addr × Obj)} (h : Lts d as) (k : Nat) (e : addrs l = as.drop k) : ∀ p ∈ l, p.1 ≠ d :=
  fun p hp => Nat.ne_of_lt (lts_mem (e.symm ▸ lts_drop k h) p hp)
theorem ltA1 {d a : Nat} {as : List Nat} (h : Lts d as) (i : Nat) (e : some a = nthA as i) : a ≠ d + 1 := by have := lts_lt h i e; omega
theorem ltA2 {d a : Nat} {as : List Nat} (h : Lts d as) (i : Nat) (e : some a = nthA as i) : a ≠ d + 1 + 1 := by have := lts_lt h i e; omega
theorem ltA3 {d a : Nat} {as : List Nat} (h : Lts d as) (i : Nat) (e : some a = nthA as i) : a ≠ d + 1 + 1 + 1 := by have := lts_lt h i e; omega
theorem allA1 {d : Addr} {as : List Nat} {l : List (Addr × Obj)} (h : Lts d as) (k : Nat) (e : addrs l = as.drop k) : ∀ p ∈ l, p.1 ≠ d + 1 :=
  fun p hp => Nat.ne_of_lt (Nat.lt_succ_of_lt (lts_mem (e.symm ▸ lts_drop k h) p hp))
theorem allA2 {d : Addr} {as : List Nat} {l : List (Addr × Obj)} (h : Lts d as) (k : Nat) (e : addrs l = as.drop k) : ∀ p ∈ l, p.1 ≠ d + 1 + 1 :=
  fun p hp => Nat.ne_of_lt (Nat.lt_succ_of_lt (Nat.lt_succ_of_lt (lts_mem (e.symm ▸ lts_drop k h) p hp)))
theorem allA3 {d : Addr} {as : List Nat} {l : List (Addr × Obj)} (h : Lts d as) (k : Nat) (e : addrs l = as.drop k) : ∀ p ∈ l, p.1 ≠ d + 1 + 1 + 1 :=
  fun p hp => Nat.ne_of_lt (Nat.lt_succ_of_lt (Nat.lt_succ_of_lt (Nat.lt_succ_of_lt (lts_mem (e.symm ▸ lts_drop k h) p hp))))
/-- a falling row of addresses -/
def Falls : List Nat → Prop
  | [] => True
  | a :: r => Lts a r ∧ Falls r
theorem falls_apart {x y : Nat} : ∀ {as : List Nat} (_ : Falls as) (i j : Nat) (_ : some x = nthA as i) (_ : some y = nthA as j) (_ : Nat.beq i j = false), x ≠ y
  | [], _, _, _, e, _, _ => nomatch e
  | _ :: _, _, 0, 0, _, _, n => nomatch n
  | _ :: _, h, 0, j + 1, e, e', _ => by cases e; exact gtA h.1 j e'
  | _ :: _, h, i + 1, 0, e, e', _ => by cases e'; exact ltA h.1 i e
  | _ :: _, h, i + 1, j + 1, e, e', n => falls_apart h.2 i j e e' n
def Adj : Nat → List Nat → Prop
  | _, [] => True
  | a, b :: r => @LT.lt Nat _ b a ∧ Adj b r
theorem adj_lts : ∀ {r : List Nat} {a c : Nat}, Adj a r → a ≤ c → Lts c r
  | [], _, _, _, _ => trivial
  | _ :: _, _, _, h, hc => ⟨Nat.lt_of_lt_of_le h.1 hc, adj_lts h.2 (Nat.le_of_lt (Nat.lt_of_lt_of_le h.1 hc))⟩
theorem falls_adj : ∀ {r : List Nat} {a : Nat}, Adj a r → Falls (a :: r)
  | [], _, _ => ⟨trivial, trivial⟩
  | b :: r, a, h => ⟨adj_lts h (Nat.le_refl _), falls_adj h.2⟩
/-- the addresses of a ledger are not d -/
def Nts (d : Nat) : List Nat → Prop
  | [] => True
  | a :: r => @Ne Nat a d ∧ Nts d r
theorem nts_of {D : Addr} : ∀ {l : List (Addr × Obj)}, LCg.Off1 D l → Nts D (addrs l)
  | [], _ => trivial
  | _ :: _, h => ⟨h.1, nts_of h.2⟩
theorem nts3 {I C D : Addr} : ∀ {l : List (Addr × Obj)}, LCg.Off3 I C D l → Nts I (addrs l) ∧ Nts C (addrs l) ∧ Nts D (addrs l)
  | [], _ => ⟨trivial, trivial, trivial⟩
  | _ :: _, h => ⟨⟨h.1.1, (nts3 h.2).1⟩, ⟨h.1.2.1, (nts3 h.2).2.1⟩, ⟨h.1.2.2, (nts3 h.2).2.2⟩⟩
theorem nt_ne {d a : Nat} : ∀ {as : List Nat} (_ : Nts d as) (i : Nat) (_ : some a = nthA as i), a ≠ d
  | [], _, _, e => nomatch e
  | _ :: _, h, 0, e => by cases e; exact h.1
  | _ :: _, h, n + 1, e => nt_ne h.2 n e
theorem nt_en {d a : Nat} {as : List Nat} (h : Nts d as) (i : Nat) (e : some a = nthA as i) : d ≠ a := Ne.symm (nt_ne h i e)
theorem nts_drop {d : Nat} : ∀ {as : List Nat} (k : Nat), Nts d as → Nts d (as.drop k)
  | _, 0, h => h
  | [], _ + 1, _ => trivial
  | _ :: _, k + 1, h => nts_drop k h.2
theorem nts_mem {d : Nat} : ∀ {l : List (Addr × Obj)}, Nts d (addrs l) → ∀ p ∈ l, @Ne Nat p.1 d
  | [], _, _, hp => nomatch hp
  | _ :: _, h, _, .head _ => h.1
  | _ :: _, h, _, .tail _ hp => nts_mem h.2 _ hp
theorem allN {d : Addr} {as : List Nat} {l : List (Addr × Obj)} (h : Nts d as) (k : Nat) (e : addrs l = as.drop k) : ∀ p ∈ l, p.1 ≠ d :=
  nts_mem (e.symm ▸ nts_drop k h)
theorem allCons {a b : Addr} {o : Obj} {r : List (Addr × Obj)} (h : b ≠ a) (k : ∀ p ∈ r, p.1 ≠ a) : ∀ p ∈ (b, o) :: r, p.1 ≠ a := List.forall_mem_cons.mpr ⟨h, k⟩
theorem updTail {d b : Addr} {o o' x : Obj} {r r' : List (Addr × Obj)} (h : b ≠ d) (k : Upd d o o' r r') : Upd d o o' ((b, x) :: r) ((b, x) :: r') := .tail h k
theorem updFTail {d b : Addr} {o x : Obj} {r : List (Addr × Obj)} {g : Obj → List (Addr × Obj)} (h : b ≠ d) (k : UpdF d o r g) : UpdF d o ((b, x) :: r) (fun o' => (b, x) :: g o') := .tail h k
theorem stop_call {M : Model} {A : Around} {f : Addr} {vs : List Value} {kw : List (Str × Value)} {Q E : Value → Shared → Prop} {s : Shared} (_ : [113, 118, 92, 123, 128, 135, 57].elem f = true) (h : Stop (wpAny M A (call (.ref f) vs kw) Q E s)) : wpAny M A (call (.ref f) vs kw) Q E s := h
theorem tok_gen {α : Type} {M : Model} {A : Around} {c : Sem α} {Q : α → Shared → Prop} {E : Value → Shared → Prop} {h : Heap} {g : Array GenState} {d : Drawn} {t : Nat} {o : OsState} (s : Shared) (_ : g = s.gens) (_ : d = s.drawn) (_ : o = s.os)
    (k : ∀ t, wpAny M A c Q E { s with heap := h, toks := t }) : wpAny M A c Q E ⟨h, g, d, t, o⟩ := by subst_vars; exact k t
theorem allLt_mem {d : Addr} {l : List (Addr × Obj)} (h : AllLt d l) (p : Addr × Obj) (hp : p ∈ l) : @LT.lt Nat _ p.1 d := by
  induction l with
  | nil => cases hp
  | cons q r ih =>
    have h' : @LT.lt Nat _ q.1 d ∧ AllLt d r := h
    cases hp with
    | head => exact h'.1
    | tail _ hp => exact ih h'.2 hp
def ovd (u m₀ : Str → Option Value) : List Str → Str → Option Value
  | [], z => m₀ z
  | d :: ds, z => if z = d then u z else ovd u m₀ ds z
def ovl (u m₀ : Str → Option Value) : List (Str × Value) → List Str → Str → Option Value
  | [], d, z => ovd u m₀ d z
  | (a, v) :: r, d, z => if z = a then some v else ovl u m₀ r d z
def Fixes (m : Str → Option Value) : List (Str × Value) → Prop
  | [] => True
  | (a, v) :: r => m a = some v ∧ Fixes m r
def Kept (names : List Str) (m₀ m : Str → Option Value) : Prop := ∀ z, z ∉ names → m z = m₀ z
theorem Kept.refl {names : List Str} {m : Str → Option Value} : Kept names m m := fun _ _ => rfl
theorem Kept.trans {names : List Str} {m m' m'' : Str → Option Value} (a : Kept names m m') (b : Kept names m' m'') : Kept names m m'' := fun z h => (b z h).trans (a z h)
theorem ovd_at {m m₀ : Str → Option Value} {z : Str} : ∀ {d : List Str}, (z ∉ d → m z = m₀ z) → m z = ovd m m₀ d z
  | [], k => k (by simp)
  | a :: ds, k => by
    simp only [ovd]
    by_cases h : z = a
    · rw [if_pos h]
    · rw [if_neg h]; exact ovd_at fun q => k (by simpa [h] using q)
theorem ovl_at {m m₀ : Str → Option Value} {z : Str} {d : List Str} : ∀ {fx : List (Str × Value)}, Fixes m fx → (z ∉ fx.map (·.1) ++ d → m z = m₀ z) → m z = ovl m m₀ fx d z
  | [], _, k => ovd_at (by simpa using k)
  | (a, v) :: r, f, k => by
    simp only [ovl]
    by_cases h : z = a
    · rw [if_pos h, h, f.1]
    · rw [if_neg h]; exact ovl_at f.2 fun q => k (by simpa [h] using q)
theorem ovl_of {m m₀ : Str → Option Value} {fx : List (Str × Value)} {d : List Str} (f : Fixes m fx) (k : Kept (fx.map (·.1) ++ d) m₀ m) : m = ovl m m₀ fx d :=
  funext fun z => ovl_at f (k z)

/-- what a turn of a loop leaves -/
def TurnM (Q : Flow → Shared → Prop) (G : Shared → Prop) (f : Flow) (s' : Shared) : Prop := match f with
  | .ret v => Q (.ret v) s'
  | .brk => Q .next s'
  | _ => G s'
def GoesOn {σ : Type} (h₀ : Heap) (L : Addr) (s : Shared) (x : Str) (fix : σ → List (Str × Value)) (drop : List Str) (m₀ : Str → Option Value) (led : σ → List (Addr × Obj)) (it : Addr × Obj) (Inv : σ → Prop) (s' : Shared) : Prop :=
  ∃ st h' tk' m', s' = { s with heap := h', toks := tk' } ∧ Inv st ∧ Fr h₀ L h' m' ∧ Fixes m' (fix st) ∧ Kept (x :: (fix st).map (·.1) ++ drop) m₀ m' ∧ News h₀ L h' (it :: led st)

theorem goes_on {σ : Type} {h₀ : Heap} {L : Addr} {s : Shared} {x : Str} {fix : σ → List (Str × Value)} {drop : List Str} {m₀ : Str → Option Value} {led : σ → List (Addr × Obj)} {it : Addr × Obj} {Inv : σ → Prop} {s' : Shared}
    (st : σ) (h' : Heap) (tk' : Nat) (m' : Str → Option Value) (e : s' = { s with heap := h', toks := tk' }) (i : Inv st) (F : Fr h₀ L h' m') (fx : Fixes m' (fix st)) (kp : Kept (x :: (fix st).map (·.1) ++ drop) m₀ m') (N : News h₀ L h' (it :: led st)) :
    GoesOn h₀ L s x fix drop m₀ led it Inv s' := ⟨st, h', tk', m', e, i, F, fx, kp, N⟩
section
variable {prog : Program} {w : World} {A : Around} {E : Value → Shared → Prop} {s : Shared} {env : Env} {h₀ : Heap} {x : Str} {px : Pos} {body orelse : List Stmt} {Q : Flow → Shared → Prop}

theorem for_walk {σ : Type} {I : Addr} {fp : List Addr} {n : Nat} {P : Nat → Value → Prop} {St : Nat → Heap → Prop} {S : List (Addr × Obj) → Prop} {m₀ : Str → Option Value}
    (W : Walks prog w A I fp [I] n P St) (hIo : ∀ i h, St i h → ∃ o, h.get? I = some o)
    (hSt : ∀ i h h' o nw, St i h → h.get? I = some o → h'.get? I = some o → (∀ b o, h₀.get? b = some o → h'.get? b = some o) → News h₀ env.locals h' nw → S nw → St i h')
    (fix : σ → List (Str × Value)) (drop : List Str) (led : σ → List (Addr × Obj)) (Inv : Nat → σ → Prop)
    (hadr : ∀ st st', (led st).map (·.1) = (led st').map (·.1)) (hS : ∀ i st, Inv i st → S (led st)) (st₀ : σ) (h0 : Inv 0 st₀)
    (hst : St 0 s.heap) (F : Fr h₀ env.locals s.heap m₀) (N : News h₀ env.locals s.heap (led st₀)) (hfix : Fixes m₀ (fix st₀)) (hfp : env.locals ∉ fp) (hI₀ : h₀.get? I = none) (hIl : ∀ p ∈ led st₀, p.1 < I)
    (hx : env.kindOf x = some .local) (hp : (env.scope.kind == .class || (env.scope.kind == .module && env.locals != env.globals)) = false)
    (turn : ∀ i v st o u h tk, i < n → P i v → Inv i st → (∀ p ∈ led st, p.1 < I) → Fr h₀ env.locals h (fun y => if y = x then some v else ovl u m₀ (fix st) drop y) → News h₀ env.locals h ((I, o) :: led st) →
      wpAny (model prog w) A (execs body env) (TurnM Q (GoesOn h₀ env.locals s x fix drop m₀ led (I, o) (Inv (i + 1)))) E { s with heap := h, toks := tk })
    (done : ∀ st u h tk, Inv n st → Fr h₀ env.locals h (fun y => if y = x then u y else ovl u m₀ (fix st) drop y) → News h₀ env.locals h (led st) → wpAny (model prog w) A (execs orelse env) Q E { s with heap := h, toks := tk })
    (hE : PassesOwn (model prog w) A env E := by passes_own) :
    codeAny (model prog w) A (.forLoop (.Name x px) (.ref I) body orelse env) (fun r s' => match r with | .ok f => Q f s' | .error e => cameBackBy (model prog w) A env E e s') s := by
  have hIf : I ∈ fp := W.sub I (List.mem_singleton.mpr rfl)
  have hIL : env.locals ≠ I := fun e => hfp (e ▸ hIf)
  have offs : ∀ st, ∀ p ∈ led st, p.1 < I := fun st p hp => by
    have h1 : p.1 ∈ (led st).map (·.1) := List.mem_map_of_mem hp
    rw [hadr st st₀] at h1
    obtain ⟨q, hq, e⟩ := List.mem_map.mp h1
    have := hIl q hq
    rw [e] at this; exact this
  have mov : ∀ {fx : List (Str × Value)} {m : Str → Option Value} {v : Str → Option Value}, Fixes m fx → Kept (x :: fx.map (·.1) ++ drop) m₀ m → (fun y => if y = x then v y else m y) = (fun y => if y = x then v y else ovl m m₀ fx drop y) := by
    intro fx m v f k
    funext y
    by_cases h : y = x
    · rw [if_pos h, if_pos h]
    · rw [if_neg h, if_neg h]; exact ovl_at f fun q => k y (by simpa [h] using q)
  refine codeAny_forLoop
    (fun k s' => ∃ st h' tk' m' i, s' = { s with heap := h', toks := tk' } ∧ St i h' ∧ Inv i st ∧ Fr h₀ env.locals h' m' ∧ Fixes m' (fix st) ∧ Kept (x :: (fix st).map (·.1) ++ drop) m₀ m' ∧ News h₀ env.locals h' (led st) ∧ i ≤ n ∧ k = n + 1 - i) ?_ (n + 1)
    ⟨st₀, s.heap, s.toks, m₀, 0, rfl, hst, h0, F, hfix, Kept.refl, N, Nat.zero_le _, rfl⟩
  rintro k s' ⟨st, h', tk', m', i, rfl, hst', hinv, F', hfx, hkp, N', hi, rfl⟩
  have off := offs st
  by_cases hlt : i < n
  · refine W.item i _ _ _ hlt hst' fun v h₁ tk₁ hP hst₁ hk₁ => ?_
    have F₁ : Fr h₀ env.locals h₁ m' := fr_but F' hk₁ hIL hI₀
    have N₁ : News h₀ env.locals h₁ (led st) := news_but N' hk₁ fun p hp => Nat.ne_of_lt (off p hp)
    refine wpAny_assign_Name (wpAny_storeName_local hx F₁.ns (fun h₂ hn₂ hs₂ => ?_) hp)
    have F₂ := F₁.set hn₂ hs₂
    have hst₂ : St (i + 1) h₂ := W.frame _ _ _ hst₁ fun b hb o e => (hs₂.2 b fun q => hfp (q ▸ hb)).trans e
    obtain ⟨oI, heI⟩ := hIo _ _ hst₂
    rw [mov (v := fun _ => some v) hfx hkp] at F₂
    refine wpAny_mono (wpAny_passesOwn hE (turn i v st oI m' h₂ _ hlt hP hinv off F₂ fun p hp => ?_)) (fun f s₃ h₃ => ?_) fun _ _ e => e
    · rcases List.mem_cons.mp hp with rfl | hp
      · exact ⟨heI, Ne.symm hIL, hI₀⟩
      · exact (N₁.set hs₂) p hp
    · have fin : GoesOn h₀ env.locals s x fix drop m₀ led (I, oI) (Inv (i + 1)) s₃ → ∃ m, m < n + 1 - i ∧ ∃ st h' tk' m' j, s₃ = { s with heap := h', toks := tk' } ∧ St j h' ∧ Inv j st ∧ Fr h₀ env.locals h' m' ∧ Fixes m' (fix st) ∧ Kept (x :: (fix st).map (·.1) ++ drop) m₀ m' ∧ News h₀ env.locals h' (led st) ∧ j ≤ n ∧ m = n + 1 - j := by
        rintro ⟨st', h₄, tk₄, m₄, rfl, inv₄, F₄, fx₄, kp₄, N₄⟩
        have N₄' : News h₀ env.locals h₄ (led st') := fun p hp => N₄ p (.tail _ hp)
        exact ⟨n + 1 - (i + 1), by omega, st', h₄, tk₄, m₄, i + 1, rfl, hSt _ _ _ _ _ hst₂ heI (N₄ _ (.head _)).1 F₄.keep N₄' (hS _ _ inv₄), inv₄, F₄, fx₄, kp₄, N₄', hlt, rfl⟩
      cases f with
      | ret v => exact h₃
      | brk => exact h₃
      | next => exact fin h₃
      | cont => exact fin h₃
  · obtain rfl : i = n := by omega
    refine W.done _ _ _ hst' fun h₁ tk₁ hk₁ => ?_
    have F₁ : Fr h₀ env.locals h₁ m' := fr_but F' hk₁ hIL hI₀
    have N₁ : News h₀ env.locals h₁ (led st) := news_but N' hk₁ fun p hp => Nat.ne_of_lt (off p hp)
    refine wpAny_passesOwn hE (done st m' h₁ tk₁ hinv ?_ N₁)
    rw [← mov (v := m') hfx hkp]
    have e : (fun y => if y = x then m' y else m' y) = m' := funext fun y => by by_cases h : y = x <;> simp [h]
    rw [e]; exact F₁

def ForK (prog : Program) (w : World) (A : Around) (x : Str) (px : Pos) (body orelse : List Stmt) (env : Env) (Q : Flow → Shared → Prop) (E : Value → Shared → Prop) (it : Value) (s₂ : Shared) : Prop :=
  codeAny (model prog w) A (.forLoop (.Name x px) it body orelse env) (fun r s' => match r with | .ok f => Q f s' | .error e => cameBackBy (model prog w) A env E e s') s₂

theorem for_eval {iter : Expr} {pos : Pos}
    (h : wpAny (model prog w) A (eval iter env) (fun xv s₁ => Stop (wpAny (model prog w) A (pyIter xv) (ForK prog w A x px body orelse env Q E) E s₁)) E s)
    (hs : ∀ x, foldedSetIterable iter env x = pure x := by intro _; rfl) :
    wpAny (model prog w) A (exec (.For (.Name x px) iter body orelse pos) env) Q E s :=
  wpAny_For (wpAny_mono h (fun _ _ h₁ => h₁) fun _ _ e => e) hs

theorem for_list {σ : Type} {l : Addr} {its : Array Value} {m₀ : Str → Option Value}
    (fix : σ → List (Str × Value)) (drop : List Str) (led : σ → List (Addr × Obj)) (Inv : Nat → σ → Prop) (st₀ : σ)
    (hadr : ∀ st st', (led st).map (·.1) = (led st').map (·.1)) (hS : ∀ i st, Inv i st → SrcAt h₀ l its (led st)) (h0 : Inv 0 st₀)
    (hh : A.handled = none) (F : Fr h₀ env.locals s.heap m₀) (N : News h₀ env.locals s.heap (led st₀)) (hfix : Fixes m₀ (fix st₀)) (hlL : l ≠ env.locals)
    (hx : env.kindOf x = some .local) (hp : (env.scope.kind == .class || (env.scope.kind == .module && env.locals != env.globals)) = false)
    (turn : ∀ i v st I o u h tk, its[i]? = some v → Inv i st → (∀ p ∈ led st, p.1 < I) → Fr h₀ env.locals h (fun y => if y = x then some v else ovl u m₀ (fix st) drop y) → News h₀ env.locals h ((I, o) :: led st) →
      wpAny (model prog w) A (execs body env) (TurnM Q (GoesOn h₀ env.locals s x fix drop m₀ led (I, o) (Inv (i + 1)))) E { s with heap := h, toks := tk })
    (done : ∀ st u h tk, Inv its.size st → Fr h₀ env.locals h (fun y => if y = x then u y else ovl u m₀ (fix st) drop y) → News h₀ env.locals h (led st) → wpAny (model prog w) A (execs orelse env) Q E { s with heap := h, toks := tk })
    (hE : PassesOwn (model prog w) A env E := by passes_own) :
    wpAny (model prog w) A (pyIter (.ref l)) (ForK prog w A x px body orelse env Q E) E s := by
  have hl := (hS _ _ h0).list F.keep N
  have hlt : l < s.heap.objs.size := by obtain ⟨_, e, _⟩ := hl; exact Heap.lt_size e
  refine wpAny_pyIter_list hl ?_
  have up : ∀ b o, s.heap.get? b = some o → (s.heap.push { cls := .type "list_iterator", data := .fields #[.ref l, .int 0 0] }).get? b = some o := fun b o e => Heap.get?_push_of_some _ e
  refine for_walk (s := { s with heap := s.heap.push { cls := .type "list_iterator", data := .fields #[.ref l, .int 0 0] } }) (Walks.list hh s.heap.objs.size l (Nat.ne_of_lt hlt) its) (fun i h st => by obtain ⟨o, e, _⟩ := st.1; exact ⟨o, e⟩) list_st fix drop led Inv hadr hS st₀ h0
    ⟨⟨_, Heap.get?_push_size _ rfl, rfl, rfl⟩, hl.push _⟩ (F.keeps up) (N.grown up) hfix ?_ (next_is_new F) (fun p hp => Heap.lt_size (N p hp).1) hx hp ?_ ?_ hE
  · intro hm
    rcases List.mem_cons.mp hm with e | hm
    · exact absurd F.ns.lt (e ▸ Nat.lt_irrefl _)
    · exact hlL (List.mem_singleton.mp hm).symm
  · intro i v st o u h tk hi hP hinv off F' N'
    exact turn i v st _ o u h tk hP hinv off F' N'
  · intro st u h tk hinv F' N'
    exact done st u h tk hinv F' N'

theorem for_range {σ : Type} {r : Addr} {a b : Int} {t t' t'' : Tok} {n : Nat} {m₀ : Str → Option Value}
    (fix : σ → List (Str × Value)) (drop : List Str) (led : σ → List (Addr × Obj)) (Inv : Nat → σ → Prop) (st₀ : σ)
    (hr : IsRange s.heap r a b 1 t t' t'') (hsm : Builtin.Range.small a b 1 = true) (hn : Builtin.Range.rangeSize a b 1 = ((n : Nat) : Int))
    (hadr : ∀ st st', (led st).map (·.1) = (led st').map (·.1)) (h0 : Inv 0 st₀)
    (hh : A.handled = none) (F : Fr h₀ env.locals s.heap m₀) (N : News h₀ env.locals s.heap (led st₀)) (hfix : Fixes m₀ (fix st₀))
    (hx : env.kindOf x = some .local) (hp : (env.scope.kind == .class || (env.scope.kind == .module && env.locals != env.globals)) = false)
    (turn : ∀ i tv st I o u h tk, i < n → Inv i st → (∀ p ∈ led st, p.1 < I) → Fr h₀ env.locals h (fun y => if y = x then some (.int (a + (i : Int)) tv) else ovl u m₀ (fix st) drop y) → News h₀ env.locals h ((I, o) :: led st) →
      wpAny (model prog w) A (execs body env) (TurnM Q (GoesOn h₀ env.locals s x fix drop m₀ led (I, o) (Inv (i + 1)))) E { s with heap := h, toks := tk })
    (done : ∀ st u h tk, Inv n st → Fr h₀ env.locals h (fun y => if y = x then u y else ovl u m₀ (fix st) drop y) → News h₀ env.locals h (led st) → wpAny (model prog w) A (execs orelse env) Q E { s with heap := h, toks := tk })
    (hE : PassesOwn (model prog w) A env E := by passes_own) :
    wpAny (model prog w) A (pyIter (.ref r)) (ForK prog w A x px body orelse env Q E) E s := by
  refine wpAny_pyIter_range hr hsm ?_
  refine for_walk (s := { s with heap := s.heap.push { cls := .type "range_iterator", data := .fields #[rawInt a, rawInt (Builtin.Range.rangeSize a b 1), rawInt 1] } }) (S := fun _ => True)
    (range_walks hh (I := s.heap.objs.size) a n) (fun i h st => ⟨_, st⟩) range_st fix drop led Inv hadr (fun _ _ _ => trivial) st₀ h0
    (by show IsRangeIter _ _ _ _ _; rw [hn]; simpa using Heap.get?_push_size _ rfl) (F.keeps fun _ _ e => Heap.get?_push_of_some _ e) (N.grown fun _ _ e => Heap.get?_push_of_some _ e) hfix ?_ (next_is_new F) (fun p hp => Heap.lt_size (N p hp).1) hx hp ?_ ?_ hE
  · intro hm
    have e := List.mem_singleton.mp hm
    exact absurd F.ns.lt (e ▸ Nat.lt_irrefl _)
  · rintro i v st o u h tk hi ⟨tv, rfl⟩ hinv off F' N'
    exact turn i tv st _ o u h tk hi hinv off F' N'
  · intro st u h tk hinv F' N'
    exact done st u h tk hinv F' N'

theorem for_str {σ : Type} {y : Str} {t : Tok} {m₀ : Str → Option Value}
    (fix : σ → List (Str × Value)) (drop : List Str) (led : σ → List (Addr × Obj)) (Inv : Nat → σ → Prop) (st₀ : σ)
    (hadr : ∀ st st', (led st).map (·.1) = (led st').map (·.1)) (h0 : Inv 0 st₀)
    (hh : A.handled = none) (F : Fr h₀ env.locals s.heap m₀) (N : News h₀ env.locals s.heap (led st₀)) (hfix : Fixes m₀ (fix st₀))
    (hx : env.kindOf x = some .local) (hp : (env.scope.kind == .class || (env.scope.kind == .module && env.locals != env.globals)) = false)
    (turn : ∀ i c tv st I o u h tk, y.cps[i]? = some c → Inv i st → (∀ p ∈ led st, p.1 < I) → Fr h₀ env.locals h (fun z => if z = x then some (.str ⟨#[c]⟩ tv) else ovl u m₀ (fix st) drop z) → News h₀ env.locals h ((I, o) :: led st) →
      wpAny (model prog w) A (execs body env) (TurnM Q (GoesOn h₀ env.locals s x fix drop m₀ led (I, o) (Inv (i + 1)))) E { s with heap := h, toks := tk })
    (done : ∀ st u h tk, Inv y.cps.size st → Fr h₀ env.locals h (fun z => if z = x then u z else ovl u m₀ (fix st) drop z) → News h₀ env.locals h (led st) → wpAny (model prog w) A (execs orelse env) Q E { s with heap := h, toks := tk })
    (hE : PassesOwn (model prog w) A env E := by passes_own) :
    wpAny (model prog w) A (pyIter (.str y t)) (ForK prog w A x px body orelse env Q E) E s := by
  have main : ∀ (o : Obj) (St : Nat → Heap → Prop), (∀ i h, St i h → ∃ o, h.get? s.heap.objs.size = some o) → (∀ i h h' o, St i h → h.get? s.heap.objs.size = some o → h'.get? s.heap.objs.size = some o → St i h') →
      Walks prog w A s.heap.objs.size [s.heap.objs.size] [s.heap.objs.size] y.cps.size (SignAt y) St → St 0 (s.heap.push o) →
      ForK prog w A x px body orelse env Q E (.ref s.heap.objs.size) { s with heap := s.heap.push o } := by
    intro o St hIo hkeep W hst
    refine for_walk (s := { s with heap := s.heap.push o }) (S := fun _ => True) W hIo (fun i h h' o _ a b c _ _ _ => hkeep i h h' o a b c) fix drop led Inv hadr (fun _ _ _ => trivial) st₀ h0
      hst (F.keeps fun _ _ e => Heap.get?_push_of_some _ e) (N.grown fun _ _ e => Heap.get?_push_of_some _ e) hfix ?_ (next_is_new F) (fun p hp => Heap.lt_size (N p hp).1) hx hp ?_ ?_ hE
    · intro hm
      have e := List.mem_singleton.mp hm
      exact absurd F.ns.lt (e ▸ Nat.lt_irrefl _)
    · rintro i v st o u h tk hi ⟨c, tv, hc, rfl⟩ hinv off F' N'
      exact turn i c tv st _ o u h tk hc hinv off F' N'
    · intro st u h tk hinv F' N'
      exact done st u h tk hinv F' N'
  cases ha : y.cps.all (· < 128)
  · exact wpAny_pyIter_wide ha (main _ _ (fun i h ⟨o, e, _⟩ => ⟨o, e⟩) (fun i h h' o ⟨o', e, r⟩ e1 e2 => by rw [e] at e1; cases e1; exact ⟨_, e2, r⟩) (Walks.strWide hh _ y t) ⟨_, Heap.get?_push_size _ rfl, rfl, rfl⟩)
  · exact wpAny_pyIter_ascii ha (main _ _ (fun i h ⟨o, e, _⟩ => ⟨o, e⟩) (fun i h h' o ⟨o', e, r⟩ e1 e2 => by rw [e] at e1; cases e1; exact ⟨_, e2, r⟩) (Walks.strAscii hh _ y t) ⟨_, Heap.get?_push_size _ rfl, rfl, rfl⟩)
end
local macro_rules | `(tactic| walk_at $s:str) => `(tactic| k_extra $s)
local macro_rules | `(tactic| cell_enter) => `(tactic| k_extra "@cell")
local macro_rules | `(tactic| ktr_rel) => `(tactic| k_extra "@rel")
local macro_rules | `(tactic| k_lt $h) => `(tactic| ((first | replace $h := lts_of $h | replace $h := lts_all $h | skip); (try dsimp only [addrs] at $h:ident)))
local macro_rules | `(tactic| k_ne) => `(tactic| k_extra "@kne")
local macro_rules | `(tactic| k_all) => `(tactic| first | k_extra "@all" | (refine' allCons ?qaa ?qab; (case qaa => k_ne); (case qab => k_all)) | k_extra "@all2")
local macro_rules | `(tactic| k_upd) => `(tactic| first | (refine' Upd.head ?a; (case a => k_all)) | (refine' updTail ?a ?b; (case a => k_ne); (case b => k_upd)))
local macro_rules | `(tactic| k_updF) => `(tactic| first | (refine' UpdF.head ?a; (case a => k_all)) | (refine' updFTail ?a ?b; (case a => k_ne); (case b => k_updF)))
example : True := by
  k_with "exec For Name Name cons nil" => (k_dflt (refine for_eval ?_ ?_; rotate_left; (intro _; rfl)))
  k_with "exec For Name Call cons nil" => (k_dflt (refine for_eval ?_ ?_; rotate_left; (intro _; rfl)))
  k_with "exec For Name Call cons cons" => (k_dflt (refine for_eval ?_ ?_; rotate_left; (intro _; rfl)))
  k_with "@cell" => (refine' code_defC (by k_asm) (by k_asm) (by k_asm) (by k_asm) (by k_asm) (by rfl) (by rfl) (by assumption) (by k_is) (by k_is) (by ktr_room) (by exact BindsTo.of_eq rfl) (by rfl) (by decide +kernel) ?_ (by rfl) (by rfl) (by rfl); intro g9w L9w h9w tk9w cells9w FG9w F9w N9w Y9w B9w X9w T9w l19w; k_lt l19w; k_cells Y9w; (try dsimp only [List.cons_append, List.nil_append] at N9w); (try dsimp only); (try k_lift B9w); (try k_fold))
  k_with "TurnM" => (dsimp only [TurnM])
  k_with "@rel" => (intro z99w hz99w; simp only [List.map_cons, List.map_nil, List.mem_cons, List.cons_append, List.nil_append, List.not_mem_nil, or_false, not_or] at hz99w; (try dsimp only); (try simp only [hz99w, if_false]))
  k_with "@nth" => (rotate_left; k_extra "@n")
  k_with "@n" => first | (show _ = nthA _ 0; exact rfl) | (show _ = nthA _ 1; exact rfl) | (show _ = nthA _ 2; exact rfl) | (show _ = nthA _ 3; exact rfl) | (show _ = nthA _ 4; exact rfl) | (show _ = nthA _ 5; exact rfl) | (show _ = nthA _ 6; exact rfl) | (show _ = nthA _ 7; exact rfl) | (show _ = nthA _ 8; exact rfl) | (show _ = nthA _ 9; exact rfl) | (show _ = nthA _ 10; exact rfl) | (show _ = nthA _ 11; exact rfl) | (show _ = nthA _ 12; exact rfl) | (show _ = nthA _ 13; exact rfl) | (show _ = nthA _ 14; exact rfl) | (show _ = nthA _ 15; exact rfl) | (show _ = nthA _ 16; exact rfl) | (show _ = nthA _ 17; exact rfl) | (show _ = nthA _ 18; exact rfl) | (show _ = nthA _ 19; exact rfl) | (show _ = nthA _ 20; exact rfl) | (show _ = nthA _ 21; exact rfl) | (show _ = nthA _ 22; exact rfl) | (show _ = nthA _ 23; exact rfl)
  k_with "@drop" => (rotate_left; first | (show _ = List.drop 0 _; exact rfl) | (show _ = List.drop 1 _; exact rfl) | (show _ = List.drop 2 _; exact rfl) | (show _ = List.drop 3 _; exact rfl) | (show _ = List.drop 4 _; exact rfl) | (show _ = List.drop 5 _; exact rfl) | (show _ = List.drop 6 _; exact rfl) | (show _ = List.drop 7 _; exact rfl) | (show _ = List.drop 8 _; exact rfl) | (show _ = List.drop 9 _; exact rfl) | (show _ = List.drop 10 _; exact rfl) | (show _ = List.drop 11 _; exact rfl))
  k_with "@a" => with_reducible assumption
  k_with "@ne" => first | k_extra "@a" | exact Ne.symm (by k_extra "@a") | (refine' ltA (by k_extra "@a") _ ?_; k_extra "@nth") | (refine' gtA (by k_extra "@a") _ ?_; k_extra "@nth") | (refine' nt_ne (by k_extra "@a") _ ?_; k_extra "@nth") | (refine' nt_en (by k_extra "@a") _ ?_; k_extra "@nth")
  k_with "@kne" => (first | k_extra "@ne" | k_extra "@ne2" | (refine' ltA1 (by k_extra "@a") _ ?_; k_extra "@nth") | (refine' ltA2 (by k_extra "@a") _ ?_; k_extra "@nth") | (refine' ltA3 (by k_extra "@a") _ ?_; k_extra "@nth") | (refine neN ?_; (try dsimp only); (try dsimp only [Lts, Nts] at *); first | ((iterate 30 (first | done | assumption | exact Ne.symm (by assumption) | exact Nat.ne_of_lt (by assumption) | exact Nat.ne_of_gt (by assumption) | (rename And _ _ => q8; cases q8))); done) | omega))
  k_with "@all" => (first | exact List.forall_mem_nil _ | k_extra "@a" | (refine' allA (by k_extra "@a") _ ?_; k_extra "@drop") | (refine' allN (by k_extra "@a") _ ?_; k_extra "@drop") | (refine' allA1 (by k_extra "@a") _ ?_; k_extra "@drop") | (refine' allA2 (by k_extra "@a") _ ?_; k_extra "@drop") | (refine' allA3 (by k_extra "@a") _ ?_; k_extra "@drop"))
  k_with "@all2" => (first | assumption | (intro p99w hp99w; (try dsimp only [Lts] at *); (repeat (rename And _ _ => q8; cases q8)); (repeat (rename Lts _ (addrs _) => q9; replace q9 := lts_mem q9 p99w hp99w)); (refine neN ?_; (try dsimp only); omega)))
  k_with "@fin" => (intro D9w h9w tk9w F9w N9w o19w; replace o19w := nts_of o19w; (try dsimp only [addrs] at o19w); (try dsimp only [List.nil_append, List.cons_append] at N9w); (try dsimp only))
  k_with "FinE" => (unfold LCg.FinE; k_extra "@fin")
  k_with "FinA" => (unfold LCg.FinA; k_extra "@fin")
  k_with "@go" => (refine' Claim.go (by k_asm) (by k_asm) (by k_asm) (by k_asm) (by k_asm) (by first | exact rfl | assumption) ?_ ?_ ?_ ?_; rotate_left 3)
  k_with "@rm" => (ktr_room; ktr_units)
  k_with "@tk" => ((rename Shared => s9); refine tok_gen s9 rfl rfl rfl ?_; intro t99w)
  k_with "execs cons" => (k_extra "@tk"; (try k_fold); first | (k_made; walk_at "execs cons") | ((with_reducible refine wpAny_execs_cons ?_); (try dsimp only); (try k_fold)))
  trivial
-- RwT
abbrev S (l : List Nat) : Str := ⟨l.toArray⟩
theorem S_len (l : List Nat) : (S l).length = l.length := by simp [Str.length]
open PySem.Builtin.Str in
theorem ind_min {n : Nat} {i j : Int} (hi : 0 ≤ i) (hj : 0 ≤ j) : strSliceIndices (some i) (some j) 1 n = strSliceIndices (some (min i n)) (some (min j n)) 1 n := by
  have h0 : ¬ i < 0 := by omega
  have h0' : ¬ j < 0 := by omega
  have h1 : ¬ (min i n < 0) := by omega
  have h1' : ¬ (min j n < 0) := by omega
  have h2 : (1 : Int) > 0 := by decide
  simp only [strSliceIndices, h0, h0', h1, h1', h2, if_false, if_true, Int.min_assoc, Int.min_self]
theorem slice_S {l : List Nat} {i j : Nat} (h : i ≤ j) : Txt.slice (S l) (some (i : Int)) (some (j : Int)) = S ((l.drop i).take (j - i)) := by
  have e : Txt.slice (S l) (some (i : Int)) (some (j : Int)) = Txt.slice (S l) (some (min (i : Int) (S l).length)) (some (min (j : Int) (S l).length)) := by
    unfold Txt.slice
    rw [ind_min (by omega) (by omega)]
  rw [e, beq_iff_eq.mp (slice_closesL (by omega) (by omega) (by omega)), S_len]
  have e1 : (min (i : Int) l.length).toNat = min i l.length := by omega
  have e2 : (min (j : Int) l.length - min (i : Int) l.length).toNat = min j l.length - min i l.length := by omega
  rw [e1, e2]
  show Str.mk _ = Str.mk _
  congr 2
  apply List.ext_getElem?
  intro k
  simp only [List.getElem?_take, List.getElem?_drop]
  by_cases hk : i + k < l.length
  · have : min i l.length = i := by omega
    rw [this]
    by_cases h2 : k < j - i
    · rw [if_pos (by omega), if_pos h2]
    · rw [if_neg (by omega), if_neg h2]
  · have hn : l[i + k]? = none := List.getElem?_eq_none (by omega)
    rw [hn]
    rw [if_neg (by omega)]
    split <;> rfl
theorem S_append (a b : List Nat) : S a ++ S b = S (a ++ b) := by
  show Str.mk _ = Str.mk _
  simp
theorem S_inj {a b : List Nat} : S a = S b ↔ a = b := ⟨fun h => by injection h with h; simpa using h, fun h => by rw [h]⟩
theorem ofString_nl : Str.ofString "\n" = S [10] := by decide +kernel
theorem S_beq {a b : List Nat} : (S a == S b) = decide (a = b) := by
  by_cases h : a = b
  · subst h; simp
  · rw [decide_eq_false h]
    cases q : (S a == S b) with
    | false => rfl
    | true => exact absurd (S_inj.mp (beq_iff_eq.mp q)) h
abbrev ws : Str := Str.ofString "\n\t\x0d "
theorem ws_list : ws.cps.toList = [10, 9, 13, 32] := by decide +kernel
theorem occ_one (x : Str) (c : Nat) : (Builtin.Str.occurrences x (S [c]) 0 x.length 1).isEmpty = decide (c ∉ x.cps.toList) := by
  have h := StrLaws.found_one x c
  have e : (Builtin.Str.occurrences x (S [c]) 0 x.length 1).isEmpty = !decide (c ∈ x.cps.toList) := by
    rw [← h]; simp
  rw [e]; simp
theorem occ_ws (c : Nat) : (Builtin.Str.occurrences ws (S [c]) 0 ws.length 1).isEmpty = decide (c ∉ [10, 9, 13, 32]) := by
  rw [occ_one, ws_list]
theorem ofString_q : Str.ofString "\"" = S [34] := by decide +kernel
theorem ofString_b : Str.ofString "\\" = S [92] := by decide +kernel
abbrev m2 : List Nat := [92, 34]
abbrev m6 : List Nat := [92, 34, 10, 9, 13, 32]

-- RwF
theorem fn_store : StoreFacts "function" [.type "function", .type "object"] "object.__setattr__" "object" where
  mro := by rw [mroOf_type]; kernel_rfl
  slot := .of (owner := "object") (n := "__setattr__") (by rw [typeLookup_type, builtinLookup_eq_fast]; kernel_rfl) (by decide +kernel) (by decide +kernel) (by decide +kernel)
    (by first | exact .inl (by decide +kernel) | exact .inr (by decide +kernel)) (by rw [isSubtype_type]; kernel_rfl)
  entry := PySem.F.entry_object_sa
  kind := by decide +kernel
  split := by decide +kernel
  hasOwner := by decide +kernel
  args := fun a b c => by unfold argsOk; kernel_rfl
  passes := fun self => by kernel_rfl
theorem fn_type {M : Model} {h : Heap} {f : Addr} {od : Option Addr} {fd : FuncData} {sl : Array (Option Value)} (ho : h.get? f = some ⟨.type "function", od, .func fd, sl⟩) : Looks M h (typeOf (.ref f)) (.type "function") :=
  (Looks.ld (part := some headPart) ho).andThen .now
theorem fn_lookup_read : typeLookup (.type "function") "read" = pure none := by rw [typeLookup_type, builtinLookup_eq_fast]; kernel_rfl
theorem fn_lookup_ga : typeLookup (.type "function") "__getattribute__" = pure (some (.builtin "object.__getattribute__")) := by rw [typeLookup_type, builtinLookup_eq_fast]; kernel_rfl
theorem fn_lookup_gat : typeLookup (.type "function") "__getattr__" = pure none := by rw [typeLookup_type, builtinLookup_eq_fast]; kernel_rfl
theorem fn_sub : isSubtype (.type "function") (.type "object") = pure true := by rw [isSubtype_type]; kernel_rfl
theorem fn_hasDict : typeHasDict (.type "function") = true := by decide +kernel

open PySem.Builtin PySem.Builtin.ObjectAttr in
theorem fn_set {prog : Program} {w : World} {A : Around} {E : Value → Shared → Prop} {s : Shared} {h₀ : Heap} {L f : Addr} {m : Str → Option Value} {news : List (Addr × Obj)} {news' : Addr → List (Addr × Obj)} {fd : FuncData} {sl : Array (Option Value)} {v : Value} {Q : Unit → Shared → Prop}
    (F : Fr h₀ L s.heap m) (N : News h₀ L s.heap news) (U : ∀ d, Upd f ⟨.type "function", none, .func fd, sl⟩ ⟨.type "function", some d, .func fd, sl⟩ news (news' d))
    (h : ∀ d h' tk, Fr h₀ L h' m → News h₀ L h' ((d, dictOf [⟨PyData.keyHash w.params "read", .str "read" tk, v⟩] 1) :: news' d) → (∀ p ∈ news, p.1 < d) → Q () { s with heap := h', toks := tk + 1 }) :
    wpAny (model prog w) A (setAttr (.ref f) "read" v) Q E s := by
  have SF := fn_store
  obtain ⟨hp, gn, dr, tk0, os⟩ := s
  dsimp only at F N h
  obtain ⟨pre, post, e1, e2, a, b⟩ := (U hp.objs.size).split
  have D : hp.get? f = some ⟨.type "function", none, .func fd, sl⟩ ∧ f ≠ L ∧ h₀.get? f = none := N (f, ⟨.type "function", none, .func fd, sl⟩) (by rw [e1]; simp)
  have I := fn_type (M := model prog w) D.1
  have sub : Looks (model prog w) hp (isInstance (.ref f) (.type "object")) true := I.andThen (.of_pure fn_sub)
  refine wpAny_bind (wpAny_mkText (wpAny_bind (wpAny_bind (wpAny_bind (I _ _ _ _ (fun _ _ e => e) ((Looks.of_pure SF.slot.lookup) _ _ _ _ (fun _ _ (e : hp.get? _ = some _) => e) (wpAny_holding ?_)))))))
  rw [SF.slot.bind]
  refine wpAny_bind (wpAny_pure (wpAny_bind (wpAny_call ?_)))
  refine codeAny_call_builtin SF.slot.plain SF.entry (@check_slot (model prog w) _ _ _ "object.__setattr__" "object" "__setattr__" (.ref f) [.str "read" tk0, v] [] _ SF.kind SF.split sub (SF.args (.ref f) (.str "read" tk0) v) ?_)
  simp only [List.cons_append, List.nil_append]
  rw [osa_eq, refuse_eq]
  refine wpAny_bind (wpAny_bind (I.at (wpAny_bind ((Looks.of_pure SF.mro).at ?_))))
  rw [SF.passes]
  refine wpAny_pure (wpAny_bind (I.at (wpAny_bind ((Looks.of_pure fn_lookup_read).at (wpAny_bind (wpAny_pure ?_))))))
  dsimp only
  unfold storeInOwnDict
  refine wpAny_bind (wpAny_of_eq (show ownStreamTells (.ref f) (.type "function") = pure () from by kernel_rfl) ?_)
  rw [if_neg (show ¬ ((Value.type "function" == Value.type "module") = true) from by decide)]
  refine wpAny_bind ?_
  unfold ownDictForStores instanceDict
  refine wpAny_bind (wpAny_loadPart D.1 ?_)
  dsimp only
  rw [fn_hasDict]
  simp only [Bool.not_true, Bool.or_self, Bool.false_eq_true, if_false]
  refine wpAny_bind (wpAny_alloc ?_)
  refine wpAny_bind (wpAny_update (o := ⟨.type "function", none, .func fd, sl⟩) (Heap.get?_push_of_some _ D.1) ?_)
  refine wpAny_of_eq (show dictMade (.type "function") f hp.objs.size = pure (some hp.objs.size) from by kernel_rfl) ?_
  dsimp only
  unfold storeInDict nsSet
  have hlt : f < hp.objs.size := Heap.lt_size D.1
  have hne : hp.objs.size ≠ f := Nat.ne_of_gt hlt
  generalize hH : (hp.push { cls := .type "dict", data := .dict #[] }).update f (fun o => { o with dict := some hp.objs.size }) = H
  have D1 : H.get? hp.objs.size = some { cls := .type "dict", data := .dict #[] } := by
    rw [← hH]; exact (Heap.get?_update_ne _ _ _ _ hne).trans (Heap.get?_push_size _ rfl)
  have Df : H.get? f = some ⟨.type "function", some hp.objs.size, .func fd, sl⟩ := by
    rw [← hH]; exact Heap.get?_update_self _ (Heap.get?_push_of_some _ D.1) rfl
  have hold : ∀ b o, b ≠ f → hp.get? b = some o → H.get? b = some o := fun b o hb e => by
    rw [← hH]; exact (Heap.get?_update_ne _ _ _ _ hb).trans (Heap.get?_push_of_some _ e)
  refine wpAny_bind (wpAny_pure (wpAny_bind (wpAny_bind (wpAny_bind (wpAny_askSetting (wpAny_pure (wpAny_bind (wpAny_mkText (wpAny_bind (wpAny_loadPart D1 ?_))))))))))
  dsimp only
  rw [show aRefKeyMayBeTheName (Str.ofString "read") #[] = false from by kernel_rfl]
  rw [if_neg (by decide)]
  refine wpAny_updatePart D1 ?_
  have hhash : (if (Str.ofString "read").cps.isEmpty = true then 0 else reduceHash ((model prog w).w.params.strHash (Str.ofString "read").cps)) = PyData.keyHash w.params "read" := rfl
  rw [hhash]
  have D2 : (H.update hp.objs.size (Obj.putName (Str.ofString "read") (PyData.keyHash w.params "read") (Value.str (Str.ofString "read") (tk0 + 1)) v)).get? hp.objs.size = some (dictOf [⟨PyData.keyHash w.params "read", .str "read" (tk0 + 1), v⟩] 1) := by
    rw [Heap.get?_update_self _ D1 ?_]
    · exact congrArg some (putName_dict "read" (PyData.keyHash w.params "read") (.str "read" (tk0 + 1)) v [] 0)
    · rw [show Obj.putName (Str.ofString "read") (PyData.keyHash w.params "read") (Value.str (Str.ofString "read") (tk0 + 1)) v { cls := .type "dict", data := .dict #[] } = _ from putName_dict "read" (PyData.keyHash w.params "read") (.str "read" (tk0 + 1)) v [] 0]; rfl
  refine wpAny_bind (wpAny_lookBehind D2 (pastItsLine_dict (by rw [sizeLine_eq]; show 1 ≤ 16777216 + 1; omega)) ?_)
  have hold2 : ∀ b o, b ≠ f → hp.get? b = some o → (H.update hp.objs.size (Obj.putName (Str.ofString "read") (PyData.keyHash w.params "read") (Value.str (Str.ofString "read") (tk0 + 1)) v)).get? b = some o := fun b o hb e =>
    (Heap.get?_update_ne _ _ _ _ (Nat.ne_of_lt (Heap.lt_size e))).trans (hold b o hb e)
  have F' : Fr h₀ L (H.update hp.objs.size (Obj.putName (Str.ofString "read") (PyData.keyHash w.params "read") (Value.str (Str.ofString "read") (tk0 + 1)) v)) m :=
    ⟨F.ns.at' fun o e => hold2 L o (Ne.symm D.2.1) e, fun b o e => hold2 b o (fun q => by rw [q, D.2.2] at e; cases e) (F.keep b o e), F.above⟩
  have hnew : h₀.get? hp.objs.size = none := next_is_new F
  refine wpAny_pure (wpAny_pure (wpAny_pure (h hp.objs.size _ _ F' (fun p hpm => ?_) fun p hpm => Heap.lt_size (N p hpm).1)))
  rcases List.mem_cons.mp hpm with rfl | hpm
  · exact ⟨D2, Nat.ne_of_gt F.ns.lt, hnew⟩
  · rw [e2] at hpm
    rcases List.mem_append.mp hpm with hpm | hpm
    · have n := N p (by rw [e1]; exact List.mem_append_left _ hpm)
      exact ⟨hold2 _ _ (a p hpm) n.1, n.2⟩
    · rcases List.mem_cons.mp hpm with rfl | hpm
      · exact ⟨(Heap.get?_update_ne _ _ _ _ (Nat.ne_of_lt hlt)).trans Df, D.2⟩
      · have n := N p (by rw [e1]; exact List.mem_append_right _ (.tail _ hpm))
        exact ⟨hold2 _ _ (b p hpm) n.1, n.2⟩

theorem fn_slot_ga : Slot "function" "__getattribute__" "object.__getattribute__" := .of (owner := "object") (n := "__getattribute__") (by rw [typeLookup_type, builtinLookup_eq_fast]; kernel_rfl) (by decide +kernel) (by decide +kernel) (by decide +kernel)
  (by first | exact .inl (by decide +kernel) | exact .inr (by decide +kernel)) (by rw [isSubtype_type]; kernel_rfl)
theorem fn_entry_ga : entryFor table "object.__getattribute__" = some Builtin.«object.__getattribute__» := entryFor_of_tree (by kernel_rfl)
theorem fn_args_ga (o a : Value) : argsOk "object.__getattribute__" ⟨[o, a], []⟩ := by unfold argsOk; kernel_rfl
theorem fn_canon : (Manifest.canonical "object.__getattribute__" != "object.__getattribute__") = false := by decide +kernel
open PySem.Builtin PySem.Builtin.ObjectAttr in
theorem fn_find {M : Model} {h : Heap} {f d : Addr} {fd : FuncData} {sl : Array (Option Value)} {hs : Int} {tk : Tok} {v : Value} {n : Nat} (hf : h.get? f = some ⟨.type "function", some d, .func fd, sl⟩) (hd : h.get? d = some (dictOf [⟨hs, .str "read" tk, v⟩] n)) :
    Looks M h (find (.ref f) (.type "function") "read") (.value v) := by
  have X : Frag.In [(d, dictOf [⟨hs, .str "read" tk, v⟩] n)] h := fun a o e => by
    by_cases q : a = d
    · subst q; simp at e; rw [← e]; exact hd
    · have : (a == d) = false := by simpa using q
      simp [List.lookup_cons, this] at e
  have e : nsIn [(d, dictOf [⟨hs, .str "read" tk, v⟩] n)] d "read" = some (some v) := by
    unfold nsIn
    rw [List.lookup_cons, beq_self_eq_true]
    rfl
  refine (Looks.of_pure fn_lookup_read).andThen ((Looks.now (a := none)).andThen ((Looks.now (a := none)).andThen ?_))
  refine Looks.andThen (f := fun r => match r with | some v => do rule "getattr.instance-dict"; pure (.value v) | none => do copiedAttributeGuard "read" (.ref f); byTheClass none none) (a := some v) ?_ (Looks.tag .now)
  refine Looks.andThen (a := some d) ?_ (looks_nsIn X e)
  exact (Looks.ld hf).andThen ((Looks.ld hf).andThen .now)
open PySem.Builtin PySem.Builtin.ObjectAttr in
theorem fn_method {prog : Program} {w : World} {A : Around} {E : Value → Shared → Prop} {s : Shared} {h₀ : Heap} {L f d : Addr} {news : List (Addr × Obj)} {fd : FuncData} {sl : Array (Option Value)} {hs : Int} {tk : Tok} {v : Value} {n : Nat} {pl : Sem Bool} {Q : Value × List Value → Shared → Prop}
    (N : News h₀ L s.heap news) (hf : (f, (⟨.type "function", some d, .func fd, sl⟩ : Obj)) ∈ news) (hd : (d, dictOf [⟨hs, .str "read" tk, v⟩] n) ∈ news) (hv : handedIn v = true)
    (h : Q (v, []) { s with toks := s.toks + 1 }) : wpAny (model prog w) A (getMethod (.ref f) "read" pl) Q E s := by
  obtain ⟨hp, gn, dr, tk0, os⟩ := s
  dsimp only at N h
  have Df := (N _ hf).1
  have Dd := (N _ hd).1
  have T : ∀ t', (⟨hp, gn, dr, t', os⟩ : Shared).TypeIs (.ref f) "function" := fun _ => ⟨_, Df, rfl⟩
  have I := fn_type (M := model prog w) Df
  unfold getMethod
  refine wpAny_bind (wpAny_specialOf (T _) fn_lookup_ga ?_)
  dsimp only
  rw [fn_canon]
  simp only [Bool.false_eq_true, if_false]
  refine wpAny_bind (wpAny_specialOf (T _) fn_lookup_gat ?_)
  simp only [Option.isSome_none, Bool.false_eq_true, if_false]
  refine wpAny_bind (wpAny_specialOf (T _) fn_lookup_read ?_)
  dsimp only
  unfold getAttr getAttrBy
  refine wpAny_bind (wpAny_bind (wpAny_mkText (wpAny_holding (wpAny_bind (wpAny_typeOf (T _) (wpAny_bind (wpAny_of_eq fn_lookup_ga ?_)))))))
  show wpAny _ _ (getAttrByItsOwn (.ref f) (.str "read" tk0) (.type "function") (.builtin "object.__getattribute__") true false) _ _ _
  unfold getAttrByItsOwn hookBefore callGetattribute boundAndCalled
  refine wpAny_bind (wpAny_of_eq (show (if onTheHeap (.type "function") then typeLookup (.type "function") "__getattr__" else pure none) = pure none from rfl) ?_)
  refine wpAny_bind (wpAny_attempt (wpAny_holding ?_))
  show wpAny _ _ (bindSpecial (.builtin "object.__getattribute__") (.ref f) >>= _) _ _ _
  refine wpAny_bind (wpAny_of_eq (fn_slot_ga.bind _) ?_)
  refine wpAny_mono (Q := fun r s' => r = v ∧ s' = ⟨hp, gn, dr, tk0 + 1, os⟩) (E := fun _ _ => False)
    (wpAny_call_entry fn_slot_ga (T _) fn_entry_ga ?_ (fn_args_ga _ _)) (fun r s' hr => ?_) fun _ _ z => z.elim
  · show wpAny _ _ (Builtin.«object.__getattribute__» ⟨[.ref f, .str "read" tk0], []⟩) _ _ _
    unfold Builtin.«object.__getattribute__»
    refine wpAny_bind (wpAny_pure (wpAny_bind (wpAny_pure (wpAny_bind (I.at (wpAny_bind ((fn_find Df Dd).at ?_)))))))
    dsimp only
    exact wpAny_pure ⟨_, rfl, rfl, rfl⟩
  · obtain ⟨rfl, rfl⟩ := hr
    dsimp only
    rw [handedOut_of hv]
    exact wpAny_pure (wpAny_pure h)

example : True := by
  k_with "setAttr ref" => ((with_reducible show wpAny _ _ (setAttr (Value.ref _) (PySem.Str.ofString "read") _) _ _ _); k_dflt (refine' fn_set (by k_asm) (by k_asm) (by (intro d99w; k_upd)) ?_; k_whole); intro d9w h9w tk9w F9w N9w l19w; (try dsimp only at N9w); (try k_lt l19w); (try k_sweep))
  k_with "getMethod ref" => ((with_reducible show wpAny _ _ (getMethod (Value.ref _) (PySem.Str.ofString "read") _) _ _ _); k_dflt (refine' fn_method (by k_asm) (by k_mem) (by k_mem) (by k_handed) ?_; k_whole); (try dsimp only))
  trivial
-- RwE
/-- the stream that _law_stream makes: its objects -/
structure Sx where
  (d f r c l cp ct : Addr)
  (hs : Int) (tkd : Tok)
  (fd rfd : FuncData) (sl rsl : Array (Option Value))
  (oc ocp oct : Obj)
abbrev Sx.led (b : Sx) (pos : Int) (tp : Tok) (ep : Nat) (rest : List (Addr × Obj)) : List (Addr × Obj) :=
  (b.d, dictOf [⟨b.hs, .str "read" b.tkd, .ref b.r⟩] 1) :: (b.f, ⟨.type "function", some b.d, .func b.fd, b.sl⟩) :: (b.r, ⟨.type "function", none, .func b.rfd, b.rsl⟩) :: (b.c, b.oc) :: (b.l, W.listOf #[.int pos tp] ep) :: (b.cp, b.ocp) :: (b.ct, b.oct) :: rest
def Sx.Chain (b : Sx) : Prop := @LT.lt Nat _ b.ct b.cp ∧ @LT.lt Nat _ b.cp b.l ∧ @LT.lt Nat _ b.l b.c ∧ @LT.lt Nat _ b.c b.r ∧ @LT.lt Nat _ b.r b.f ∧ @LT.lt Nat _ b.f b.d
theorem Sx.falls {b : Sx} (h : b.Chain) : Falls [b.d, b.f, b.r, b.c, b.l, b.cp, b.ct] := by unfold Sx.Chain at h; obtain ⟨h0, h1, h2, h3, h4, h5⟩ := h; exact falls_adj ⟨h5, h4, h3, h2, h1, h0, trivial⟩
def ReadOk (w : World) (text : List Nat) (b : Sx) : Prop := ∀ (rest : List (Addr × Obj)) (pos : Nat) (tp tk : Tok) (ep : Nat), (∀ p ∈ rest, p.1 ≠ b.l) → pos ≤ 1000 →
  Claim w b.r (b.led pos tp ep rest) [.int 1 tk] 5 40 (fun h₀ L m s Q => ∀ (t tp' : Tok) (ep' : Nat) (h' : Heap) (tk' : Nat), Fr h₀ L h' m → News h₀ L h' (b.led ((pos + 1 : Nat) : Int) tp' ep' rest) → Q (.str (S ((text.drop pos).take 1)) t) { s with heap := h', toks := tk' })
theorem news_drop3 {h₀ h : Heap} {L : Addr} {a b c : Addr × Obj} {r : List (Addr × Obj)} (N : News h₀ L h (a :: b :: c :: r)) : News h₀ L h (a :: b :: r) := fun p hp => N p (by
  rcases List.mem_cons.mp hp with rfl | hp
  · exact .head _
  · rcases List.mem_cons.mp hp with rfl | hp
    · exact .tail _ (.head _)
    · exact .tail _ (.tail _ (.tail _ hp)))
set_option maxRecDepth 100000 in
set_option maxHeartbeats 8000000 in
theorem stream_ok (w : World) (news : List (Addr × Obj)) (l : List Nat) (t : Tok) (hl : l.length ≤ 1000) :
    Claim w 92 ((87, tabObj (#[] : Array Value)) :: news) [.str (S l) t] 5 40 (fun h₀ L m s Q => CodeHd h₀ 91 87 ∧ (∀ p ∈ news, p.1 ≠ 87) ∧ ∀ (b : Sx) (p87 : Array Value) (tp : Tok) (ep : Nat) (h' : Heap) (tk' : Nat), Fr h₀ L h' m → News h₀ L h' (b.led 0 tp ep ((87, tabObj p87) :: news)) → b.Chain → (∀ p ∈ news, p.1 < b.ct) → 87 < b.ct → ReadOk w l b → Q (.ref b.f) { s with heap := h', toks := tk' }) := by
  unfold Claim
  k_fill
  w_top off
  intros; rename_i hret
  obtain ⟨hC, hne, hret⟩ := hret
  refine wpAny_call ?_
  k_dflt cell_enter
  have hC' := CodeHd.keeps hC (Fr.keep (by assumption))
  k_steps
  rename News _ _ _ _ => N9
  rename Fr _ _ _ _ => F9
  refine hret ⟨_, _, _, _, _, _, _, _, _, _, _, _, _, _, _, _⟩ _ _ _ _ _ F9 (news_drop3 N9) ?_ ?_ ?_ ?_
  · (try dsimp only [Lts] at *); simp only [Sx.Chain]; omega
  · intro p hp
    have q := lts_mem (And.right (by assumption : 87 < _ ∧ Lts _ (addrs news))) p hp
    show @LT.lt Nat _ p.1 _
    dsimp only
    omega
  · exact Nat.lt_succ_of_lt (And.left (by assumption : 87 < _ ∧ Lts _ (addrs news)))
  · clear N9 F9 hret
    intro rest pos tp tk ep hoff hpos
    unfold Sx.led Claim
    intros; rename_i hret
    dsimp only at *
    refine wpAny_call ?_
    k_dflt (refine' code_nest (by k_asm) (by k_asm) (by k_asm) (by k_asm) (by k_asm) (by rfl) (by rfl) (by assumption) (by k_mem) (by exact codeRec_news (by k_asm) (by k_mem) (by assumption) (by assumption)) (by ktr_room) (by exact BindsTo.of_eq rfl) (by exact locs rfl) ?_ (by rfl) (by rfl) (by rfl) (by decide))
    intro g' L' h' FG' F' N' B' X' T'
    (try dsimp only)
    (try k_lift B')
    (try k_fold)
    have hS : (S l).length ≤ 1000 := hl
    k_steps
    rename News _ _ _ _ => N9
    rename Fr _ _ _ _ => F9
    have e : ∀ a : Int, a = (pos : Int) → Txt.slice (S l) (some (a + 1 - 1)) (some (a + 1)) = S ((l.drop pos).take 1) := by
      intro a ha
      have h1 : a + 1 - 1 = ((pos : Nat) : Int) := by omega
      have h2 : a + 1 = ((pos + 1 : Nat) : Int) := by omega
      rw [h1, h2, slice_S (by omega), show pos + 1 - pos = 1 by omega]
    simp only [Int.toNat_zero, List.getD_cons_zero]
    rw [e _ rfl]
    exact hret _ _ _ _ _ F9 N9

example : True := by
  k_with "call ref" => ((with_reducible show wpAny _ _ (call (Value.ref (Sx.r _)) _) _ _ _); (rename ReadOk _ _ _ => hR9); k_dflt (k_extra "@go"; exact hR9 _ _ _ _ _ (by k_all) (by omega); k_extra "@rm"); intro t9w tp9w ep9w h9w tk9w F9w N9w)
  k_with "callWith ref" => ((with_reducible show wpAny _ _ (callWith _ (Value.ref (Sx.r _)) _ _ _) _ _ _); k_dflt (first | (refine' callWith_F (by exact FnAt.of (by k_asm) (by k_mem)) ?_; k_whole) | (refine' callWith_F0 (by exact FnAt.of (by k_asm) (by k_mem)) ?_; k_whole; try dsimp only [List.nil_append, List.cons_append])))
  k_with "FnAt" => (k_dflt (exact FnAt.of (by k_asm) (by k_mem)))
  trivial
-- RwG
structure Lx extends Sx where
  (x dx pb : Addr)
  (a1 a2 a3 a4 tw : Tok)
abbrev Lx.dict (w : World) (b : Lx) (ln : Int) (tl : Tok) : List DictEntry :=
  [⟨PyData.keyHash w.params "lineno", .str "lineno" b.a1, .int ln tl⟩, ⟨PyData.keyHash w.params "instream", .str "instream" b.a2, .ref b.f⟩, ⟨PyData.keyHash w.params "whitespace", .str "whitespace" b.a3, .str ws b.tw⟩, ⟨PyData.keyHash w.params "pushback", .str "pushback" b.a4, .ref b.pb⟩]
abbrev Lx.led (w : World) (b : Lx) (ln : Int) (tl : Tok) (pb : Array Value) (en : Nat) (pos : Int) (tp : Tok) (ep : Nat) (rest : List (Addr × Obj)) : List (Addr × Obj) :=
  b.toSx.led pos tp ep ((b.x, instObj 67 b.dx) :: (b.dx, dictOf (b.dict w ln tl) 4) :: (b.pb, W.listOf pb en) :: rest)
def Lx.Chain (b : Lx) : Prop := @LT.lt Nat _ b.ct b.cp ∧ @LT.lt Nat _ b.cp b.l ∧ @LT.lt Nat _ b.l b.c ∧ @LT.lt Nat _ b.c b.r ∧ @LT.lt Nat _ b.r b.f ∧ @LT.lt Nat _ b.f b.d ∧ @LT.lt Nat _ b.d b.dx ∧ @LT.lt Nat _ b.dx b.x ∧ @LT.lt Nat _ b.x b.pb
def Lx.row (b : Lx) : List Nat := [b.pb, b.x, b.dx, b.d, b.f, b.r, b.c, b.l, b.cp, b.ct]
theorem Lx.falls {b : Lx} (h : b.Chain) : Falls b.row := by unfold Lx.Chain at h; obtain ⟨h0, h1, h2, h3, h4, h5, h6, h7, h8⟩ := h; exact falls_adj ⟨h8, h7, h6, h5, h4, h3, h2, h1, h0, trivial⟩
set_option maxRecDepth 100000 in
set_option maxHeartbeats 8000000 in
theorem readchar_c (w : World) (text : List Nat) (b : Lx) (hR : ReadOk w text b.toSx) (hb : b.Chain) (rest : List (Addr × Obj)) (ln : Int) (tl : Tok) (pb : Array Value) (en pos : Nat) (tp : Tok) (ep : Nat)
    (ho1 : ∀ p ∈ rest, p.1 ≠ b.l) (ho2 : ∀ p ∈ rest, p.1 ≠ b.dx) (hp : pos ≤ 1000) :
    ClaimC w 50 (b.led w ln tl pb en pos tp ep rest) [.ref b.x] 10 80 (fun h₀ L m s Q => ∀ (t tl' tp' : Tok) (ep' : Nat) (h' : Heap) (tk' : Nat), Fr h₀ L h' m →
      News h₀ L h' (b.led w (if (text.drop pos).take 1 = [10] then ln + 1 else ln) tl' pb en ((pos + 1 : Nat) : Int) tp' ep' rest) → Q (.str (S ((text.drop pos).take 1)) t) { s with heap := h', toks := tk' }) := by
  unfold ClaimC
  k_fill
  w_top off
  intros; rename_i hret
  unfold Lx.Chain at hb
  k_dflt cell_enter
  k_steps
  all_goals (rename News _ _ _ _ => N9; rename Fr _ _ _ _ => F9)
  · have e : (text.drop pos).take 1 = [10] := by
      have q := (by assumption : (S (List.take 1 (List.drop pos text)) == Str.ofString "\n") = true)
      rw [ofString_nl, S_beq] at q
      exact of_decide_eq_true q
    rw [if_pos e] at hret
    exact hret _ _ _ _ _ _ F9 N9
  · have e : ¬ (text.drop pos).take 1 = [10] := by
      have q := (by assumption : (S (List.take 1 (List.drop pos text)) == Str.ofString "\n") = false)
      rw [ofString_nl, S_beq] at q
      exact of_decide_eq_false q
    rw [if_neg e] at hret
    exact hret _ _ _ _ _ _ F9 N9

example : True := by
  k_with "@ne2" => (refine' falls_apart (Lx.falls (by k_extra "@a")) _ _ ?_ ?_ ?_; rotate_left 2; k_extra "@n"; k_extra "@n"; exact rfl)
  k_with "call ref" => ((with_reducible show wpAny _ _ (call (Value.ref 50) _) _ _ _); (rename ReadOk _ _ _ => hR9); (rename Lx.Chain _ => hC9); k_dflt (k_extra "@go"; exact (readchar_c _ _ _ hR9 hC9 _ _ _ _ _ _ _ _ (by k_all) (by k_all) (by omega)).toClaim; k_extra "@rm"); intro t9w tl9w tp9w ep9w h9w tk9w F9w N9w; (try ((rename List.take 1 (List.drop _ _) = [_] => hn9); simp only [hn9] at N9w ⊢)))
  trivial
-- RwI
theorem cit_slot_next : Slot "callable_iterator" "__next__" "callable_iterator.__next__" := .of (owner := "callable_iterator") (n := "__next__") (by rw [typeLookup_type, builtinLookup_eq_fast]; kernel_rfl) (by decide +kernel) (by decide +kernel) (by decide +kernel)
  (by first | exact .inl (by decide +kernel) | exact .inr (by decide +kernel)) (by rw [isSubtype_type]; kernel_rfl)
theorem cit_entry_next : entryFor table "callable_iterator.__next__" = some Builtin.«callable_iterator.__next__» := entryFor_of_tree (by kernel_rfl)
theorem cit_args_next (a : Value) : argsOk "callable_iterator.__next__" ⟨[a], []⟩ := by unfold argsOk; kernel_rfl
abbrev citObj (q : Addr) (ts : Tok) : Obj := { cls := .type "callable_iterator", data := .fields #[.ref q, .str (Str.ofString "") ts, .bool false] }

theorem callBorrowed_eq (f : Value) (pos : List Value) : callBorrowed f pos = (call f pos).keep [borrowed] := by
  unfold callBorrowed call runValue run
  show _ = Sem.keep [borrowed] (Sem.bind (Sem.call _ none false [] _) _)
  simp only [Sem.bind, Sem.keep]
  congr 1
  funext r
  cases r with
  | error e => rfl
  | ok fl => cases fl <;> rfl

theorem borrows_meth {M : Model} {h : Heap} {q f : Addr} {self : Value} {oc : Value} {od : Option Addr} {fd : FuncData} {sl : Array (Option Value)} (hq : h.get? q = some (methodObj (.ref f) self)) (hf : h.get? f = some ⟨oc, od, .func fd, sl⟩) :
    Looks M h (borrowsExactly (.ref q)) true := by
  unfold borrowsExactly
  refine (Looks.ld (part := none) hq).andThen ?_
  dsimp only
  rw [if_pos (by decide)]
  exact (Looks.ld (part := none) hf).andThen .now

theorem cit_next {prog : Program} {w : World} {A : Around} {E : Value → Shared → Prop} {s : Shared} {I q f : Addr} {self : Value} {ts : Tok} {oc : Value} {od : Option Addr} {fd : FuncData} {sl : Array (Option Value)} {Q : Option Value → Shared → Prop}
    (hh : A.handled = none) (hI : s.heap.get? I = some (citObj q ts)) (hq : s.heap.get? q = some (methodObj (.ref f) self)) (hf : s.heap.get? f = some ⟨oc, od, .func fd, sl⟩)
    (h : codeAny (model prog w) A.in1 (.call (.ref f) ⟨[self], []⟩) (fun r s' => match r with
      | .ok (.ret v) => ∃ y t, v = .str y t ∧ s'.heap.get? I = some (citObj q ts) ∧ s'.heap.get? q = some (methodObj (.ref f) self) ∧ s'.heap.get? f = some ⟨oc, od, .func fd, sl⟩ ∧
          (y ≠ Str.ofString "" → Q (some (.str y t)) s') ∧ (y = Str.ofString "" → ∀ h', Heap.ExtBut I s'.heap h' → Q none { s' with heap := h' })
      | _ => False) s) :
    wpAny (model prog w) A (pyNext (.ref I)) Q E s := by
  have T : s.TypeIs (.ref I) "callable_iterator" := ⟨_, hI, rfl⟩
  unfold pyNext
  refine wpAny_bind (wpAny_attempt (wpAny_callSpecial?_slot (name := Str.ofString "__next__") T cit_slot_next (wpAny_call_entry cit_slot_next T cit_entry_next ?_ (cit_args_next _))))
  unfold Builtin.«callable_iterator.__next__»
  refine wpAny_bind (wpAny_pure (wpAny_bind (wpAny_field hI rfl (x := .bool false) rfl ?_)))
  rw [if_neg (by decide)]
  refine wpAny_bind (wpAny_field hI rfl (x := .ref q) rfl (wpAny_bind (wpAny_attempt ?_)))
  unfold callOutOfASlot
  refine wpAny_bind ((borrows_meth hq hf).here ?_)
  rw [if_pos rfl, callBorrowed_eq]
  refine wpAny_keep (wpAny_call (method_call hq (codeAny_mono h fun r s' z => ?_)))
  rcases r with e | (v | _ | _ | _)
  · exact z.elim
  · exact z.elim
  · exact z.elim
  · exact z.elim
  · obtain ⟨y, t, rfl, eI, eq, ef, z1, z2⟩ := z
    dsimp only
    refine wpAny_bind (wpAny_field eI rfl (x := .bool false) rfl ?_)
    rw [if_neg (by decide)]
    refine wpAny_bind (wpAny_field eI rfl (x := .str (Str.ofString "") ts) rfl (wpAny_bind (wpAny_holding (wpAny_eqBool_str ?_))))
    by_cases hy : y = Str.ofString ""
    · rw [decide_eq_true hy.symm]
      rw [if_neg (by decide)]
      refine wpAny_bind (wpAny_rule (wpAny_bind ?_))
      show wpAny _ _ (field (.ref I) 0 >>= _) _ _ _
      refine wpAny_bind (wpAny_field eI rfl (x := .ref q) rfl (wpAny_bind ?_))
      unfold slotLetsGo
      refine wpAny_bind ((borrows_meth eq ef).here ?_)
      rw [if_pos rfl]
      have u1 := Heap.get?_update_self (Obj.mapFields (·.setIfInBounds 0 .none)) eI rfl
      have u2 := Heap.get?_update_self (Obj.mapFields (·.setIfInBounds 1 .none)) u1 rfl
      refine wpAny_pure (wpAny_bind (wpAny_setField eI rfl (by simp) (wpAny_bind (wpAny_setField u1 rfl (by simp) (wpAny_setField u2 rfl (by simp) ?_)))))
      show wpAny _ _ (newExc (.type "StopIteration") [] >>= _) _ _ _
      refine wpAny_bind ?_
      simp only [newExc, newTuple]
      refine wpAny_bind (wpAny_newObj_type ?_ (by size_fits))
      refine wpAny_bind (m := firstArgMember _ _) (wpAny_of_eq (a := Value.none) (by first | rfl | (simp only [firstArgMember]; rfl)) ?_)
      refine wpAny_newObj_type ?_ (by size_fits)
      simp only [raiseNew]
      refine wpAny_bind (wpAny_handled ?_)
      rw [show A.in1.handled = none from hh]
      refine wpAny_bind (wpAny_pure (wpAny_throw ?_))
      refine wpAny_bind (wpAny_isInstance (T := "StopIteration") (b := true) ⟨_, Heap.get?_push_size _ rfl, rfl⟩ isSubtype_stop ?_)
      exact wpAny_pure (z2 hy _ (((((Heap.SameBut.update ..).trans (Heap.SameBut.update ..)).trans (Heap.SameBut.update ..)).extBut.push _).push _))
    · rw [decide_eq_false (fun q => hy q.symm)]
      rw [if_pos (by decide)]
      exact wpAny_pure ⟨_, rfl, wpAny_pure (z1 hy)⟩

theorem cit_slot_iter : Slot "callable_iterator" "__iter__" "callable_iterator.__iter__" := .of (owner := "callable_iterator") (n := "__iter__") (by rw [typeLookup_type, builtinLookup_eq_fast]; kernel_rfl) (by decide +kernel) (by decide +kernel) (by decide +kernel)
  (by first | exact .inl (by decide +kernel) | exact .inr (by decide +kernel)) (by rw [isSubtype_type]; kernel_rfl)
theorem cit_entry_iter : entryFor table "callable_iterator.__iter__" = some Builtin.«dict_keyiterator.__iter__» :=
  entryFor_alias (id' := "dict_keyiterator.__iter__") (by kernel_rfl) rfl (by decide +kernel) (by kernel_rfl)
theorem cit_args_iter (a : Value) : argsOk "callable_iterator.__iter__" ⟨[a], []⟩ := by unfold argsOk; kernel_rfl
theorem cit_iter {prog : Program} {w : World} {A : Around} {E : Value → Shared → Prop} {s : Shared} {I q : Addr} {ts : Tok} {Q : Value → Shared → Prop} (hI : s.heap.get? I = some (citObj q ts)) (h : Q (.ref I) s) :
    wpAny (model prog w) A (pyIter (.ref I)) Q E s := by
  have T : s.TypeIs (.ref I) "callable_iterator" := ⟨_, hI, rfl⟩
  refine wpAny_pyIter_slot T cit_slot_iter (wpAny_call_entry cit_slot_iter T cit_entry_iter ?_ (cit_args_iter _))
  show wpAny _ _ (ret (.ref I)) _ _ s
  exact wpAny_pure ⟨_, rfl, "callable_iterator", _, T, cit_slot_next.lookup, h⟩
theorem iter_kind : builtinKind "iter" = none := by decide +kernel
theorem iter_plain : plainId "iter" = true := by decide +kernel
theorem iter_entry : entryFor table "iter" = some Builtin.«iter» := entryFor_of_tree (by kernel_rfl)
theorem iter_args (a b : Value) : argsOk "iter" ⟨[a, b], []⟩ := by unfold argsOk; kernel_rfl
theorem meth_call : typeLookup (.type "method") "__call__" = pure (some (.builtin "method.__call__")) := by rw [typeLookup_type, builtinLookup_eq_fast]; kernel_rfl
theorem iter_sentinel {prog : Program} {w : World} {A : Around} {E : Value → Shared → Prop} {s : Shared} {h₀ : Heap} {L q : Addr} {m : Str → Option Value} {news : List (Addr × Obj)} {f self : Value} {ts : Tok} {Q : Value → Shared → Prop}
    (F : Fr h₀ L s.heap m) (N : News h₀ L s.heap news) (hq : (q, methodObj f self) ∈ news)
    (h : ∀ I h', Fr h₀ L h' m → News h₀ L h' ((I, citObj q ts) :: news) → (∀ p ∈ news, p.1 < I) → Q (.ref I) { s with heap := h' }) :
    wpAny (model prog w) A (call (.builtin "iter") [.ref q, .str (Str.ofString "") ts]) Q E s := by
  have T : s.TypeIs (.ref q) "method" := ⟨_, (N _ hq).1, rfl⟩
  refine call_function_entry iter_kind iter_plain iter_entry (iter_args _ _) ?_
  unfold Builtin.«iter»
  refine wpAny_bind (wpAny_pure ?_)
  refine wpAny_bind (wpAny_specialOf T meth_call ?_)
  dsimp only
  rw [if_neg (by decide)]
  refine wpAny_bind (wpAny_rule (wpAny_bind (wpAny_newObj_type (wpAny_pure ⟨_, rfl, h _ _ (F.push _) (N.push F _) fun p hp => Heap.lt_size (N p hp).1⟩) (by show 3 ≤ sizeLine + 2; rw [sizeLine_eq]; omega))))

example : True := by
  k_with "call builtin:iter" => ((with_reducible show wpAny _ _ (call (Value.builtin "iter") [Value.ref _, Value.str _ _]) _ _ _); k_dflt (refine' iter_sentinel (by k_asm) (by k_asm) (by k_mem) ?_; k_whole); intro I9w h9w F9w N9w l19w; (try k_lt l19w))
  trivial
-- RwJ
section
variable {prog : Program} {w : World} {A : Around} {E : Value → Shared → Prop} {s : Shared} {env : Env} {h₀ : Heap} {x : Str} {px : Pos} {body orelse : List Stmt} {Q : Flow → Shared → Prop}

def GoesDown {σ : Type} (h₀ : Heap) (L : Addr) (s : Shared) (x : Str) (fix : σ → List (Str × Value)) (drop : List Str) (m₀ : Str → Option Value) (led : σ → List (Addr × Obj)) (Inv : Nat → σ → Prop) (k : Nat) (s' : Shared) : Prop :=
  ∃ k' st h' tk' m', k' < k ∧ s' = { s with heap := h', toks := tk' } ∧ Inv k' st ∧ Fr h₀ L h' m' ∧ Fixes m' (fix st) ∧ Kept (x :: (fix st).map (·.1) ++ drop) m₀ m' ∧ News h₀ L h' (led st)

theorem goes_down {σ : Type} {h₀ : Heap} {L : Addr} {s : Shared} {x : Str} {fix : σ → List (Str × Value)} {drop : List Str} {m₀ : Str → Option Value} {led : σ → List (Addr × Obj)} {Inv : Nat → σ → Prop} {k : Nat} {s' : Shared}
    (k' : Nat) (st : σ) (h' : Heap) (tk' : Nat) (m' : Str → Option Value) (l : k' < k) (e : s' = { s with heap := h', toks := tk' }) (i : Inv k' st) (F : Fr h₀ L h' m') (fx : Fixes m' (fix st)) (kp : Kept (x :: (fix st).map (·.1) ++ drop) m₀ m') (N : News h₀ L h' (led st)) :
    GoesDown h₀ L s x fix drop m₀ led Inv k s' := ⟨k', st, h', tk', m', l, e, i, F, fx, kp, N⟩

theorem for_gen {σ : Type} {I : Addr} {m₀ : Str → Option Value}
    (fix : σ → List (Str × Value)) (drop : List Str) (led : σ → List (Addr × Obj)) (Inv : Nat → σ → Prop) (k₀ : Nat) (st₀ : σ) (h0 : Inv k₀ st₀)
    (F : Fr h₀ env.locals s.heap m₀) (N : News h₀ env.locals s.heap (led st₀)) (hfix : Fixes m₀ (fix st₀))
    (turn : ∀ k st u h tk, Inv k st → Fr h₀ env.locals h (fun y => if y = x then u y else ovl u m₀ (fix st) drop y) → News h₀ env.locals h (led st) →
      wpAny (model prog w) A (pyNext (.ref I)) (fun r s₁ => match r with
        | none => wpAny (model prog w) A (execs orelse env) Q E s₁
        | some v => wpAny (model prog w) A (storeName env x v) (fun _ s₂ => wpAny (model prog w) A (execs body env) (TurnM Q (GoesDown h₀ env.locals s x fix drop m₀ led Inv k)) E s₂) E s₁) E { s with heap := h, toks := tk })
    (hE : PassesOwn (model prog w) A env E := by passes_own) :
    ForK prog w A x px body orelse env Q E (.ref I) s := by
  have mov : ∀ {fx : List (Str × Value)} {m : Str → Option Value}, Fixes m fx → Kept (x :: fx.map (·.1) ++ drop) m₀ m → m = (fun y => if y = x then m y else ovl m m₀ fx drop y) := by
    intro fx m f k
    funext y
    by_cases h : y = x
    · rw [if_pos h]
    · rw [if_neg h]; exact ovl_at f fun q => k y (by simpa [h] using q)
  refine codeAny_forLoop
    (fun k s' => ∃ st h' tk' m', s' = { s with heap := h', toks := tk' } ∧ Inv k st ∧ Fr h₀ env.locals h' m' ∧ Fixes m' (fix st) ∧ Kept (x :: (fix st).map (·.1) ++ drop) m₀ m' ∧ News h₀ env.locals h' (led st)) ?_ k₀
    ⟨st₀, s.heap, s.toks, m₀, rfl, h0, F, hfix, Kept.refl, N⟩
  rintro k s' ⟨st, h', tk', m', rfl, hinv, F', hfx, hkp, N'⟩
  rw [mov hfx hkp] at F'
  refine wpAny_mono (turn k st m' h' tk' hinv F' N') (fun r s₁ h₁ => ?_) hE
  cases r with
  | none => exact wpAny_passesOwn hE h₁
  | some v =>
    refine wpAny_assign_Name (wpAny_mono h₁ (fun _ s₂ h₂ => wpAny_passesOwn hE (wpAny_mono h₂ (fun f s₃ h₃ => ?_) fun _ _ e => e)) hE)
    have fin : GoesDown h₀ env.locals s x fix drop m₀ led Inv k s₃ → ∃ m, m < k ∧ ∃ st h' tk' m', s₃ = { s with heap := h', toks := tk' } ∧ Inv m st ∧ Fr h₀ env.locals h' m' ∧ Fixes m' (fix st) ∧ Kept (x :: (fix st).map (·.1) ++ drop) m₀ m' ∧ News h₀ env.locals h' (led st) := by
      rintro ⟨k', st', h₄, tk₄, m₄, hk, rfl, i₄, F₄, f₄, p₄, N₄⟩
      exact ⟨k', hk, st', h₄, tk₄, m₄, rfl, i₄, F₄, f₄, p₄, N₄⟩
    cases f with
    | ret v => exact h₃
    | brk => exact h₃
    | next => exact fin h₃
    | cont => exact fin h₃

theorem cit_eval {I q : Addr} {ts : Tok} {news : List (Addr × Obj)} {L : Addr} (N : News h₀ L s.heap news) (hI : (I, citObj q ts) ∈ news) (h : ForK prog w A x px body orelse env Q E (.ref I) s) :
    Stop (wpAny (model prog w) A (pyIter (.ref I)) (ForK prog w A x px body orelse env Q E) E s) := cit_iter (N _ hI).1 h
end
theorem truthy_led {prog : Program} {w : World} {A : Around} {E : Value → Shared → Prop} {s : Shared} {h₀ : Heap} {L l : Addr} {news : List (Addr × Obj)} {its : Array Value} {n : Nat} {Q : Bool → Shared → Prop}
    (N : News h₀ L s.heap news) (hm : (l, W.listOf its n) ∈ news) (hfit : its.size ≤ 1000) (h : ∀ tk, Q (!its.isEmpty) { s with toks := tk }) : wpAny (model prog w) A (truthy (.ref l)) Q E s :=
  wpAny_truthy_list (items := its) ⟨_, (N _ hm).1, rfl, _, rfl⟩ (by omega) (h _)

example : True := by
  k_with "truthy ref" => ((with_reducible show wpAny _ _ (truthy (Value.ref _)) _ _ _); k_dflt (refine' truthy_led (by k_asm) (by k_mem) (by first | assumption | (simp only [List.size_toArray, List.length_nil, List.length_cons, Array.size_empty]; omega)) ?_; k_whole); intro tk9w; (try dsimp only))
  trivial
-- RwM
theorem news_sub {h₀ h : Heap} {L : Addr} {l l' : List (Addr × Obj)} (N : News h₀ L h l) (hs : ∀ p, p ∈ l' → p ∈ l) : News h₀ L h l' := fun p hp => N p (hs p hp)
section
variable {h₀ h : Heap} {L : Addr} {w : World} {b : Lx} {ln : Int} {tl : Tok} {pb : Array Value} {en : Nat} {pos : Int} {tp : Tok} {ep : Nat} {rest : List (Addr × Obj)}
theorem news_inL (pre : List (Addr × Obj)) (N : News h₀ L h (pre ++ b.led w ln tl pb en pos tp ep rest)) : News h₀ L h (b.led w ln tl pb en pos tp ep (pre ++ rest)) := by
  refine news_sub N fun p hp => ?_
  have e1 : b.led w ln tl pb en pos tp ep (pre ++ rest) = b.led w ln tl pb en pos tp ep [] ++ (pre ++ rest) := rfl
  have e2 : b.led w ln tl pb en pos tp ep rest = b.led w ln tl pb en pos tp ep [] ++ rest := rfl
  rw [e1, List.mem_append, List.mem_append] at hp
  rw [e2, List.mem_append, List.mem_append]
  rcases hp with h | h | h
  · exact .inr (.inl h)
  · exact .inl h
  · exact .inr (.inr h)
theorem news_outL (pre : List (Addr × Obj)) (N : News h₀ L h (b.led w ln tl pb en pos tp ep (pre ++ rest))) : News h₀ L h (pre ++ b.led w ln tl pb en pos tp ep rest) := by
  refine news_sub N fun p hp => ?_
  have e1 : b.led w ln tl pb en pos tp ep (pre ++ rest) = b.led w ln tl pb en pos tp ep [] ++ (pre ++ rest) := rfl
  have e2 : b.led w ln tl pb en pos tp ep rest = b.led w ln tl pb en pos tp ep [] ++ rest := rfl
  rw [e1, List.mem_append, List.mem_append]
  rw [e2, List.mem_append, List.mem_append] at hp
  rcases hp with h | h | h
  · exact .inr (.inl h)
  · exact .inl h
  · exact .inr (.inr h)
end
theorem news_mv2 {h₀ h : Heap} {L : Addr} {w : World} {b : Lx} {ln : Int} {tl : Tok} {pb : Array Value} {en : Nat} {pos : Int} {tp : Tok} {ep : Nat} {a c : Addr × Obj} {rest : List (Addr × Obj)}
    (N : News h₀ L h (a :: c :: b.led w ln tl pb en pos tp ep rest)) : News h₀ L h (b.led w ln tl pb en pos tp ep (a :: c :: rest)) := news_inL [a, c] N
theorem news_mvb {h₀ h : Heap} {L : Addr} {w : World} {b : Lx} {ln : Int} {tl : Tok} {pb : Array Value} {en : Nat} {pos : Int} {tp : Tok} {ep : Nat} {a c : Addr × Obj} {rest : List (Addr × Obj)}
    (N : News h₀ L h (b.led w ln tl pb en pos tp ep (a :: c :: rest))) : News h₀ L h (b.led w ln tl pb en pos tp ep rest) := fun p hp => news_outL [a, c] N p (.tail _ (.tail _ hp))
theorem S_nil : Str.ofString "" = S [] := by decide +kernel
section
variable {w : World} {text : List Nat} {b : Lx} {rest : List (Addr × Obj)} {ln : Int} {tl : Tok} {pb : Array Value} {en pos : Nat} {tp : Tok} {ep : Nat} {I q : Addr} {ts : Tok}
  {p : Program} {loose : List Str} {mean : ExcName → Option Value} {mg mb : Str → Option Value} {dp un : Nat} {gd : Option (List Code)} {cn : Str} {cs : Scope} {a : Addr} {ccd : Value} {cl : List (Str × Addr)} {outer : List Env} {A₀ : Around} {base h₀ : Heap} {L : Addr} {m : Str → Option Value} {s : Shared} {Q : Option Value → Shared → Prop} {E : Value → Shared → Prop}

theorem fn50 (X : (Mine.hd.heap_39 w.params).In h₀) : ∃ oc od fd sl, h₀.get? 50 = some ⟨oc, od, .func fd, sl⟩ := ⟨_, _, _, _, X 50 _ rfl⟩

theorem next_both (hR : ReadOk w text b.toSx) (hb : b.Chain) (hp : pos ≤ 1000) (ho1 : ∀ p ∈ rest, p.1 ≠ b.l) (ho2 : ∀ p ∈ rest, p.1 ≠ b.dx) (hI1 : I ≠ b.l) (hI2 : I ≠ b.dx) (hq1 : q ≠ b.l) (hq2 : q ≠ b.dx) (hII : ∀ p ∈ b.led w ln tl pb en pos tp ep ((q, methodObj (.ref 50) (.ref b.x)) :: rest), p.1 ≠ I)
    (B : Below A₀ base outer h₀) (F : Fr h₀ L s.heap m) (X : (Mine.hd.heap_39 w.params).In h₀) (N : News h₀ L s.heap (b.led w ln tl pb en pos tp ep ((I, citObj q ts) :: (q, methodObj (.ref 50) (.ref b.x)) :: rest))) (T : Top p loose mean mg mb h₀) (hk : cs.kind = .function)
    (hd : dp + 10 < recursionLimit) (hu : un + 85 < cLine)
    (h1 : ∀ c r, text.drop pos = c :: r → ∀ t tl' tp' ep' h' tk', Fr h₀ L h' m → News h₀ L h' (b.led w (if c = 10 then ln + 1 else ln) tl' pb en ((pos + 1 : Nat) : Int) tp' ep' ((I, citObj q ts) :: (q, methodObj (.ref 50) (.ref b.x)) :: rest)) → Q (some (.str (S [c]) t)) { s with heap := h', toks := tk' })
    (h2 : text.drop pos = [] → ∀ tl' tp' ep' h' tk', Fr h₀ L h' m → News h₀ L h' (b.led w ln tl' pb en ((pos + 1 : Nat) : Int) tp' ep' rest) → Q none { s with heap := h', toks := tk' }) :
    wpAny (model PySem.Challenge.rw_rw0020_01.row.prog w) (ktrTop dp un gd cn cs L a ccd cl outer) (pyNext (.ref I)) Q E s := by
  obtain ⟨oc, od, fd, sl, hf⟩ := fn50 X
  have mI : (I, citObj q ts) ∈ b.led w ln tl pb en pos tp ep ((I, citObj q ts) :: (q, methodObj (.ref 50) (.ref b.x)) :: rest) := by simp
  have mq : (q, methodObj (.ref 50) (.ref b.x)) ∈ b.led w ln tl pb en pos tp ep ((I, citObj q ts) :: (q, methodObj (.ref 50) (.ref b.x)) :: rest) := by simp
  refine cit_next (f := 50) rfl (N _ mI).1 (N _ mq).1 (F.keep _ _ hf) ?_
  refine readchar_c w text b hR hb ((I, citObj q ts) :: (q, methodObj (.ref 50) (.ref b.x)) :: rest) ln tl pb en pos tp ep ?_ ?_ hp p loose mean mg mb dp (un + 1) gd cn cs a ccd cl outer A₀ base h₀ L m s _ B F X N T hk hd (by omega) ?_
  · intro p hp
    rcases List.mem_cons.mp hp with rfl | hp
    · exact hI1
    · rcases List.mem_cons.mp hp with rfl | hp
      · exact hq1
      · exact ho1 p hp
  · intro p hp
    rcases List.mem_cons.mp hp with rfl | hp
    · exact hI2
    · rcases List.mem_cons.mp hp with rfl | hp
      · exact hq2
      · exact ho2 p hp
  · intro t tl' tp' ep' h' tk' F' N'
    have mI' : (I, citObj q ts) ∈ b.led w (if (text.drop pos).take 1 = [10] then ln + 1 else ln) tl' pb en ((pos + 1 : Nat) : Int) tp' ep' ((I, citObj q ts) :: (q, methodObj (.ref 50) (.ref b.x)) :: rest) := by simp
    have mq' : (q, methodObj (.ref 50) (.ref b.x)) ∈ b.led w (if (text.drop pos).take 1 = [10] then ln + 1 else ln) tl' pb en ((pos + 1 : Nat) : Int) tp' ep' ((I, citObj q ts) :: (q, methodObj (.ref 50) (.ref b.x)) :: rest) := by simp
    refine ⟨_, _, rfl, (N' _ mI').1, (N' _ mq').1, F'.keep _ _ hf, fun hy => ?_, fun hy h'' hx => ?_⟩
    · cases hc : text.drop pos with
      | nil => rw [hc, S_nil] at hy; exact absurd rfl hy
      | cons c r =>
        refine h1 c r hc t tl' tp' ep' h' tk' F' ?_
        rw [hc] at N'
        have e : (if List.take 1 (c :: r) = [10] then ln + 1 else ln) = if c = 10 then ln + 1 else ln := by simp
        rw [e] at N'
        exact N'
    · cases hc : text.drop pos with
      | cons c r =>
        rw [hc, S_nil] at hy
        exact absurd (S_inj.mp hy) (by simp)
      | nil =>
        rw [hc] at N'
        have e : (if List.take 1 ([] : List Nat) = [10] then ln + 1 else ln) = ln := by simp
        rw [e] at N'
        have hIL : I ≠ L := (N' _ (by simp : (I, citObj q ts) ∈ _)).2.1
        have hI0 : h₀.get? I = none := (N' _ (by simp : (I, citObj q ts) ∈ _)).2.2
        refine h2 hc tl' tp' ep' h'' tk' ⟨F'.ns.at' fun o e => hx L o (Ne.symm hIL) e, fun b' o e => hx b' o (fun q => by rw [q, hI0] at e; cases e) (F'.keep b' o e), F'.above⟩ ?_
        have N2 := news_mvb N'
        intro p hp
        refine ⟨hx _ _ ?_ (N2 p hp).1, (N2 p hp).2⟩
        have key : p.1 ∈ (b.led w ln tl' pb en ((pos + 1 : Nat) : Int) tp' ep' rest).map (·.1) := List.mem_map_of_mem hp
        have key2 : p.1 ∈ (b.led w ln tl pb en pos tp ep rest).map (·.1) := key
        obtain ⟨q', hq', e'⟩ := List.mem_map.mp key2
        rw [← e']
        refine hII q' ?_
        simp only [List.mem_cons] at hq' ⊢
        rcases hq' with h | h | h | h | h | h | h | h | h | h | h <;> simp [h]
end

-- RwK
def spell (marks : List Nat) : List Nat → List Nat
  | [] => []
  | c :: r => (if c ∈ marks then [92, c] else [c]) ++ spell marks r
theorem spell_append (marks a b : List Nat) : spell marks (a ++ b) = spell marks a ++ spell marks b := by
  induction a with
  | nil => rfl
  | cons c r ih => simp only [List.cons_append, spell, ih, List.append_assoc]
theorem spell_len (marks a : List Nat) : (spell marks a).length ≤ 2 * a.length := by
  induction a with
  | nil => simp [spell]
  | cons c r ih => simp only [spell, List.length_append, List.length_cons]; split <;> simp <;> omega
theorem spell_ge (marks a : List Nat) : a.length ≤ (spell marks a).length := by
  induction a with
  | nil => simp [spell]
  | cons c r ih => simp only [spell, List.length_append, List.length_cons]; split <;> simp <;> omega
structure Gq where
  (i : Nat) (t tl tp : Tok) (ep : Nat) (ln : Int) (pos : Nat)
set_option maxRecDepth 100000 in
set_option maxHeartbeats 8000000 in
theorem gettok_q (w : World) (text word r : List Nat) (b : Lx) (hR : ReadOk w text b.toSx) (hb : b.Chain) (rest : List (Addr × Obj)) (ln : Int) (tl : Tok) (en pos : Nat) (tp : Tok) (ep : Nat)
    (ho1 : ∀ p ∈ rest, p.1 ≠ b.l) (ho2 : ∀ p ∈ rest, p.1 ≠ b.dx) (hp : text.length ≤ 900) (ht : text.drop pos = 34 :: (spell [92, 34] word ++ 34 :: r)) :
    ClaimC w 57 (b.led w ln tl #[] en pos tp ep rest) [.ref b.x] 20 160 (fun h₀ L m s Q => ∀ (t tl' tp' : Tok) (ep' : Nat) (h' : Heap) (tk' : Nat), Fr h₀ L h' m →
      News h₀ L h' (b.led w (ln + (word.count 10 : Nat)) tl' #[] en ((pos + (spell [92, 34] word).length + 2 : Nat) : Int) tp' ep' rest) → Q (.str (S word) t) { s with heap := h', toks := tk' }) := by
  have hpos : pos + (spell [92, 34] word).length + 2 ≤ 900 := by
    have e := congrArg List.length ht
    simp only [List.length_drop, List.length_cons, List.length_append] at e
    omega
  unfold ClaimC
  k_fill
  w_top off
  intros; rename_i hret
  have hb' := hb
  unfold Lx.Chain at hb'
  k_dflt cell_enter
  k_steps
  rename Fr _ _ _ _ => F
  rename News _ _ _ _ => N
  rename_i I _ _ lI
  refine cit_eval N (.head _) ?_
  refine for_gen (σ := Unit) (fun _ => []) [] (fun _ => b.led w ln tl #[] en pos tp ep ((_, citObj _ _) :: (_, methodObj (.ref 50) (.ref b.x)) :: rest)) (fun _ _ => True) 1 () trivial F (news_mv2 N) trivial ?_
  intro k _ u h tk _ F1 N1
  (try k_fold)
  clear F N
  k_dflt (refine' next_both hR hb (by omega) ho1 ho2 ?a ?b ?c ?d ?e (by k_asm) (by k_asm) (by k_asm) N1 (by k_asm) ?K ?hd ?hu ?_ ?_)
  case a => k_ne
  case b => k_ne
  case c => k_ne
  case d => k_ne
  case e => k_dflt k_all
  case K => exact rfl
  case hd => ktr_room
  case hu => ktr_units
  rotate_left
  · intro hn; rw [ht] at hn; cases hn
  intro c r' hc t1 tl1 tp1 ep1 h1 tk1 F N
  rw [ht] at hc
  obtain ⟨rfl, hr'⟩ := List.cons.inj hc
  clear N1 F1 hc
  rw [if_neg (by decide)] at N
  dsimp only
  dsimp only [ovl, ovd] at F
  k_steps
  rotate_left
  · exact absurd (by assumption : (Builtin.Str.occurrences ws (S [34]) 0 ws.length 1).isEmpty = false) (by rw [occ_ws]; decide)
  rename Fr _ _ _ _ => F
  rename News _ _ _ _ => N
  refine' cit_eval N ?mm ?_
  case mm => k_dflt k_mem
  refine for_gen (σ := Gq) (fun st => [(Str.ofString "token", .str (S (word.take st.i)) st.t)]) []
    (fun st => b.led w st.ln st.tl #[] en (st.pos : Int) st.tp st.ep ((_, citObj _ _) :: (_, methodObj (.ref 50) (.ref b.x)) :: rest))
    (fun k st => k + st.i = word.length + 1 ∧ st.i ≤ word.length ∧ st.ln = ln + ((word.take st.i).count 10 : Nat) ∧ st.pos = pos + 1 + (spell [92, 34] (word.take st.i)).length) (word.length + 1) ⟨0, _, tl1, tp1, ep1, ln, pos + 1⟩ ⟨rfl, Nat.zero_le _, by simp, by simp [spell]⟩ F N ⟨rfl, trivial⟩ ?_
  intro k st u2 h2 tk2 hinv F1 N1
  (try k_fold)
  clear F N
  obtain ⟨i, t2, tl2, tp2, ep2, ln2, pos2⟩ := st
  obtain ⟨hk, hi, hln, hps⟩ := hinv
  dsimp only at hk hi hln hps F1 N1
  have htx : text.drop pos2 = spell [92, 34] (word.drop i) ++ 34 :: r := by
    have e1 : spell [92, 34] word = spell [92, 34] (word.take i) ++ spell [92, 34] (word.drop i) := by rw [← spell_append, List.take_append_drop]
    rw [hps, ← List.drop_drop, ← List.drop_drop, ht, e1]
    simp
  have hp2 : pos2 ≤ 902 := by
    have e1 : spell [92, 34] word = spell [92, 34] (word.take i) ++ spell [92, 34] (word.drop i) := by rw [← spell_append, List.take_append_drop]
    rw [e1, List.length_append] at hpos
    omega
  k_dflt (refine' next_both hR hb (by omega) ho1 ho2 ?z1 ?z2 ?z3 ?z4 ?z5 (by k_asm) (by k_asm) (by k_asm) N1 (by k_asm) ?z6 ?z7 ?z8 ?_ ?_)
  case z1 => k_ne
  case z2 => k_ne
  case z3 => k_ne
  case z4 => k_ne
  case z5 => k_dflt k_all
  case z6 => exact rfl
  case z7 => ktr_room
  case z8 => ktr_units
  rotate_left
  · intro hn; rw [htx] at hn; simp at hn
  intro c rr hc t3 tl3 tp3 ep3 h3 tk3 F N
  clear N1 F1
  rw [htx] at hc
  dsimp only
  dsimp only [ovl, ovd] at F
  by_cases hin : i = word.length
  · subst hin
    rw [List.drop_length] at hc
    simp only [spell, List.nil_append] at hc
    obtain ⟨rfl, hr'⟩ := List.cons.inj hc
    rw [if_neg (by decide)] at N
    k_steps
    rename Fr _ _ _ _ => F9
    rename News _ _ _ _ => N9
    have N10 := news_mvb N9
    rw [List.take_length] at hln hps
    rw [show pos2 + 1 = pos + (spell [92, 34] word).length + 2 by omega, hln] at N10
    rw [List.take_length]
    exact hret _ _ _ _ _ _ F9 N10
  · have hlt : i < word.length := by omega
    have hwl : word.length ≤ 900 := by have := spell_ge [92, 34] word; omega
    have hsz : (S (word.take i)).length ≤ 900 := by rw [S_len, List.length_take]; omega
    have hdr : word.drop i = word[i] :: word.drop (i + 1) := List.drop_eq_getElem_cons hlt
    have htk : word.take (i + 1) = word.take i ++ [word[i]] := List.take_succ_eq_append_getElem hlt
    generalize hd : word[i] = d at hdr htk
    have hs1 : (S [d]).length ≤ 1 := by rw [S_len]; simp
    rw [hdr] at hc htx
    simp only [spell] at hc htx
    by_cases hm : d ∈ [92, 34]
    · rw [if_pos hm] at hc htx
      obtain ⟨rfl, hr2⟩ := List.cons.inj hc
      rw [if_neg (by decide)] at N
      have hnx : List.take 1 (List.drop (pos2 + 1) text) = [d] := by
        rw [← List.drop_drop, htx]; simp
      k_steps
      · rename Fr _ _ _ _ => F9
        rename News _ _ _ _ => N9
        have hd10 : ¬ ([d] = [10]) := by rintro ⟨⟩; simp at hm
        rw [if_neg hd10] at N9
        refine' goes_down (k - 1) ⟨i + 1, _, _, _, _, ln2, pos2 + 2⟩ _ _ _ (by omega) rfl ⟨by dsimp only; omega, by dsimp only; omega, ?y1, ?y2⟩ F9 ⟨?y3, trivial⟩ ?y4 N9
        case y3 => dsimp only; rw [htk, ← S_append]; rfl
        case y1 =>
          rw [htk, List.count_append, hln]
          have : List.count 10 [d] = 0 := List.count_eq_zero.mpr (fun h => hd10 (by rw [List.mem_singleton.mp h]))
          rw [this]; rfl
        case y2 =>
          dsimp only
          rw [htk, spell_append, hps]
          simp only [spell, if_pos hm, List.length_append, List.length_cons, List.length_nil]
          omega
        case y4 => ktr_rel
    · rw [if_neg hm] at hc htx
      obtain ⟨rfl, hr2⟩ := List.cons.inj hc
      have n34 : (S [d] == Str.ofString "\"") = false := by rw [ofString_q, S_beq]; exact decide_eq_false (fun h => hm (by rw [(List.cons.inj h).1]; simp))
      have n92 : (S [d] == Str.ofString "\\") = false := by rw [ofString_b, S_beq]; exact decide_eq_false (fun h => hm (by rw [(List.cons.inj h).1]; simp))
      k_steps
      · rename Fr _ _ _ _ => F9
        rename News _ _ _ _ => N9
        refine' goes_down (k - 1) ⟨i + 1, _, _, _, _, (if d = 10 then ln2 + 1 else ln2), pos2 + 1⟩ _ _ _ (by omega) rfl ⟨by dsimp only; omega, by dsimp only; omega, ?y1, ?y2⟩ F9 ⟨?y3, trivial⟩ ?y4 N9
        case y3 => dsimp only; rw [htk, ← S_append]; rfl
        case y1 =>
          dsimp only
          rw [htk, List.count_append, hln, List.count_singleton]
          by_cases h10 : d = 10
          · subst h10; simp; omega
          · simp [h10]
        case y2 =>
          dsimp only
          rw [htk, spell_append, hps]
          simp only [spell, if_neg hm, List.length_append, List.length_cons, List.length_nil]
          omega
        case y4 => ktr_rel

-- RwL
set_option maxRecDepth 100000 in
set_option maxHeartbeats 32000000 in
theorem gettok_b (w : World) (text word r : List Nat) (b : Lx) (hR : ReadOk w text b.toSx) (hb : b.Chain) (rest : List (Addr × Obj)) (ln : Int) (tl : Tok) (en pos : Nat) (tp : Tok) (ep : Nat)
    (ho1 : ∀ p ∈ rest, p.1 ≠ b.l) (ho2 : ∀ p ∈ rest, p.1 ≠ b.dx) (hp : text.length ≤ 900) (hw : 0 < word.length) (ht : text.drop pos = spell m6 word ++ 32 :: r) :
    ClaimC w 57 (b.led w ln tl #[] en pos tp ep rest) [.ref b.x] 20 160 (fun h₀ L m s Q => ∀ (t tl' tp' : Tok) (ep' : Nat) (h' : Heap) (tk' : Nat), Fr h₀ L h' m →
      News h₀ L h' (b.led w (ln + (word.count 10 : Nat)) tl' #[] en ((pos + (spell m6 word).length + 1 : Nat) : Int) tp' ep' rest) → Q (.str (S word) t) { s with heap := h', toks := tk' }) := by
  have hpos : pos + (spell m6 word).length + 1 ≤ 900 := by
    have e := congrArg List.length ht
    simp only [List.length_drop, List.length_cons, List.length_append] at e
    omega
  have hwl : word.length ≤ 900 := by have := spell_ge m6 word; omega
  have n_ws : ∀ d, d ∉ m6 → (Builtin.Str.occurrences ws (S [d]) 0 ws.length 1).isEmpty = true := fun d hd => by
    rw [occ_ws]; exact decide_eq_true (fun h => hd (by simp at h ⊢; omega))
  have n_34 : ∀ d, d ∉ m6 → (S [d] == Str.ofString "\"") = false := fun d hm => by rw [ofString_q, S_beq]; exact decide_eq_false (fun h => hm (by rw [(List.cons.inj h).1]; simp))
  have n_92 : ∀ d, d ∉ m6 → (S [d] == Str.ofString "\\") = false := fun d hm => by rw [ofString_b, S_beq]; exact decide_eq_false (fun h => hm (by rw [(List.cons.inj h).1]; simp))
  have n_10 : ∀ d, d ∉ m6 → d ≠ 10 := fun d hm h => hm (by rw [h]; simp)
  have w92 : (Builtin.Str.occurrences ws (S [92]) 0 ws.length 1).isEmpty = true := by rw [occ_ws]; decide
  have w32 : (Builtin.Str.occurrences ws (S [32]) 0 ws.length 1).isEmpty = false := by rw [occ_ws]; decide
  unfold ClaimC
  k_fill
  w_top off
  intros; rename_i hret
  have hb' := hb
  unfold Lx.Chain at hb'
  have hR0 := hR
  have hb0 := hb
  k_dflt cell_enter
  k_steps
  rename Fr _ _ _ _ => F
  rename News _ _ _ _ => N
  refine cit_eval N (.head _) ?_
  refine for_gen (σ := Unit) (fun _ => []) [] (fun _ => b.led w ln tl #[] en pos tp ep ((_, citObj _ _) :: (_, methodObj (.ref 50) (.ref b.x)) :: rest)) (fun _ _ => True) 1 () trivial F (news_mv2 N) trivial ?_
  intro k _ u h tk _ F1 N1
  (try k_fold)
  clear F N
  k_dflt (refine' next_both hR hb (by omega) ho1 ho2 ?a ?b ?c ?d ?e (by k_asm) (by k_asm) (by k_asm) N1 (by k_asm) ?K ?hd ?hu ?_ ?_)
  case a => k_ne
  case b => k_ne
  case c => k_ne
  case d => k_ne
  case e => k_dflt k_all
  case K => exact rfl
  case hd => ktr_room
  case hu => ktr_units
  rotate_left
  · intro hn; rw [ht] at hn; simp at hn
  intro c r' hc t1 tl1 tp1 ep1 h1 tk1 F N
  clear N1 F1
  rw [ht] at hc
  have hdr0 : word = word[0] :: word.drop 1 := by simpa using List.drop_eq_getElem_cons hw
  have htk0 : word.take 1 = [word[0]] := by simpa using List.take_succ_eq_append_getElem hw
  generalize hd0 : word[0] = d0 at hdr0 htk0
  have hs0 : (S [d0]).length ≤ 1 := by rw [S_len]; simp
  have htx0 := ht
  rw [hdr0] at hc htx0
  simp only [spell] at hc htx0
  dsimp only
  dsimp only [ovl, ovd] at F
  by_cases hm0 : d0 ∈ m6
  · rw [if_pos hm0] at hc htx0
    obtain ⟨rfl, hr2⟩ := List.cons.inj hc
    rw [if_neg (by decide)] at N
    have hnx : List.take 1 (List.drop (pos + 1) text) = [d0] := by
      rw [← List.drop_drop, htx0]; simp
    k_steps
    rotate_left
    · exact absurd (by assumption : (Builtin.Str.occurrences ws (S [92]) 0 ws.length 1).isEmpty = false) (by rw [w92]; decide)
    rename Fr _ _ _ _ => F
    rename News _ _ _ _ => N
    refine' cit_eval N ?mm ?_
    case mm => k_dflt k_mem
    refine' for_gen (σ := Gq) (fun st => [(Str.ofString "token", .str (S (word.take st.i)) st.t)]) []
      (fun st => b.led w st.ln st.tl #[] en (st.pos : Int) st.tp st.ep ((_, citObj _ _) :: (_, methodObj (.ref 50) (.ref b.x)) :: rest))
      (fun k st => k + st.i = word.length + 1 ∧ st.i ≤ word.length ∧ st.ln = ln + ((word.take st.i).count 10 : Nat) ∧ st.pos = pos + (spell m6 (word.take st.i)).length) word.length ⟨1, _, _, _, _, (if [d0] = [10] then ln + 1 else ln), pos + 2⟩ ⟨rfl, hw, ?s1, ?s2⟩ F N ⟨?s3, trivial⟩ ?_
    case s1 => dsimp only; rw [htk0, List.count_singleton]; by_cases h10 : d0 = 10 <;> simp [h10]
    case s2 => dsimp only; rw [htk0]; simp only [spell, if_pos hm0]; rfl
    case s3 => dsimp only; rw [htk0, show S [d0] = Str.ofString "" ++ S [d0] from by rw [S_nil, S_append]; rfl]; rfl
    intro k st u2 h2 tk2 hinv F1 N1
    (try k_fold)
    clear F N
    obtain ⟨i, t2, tl2, tp2, ep2, ln2, pos2⟩ := st
    obtain ⟨hk, hi, hln, hps⟩ := hinv
    dsimp only at hk hi hln hps F1 N1
    have htx : text.drop pos2 = spell m6 (word.drop i) ++ 32 :: r := by
      have e1 : spell m6 word = spell m6 (word.take i) ++ spell m6 (word.drop i) := by rw [← spell_append, List.take_append_drop]
      rw [hps, ← List.drop_drop, ht, e1]
      simp
    have hp2 : pos2 ≤ 902 := by
      have e1 : spell m6 word = spell m6 (word.take i) ++ spell m6 (word.drop i) := by rw [← spell_append, List.take_append_drop]
      rw [e1, List.length_append] at hpos
      omega
    k_dflt (refine' next_both hR hb (by omega) ho1 ho2 ?z1 ?z2 ?z3 ?z4 ?z5 (by k_asm) (by k_asm) (by k_asm) N1 (by k_asm) ?z6 ?z7 ?z8 ?_ ?_)
    case z1 => k_ne
    case z2 => k_ne
    case z3 => k_ne
    case z4 => k_ne
    case z5 => k_dflt k_all
    case z6 => exact rfl
    case z7 => ktr_room
    case z8 => ktr_units
    rotate_left
    · intro hn; rw [htx] at hn; simp at hn
    intro c rr hc t3 tl3 tp3 ep3 h3 tk3 F N
    clear N1 F1
    rw [htx] at hc
    dsimp only
    dsimp only [ovl, ovd] at F
    by_cases hin : i = word.length
    · subst hin
      rw [List.drop_length] at hc
      simp only [spell, List.nil_append] at hc
      obtain ⟨rfl, hr'⟩ := List.cons.inj hc
      rw [if_neg (by decide)] at N
      k_steps
      · exact absurd (by assumption : (Builtin.Str.occurrences ws (S [32]) 0 ws.length 1).isEmpty = true) (by rw [w32]; decide)
      · rename Fr _ _ _ _ => F9
        rename News _ _ _ _ => N9
        have N10 := news_mvb N9
        rw [List.take_length] at hln hps
        rw [show pos2 + 1 = pos + (spell m6 word).length + 1 by omega, hln] at N10
        rw [List.take_length]
        exact hret _ _ _ _ _ _ F9 N10
    · have hlt : i < word.length := by omega
      have hsz : (S (word.take i)).length ≤ 900 := by rw [S_len, List.length_take]; omega
      have hdr : word.drop i = word[i] :: word.drop (i + 1) := List.drop_eq_getElem_cons hlt
      have htk : word.take (i + 1) = word.take i ++ [word[i]] := List.take_succ_eq_append_getElem hlt
      generalize hd : word[i] = d at hdr htk
      have hs1 : (S [d]).length ≤ 1 := by rw [S_len]; simp
      rw [hdr] at hc htx
      simp only [spell] at hc htx
      by_cases hm : d ∈ m6
      · rw [if_pos hm] at hc htx
        obtain ⟨rfl, hr2⟩ := List.cons.inj hc
        rw [if_neg (by decide)] at N
        have hnx : List.take 1 (List.drop (pos2 + 1) text) = [d] := by
          rw [← List.drop_drop, htx]; simp
        k_steps
        rotate_left
        · exact absurd (by assumption : (Builtin.Str.occurrences ws (S [92]) 0 ws.length 1).isEmpty = false) (by rw [w92]; decide)
        · rename Fr _ _ _ _ => F9
          rename News _ _ _ _ => N9
          refine' goes_down (k - 1) ⟨i + 1, _, _, _, _, (if [d] = [10] then ln2 + 1 else ln2), pos2 + 2⟩ _ _ _ (by omega) rfl ⟨by dsimp only; omega, by dsimp only; omega, ?y1, ?y2⟩ F9 ⟨?y3, trivial⟩ ?y4 N9
          case y3 => dsimp only; rw [htk, ← S_append]; rfl
          case y1 =>
            dsimp only
            rw [htk, List.count_append, hln, List.count_singleton]
            by_cases h10 : d = 10
            · subst h10; simp; omega
            · simp [h10]
          case y2 =>
            dsimp only
            rw [htk, spell_append, hps]
            simp only [spell, if_pos hm, List.length_append, List.length_cons, List.length_nil]
            omega
          case y4 => ktr_rel
      · rw [if_neg hm] at hc htx
        obtain ⟨rfl, hr2⟩ := List.cons.inj hc
        have e34 := n_34 d hm
        have e92 := n_92 d hm
        have ews := n_ws d hm
        have h10 := n_10 d hm
        rw [if_neg h10] at N
        k_steps
        · rename Fr _ _ _ _ => F9
          rename News _ _ _ _ => N9
          refine' goes_down (k - 1) ⟨i + 1, _, _, _, _, ln2, pos2 + 1⟩ _ _ _ (by omega) rfl ⟨by dsimp only; omega, by dsimp only; omega, ?y1, ?y2⟩ F9 ⟨?y3, trivial⟩ ?y4 N9
          case y3 => dsimp only; rw [htk, ← S_append]; rfl
          case y1 =>
            dsimp only
            rw [htk, List.count_append, hln, List.count_singleton]
            simp [h10]
          case y2 =>
            dsimp only
            rw [htk, spell_append, hps]
            simp only [spell, if_neg hm, List.length_append, List.length_cons, List.length_nil]
            omega
          case y4 => ktr_rel
  · rw [if_neg hm0] at hc htx0
    obtain ⟨rfl, hr2⟩ := List.cons.inj hc
    have e34 := n_34 d0 hm0
    have e92 := n_92 d0 hm0
    have ews := n_ws d0 hm0
    rw [if_neg (n_10 d0 hm0)] at N
    k_steps
    rename Fr _ _ _ _ => F
    rename News _ _ _ _ => N
    refine' cit_eval N ?mm ?_
    case mm => k_dflt k_mem
    refine' for_gen (σ := Gq) (fun st => [(Str.ofString "token", .str (S (word.take st.i)) st.t)]) []
      (fun st => b.led w st.ln st.tl #[] en (st.pos : Int) st.tp st.ep ((_, citObj _ _) :: (_, methodObj (.ref 50) (.ref b.x)) :: rest))
      (fun k st => k + st.i = word.length + 1 ∧ st.i ≤ word.length ∧ st.ln = ln + ((word.take st.i).count 10 : Nat) ∧ st.pos = pos + (spell m6 (word.take st.i)).length) word.length ⟨1, _, _, _, _, ln, pos + 1⟩ ⟨rfl, hw, ?s1, ?s2⟩ F N ⟨?s3, trivial⟩ ?_
    case s1 => dsimp only; rw [htk0, List.count_singleton]; have h10 := n_10 d0 hm0; simp [h10]
    case s2 => dsimp only; rw [htk0]; simp only [spell, if_neg hm0]; rfl
    case s3 => dsimp only; rw [htk0, show S [d0] = Str.ofString "" ++ S [d0] from by rw [S_nil, S_append]; rfl]; rfl
    intro k st u2 h2 tk2 hinv F1 N1
    (try k_fold)
    clear F N
    obtain ⟨i, t2, tl2, tp2, ep2, ln2, pos2⟩ := st
    obtain ⟨hk, hi, hln, hps⟩ := hinv
    dsimp only at hk hi hln hps F1 N1
    have htx : text.drop pos2 = spell m6 (word.drop i) ++ 32 :: r := by
      have e1 : spell m6 word = spell m6 (word.take i) ++ spell m6 (word.drop i) := by rw [← spell_append, List.take_append_drop]
      rw [hps, ← List.drop_drop, ht, e1]
      simp
    have hp2 : pos2 ≤ 902 := by
      have e1 : spell m6 word = spell m6 (word.take i) ++ spell m6 (word.drop i) := by rw [← spell_append, List.take_append_drop]
      rw [e1, List.length_append] at hpos
      omega
    k_dflt (refine' next_both hR hb (by omega) ho1 ho2 ?z1 ?z2 ?z3 ?z4 ?z5 (by k_asm) (by k_asm) (by k_asm) N1 (by k_asm) ?z6 ?z7 ?z8 ?_ ?_)
    case z1 => k_ne
    case z2 => k_ne
    case z3 => k_ne
    case z4 => k_ne
    case z5 => k_dflt k_all
    case z6 => exact rfl
    case z7 => ktr_room
    case z8 => ktr_units
    rotate_left
    · intro hn; rw [htx] at hn; simp at hn
    intro c rr hc t3 tl3 tp3 ep3 h3 tk3 F N
    clear N1 F1
    rw [htx] at hc
    dsimp only
    dsimp only [ovl, ovd] at F
    by_cases hin : i = word.length
    · subst hin
      rw [List.drop_length] at hc
      simp only [spell, List.nil_append] at hc
      obtain ⟨rfl, hr'⟩ := List.cons.inj hc
      rw [if_neg (by decide)] at N
      k_steps
      · exact absurd (by assumption : (Builtin.Str.occurrences ws (S [32]) 0 ws.length 1).isEmpty = true) (by rw [w32]; decide)
      · rename Fr _ _ _ _ => F9
        rename News _ _ _ _ => N9
        have N10 := news_mvb N9
        rw [List.take_length] at hln hps
        rw [show pos2 + 1 = pos + (spell m6 word).length + 1 by omega, hln] at N10
        rw [List.take_length]
        exact hret _ _ _ _ _ _ F9 N10
    · have hlt : i < word.length := by omega
      have hsz : (S (word.take i)).length ≤ 900 := by rw [S_len, List.length_take]; omega
      have hdr : word.drop i = word[i] :: word.drop (i + 1) := List.drop_eq_getElem_cons hlt
      have htk : word.take (i + 1) = word.take i ++ [word[i]] := List.take_succ_eq_append_getElem hlt
      generalize hd : word[i] = d at hdr htk
      have hs1 : (S [d]).length ≤ 1 := by rw [S_len]; simp
      rw [hdr] at hc htx
      simp only [spell] at hc htx
      by_cases hm : d ∈ m6
      · rw [if_pos hm] at hc htx
        obtain ⟨rfl, hr2⟩ := List.cons.inj hc
        rw [if_neg (by decide)] at N
        have hnx : List.take 1 (List.drop (pos2 + 1) text) = [d] := by
          rw [← List.drop_drop, htx]; simp
        k_steps
        rotate_left
        · exact absurd (by assumption : (Builtin.Str.occurrences ws (S [92]) 0 ws.length 1).isEmpty = false) (by rw [w92]; decide)
        · rename Fr _ _ _ _ => F9
          rename News _ _ _ _ => N9
          refine' goes_down (k - 1) ⟨i + 1, _, _, _, _, (if [d] = [10] then ln2 + 1 else ln2), pos2 + 2⟩ _ _ _ (by omega) rfl ⟨by dsimp only; omega, by dsimp only; omega, ?y1, ?y2⟩ F9 ⟨?y3, trivial⟩ ?y4 N9
          case y3 => dsimp only; rw [htk, ← S_append]; rfl
          case y1 =>
            dsimp only
            rw [htk, List.count_append, hln, List.count_singleton]
            by_cases h10 : d = 10
            · subst h10; simp; omega
            · simp [h10]
          case y2 =>
            dsimp only
            rw [htk, spell_append, hps]
            simp only [spell, if_pos hm, List.length_append, List.length_cons, List.length_nil]
            omega
          case y4 => ktr_rel
      · rw [if_neg hm] at hc htx
        obtain ⟨rfl, hr2⟩ := List.cons.inj hc
        have e34 := n_34 d hm
        have e92 := n_92 d hm
        have ews := n_ws d hm
        have h10 := n_10 d hm
        rw [if_neg h10] at N
        k_steps
        · rename Fr _ _ _ _ => F9
          rename News _ _ _ _ => N9
          refine' goes_down (k - 1) ⟨i + 1, _, _, _, _, ln2, pos2 + 1⟩ _ _ _ (by omega) rfl ⟨by dsimp only; omega, by dsimp only; omega, ?y1, ?y2⟩ F9 ⟨?y3, trivial⟩ ?y4 N9
          case y3 => dsimp only; rw [htk, ← S_append]; rfl
          case y1 =>
            dsimp only
            rw [htk, List.count_append, hln, List.count_singleton]
            simp [h10]
          case y2 =>
            dsimp only
            rw [htk, spell_append, hps]
            simp only [spell, if_neg hm, List.length_append, List.length_cons, List.length_nil]
            omega
          case y4 => ktr_rel

-- RwTt
open PySem.Builtin.Str in
theorem slice_to {l : List Nat} {j : Nat} : Txt.slice (S l) none (some (j : Int)) = S (l.take j) := by
  have e : Txt.slice (S l) none (some (j : Int)) = Txt.slice (S l) (some ((0 : Nat) : Int)) (some (j : Int)) := by
    unfold Txt.slice
    have : strSliceIndices none (some (j : Int)) 1 (S l).length = strSliceIndices (some ((0 : Nat) : Int)) (some (j : Int)) 1 (S l).length := by
      simp [strSliceIndices]
      have h3 : max (0 : Int) (min 0 ((S l).length : Int)) = 0 := by omega
      rw [h3]
    rw [this]
  rw [e, slice_S (by omega)]; simp
open PySem.Builtin.Str in
theorem slice_from {l : List Nat} {i : Nat} : Txt.slice (S l) (some (i : Int)) none = S (l.drop i) := by
  have e : Txt.slice (S l) (some (i : Int)) none = Txt.slice (S l) (some (i : Int)) (some ((max i l.length : Nat) : Int)) := by
    unfold Txt.slice
    have : strSliceIndices (some (i : Int)) none 1 (S l).length = strSliceIndices (some (i : Int)) (some ((max i l.length : Nat) : Int)) 1 (S l).length := by
      have h : ¬ ((max i l.length : Nat) : Int) < 0 := by omega
      have h2 : min ((max i l.length : Nat) : Int) (l.length : Nat) = (l.length : Nat) := by omega
      simp only [strSliceIndices, S_len]
      simp
      have h3 : max (0 : Int) (min (if ((max i l.length : Nat) : Int) < 0 then ((max i l.length : Nat) : Int) + (l.length : Int) else ((max i l.length : Nat) : Int)) (l.length : Int)) = (l.length : Int) := by
        rw [if_neg h]; omega
      rw [h3]
    rw [this]
  rw [e, slice_S (by omega)]
  rw [List.take_of_length_le (by rw [List.length_drop]; omega)]

-- RwW
section
variable {prog : Program} {w : World} {A : Around} {E : Value → Shared → Prop} {s : Shared} {env : Env} {h₀ : Heap} {Q : Flow → Shared → Prop}
def WTurn {σ : Type} (h₀ : Heap) (L : Addr) (s : Shared) (fix : σ → List (Str × Value)) (drop : List Str) (m₀ : Str → Option Value) (led : σ → List (Addr × Obj)) (Inv : Nat → σ → Prop) (k : Nat) (f : Flow) (s' : Shared) : Prop :=
  f = .next ∧ ∃ k' st h' tk' m', k' < k ∧ s' = { s with heap := h', toks := tk' } ∧ Inv k' st ∧ Fr h₀ L h' m' ∧ Fixes m' (fix st) ∧ Kept ((fix st).map (·.1) ++ drop) m₀ m' ∧ News h₀ L h' (led st)
theorem w_turn {σ : Type} {h₀ : Heap} {L : Addr} {s : Shared} {fix : σ → List (Str × Value)} {drop : List Str} {m₀ : Str → Option Value} {led : σ → List (Addr × Obj)} {Inv : Nat → σ → Prop} {k : Nat} {f : Flow} {s' : Shared}
    (q : f = .next) (k' : Nat) (st : σ) (h' : Heap) (tk' : Nat) (m' : Str → Option Value) (l : k' < k) (e : s' = { s with heap := h', toks := tk' }) (i : Inv k' st) (F : Fr h₀ L h' m') (fx : Fixes m' (fix st)) (kp : Kept ((fix st).map (·.1) ++ drop) m₀ m') (N : News h₀ L h' (led st)) :
    WTurn h₀ L s fix drop m₀ led Inv k f s' := ⟨q, k', st, h', tk', m', l, e, i, F, fx, kp, N⟩
theorem while_own {σ : Type} {test : Expr} {body : List Stmt} {pos : Pos} {m₀ : Str → Option Value}
    (fix : σ → List (Str × Value)) (drop : List Str) (led : σ → List (Addr × Obj)) (Inv : Nat → σ → Prop) (k₀ : Nat) (st₀ : σ) (h0 : Inv k₀ st₀)
    (F : Fr h₀ env.locals s.heap m₀) (N : News h₀ env.locals s.heap (led st₀)) (hfix : Fixes m₀ (fix st₀))
    (turn : ∀ k st u h tk, Inv k st → Fr h₀ env.locals h (ovl u m₀ (fix st) drop) → News h₀ env.locals h (led st) →
      wpAny (model prog w) A (isTrue test env (eval test env)) (fun b s₂ =>
        if b = true then wpAny (model prog w) A (execs body env) (WTurn h₀ env.locals s fix drop m₀ led Inv k) E s₂ else Q .next s₂) E { s with heap := h, toks := tk })
    (hE : PassesOwn (model prog w) A env E := by passes_own) :
    Stop (wpAny (model prog w) A (exec (.While test body [] pos) env) Q E s) := by
  refine wpAny_While (codeAny_whileLoop (fun n s' => ∃ st h₁ tk₁ m₁, s' = { s with heap := h₁, toks := tk₁ } ∧ Inv n st ∧ Fr h₀ env.locals h₁ m₁ ∧ Fixes m₁ (fix st) ∧ Kept ((fix st).map (·.1) ++ drop) m₀ m₁ ∧ News h₀ env.locals h₁ (led st)) ?_ k₀ ⟨st₀, s.heap, s.toks, m₀, rfl, h0, F, hfix, Kept.refl, N⟩)
  rintro n s' ⟨st, h₁, tk₁, m₁, rfl, I₁, F₁, x₁, p₁, N₁⟩
  rw [ovl_of x₁ p₁] at F₁
  refine wpAny_mono (turn n st m₁ h₁ tk₁ I₁ F₁ N₁) (fun b s₂ h₂ => ?_) hE
  cases b with
  | false =>
    simp only [Bool.false_eq_true, if_false] at h₂ ⊢
    exact wpAny_execs_nil h₂
  | true =>
    simp only [if_true] at h₂ ⊢
    refine wpAny_mono h₂ (fun f s₃ h₃ => ?_) hE
    obtain ⟨rfl, k', st', h', tk', m₂, hk, rfl, I₂, F₂, x₂, p₂, N₂⟩ := h₃
    exact ⟨k', hk, st', h', tk', m₂, rfl, I₂, F₂, x₂, p₂, N₂⟩
end
theorem allLt_intro {d : Addr} {l : List (Addr × Obj)} (h : ∀ p ∈ l, p.1 < d) : AllLt d l := by
  induction l with
  | nil => trivial
  | cons q r ih => exact ⟨h q (.head _), ih fun p hp => h p (.tail _ hp)⟩
theorem bor (a b : Nat) : Builtin.bitOr (a : Int) (b : Int) = ((a ||| b : Nat) : Int) := by
  unfold Builtin.bitOr
  have h1 : Builtin.bitNot (a : Int) = -(a : Int) - 1 := rfl
  have h2 : Builtin.bitNot (b : Int) = -(b : Int) - 1 := rfl
  have n1 : ¬ (0 ≤ -(a : Int) - 1) := by omega
  have n2 : ¬ (0 ≤ -(b : Int) - 1) := by omega
  rw [h1, h2]
  unfold Builtin.bitAnd
  rw [decide_eq_false n1, decide_eq_false n2]
  dsimp only
  have e1 : Builtin.bitNot (-(a : Int) - 1) = a := by show -(-(a : Int) - 1) - 1 = a; omega
  have e2 : Builtin.bitNot (-(b : Int) - 1) = b := by show -(-(b : Int) - 1) - 1 = b; omega
  rw [e1, e2]
  show -(-((((a : Int).toNat ||| (b : Int).toNat : Nat)) : Int) - 1) - 1 = _
  rw [Int.toNat_natCast, Int.toNat_natCast]
  omega

example : True := by
  k_with "exec While Compare cons nil" => (refine stop_at ?_)
  k_with "exec While" => (refine stop_at ?_)
  k_with "call builtin:sum" => ((with_reducible show wpAny _ _ (call (Value.builtin "sum") [Value.ref _]) _ _ _); k_dflt (refine' sumK (by with_unfolding_all rfl) (by k_asm) (by k_asm) (by is_list) (by assumption) ?_; k_whole); intro h9w tk9w t9w F9w N9w)
  k_with "call builtin:list.append" => ((with_reducible show wpAny _ _ (call (Value.builtin "list.append") [Value.ref _, _]) _ _ _); k_dflt (refine' append_K (by k_asm) (by k_asm) (by k_upd) ?_ (by simp only [List.size_toArray, Array.size_push, PySem.sizeLine_eq, List.length_append, List.length_map, List.length_cons, List.length_nil]; omega); k_whole); intro h9w F9w N9w; (try k_sweep))
  trivial
-- RwV
abbrev liObj (D : Addr) (i : Nat) : Obj := { cls := .type "list_iterator", data := .fields #[.ref D, .int (i : Int) 0] }
section
variable {prog : Program} {w : World} {A : Around} {E : Value → Shared → Prop} {s : Shared} {h₀ : Heap} {L I D : Addr} {m : Str → Option Value} {news news' : List (Addr × Obj)} {i e : Nat} {vs : List Value} {v : Value}
theorem iter_li {Q : Value → Shared → Prop} (F : Fr h₀ L s.heap m) (N : News h₀ L s.heap news) (hD : (D, ({ cls := .type "list", data := .seq vs.toArray e } : Obj)) ∈ news)
    (h : ∀ (I : Addr) h', Fr h₀ L h' m → News h₀ L h' ((I, liObj D 0) :: news) → (∀ p ∈ news, p.1 < I) → Q (.ref I) { s with heap := h' }) :
    wpAny (model prog w) A (call (.builtin "iter") [.ref D]) Q E s := by
  refine call_function_entry (by decide +kernel) (by decide +kernel) kdk_entry_iter (kdk_args_iter _) ?_
  unfold Builtin.«iter»
  refine wpAny_bind (m := someArgs "iter" 1 2 _) (wpAny_of_eq (a := [Value.ref D]) (by first | rfl | kernel_rfl!) ?_)
  show wpAny _ _ (pyIter (.ref D) >>= _) _ _ _
  refine wpAny_bind (wpAny_pyIter_list (items := vs.toArray) ⟨_, (N _ hD).1, rfl, _, rfl⟩ ?_)
  exact wpAny_pure ⟨_, rfl, h _ _ (F.push _) (News.push F N _ rfl) (fun q hq => Heap.lt_size (N q hq).1)⟩
theorem next_li {Q : Value → Shared → Prop} (F : Fr h₀ L s.heap m) (N : News h₀ L s.heap news) (U : Upd I (liObj D i) (liObj D (i + 1)) news news') (hD : (D, ({ cls := .type "list", data := .seq vs.toArray e } : Obj)) ∈ news) (hx : vs[i]? = some v)
    (h : ∀ h', Fr h₀ L h' m → News h₀ L h' news' → Q v { s with heap := h' }) :
    wpAny (model prog w) A (call (.builtin "next") [.ref I]) Q E s := by
  obtain ⟨pre, post, hl, hg, a, b⟩ := U.split
  have hmem : (I, liObj D i) ∈ news := by rw [hl]; exact List.mem_append_right _ (.head _)
  have hm := N (I, liObj D i) hmem
  have ho := hm.1
  have hit : s.heap.IsListIter I D i := ⟨_, ho, rfl, rfl⟩
  have hol := (N _ hD).1
  refine call_function_entry (by decide +kernel) (by decide +kernel) kdk_entry_next (kdk_args_next _) ?_
  unfold Builtin.«next»
  refine wpAny_bind (m := someArgs "next" 1 2 _) (wpAny_of_eq (a := [Value.ref I]) (by first | rfl | kernel_rfl!) ?_)
  dsimp only
  refine wpAny_bind (wpAny_specialOf (name := Str.ofString "__next__") hit.typeIs slot_listiter_next.lookup ?_)
  refine wpAny_ite_split (fun hab => absurd hab (by decide)) (fun _ => ?_)
  refine wpAny_bind (wpAny_callSpecial?_slot (name := Str.ofString "__next__") hit.typeIs slot_listiter_next
    (wpAny_call_entry slot_listiter_next hit.typeIs entry_listiter_next ?_ (args_listiter_next _)))
  show wpAny _ _ (field (.ref I) 0 >>= _) _ _ s
  refine wpAny_bind (wpAny_field ho rfl (x := .ref D) rfl ?_)
  show wpAny _ _ (if (Value.ref D == Value.none) = true then _ else _) _ _ s
  rw [if_neg (show ¬ ((Value.ref D == Value.none) = true) from Bool.false_ne_true)]
  show wpAny _ _ (field (.ref I) 1 >>= _) _ _ s
  refine wpAny_bind (wpAny_field ho rfl (x := .int i 0) rfl ?_)
  show wpAny _ _ (seqItems? (.ref D) >>= _) _ _ s
  refine wpAny_bind (wpAny_seqItems hol rfl ?_)
  have hx' : vs.toArray[i]? = some v := by simpa using hx
  simp only [Int.toNat_natCast, hx']
  refine wpAny_bind (wpAny_setField ho rfl (by simp) (wpAny_pure ⟨v, rfl, wpAny_pure ⟨_, rfl, ?_⟩⟩))
  refine h _ (F.change (Heap.SameBut.update ..) hm.2.1 hm.2.2) ?_
  rw [hg]
  rw [hl] at N
  refine news_set N a b (Heap.SameBut.update ..) ?_
  have q := Heap.get?_update_self (Obj.mapFields (·.setIfInBounds 1 (rawInt ((i : Int) + 1)))) ho (Obj.isFreed_of_fields (Obj.data_mapFields (o := liObj D i) rfl _))
  exact q
end

example : True := by
  k_with "call builtin:next" => ((with_reducible show wpAny _ _ (call (Value.builtin "next") [Value.ref _]) _ _ _); k_dflt (refine' next_li (by k_asm) (by k_asm) (by k_upd) (by k_mem) (by assumption) ?_); intro h9w F9w N9w)
  trivial
-- RwP
inductive Okp : List (Nat × Nat) → Prop
  | nil : Okp []
  | snoc {P : List (Nat × Nat)} {t y : Nat} : Okp P → t ≤ 3 → t + (P.map (·.1)).sum ≤ P.length → ((t = 0 ∧ 1 ≤ y ∧ y ≤ 255) ∨ (1 ≤ t ∧ ∃ q, q < 1280 ∧ y = 255 + t + 3 * q)) → Okp (P ++ [(t, y)])
abbrev tks (P : List (Nat × Nat)) : List Int := P.map fun q => (q.1 : Int)
abbrev sys (P : List (Nat × Nat)) : List Int := P.map fun q => (q.2 : Int)
theorem tks_sum (P : List (Nat × Nat)) : (tks P).sum = ((P.map (·.1)).sum : Nat) := by
  induction P with
  | nil => rfl
  | cons q r ih => simp only [tks, List.map_cons, List.sum_cons] at ih ⊢; rw [ih]; omega
theorem Okp.le {P : List (Nat × Nat)} (h : Okp P) : (P.map (·.1)).sum ≤ P.length ∧ (0 < P.length → (P.map (·.1)).sum < P.length) := by
  induction h with
  | nil => simp
  | snoc _ _ h _ _ => simp only [List.map_append, List.sum_append, List.map_cons, List.map_nil, List.sum_cons, List.sum_nil, List.length_append, List.length_cons, List.length_nil]; omega
theorem ints_snoc {vs : List Value} {ns : List Int} (h : IntsAre vs ns) (n : Int) (t : Tok) : IntsAre (vs ++ [.int n t]) (ns ++ [n]) := by
  induction h with
  | nil => exact .cons n t .nil
  | cons m u _ ih => exact .cons m u ih
theorem ints_at {vs : List Value} {ns : List Int} (h : IntsAre vs ns) {i : Nat} {v : Value} (hv : vs.toArray[i]? = some v) : ∃ n t, v = .int n t := by
  simp only [List.getElem?_toArray] at hv
  induction h generalizing i with
  | nil => simp at hv
  | cons n t _ ih =>
    cases i with
    | zero => simp at hv; exact ⟨n, t, hv.symm⟩
    | succ j => simp at hv; exact ih hv
theorem snocT {P : List (Nat × Nat)} {tv : List Value} (hT : IntsAre tv (tks P)) {n : Int} {t : Nat} (e : n = t) (k : Tok) (y : Nat) : IntsAre (tv ++ [.int n k]) (tks (P ++ [(t, y)])) := by
  subst e
  have := ints_snoc hT (t : Int) k
  rw [show tks (P ++ [(t, y)]) = tks P ++ [(t : Int)] from by simp]
  exact this
theorem snocY {P : List (Nat × Nat)} {sv : List Value} (hY : IntsAre sv (sys P)) {n : Int} {y : Nat} (e : n = y) (k : Tok) (t : Nat) : IntsAre (sv ++ [.int n k]) (sys (P ++ [(t, y)])) := by
  subst e
  have := ints_snoc hY (y : Int) k
  rw [show sys (P ++ [(t, y)]) = sys P ++ [(y : Int)] from by simp]
  exact this
structure Pst where
  P : List (Nat × Nat)
  (tv sv : List Value)
  (te se : Nat)
set_option maxRecDepth 100000 in
set_option maxHeartbeats 8000000 in
theorem program_ok (w : World) (news : List (Addr × Obj)) (c : Addr) (cv : List Value) (ce : Nat) (cs : List Int) (hcv : IntsAre cv cs) (hl : cs.length = 8) :
    Claim w 113 ((c, W.listOf cv.toArray ce) :: news) [.ref c] 5 60 (fun h₀ L m s Q => (∀ p ∈ news, p.1 ≠ c) ∧ ∀ (P : List (Nat × Nat)) (tv sv : List Value) (te se : Nat) (h' : Heap) (tk' : Nat) (a b D : Addr), Okp P → (P.map (·.1)).sum + 1 = P.length → P.length ≤ 12 → 8 ≤ P.length → IntsAre tv (tks P) → IntsAre sv (sys P) → (Lts D (a :: b :: c :: addrs news) ∧ Lts a (b :: c :: addrs news) ∧ Lts b (c :: addrs news)) → Fr h₀ L h' m →
      News h₀ L h' ((D, { cls := .type "tuple", data := .seq #[.ref b, .ref a] }) :: (a, W.listOf sv.toArray se) :: (b, W.listOf tv.toArray te) :: (c, W.listOf cv.toArray ce) :: news) → Q (.ref D) { s with heap := h', toks := tk' }) := by
  unfold Claim
  k_fill
  w_top off
  intros; rename_i hret
  refine wpAny_call ?_
  k_dflt cell_enter
  k_steps
  obtain ⟨hne, hret⟩ := hret
  rename Fr _ _ _ _ => F
  rename News _ _ _ _ => N
  refine for_list (σ := Pst) (its := cv.toArray) (fun _ => []) [Str.ofString "many"] (fun st => (_, W.listOf st.sv.toArray st.se) :: (_, W.listOf st.tv.toArray st.te) :: (c, W.listOf cv.toArray ce) :: news)
    (fun i st => Okp st.P ∧ st.P.length = i ∧ IntsAre st.tv (tks st.P) ∧ IntsAre st.sv (sys st.P)) ⟨[], [], [], 0, 0⟩ (fun _ _ => rfl) (fun i st _ => .inr ⟨_, .tail _ (.tail _ (.head _)), rfl, _, rfl⟩) ⟨.nil, rfl, .nil, .nil⟩ rfl F N trivial (N _ (.tail _ (.tail _ (.head _)))).2.1 rfl rfl ?_ ?_
  · intro i v st I o u h tk hv hinv off F N
    (try k_fold)
    obtain ⟨P, tv, sv, te, se⟩ := st
    dsimp only at hinv off F N
    obtain ⟨hP, hPl, hT, hY⟩ := hinv
    have hil : i < 8 := by
      have := (Array.getElem?_eq_some_iff.mp hv).1
      simp only [List.size_toArray] at this
      rw [hcv.length, hl] at this; exact this
    obtain ⟨n, tn, rfl⟩ := ints_at hcv hv
    dsimp only [ovl, ovd] at F
    have o1 := off
    k_lt o1
    have htl := hT.length
    have hyl := hY.length
    rw [List.length_map] at htl hyl
    have hsm := tks_sum P
    have hle := hP.le
    have b1 := Int.fmod_nonneg_of_pos (Int.fdiv n 4) (b := 255) (by decide)
    have b2 := Int.fmod_lt_of_pos (Int.fdiv n 4) (b := 255) (by decide)
    have b3 := Int.fmod_nonneg_of_pos (Int.fdiv n 4) (b := 1280) (by decide)
    have b4 := Int.fmod_lt_of_pos (Int.fdiv n 4) (b := 1280) (by decide)
    have b5 := Int.fmod_nonneg_of_pos n (b := 4) (by decide)
    have b6 := Int.fmod_lt_of_pos n (b := 4) (by decide)
    k_steps
    · rename Fr _ _ _ _ => F9
      rename News _ _ _ _ => N9
      simp only [List.push_toArray] at N9
      refine' goes_on ⟨P ++ [(0, (1 + Int.fmod (Int.fdiv n 4) 255).toNat)], tv ++ [_], sv ++ [_], te + 1, se + 1⟩ _ _ _ rfl ⟨.snoc hP (by omega) (by omega) (.inl ⟨rfl, by omega, by omega⟩), ?a1, ?a2, ?a3⟩ F9 trivial ?a4 N9
      case a1 => simp [hPl]
      case a2 => exact snocT hT rfl _ _
      case a3 => exact snocY hY (by omega) _ _
      case a4 => ktr_rel
    · rename Fr _ _ _ _ => F9
      rename News _ _ _ _ => N9
      simp only [List.push_toArray] at N9
      refine' goes_on ⟨P ++ [(0, (1 + Int.fmod (Int.fdiv n 4) 255).toNat)], tv ++ [_], sv ++ [_], te + 1, se + 1⟩ _ _ _ rfl ⟨.snoc hP (by omega) (by omega) (.inl ⟨rfl, by omega, by omega⟩), ?b1, ?b2, ?b3⟩ F9 trivial ?b4 N9
      case b1 => simp [hPl]
      case b2 => exact snocT hT rfl _ _
      case b3 => exact snocY hY (by omega) _ _
      case b4 => ktr_rel
    · rename Fr _ _ _ _ => F9
      rename News _ _ _ _ => N9
      simp only [List.push_toArray] at N9
      have q1 := (by assumption : ¬ ((tks P).length : Int) - (tks P).sum < Int.fmod n 4)
      rw [hsm, List.length_map] at q1
      refine' goes_on ⟨P ++ [((Int.fmod n 4).toNat, 255 + (Int.fmod n 4).toNat + 3 * (Int.fmod (Int.fdiv n 4) 1280).toNat)], tv ++ [_], sv ++ [_], te + 1, se + 1⟩ _ _ _ rfl ⟨.snoc hP (by omega) (by omega) (.inr ⟨by omega, _, by omega, rfl⟩), ?c1, ?c2, ?c3⟩ F9 trivial ?c4 N9
      case c1 => simp [hPl]
      case c2 => exact snocT hT (by omega) _ _
      case c3 => exact snocY hY (by omega) _ _
      case c4 => ktr_rel
  · intro st u h tk hinv F N
    (try k_fold)
    obtain ⟨P, tv, sv, te, se⟩ := st
    dsimp only at hinv F N
    obtain ⟨hP, hPl, hT, hY⟩ := hinv
    have hP8 : P.length = 8 := by rw [hPl]; simp only [List.size_toArray]; rw [hcv.length, hl]
    dsimp only [ovl, ovd] at F
    k_steps
    have hle := hP.le
    refine while_own (σ := Pst) (fun _ => []) [Str.ofString "many"] (fun st => (_, W.listOf st.sv.toArray st.se) :: (_, W.listOf st.tv.toArray st.te) :: (c, W.listOf cv.toArray ce) :: news)
      (fun k st => Okp st.P ∧ IntsAre st.tv (tks st.P) ∧ IntsAre st.sv (sys st.P) ∧ k + (st.P.map (·.1)).sum = st.P.length ∧ 1 ≤ k ∧ (2 * st.P.length + k ≤ 24 ∨ (k = 1 ∧ 2 * st.P.length + k ≤ 25)) ∧ 8 ≤ st.P.length) (8 - (P.map (·.1)).sum) ⟨P, tv, sv, te, se⟩ ⟨hP, hT, hY, ?w1, ?w2, ?w3, ?w4⟩ F N trivial ?_
    case w1 => (try dsimp only); omega
    case w2 => (try dsimp only); omega
    case w3 => (try dsimp only); omega
    case w4 => (try dsimp only); omega
    clear hP hPl hT hY hP8 hle F N
    intro k st u h tk hinv F N
    (try k_fold)
    obtain ⟨P, tv, sv, te, se⟩ := st
    dsimp only at hinv F N
    obtain ⟨hP, hT, hY, hk, hk1, hb, h8⟩ := hinv
    dsimp only [ovl, ovd] at F
    have htl := hT.length
    have hyl := hY.length
    rw [List.length_map] at htl hyl
    have hsm := tks_sum P
    have hle := hP.le
    k_steps
    · rename Fr _ _ _ _ => F9
      rename News _ _ _ _ => N9
      simp only [List.push_toArray] at N9
      have q1 := (by assumption : (1 : Int) < ((tks P).length : Int) - (tks P).sum)
      rw [hsm, List.length_map] at q1
      have e1 : (if ((tks P).length : Int) - (tks P).sum < 3 then ((tks P).length : Int) - (tks P).sum else 3) = ((min 3 k : Nat) : Int) := by
        rw [hsm, List.length_map]; split <;> omega
      rw [e1] at N9
      have hml : (P ++ [(min 3 k, 255 + min 3 k)]).length = P.length + 1 := by simp
      have hms : ((P ++ [(min 3 k, 255 + min 3 k)]).map (·.1)).sum = (P.map (·.1)).sum + min 3 k := by simp
      refine' w_turn rfl (k + 1 - min 3 k) ⟨P ++ [(min 3 k, 255 + min 3 k)], tv ++ [_], sv ++ [_], te + 1, se + 1⟩ _ _ _ (by omega) rfl ⟨.snoc hP (by omega) (by omega) (.inr ⟨by omega, 0, by omega, by omega⟩), ?c2, ?c3, ?c5, ?c6, ?c7, ?c8⟩ F9 trivial ?c4 N9
      case c2 => exact snocT hT rfl _ _
      case c3 => exact snocY hY (by omega) _ _
      case c5 => dsimp only; rw [hml, hms]; omega
      case c6 => omega
      case c7 => dsimp only; rw [hml]; omega
      case c8 => dsimp only; rw [hml]; omega
      case c4 => ktr_rel
    · rename Fr _ _ _ _ => F9
      rename News _ _ _ _ => N9
      have q1 := (by assumption : ¬ (1 : Int) < ((tks P).length : Int) - (tks P).sum)
      rw [hsm, List.length_map] at q1
      exact hret P tv sv te se _ _ _ _ _ hP (by omega) (by omega) h8 hT hY ⟨by assumption, by assumption, by assumption⟩ F9 N9

-- RwN
theorem seq0 (n : Nat) : seqIndex? 0 (n + 1) = some 0 := by
  unfold seqIndex?
  have h1 : ¬ ((0 : Int) < 0) := by decide
  have h2 : (0 : Int) < ((n + 1 : Nat) : Int) := by omega
  simp [h2]
theorem pop0 {prog : Program} {w : World} {A : Around} {E : Value → Shared → Prop} {s : Shared} {h₀ : Heap} {L D : Addr} {m : Str → Option Value} {news news' : List (Addr × Obj)} {n : Nat} {u : Tok} {v : Value} {vs : List Value} {Q : Value → Shared → Prop}
    (F : Fr h₀ L s.heap m) (N : News h₀ L s.heap news) (U : Upd D (W.listOf (v :: vs).toArray n) (W.listOf vs.toArray (n + 1)) news news') (hz : vs.length ≤ 1000)
    (h : ∀ h', Fr h₀ L h' m → News h₀ L h' news' → Q v { s with heap := h' }) : wpAny (model prog w) A (call (.builtin "list.pop") [.ref D, .int 0 u]) Q E s :=
  kl_popAt (p := []) (k := 0) F N rfl (by simpa using seq0 vs.length) rfl U (by simp [PySem.sizeLine_eq]; omega) h
local macro_rules | `(tactic| walk_at "call builtin:list.pop") => `(tactic| (k_here; (with_reducible show wpAny _ _ (call (Value.builtin "list.pop") [Value.ref _, Value.int 0 _]) _ _ _); k_dflt (refine' pop0 (by k_asm) (by k_asm) (by k_upd) (by omega) ?_); intro h' F' N'))
set_option maxRecDepth 100000 in
set_option maxHeartbeats 16000000 in
theorem push_c (w : World) (b : Lx) (hb : b.Chain) (rest : List (Addr × Obj)) (ln : Int) (tl : Tok) (vs : List Value) (v : Value) (en : Nat) (pos : Int) (tp : Tok) (ep : Nat)
    (ho : ∀ p ∈ rest, p.1 ≠ b.pb) (hl : vs.length ≤ 1000) :
    ClaimC w 64 (b.led w ln tl vs.toArray en pos tp ep rest) [.ref b.x, v] 20 160 (fun h₀ L m s Q => ∀ (en' : Nat) (h' : Heap) (tk' : Nat), Fr h₀ L h' m →
      News h₀ L h' (b.led w ln tl (vs ++ [v]).toArray en' pos tp ep rest) → Q .none { s with heap := h', toks := tk' }) := by
  unfold ClaimC
  k_fill
  w_top off
  intros; rename_i hret
  unfold Lx.Chain at hb
  k_dflt cell_enter
  k_steps
  rename Fr _ _ _ _ => F9
  rename News _ _ _ _ => N9
  simp only [List.push_toArray] at N9
  exact hret _ _ _ F9 N9
set_option maxRecDepth 100000 in
set_option maxHeartbeats 16000000 in
theorem pop_c (w : World) (b : Lx) (hb : b.Chain) (rest : List (Addr × Obj)) (ln : Int) (tl : Tok) (vs : List Value) (v : Value) (en : Nat) (pos : Int) (tp : Tok) (ep : Nat)
    (ho : ∀ p ∈ rest, p.1 ≠ b.pb) (hl : vs.length ≤ 900) :
    ClaimC w 57 (b.led w ln tl (v :: vs).toArray en pos tp ep rest) [.ref b.x] 20 160 (fun h₀ L m s Q => ∀ (en' : Nat) (h' : Heap) (tk' : Nat), Fr h₀ L h' m →
      News h₀ L h' (b.led w ln tl vs.toArray en' pos tp ep rest) → Q v { s with heap := h', toks := tk' }) := by
  unfold ClaimC
  k_fill
  w_top off
  intros; rename_i hret
  unfold Lx.Chain at hb
  have hne : (!(v :: vs).toArray.isEmpty) = true := by simp
  have hsz : (v :: vs).toArray.size ≤ 1000 := by simp; omega
  k_dflt cell_enter
  k_steps
  rename Fr _ _ _ _ => F9
  rename News _ _ _ _ => N9
  exact hret _ _ _ F9 N9
set_option maxRecDepth 100000 in
set_option maxHeartbeats 16000000 in
theorem gettok_e (w : World) (text : List Nat) (b : Lx) (hR : ReadOk w text b.toSx) (hb : b.Chain) (rest : List (Addr × Obj)) (ln : Int) (tl : Tok) (en pos : Nat) (tp : Tok) (ep : Nat)
    (ho1 : ∀ p ∈ rest, p.1 ≠ b.l) (ho2 : ∀ p ∈ rest, p.1 ≠ b.dx) (hp : pos ≤ 1000) (ht : text.drop pos = []) :
    ClaimC w 57 (b.led w ln tl #[] en pos tp ep rest) [.ref b.x] 20 160 (fun h₀ L m s Q => ∀ (t tl' tp' : Tok) (ep' : Nat) (h' : Heap) (tk' : Nat), Fr h₀ L h' m →
      News h₀ L h' (b.led w ln tl' #[] en ((pos + 1 : Nat) : Int) tp' ep' rest) → Q (.str (S []) t) { s with heap := h', toks := tk' }) := by
  unfold ClaimC
  k_fill
  w_top off
  intros; rename_i hret
  have hb' := hb
  unfold Lx.Chain at hb'
  have hR0 := hR
  have hb0 := hb
  k_dflt cell_enter
  k_steps
  rename Fr _ _ _ _ => F
  rename News _ _ _ _ => N
  refine cit_eval N (.head _) ?_
  refine for_gen (σ := Unit) (fun _ => []) [] (fun _ => b.led w ln tl #[] en pos tp ep ((_, citObj _ _) :: (_, methodObj (.ref 50) (.ref b.x)) :: rest)) (fun _ _ => True) 1 () trivial F (news_mv2 N) trivial ?_
  intro k _ u h tk _ F1 N1
  clear F N
  k_dflt (refine' next_both hR hb (by omega) ho1 ho2 ?a ?b ?c ?d ?e (by k_asm) (by k_asm) (by k_asm) N1 (by k_asm) ?K ?hd ?hu ?_ ?_)
  case a => k_ne
  case b => k_ne
  case c => k_ne
  case d => k_ne
  case e => k_dflt k_all
  case K => exact rfl
  case hd => ktr_room
  case hu => ktr_units
  · intro c r hc; rw [ht] at hc; cases hc
  intro _ tl1 tp1 ep1 h1 tk1 F N
  clear N1 F1
  dsimp only
  dsimp only [ovl, ovd] at F
  k_steps
  rename Fr _ _ _ _ => F9
  rename News _ _ _ _ => N9
  rw [S_nil]
  exact hret _ _ _ _ _ _ F9 N9

-- RwC
section
variable {prog : Program} {w : World} {A : Around} {h₀ : Heap} {L : Addr} {m : Str → Option Value} {env : Env} {elt : Expr} {x : Str} {scope : Scope} {cl : List (Str × Addr)} {s : Shared} {Z : List (Addr × Obj) → Prop} {P : Nat → Value → Prop} {Fin : List Value → List (Addr × Obj) → Prop} {news : List (Addr × Obj)}
theorem comp_rest {n : Nat} (R : Nat → Value → Prop)
    (turn : ∀ i v I oI C oC D m₂ ys h tk (E' : Value → Shared → Prop), i < n → P i v → LCg.NsObj oC m₂ → m₂ x = some v → Fr h₀ L h m → News h₀ L h ((I, oI) :: (C, oC) :: (D, LCg.lst ys) :: news) → LCg.Off3 I C D news → ((@Ne Nat I C) ∧ (@Ne Nat I D) ∧ (@Ne Nat C D)) →
      wpAny (model prog w) A (eval elt (compEnvC scope cl C env)) (LCg.CompEnd h₀ L m { s with heap := h, toks := tk } I oI C oC D (LCg.lst ys) Z (fun y news' => news' = news ∧ R i y)) E' { s with heap := h, toks := tk })
    (fin : ∀ ys, ys.length = n → (∀ i y, ys[i]? = some y → R i y) → Fin ys news) : LCg.CompRest prog w A h₀ L m env elt x scope cl s Z P Fin n 0 [] news := by
  have key : ∀ (j i : Nat) (ys : List Value), i + j = n → ys.length = i → (∀ k y, ys[k]? = some y → R k y) → LCg.CompRest prog w A h₀ L m env elt x scope cl s Z P Fin j i ys news := by
    intro j
    induction j with
    | zero => intro i ys hi hl hy; exact LCg.CompRest.zero (fin ys (by omega) hy)
    | succ j ih =>
      intro i ys hi hl hy
      refine LCg.CompRest.succ ?_
      intro v I oI C oC D m₂ h tk E' hv hC hx F N off ne
      refine wpAny_mono (turn i v I oI C oC D m₂ ys h tk E' (by omega) hv hC hx F N off ne) (fun y s₂ hq => ?_) fun _ _ e => e
      obtain ⟨h', tk', nw, e, F', N', off', hS, hn, hr⟩ := hq
      rw [hn] at N' off' hS
      refine ⟨h', tk', news, e, F', N', off', hS, ?_⟩
      refine ih (i + 1) _ (by omega) (by simp [hl]) ?_
      intro k z hk
      by_cases hki : k < i
      · rw [List.getElem?_append_left (by omega)] at hk; exact hy k z hk
      · by_cases hke : k = i
        · subst hke
          rw [List.getElem?_append_right (by omega), hl] at hk
          simp at hk; rw [← hk]; exact hr
        · rw [List.getElem?_eq_none (by simp; omega)] at hk; cases hk
  exact key n 0 [] (by omega) rfl (fun k y h => by simp at h)
theorem comp_end {I C D : Addr} {oI oC oD : Obj} {s₁ : Shared} {h' : Heap} {tk : Nat} {y : Value} {rest : Value → List (Addr × Obj) → Prop}
    (F : Fr h₀ L h' m) (N : News h₀ L h' ((I, oI) :: (C, oC) :: (D, oD) :: news)) (off : LCg.Off3 I C D news) (hS : Z news) (r : rest y news) :
    LCg.CompEnd h₀ L m s₁ I oI C oC D oD Z rest y { s₁ with heap := h', toks := tk } := ⟨h', tk, news, rfl, F, N, off, hS, r⟩
end
theorem strs_of (L : List (List Nat)) : ∀ (ys : List Value), ys.length = L.length → (∀ (i : Nat) (y : Value), ys[i]? = some y → ∃ (l : List Nat) (t : Tok), L[i]? = some l ∧ y = Value.str (S l) t) → StrsAre ys (L.map S) := by
  induction L with
  | nil => intro ys h _; simp at h; subst h; exact .nil
  | cons l r ih =>
    intro ys h hy
    cases ys with
    | nil => simp at h
    | cons y z =>
      obtain ⟨l', t, e1, e2⟩ := hy 0 y rfl
      simp at e1; subst e1; subst e2
      exact .cons _ t (ih z (by simpa using h) fun i y hi => hy (i + 1) y (by simpa using hi))
theorem join_S (L : List (List Nat)) : Str.join (Str.ofString "") (L.map S) = S L.flatten := by
  have hz : ∀ a : Str, Str.ofString "" ++ a = a := fun a => by rw [S_nil]; show Str.mk _ = Str.mk _; simp
  induction L with
  | nil => exact S_nil
  | cons a r ih =>
    cases r with
    | nil => simp [Str.join]
    | cons b r =>
      show S a ++ Str.ofString "" ++ Str.join (Str.ofString "") ((b :: r).map S) = _
      rw [ih, S_nil, S_append, S_append]
      simp
theorem join_led {prog : Program} {w : World} {A : Around} {E : Value → Shared → Prop} {s : Shared} {h₀ : Heap} {L D : Addr} {news : List (Addr × Obj)} {ys : List Value} {n : Nat} {ls : List (List Nat)} {t : Tok} {Q : Value → Shared → Prop}
    (N : News h₀ L s.heap news) (hm : (D, ({ cls := .type "list", data := .seq ys.toArray n } : Obj)) ∈ news) (hs : StrsAre ys (ls.map S)) (hB : ∀ l ∈ ls, l.length ≤ 1000) (hl : ls.length ≤ 1000)
    (hq : ∀ t' k, Q (.str (S ls.flatten) t') { s with toks := k }) : wpAny (model prog w) A (call (.builtin "str.join") [.str (Str.ofString "") t, .ref D]) Q E s := by
  obtain ⟨vs, rfl, hv⟩ := strsAre_values hs
  refine SC.join ⟨_, (N _ hm).1, rfl, _, rfl⟩ hv ?_ fun t' k => ?_
  · unfold JoinOk
    rw [StrLaws.joinFits (B := 1000)]
    · rfl
    · intro y hy
      obtain ⟨l, hl', rfl⟩ := List.mem_map.mp hy
      rw [S_len]; exact hB l hl'
    · rw [List.length_map]
      have : (Str.ofString "").length = 0 := by rw [S_nil, S_len]; rfl
      rw [this]; omega
  · have e : Txt.join (Str.ofString "") (ls.map S) = S ls.flatten := (StrLaws.glued_eq_join _ _).trans (join_S ls)
    rw [e]; exact hq t' k
theorem join_led2 {prog : Program} {w : World} {A : Around} {E : Value → Shared → Prop} {s : Shared} {h₀ : Heap} {L D : Addr} {news : List (Addr × Obj)} {ys : List Value} {n : Nat} {ss : List Str} {x : Str} {t : Tok} {Q : Value → Shared → Prop}
    (N : News h₀ L s.heap news) (hm : (D, ({ cls := .type "list", data := .seq ys.toArray n } : Obj)) ∈ news) (hs : StrsAre ys ss) (hB : ∀ l ∈ ss, l.length ≤ 1000) (hl : ss.length ≤ 1000) (hx : x.length ≤ 10)
    (hq : ∀ t' k, Q (.str (Str.join x ss) t') { s with toks := k }) : wpAny (model prog w) A (call (.builtin "str.join") [.str x t, .ref D]) Q E s := by
  obtain ⟨vs, rfl, hv⟩ := strsAre_values hs
  refine SC.join ⟨_, (N _ hm).1, rfl, _, rfl⟩ hv ?_ fun t' k => ?_
  · unfold JoinOk
    rw [StrLaws.joinFits (B := 1000) hB]
    · rfl
    · have := Nat.mul_le_mul hl hx
      omega
  · have e : Txt.join x ss = Str.join x ss := StrLaws.glued_eq_join _ _
    rw [e]; exact hq t' k

example : True := by
  k_with "eval ListComp" => (k_dflt (refine LCg.ListComp_U (F₀ := by k_asm) (by with_unfolding_all rfl) (by decide) (by rfl) (by decide) (by rfl) ?_))
  k_with "exec Assign cons ListComp" => (k_dflt (refine LCg.Assign_ListComp_U (F₀ := by k_asm) (by rfl) (by with_unfolding_all rfl) (by with_unfolding_all rfl) (by decide) (by rfl) (by decide) (by rfl) (by rfl) (by rfl) ?_))
  k_with "CompSrc" => (refine stop_at ?_)
  k_with "CompEnd" => (refine stop_at ?_)
  k_with "call builtin:str.join" => ((with_reducible show wpAny _ _ (call (Value.builtin "str.join") [Value.str (Str.ofString "") _, Value.ref _]) _ _ _); k_dflt (refine' join_led (by k_asm) (by k_mem) (by assumption) (by assumption) (by assumption) ?_); intro t9w k9w)
  trivial
-- RwD
abbrev flagNames : List Str := [Str.ofString "OPTIMIZED", Str.ofString "NEWLOCALS", Str.ofString "VARARGS", Str.ofString "VARKEYWORDS", Str.ofString "NESTED", Str.ofString "GENERATOR", Str.ofString "NOFREE", Str.ofString "COROUTINE", Str.ofString "ITERABLE_COROUTINE", Str.ofString "ASYNC_GENERATOR"]
abbrev flagD : List (PyData × PyData) := [(.int 1, .str (Str.ofString "OPTIMIZED")), (.int 2, .str (Str.ofString "NEWLOCALS")), (.int 4, .str (Str.ofString "VARARGS")), (.int 8, .str (Str.ofString "VARKEYWORDS")), (.int 16, .str (Str.ofString "NESTED")), (.int 32, .str (Str.ofString "GENERATOR")), (.int 64, .str (Str.ofString "NOFREE")), (.int 128, .str (Str.ofString "COROUTINE")), (.int 256, .str (Str.ofString "ITERABLE_COROUTINE")), (.int 512, .str (Str.ofString "ASYNC_GENERATOR"))]
/-- the word of one place below 32 -/
def nm (i : Nat) : Str := match flagNames[i]? with
  | some x => x
  | none => baseText "0x" 16 ((2 ^ i : Nat) : Int)
theorem flag_get (i : Nat) (hi : i < 32) : (PySem.Spec.lookup (.int ((2 ^ i : Nat) : Int)) flagD).getD (.str (baseText "0x" 16 ((2 ^ i : Nat) : Int))) = .str (nm i) := by
  match i, hi with
  | 0, _ => rfl
  | 1, _ => rfl
  | 2, _ => rfl
  | 3, _ => rfl
  | 4, _ => rfl
  | 5, _ => rfl
  | 6, _ => rfl
  | 7, _ => rfl
  | 8, _ => rfl
  | 9, _ => rfl
  | 10, _ => rfl
  | 11, _ => rfl
  | 12, _ => rfl
  | 13, _ => rfl
  | 14, _ => rfl
  | 15, _ => rfl
  | 16, _ => rfl
  | 17, _ => rfl
  | 18, _ => rfl
  | 19, _ => rfl
  | 20, _ => rfl
  | 21, _ => rfl
  | 22, _ => rfl
  | 23, _ => rfl
  | 24, _ => rfl
  | 25, _ => rfl
  | 26, _ => rfl
  | 27, _ => rfl
  | 28, _ => rfl
  | 29, _ => rfl
  | 30, _ => rfl
  | 31, _ => rfl
  | (k + 32), h => exact absurd h (by omega)
theorem hex_len (i : Nat) (hi : i < 32) : (baseText "0x" 16 ((2 ^ i : Nat) : Int)).length ≤ 100 := by
  have h : ∀ j : Fin 32, (baseText "0x" 16 ((2 ^ j.1 : Nat) : Int)).length ≤ 100 := by decide +kernel
  exact h ⟨i, hi⟩
theorem hexh_len (i : Nat) (hi : i < 16) : (baseText "0x" 16 ((i * 2 ^ 32 : Nat) : Int)).length ≤ 100 := by
  have h : ∀ j : Fin 16, (baseText "0x" 16 ((j.1 * 2 ^ 32 : Nat) : Int)).length ≤ 100 := by decide +kernel
  exact h ⟨i, hi⟩
theorem nm_len (i : Nat) (hi : i < 32) : (nm i).length ≤ 100 := by
  have h : ∀ j : Fin 32, (nm j.1).length ≤ 100 := by decide +kernel
  exact h ⟨i, hi⟩
/-- the words that tell a set of places -/
def pfW (n : Nat) : List Str := ((List.range 32).filter (fun k => n.testBit k)).map nm ++ if n / 2 ^ 32 = 0 then [] else [baseText "0x" 16 ((n / 2 ^ 32 * 2 ^ 32 : Nat) : Int)]
def pf (n : Nat) : Str := Str.join (Str.ofString ", ") (pfW n)
theorem shl1 {prog : Program} {w : World} {A : Around} {E : Value → Shared → Prop} {s : Shared} {i : Nat} {t u : Tok} {Q : Value → Shared → Prop} (hi : i ≤ 1000)
    (h : Q (.int ((2 ^ i : Nat) : Int) s.toks) { s with toks := s.toks + 1 }) : wpAny (model prog w) A (binaryOp .LShift (.int 1 t) (.int (i : Int) u)) Q E s := by
  refine lshift_int_small (by omega) (by omega) (by decide) ?_
  have e : (1 : Int) * 2 ^ ((i : Int).toNat) = ((2 ^ i : Nat) : Int) := by rw [Int.one_mul, Int.toNat_natCast, ← kbt_cast]
  rw [e]; exact h
theorem band_bit (n i : Nat) : Builtin.bitAnd (n : Int) ((2 ^ i : Nat) : Int) = ((n / 2 ^ i % 2 * 2 ^ i : Nat) : Int) := by
  have e : ((2 ^ i : Nat) : Int) = (2 : Int) ^ i := kbt_cast i
  rw [e, kbt_bit, ← e]
  push_cast
  rfl
theorem bxor_bit (f i : Nat) (h : f / 2 ^ i % 2 = 1) : Builtin.bitXor (f : Int) ((2 ^ i : Nat) : Int) = ((f - 2 ^ i : Nat) : Int) := by
  rw [bitXor_and, band_bit, h, Nat.one_mul]
  have : 2 ^ i ≤ f := by
    rcases Nat.lt_or_ge f (2 ^ i) with q | q
    · rw [Nat.div_eq_of_lt q] at h; cases h
    · exact q
  omega
theorem shl1i {prog : Program} {w : World} {A : Around} {E : Value → Shared → Prop} {s : Shared} {i : Int} {t u : Tok} {Q : Value → Shared → Prop} (h0 : 0 ≤ i) (hi : i ≤ 1000)
    (h : Q (.int ((2 ^ i.toNat : Nat) : Int) s.toks) { s with toks := s.toks + 1 }) : wpAny (model prog w) A (binaryOp .LShift (.int 1 t) (.int i u)) Q E s := by
  obtain ⟨n, rfl⟩ : ∃ n : Nat, i = n := ⟨i.toNat, by omega⟩
  exact shl1 (by omega) h

example : True := by
  k_with "call builtin:hex" => ((with_reducible show wpAny _ _ (call (Value.builtin "hex") [Value.int _ _]) _ _ _); k_dflt (refine P.hex_of_int ?_ (by first | assumption | (refine Nat.le_trans (by assumption) (by decide)))))
  k_with "call builtin:str.join" => ((with_reducible show wpAny _ _ (call (Value.builtin "str.join") [Value.str _ _, Value.ref _]) _ _ _); k_dflt (refine' join_led2 (by k_asm) (by k_mem) (by assumption) (by assumption) (by assumption) (by decide) ?_); intro t9w k9w)
  k_with "binaryOp LShift int int" => ((with_reducible show wpAny _ _ (binaryOp Operator.LShift (Value.int 1 _) (Value.int (Nat.cast _) _)) _ _ _); k_dflt (refine shl1 (by omega) ?_))
  k_with "call builtin:dict.get" => ((with_reducible show wpAny _ _ (call (Value.builtin "dict.get") [Value.ref 15, Value.int _ _, Value.str _ _]) _ _ _); (with_reducible rename KTD.Keyed _ _ _ => kyX); k_dflt (refine call_get2_intTab (D := flagD) (by exact KTD.Keyed.keep kyX (by kt_keeps) _ _) (PyProof.V.Flat.str _ _) ?_); intro v9w hv9w; rw [flag_get _ (by assumption)] at hv9w; obtain ⟨t', e'⟩ := PyProof.V.Flat.str_inv hv9w; subst e')
  k_with "binaryOp LShift int int" => ((with_reducible show wpAny _ _ (binaryOp Operator.LShift (Value.int 1 _) (Value.int (_ - _) _)) _ _ _); k_dflt (refine shl1i (by omega) (by omega) ?_))
  trivial
-- RwRa
section
variable {prog : Program} {w : World} {A : Around} {E : Value → Shared → Prop} {s : Shared} {env : Env} {h₀ : Heap} {x : Str} {px : Pos} {body orelse : List Stmt} {Q : Flow → Shared → Prop}
theorem for_down {σ : Type} {r : Addr} {a b : Int} {t t' t'' : Tok} {n : Nat} {m₀ : Str → Option Value}
    (fix : σ → List (Str × Value)) (drop : List Str) (led : σ → List (Addr × Obj)) (Inv : Nat → σ → Prop) (st₀ : σ)
    (hr : IsRange s.heap r a b (-1) t t' t'') (hsm : Builtin.Range.small a b (-1) = true) (hn : Builtin.Range.rangeSize a b (-1) = ((n : Nat) : Int))
    (hadr : ∀ st st', (led st).map (·.1) = (led st').map (·.1)) (h0 : Inv 0 st₀)
    (hh : A.handled = none) (F : Fr h₀ env.locals s.heap m₀) (N : News h₀ env.locals s.heap (led st₀)) (hfix : Fixes m₀ (fix st₀))
    (hx : env.kindOf x = some .local) (hp : (env.scope.kind == .class || (env.scope.kind == .module && env.locals != env.globals)) = false)
    (turn : ∀ i tv st I o u h tk, i < n → Inv i st → (∀ p ∈ led st, p.1 < I) → Fr h₀ env.locals h (fun y => if y = x then some (.int (a - (i : Int)) tv) else ovl u m₀ (fix st) drop y) → News h₀ env.locals h ((I, o) :: led st) →
      wpAny (model prog w) A (execs body env) (TurnM Q (GoesOn h₀ env.locals s x fix drop m₀ led (I, o) (Inv (i + 1)))) E { s with heap := h, toks := tk })
    (done : ∀ st u h tk, Inv n st → Fr h₀ env.locals h (fun y => if y = x then u y else ovl u m₀ (fix st) drop y) → News h₀ env.locals h (led st) → wpAny (model prog w) A (execs orelse env) Q E { s with heap := h, toks := tk })
    (hE : PassesOwn (model prog w) A env E := by passes_own) :
    wpAny (model prog w) A (pyIter (.ref r)) (ForK prog w A x px body orelse env Q E) E s := by
  refine wpAny_pyIter_range hr hsm ?_
  have W : Walks prog w A s.heap.objs.size [s.heap.objs.size] [s.heap.objs.size] n (fun i v => i < n ∧ ∃ t, v = .int (a + i * (-1)) t)
      (fun i h => IsRangeIter h s.heap.objs.size (a + (i : Nat) * (-1)) ((n : Int) - (i : Nat)) (-1)) := (Walks.range hh _ a (-1) n).bound
  refine for_walk (s := { s with heap := s.heap.push { cls := .type "range_iterator", data := .fields #[rawInt a, rawInt (Builtin.Range.rangeSize a b (-1)), rawInt (-1)] } }) (S := fun _ => True)
    W (fun i h st => ⟨_, st⟩) (fun i h h' o _ st e1 e2 _ _ _ => by
      have st' : h.get? s.heap.objs.size = some _ := st
      rw [st'] at e1; cases e1; exact e2) fix drop led Inv hadr (fun _ _ _ => trivial) st₀ h0
    (by show IsRangeIter _ _ _ _ _; rw [hn]; simpa using Heap.get?_push_size _ rfl) (F.keeps fun _ _ e => Heap.get?_push_of_some _ e) (N.grown fun _ _ e => Heap.get?_push_of_some _ e) hfix ?_ (next_is_new F) (fun p hp => Heap.lt_size (N p hp).1) hx hp ?_ ?_ hE
  · intro hm
    have e := List.mem_singleton.mp hm
    exact absurd F.ns.lt (e ▸ Nat.lt_irrefl _)
  · rintro i v st o u h tk hi ⟨_, tv, rfl⟩ hinv off F' N'
    rw [show a + (i : Int) * (-1) = a - (i : Int) from by omega] at F'
    exact turn i tv st _ o u h tk hi hinv off F' N'
  · intro st u h tk hinv F' N'
    exact done st u h tk hinv F' N'
end
theorem len_ints {prog : Program} {w : World} {A : Around} {E : Value → Shared → Prop} {s : Shared} {h₀ : Heap} {L D : Addr} {news : List (Addr × Obj)} {vs : List Value} {ns : List Int} {n : Nat} {Q : Value → Shared → Prop}
    (N : News h₀ L s.heap news) (hm : (D, ({ cls := .type "list", data := .seq vs.toArray n } : Obj)) ∈ news) (hi : IntsAre vs ns) (hl : ns.length ≤ 100000)
    (h : ∀ t tk, Q (.int (ns.length : Int) t) { s with toks := tk }) : wpAny (model prog w) A (call (.builtin "len") [.ref D]) Q E s := by
  have e : vs.toArray.size = ns.length := by rw [List.size_toArray]; exact hi.length
  refine call_len_list (items := vs.toArray) ⟨_, (N _ hm).1, rfl, _, rfl⟩ (by rw [e]; omega) ?_
  rw [e]
  exact h _ _
/-- the flags, symbol by symbol -/
def ors (x : Nat) (l : List Nat) : Nat := l.foldl (· ||| ·) x
def flS (first : Nat) (s : List Nat × Nat) (t : Nat) : List Nat × Nat := (s.1 ++ [ors (2 ^ (first + s.1.length)) ((s.1.drop s.2).take t)], s.2 + t)
def flF (first : Nat) (ts : List Nat) : List Nat × Nat := ts.foldl (flS first) ([], 0)
theorem flF_snoc (first : Nat) (ts : List Nat) (t : Nat) : flF first (ts ++ [t]) = flS first (flF first ts) t := by simp [flF]
theorem flG_len (first : Nat) (ts : List Nat) : ∀ s : List Nat × Nat, (ts.foldl (flS first) s).1.length = s.1.length + ts.length ∧ (ts.foldl (flS first) s).2 = s.2 + ts.sum := by
  induction ts with
  | nil => intro s; simp
  | cons t r ih =>
    intro s
    obtain ⟨a, b⟩ := ih (flS first s t)
    rw [List.foldl_cons, a, b]
    simp [flS]; omega
theorem flF_len (first : Nat) (ts : List Nat) : (flF first ts).1.length = ts.length ∧ (flF first ts).2 = ts.sum := by
  have := flG_len first ts ([], 0)
  simpa [flF] using this
theorem ors_snoc (x : Nat) (l : List Nat) (y : Nat) : ors x (l ++ [y]) = ors x l ||| y := by simp [ors]
theorem ors_bit (x : Nat) (l : List Nat) (k : Nat) : (ors x l).testBit k = (x.testBit k || l.any fun y => y.testBit k) := by
  induction l generalizing x with
  | nil => simp [ors]
  | cons y r ih =>
    show (ors (x ||| y) r).testBit k = _
    rw [ih, Nat.testBit_or]; simp [Bool.or_assoc]
theorem ors_rev (x : Nat) (l : List Nat) : ors x l.reverse = ors x l := by
  apply Nat.eq_of_testBit_eq
  intro k
  rw [ors_bit, ors_bit, List.any_reverse]

example : True := by
  k_with "call builtin:len" => ((with_reducible show wpAny _ _ (call (Value.builtin "len") [Value.ref _]) _ _ _); k_dflt (refine' len_ints (by k_asm) (by k_mem) (by assumption) (by simp only [List.length_reverse, List.length_map, List.length_append, List.length_cons, List.length_nil]; omega) ?_); intro t9w k9w; (try simp only [List.length_reverse, List.length_map]))
  trivial
-- RwRc
theorem ints_of (g : Nat → Int) : ∀ (n : Nat) (ys : List Value) (o : Nat), ys.length = n → (∀ (i : Nat) (y : Value), ys[i]? = some y → ∃ t : Tok, y = .int (g (o + i)) t) → IntsAre ys ((List.range n).map fun i => g (o + i)) := by
  intro n
  induction n with
  | zero => intro ys o h _; rw [List.length_eq_zero_iff] at h; subst h; exact .nil
  | succ n ih =>
    intro ys o h hy
    cases ys with
    | nil => simp at h
    | cons y r =>
      obtain ⟨t, e⟩ := hy 0 y rfl
      subst e
      have := ih r (o + 1) (by simpa using h) (fun i z hz => by
        obtain ⟨t, e⟩ := hy (i + 1) z (by simpa using hz)
        exact ⟨t, by rw [e, show o + (i + 1) = o + 1 + i from by omega]⟩)
      rw [List.range_succ_eq_map, List.map_cons, List.map_map]
      refine .cons _ t ?_
      have e : ((fun i => g (o + i)) ∘ Nat.succ) = fun i => g (o + 1 + i) := by
        funext i; show g (o + (i + 1)) = _; rw [show o + (i + 1) = o + 1 + i from by omega]
      rw [e]; exact this
def rowS (first : Nat) (ts : List Nat) (j : Nat) : List Nat := ((flF first (ts.take j)).1 ++ ((List.range ts.length).drop j).map (fun k => 2 ^ (first + k))).reverse
abbrev asInts (l : List Nat) : List Int := l.map fun (n : Nat) => (n : Int)
theorem row_0 (first : Nat) (ts : List Nat) : asInts (rowS first ts 0) = (List.range ts.length).map fun i => ((2 ^ (first + (ts.length - 1 - (0 + i))) : Nat) : Int) := by
  apply List.ext_getElem
  · simp [rowS, flF]
  · intro i h1 h2
    simp [rowS, flF]
theorem row_len (first : Nat) (P : List (Nat × Nat)) (j : Nat) (hj : j ≤ P.length) : (asInts (rowS first (P.map (·.1)) j)).length = P.length := by
  simp only [asInts, rowS, List.length_map, List.length_reverse, List.length_append, (flF_len _ _).1, List.length_take, List.length_drop, List.length_range]
  omega
theorem take_rev_sum (P : List (Nat × Nat)) (j : Nat) (hj : j < P.length) : (List.take ((P.length : Int) - 1 - (j : Int)).toNat (tks P).reverse).sum = (((P.map (·.1)).drop (j + 1)).sum : Nat) := by
  rw [show ((P.length : Int) - 1 - (j : Int)).toNat = P.length - 1 - j from by omega]
  have e : List.take (P.length - 1 - j) (tks P).reverse = (List.drop (j + 1) (tks P)).reverse := by
    rw [List.take_reverse, List.length_map, show P.length - (P.length - 1 - j) = j + 1 from by omega]
  rw [e, List.sum_reverse]
  have := tks_sum (P.drop (j + 1))
  rw [← List.map_drop, ← List.map_drop]
  exact this
theorem getD_rev (P : List (Nat × Nat)) (j : Nat) (hj : j < P.length) : (tks P).reverse.getD ((P.length : Int) - 1 - (j : Int)).toNat 0 = (((P.map (·.1))[j]'(by rw [List.length_map]; exact hj) : Nat) : Int) := by
  rw [show ((P.length : Int) - 1 - (j : Int)).toNat = P.length - 1 - j from by omega]
  rw [List.getD_eq_getElem?_getD, List.getElem?_reverse (by rw [List.length_map]; omega), List.length_map, show P.length - 1 - (P.length - 1 - j) = j from by omega]
  simp [hj]
theorem sum_split (ts : List Nat) (j : Nat) (hj : j < ts.length) : ts.sum = (ts.take j).sum + ts[j] + (ts.drop (j + 1)).sum := by
  have e : ts = ts.take j ++ ts[j] :: ts.drop (j + 1) := by rw [List.getElem_cons_drop, List.take_append_drop]
  have := congrArg List.sum e
  rw [List.sum_append, List.sum_cons] at this
  omega
def partsQ (first : Nat) (ts : List Nat) (j tj : Nat) : List Nat := (((flF first (ts.take j)).1.drop (ts.take j).sum).take tj).reverse
theorem off1_mem {D : Addr} : ∀ {l : List (Addr × Obj)}, LCg.Off1 D l → ∀ p ∈ l, p.1 ≠ D
  | [], _, _, h => nomatch h
  | _ :: _, x, p, h => by
    rcases List.mem_cons.mp h with rfl | h
    · exact x.1
    · exact off1_mem x.2 p h
theorem row_at (first : Nat) (ts : List Nat) (j : Nat) (hj : j < ts.length) : rowS first ts j = ((((List.range ts.length).drop (j + 1)).map (fun k => 2 ^ (first + k))).reverse ++ 2 ^ (first + j) :: (flF first (ts.take j)).1.reverse) := by
  have e : (List.range ts.length).drop j = j :: (List.range ts.length).drop (j + 1) := by
    rw [List.drop_eq_getElem_cons (by rw [List.length_range]; exact hj), List.getElem_range]
  unfold rowS
  rw [e, List.map_cons, List.reverse_append, List.reverse_cons, List.append_assoc]; rfl
theorem row_setv (first : Nat) (ts : List Nat) (j : Nat) (hj : j < ts.length) (n : Nat) (hn : n = ts.length) (v : Nat) : (rowS first ts j).set (n - 1 - j) v = ((((List.range ts.length).drop (j + 1)).map (fun k => 2 ^ (first + k))).reverse ++ v :: (flF first (ts.take j)).1.reverse) := by
  rw [row_at first ts j hj, List.set_append_right _ _ (by simp; omega)]
  congr 1
  rw [show n - 1 - j - (((List.range ts.length).drop (j + 1)).map (fun k => 2 ^ (first + k))).reverse.length = 0 from by simp; omega]
  rfl
theorem row_set0 (first : Nat) (ts : List Nat) (j : Nat) (hj : j < ts.length) (n : Nat) (hn : n = ts.length) : (rowS first ts j).set (n - 1 - j) (ors (2 ^ (first + j)) []) = rowS first ts j := by
  rw [row_setv first ts j hj n hn, row_at first ts j hj]; rfl
theorem tail_len (first n j : Nat) : (((List.range n).drop (j + 1)).map (fun k => 2 ^ (first + k))).reverse.length = n - (j + 1) := by simp
theorem asInts_get {l : List Nat} {i x : Nat} (h : l[i]? = some x) : (asInts l).getD i 0 = (x : Int) := by
  rw [List.getD_eq_getElem?_getD, List.getElem?_map, h]; rfl
theorem set_at (first : Nat) (ts : List Nat) (j : Nat) (hj : j < ts.length) (n : Nat) (hn : n = ts.length) (v : Nat) : ((rowS first ts j).set (n - 1 - j) v)[n - 1 - j]? = some v := by
  rw [row_setv first ts j hj n hn, List.getElem?_append_right (by rw [tail_len]; omega), tail_len, show n - 1 - j - (ts.length - (j + 1)) = 0 from by omega]; rfl
theorem part_at (first : Nat) (ts : List Nat) (j tj k : Nat) (hj : j < ts.length) (n : Nat) (hn : n = ts.length) (v : Nat) (hk : k < tj) (hw : (ts.take j).sum + tj ≤ j) (part : Nat) (hp : part + (ts.take j).sum + tj = n + k) :
    ∃ q, ((rowS first ts j).set (n - 1 - j) v)[part]? = some q ∧ (partsQ first ts j tj).take (k + 1) = (partsQ first ts j tj).take k ++ [q] := by
  have hal : (flF first (ts.take j)).1.length = j := by rw [(flF_len _ _).1, List.length_take]; omega
  generalize hacc : (flF first (ts.take j)).1 = acc at hal
  have hQ : partsQ first ts j tj = ((acc.drop (ts.take j).sum).take tj).reverse := by unfold partsQ; rw [hacc]
  generalize (ts.take j).sum = c at *
  have hQl : ((acc.drop c).take tj).length = tj := by rw [List.length_take, List.length_drop]; omega
  have hlt : c + tj - 1 - k < acc.length := by omega
  refine ⟨acc[c + tj - 1 - k], ?_, ?_⟩
  · rw [row_setv first ts j hj n hn, List.getElem?_append_right (by rw [tail_len]; omega), tail_len, hacc,
      show part - (ts.length - (j + 1)) = (part - (ts.length - (j + 1)) - 1) + 1 from by omega, List.getElem?_cons_succ,
      List.getElem?_reverse (by omega), hal, show j - 1 - (part - (ts.length - (j + 1)) - 1) = c + tj - 1 - k from by omega,
      List.getElem?_eq_getElem hlt]
  · rw [List.take_add_one, hQ, List.getElem?_reverse (by rw [hQl]; exact hk), hQl, List.getElem?_take, if_pos (by omega), List.getElem?_drop,
      show c + (tj - 1 - k) = c + tj - 1 - k from by omega, List.getElem?_eq_getElem hlt]; rfl
theorem row_next (first : Nat) (ts : List Nat) (j : Nat) (hj : j < ts.length) (n : Nat) (hn : n = ts.length) : (rowS first ts j).set (n - 1 - j) (ors (2 ^ (first + j)) (partsQ first ts j ts[j])) = rowS first ts (j + 1) := by
  have hal : (flF first (ts.take j)).1.length = j := by rw [(flF_len _ _).1, List.length_take]; omega
  have hc : (flF first (ts.take j)).2 = (ts.take j).sum := (flF_len _ _).2
  have e : ts.take (j + 1) = ts.take j ++ [ts[j]] := List.take_succ_eq_append_getElem hj
  rw [row_setv first ts j hj n hn]
  unfold rowS
  rw [e, flF_snoc, List.reverse_append]
  unfold flS
  rw [hal, hc, List.reverse_append, partsQ, ors_rev]
  rfl

-- RwR
structure Rst where
  vs : List Value
set_option maxRecDepth 100000 in
set_option maxHeartbeats 8000000 in
theorem sets_c (w : World) (news : List (Addr × Obj)) (c : Addr) (cv : List Value) (ce : Nat) (P : List (Nat × Nat)) (hcv : IntsAre cv (tks P)) (hl : P.length ≤ 12) (hP1 : 0 < P.length) (hs : (P.map (·.1)).sum + 1 = P.length) (hw : ∀ (j : Nat) (h : j < (P.map (·.1)).length), ((P.map (·.1)).take j).sum + (P.map (·.1))[j] ≤ j) (first : Nat) (hf : first < 25) (t : Tok) :
    Claim w 128 ((c, W.listOf cv.toArray ce) :: news) [.ref c, .int first t] 5 60 (fun h₀ L m s Q => (∀ p ∈ news, p.1 ≠ c) ∧ ∀ (fv : List Value) (D : Addr) (h' : Heap) (tk' : Nat), IntsAre fv (asInts (flF first (P.map (·.1))).1) → Lts D (c :: addrs news) → Fr h₀ L h' m →
      News h₀ L h' ((D, W.listOf fv.toArray 0) :: (c, W.listOf cv.toArray ce) :: news) → Q (.ref D) { s with heap := h', toks := tk' }) := by
  unfold Claim
  k_fill
  w_top off
  intros; rename_i hret
  obtain ⟨hne, hret⟩ := hret
  have hcl := hcv.length
  rw [List.length_map] at hcl
  refine wpAny_call ?_
  k_dflt cell_enter
  k_steps
  rename Fr _ _ _ _ => F
  rename News _ _ _ _ => N
  rename IsRange _ _ _ _ _ _ _ _ => hr
  rename IntsAre _ (List.reverse _) => hI
  (try dsimp only)
  refine LCg.CompSrc.range (n := P.length) rfl F N hr (small_one (by omega) (by omega) (by omega) (by omega)) (by first | exact rangeSize_nat _ _ | (rw [rangeSize_nat])) (by rw [PySem.sizeLine_eq]; omega) ?_
  intro g
  (try dsimp only)
  refine comp_rest (fun i y => ∃ t, y = .int ((2 ^ (first + (P.length - 1 - i)) : Nat) : Int) t) ?_ ?_
  · intro i v I oI C oC D m₂ ys h tk E' hi hv hC hx F N off ne
    obtain ⟨tn, rfl⟩ := hv
    k_steps
    rename Fr _ _ _ _ => F9
    rename News _ _ _ _ => N9
    rw [show ((first : Int) + (P.length : Int) - 1 - (0 + (i : Int))).toNat = first + (P.length - 1 - i) from by omega]
    exact comp_end F9 N9 off trivial ⟨rfl, _, rfl⟩
  · intro ys hyl hy
    have hS := ints_of (fun k => ((2 ^ (first + (P.length - 1 - k)) : Nat) : Int)) P.length ys 0 hyl (fun i y hi => by
      obtain ⟨t, e⟩ := hy i y hi
      exact ⟨t, by rw [e, Nat.zero_add]⟩)
    have r0 := row_0 first (P.map (·.1))
    rw [List.length_map] at r0
    rw [← r0] at hS
    k_steps
    rename Fr _ _ _ _ => F
    rename News _ _ _ _ => N
    clear hr
    rename IsRange _ _ _ _ _ _ _ _ => hr
    rename Nts _ (_ :: _ :: _ :: _ :: addrs news) => hO1
    have hoff := nts_mem hO1.2.2.2.2
    (try dsimp only)
    refine for_down (σ := Rst) (n := P.length) (fun _ => []) [Str.ofString "begin", Str.ofString "part"] (fun st => (_, W.listOf st.vs.toArray ys.length) :: (_, W.listOf _ 0) :: (_, _) :: (_, _) :: (c, W.listOf cv.toArray ce) :: news)
      (fun j st => IntsAre st.vs (asInts (rowS first (P.map (·.1)) j))) ⟨ys⟩ hr (small_down (by omega) (by omega) (by omega) (by omega)) (by rw [rangeSize_downNat]; omega) (fun _ _ => rfl) hS rfl F N trivial rfl rfl ?_ ?_
    · intro j tv st I o u h tk hj hinv off F N
      (try k_fold)
      obtain ⟨vs⟩ := st
      dsimp only at hinv F N off
      have o1 := off
      k_lt o1
      dsimp only [ovl, ovd] at F
      have hrl : (asInts (rowS first (P.map (·.1)) j)).length = P.length := row_len first P j (by omega)
      have hjt : j < (P.map (·.1)).length := by rw [List.length_map]; exact hj
      generalize htd : (P.map (·.1))[j] = tj
      have s1 := take_rev_sum P j hj
      have s2 := getD_rev P j hj
      rw [htd] at s2
      have hle := sum_split (P.map (·.1)) j hjt
      rw [htd] at hle
      k_steps
      rename Fr _ _ _ _ => F
      rename News _ _ _ _ => N
      clear hr
      rename IsRange _ _ _ _ _ _ _ _ => hr
      (try dsimp only)
      refine for_range (σ := Rst) (n := tj) (fun _ => []) [] (fun st => (_, W.listOf _ 0) :: (I, o) :: (_, W.listOf st.vs.toArray ys.length) :: (_, W.listOf _ 0) :: (_, _) :: (_, _) :: (c, W.listOf cv.toArray ce) :: news)
        (fun k st => IntsAre st.vs (asInts ((rowS first (P.map (·.1)) j).set (P.length - 1 - j) (ors (2 ^ (first + j)) ((partsQ first (P.map (·.1)) j tj).take k))))) ⟨vs⟩ hr (small_one ?q1 ?q2 ?q3 ?q4) ?q5 (fun _ _ => rfl) ?q6 rfl F N trivial rfl rfl ?_ ?_
      case q1 => rw [s1]; omega
      case q2 => rw [s1]; omega
      case q3 => rw [s1, s2]; omega
      case q4 => rw [s1, s2]; omega
      case q5 => rw [s1, s2, rangeSize_nat]; omega
      case q6 =>
        dsimp only
        rw [List.take_zero, row_set0 first (P.map (·.1)) j hjt _ (by rw [List.length_map])]
        exact hinv
      · intro k tk2 st J oJ u2 h2 tkk hk hinv2 off2 F N
        (try k_fold)
        obtain ⟨vs2⟩ := st
        dsimp only at hinv2 F N off2
        have o2 := off2
        k_lt o2
        dsimp only [ovl, ovd] at F
        have hrl2 : (asInts ((rowS first (P.map (·.1)) j).set (P.length - 1 - j) (ors (2 ^ (first + j)) ((partsQ first (P.map (·.1)) j tj).take k)))).length = P.length := by
          rw [List.length_map, List.length_set, ← hrl, List.length_map]
        rw [s1] at F
        obtain ⟨q, hq1, hq2⟩ := part_at first (P.map (·.1)) j tj k hjt P.length (by rw [List.length_map]) (ors (2 ^ (first + j)) ((partsQ first (P.map (·.1)) j tj).take k)) hk (by rw [← htd]; exact hw j hjt) (1 + ((P.map (·.1)).drop (j + 1)).sum + k) (by omega)
        have g1 := asInts_get (set_at first (P.map (·.1)) j hjt P.length (by rw [List.length_map]) (ors (2 ^ (first + j)) ((partsQ first (P.map (·.1)) j tj).take k)))
        have g2 := asInts_get hq1
        have i1 : ((P.length : Int) - 1 - (j : Int)).toNat = P.length - 1 - j := by omega
        have i2 : (1 + (((P.map (·.1)).drop (j + 1)).sum : Int) + (k : Int)).toNat = 1 + ((P.map (·.1)).drop (j + 1)).sum + k := by omega
        k_steps
        rename Fr _ _ _ _ => F9
        rename News _ _ _ _ => N9
        rename IntsAre (List.set _ _ _) _ => I9
        rw [i1, i2, g1, g2, bor] at N9 I9
        refine' goes_on ⟨_⟩ _ _ _ rfl ?r1 F9 trivial ?r2 N9
        case r1 =>
          dsimp only
          rw [hq2, ors_snoc]
          have e : ∀ (l : List Nat) (i a b : Nat), (asInts (l.set i a)).set i (b : Int) = asInts (l.set i b) := fun l i a b => by
            rw [asInts, ← List.map_set, List.set_set]
          rw [e] at I9
          exact I9
        case r2 => ktr_rel; rw [s1]
      · intro st u2 h2 tkk hinv2 F N
        (try k_fold)
        obtain ⟨vs2⟩ := st
        dsimp only at hinv2 F N
        dsimp only [ovl, ovd] at F
        k_steps
        rename Fr _ _ _ _ => F9
        rename News _ _ _ _ => N9
        refine' goes_on ⟨vs2⟩ _ _ _ rfl ?t1 F9 trivial ?t2 (fun p hp => N9 p (.tail _ hp))
        case t1 =>
          dsimp only
          have hpl : (partsQ first (P.map (·.1)) j tj).length ≤ tj := by unfold partsQ; rw [List.length_reverse, List.length_take]; omega
          rw [List.take_of_length_le hpl, ← htd, row_next first (P.map (·.1)) j hjt P.length (by rw [List.length_map])] at hinv2
          exact hinv2
        case t2 => ktr_rel
    · intro st u h tk hinv F N
      (try k_fold)
      obtain ⟨vs⟩ := st
      dsimp only at hinv F N
      dsimp only [ovl, ovd] at F
      have hrl : (asInts (rowS first (P.map (·.1)) P.length)).length = P.length := row_len first P _ (Nat.le_refl _)
      k_steps
      rename Fr _ _ _ _ => F9
      rename News _ _ _ _ => N9
      have eF : (asInts (rowS first (P.map (·.1)) P.length)).reverse = asInts (flF first (P.map (·.1))).1 := by
        unfold rowS asInts
        rw [← List.map_reverse, List.reverse_reverse, List.take_of_length_le (by rw [List.length_map]; exact Nat.le_refl _), List.drop_of_length_le (by rw [List.length_range, List.length_map]; exact Nat.le_refl _), List.map_nil, List.append_nil]
      rename IntsAre _ (List.reverse _) => I9
      rw [eF] at I9
      rename Lts _ (_ :: _ :: _ :: _ :: _ :: addrs news) => l9
      refine hret _ _ _ _ I9 ⟨l9.2.2.2.2.1, l9.2.2.2.2.2⟩ F9 fun p hp => ?_
      rcases List.mem_cons.mp hp with rfl | hp
      · exact N9 _ (.head _)
      · exact N9 p (.tail _ (.tail _ (.tail _ (.tail _ (.tail _ hp)))))

-- RwO
def octs (n : Nat) : List Nat := if n < 64 then [n] else [64 + n / 64, n % 64]
set_option maxRecDepth 100000 in
set_option maxHeartbeats 8000000 in
theorem octets_ok (w : World) (news : List (Addr × Obj)) (n : Nat) (t : Tok) (hn : n < 4096) :
    Claim w 99 news [.int n t] 5 40 (fun h₀ L m s Q => ∀ (t : Tok) (h' : Heap) (tk' : Nat), Fr h₀ L h' m → News h₀ L h' news → Q (.str (S (octs n)) t) { s with heap := h', toks := tk' }) := by
  unfold Claim
  k_fill
  w_top off
  intros; rename_i hret
  refine wpAny_call ?_
  k_dflt cell_enter
  k_steps
  all_goals (rename News _ _ _ _ => N9; rename Fr _ _ _ _ => F9)
  · have h : n < 64 := by omega
    have e : octs n = [n] := by simp [octs, h]
    rw [e] at hret
    exact hret _ _ _ F9 N9
  · have h : ¬ n < 64 := by omega
    have e : octs n = [64 + n / 64, n % 64] := by simp [octs, h]
    rw [e] at hret
    have e1 : ((64 : Int) + Int.fdiv (n : Int) 64).toNat = 64 + n / 64 := by
      rw [Int.fdiv_eq_ediv_of_nonneg _ (by decide)]; omega
    have e2 : (Int.fmod (n : Int) 64).toNat = n % 64 := by
      rw [Int.fmod_eq_emod_of_nonneg _ (by decide)]; omega
    rw [e1, e2]
    exact hret _ _ _ F9 N9
def spelled (l : List Nat) (bare : Bool) : List Nat := if bare then spell m6 l ++ [32] else [34] ++ spell m2 l ++ [34]
theorem m6_list : (Str.ofString "\\\"\n\t\x0d ").cps.toList = m6 := by decide +kernel
theorem m2_list : (Str.ofString "\\\"").cps.toList = m2 := by decide +kernel
theorem spell_le (marks l : List Nat) : (spell marks l).length ≤ 2 * l.length := by
  induction l with
  | nil => simp [spell]
  | cons c r ih => simp only [spell, List.length_append, List.length_cons]; split <;> simp <;> omega
set_option maxRecDepth 100000 in
set_option maxHeartbeats 8000000 in
theorem spelled_ok (w : World) (news : List (Addr × Obj)) (l : List Nat) (t : Tok) (bare : Bool) (hl : l.length ≤ 100) :
    Claim w 106 news [.str (S l) t, .bool bare] 5 40 (fun h₀ L m s Q => ∀ (t : Tok) (h' : Heap) (tk' : Nat), Fr h₀ L h' m → News h₀ L h' news → Q (.str (S (spelled l bare)) t) { s with heap := h', toks := tk' }) := by
  unfold Claim
  k_fill
  w_top off
  intros; rename_i hret
  refine wpAny_call ?_
  k_dflt cell_enter
  k_steps
  · subst_vars
    rename Fr _ _ _ _ => F
    rename News _ _ _ _ => N
    refine for_str (σ := Nat × Tok) (fun st => [(Str.ofString "text", .str (S (spell m6 (l.take st.1))) st.2)]) [] (fun _ => news) (fun i st => st.1 = i) (0, _) (fun _ _ => rfl) rfl rfl F N ⟨rfl, trivial⟩ rfl rfl ?_ ?_
    · intro k c tv st I o u h tk hc hinv off F N
      (try k_fold)
      obtain ⟨i, t2⟩ := st
      dsimp only at hinv F N
      subst hinv
      simp only [ovl, ovd] at F
      have hc' : l[i]? = some c := by simpa using hc
      have hlt : i < l.length := (List.getElem?_eq_some_iff.mp hc').1
      have htk : l.take (i + 1) = l.take i ++ [c] := by rw [List.take_add_one, hc']; rfl
      have hs1 : (S (spell m6 (l.take i))).length ≤ 300 := by
        rw [S_len]; have := spell_le m6 (l.take i); rw [List.length_take] at this; omega
      have hs2 : (S [c]).length ≤ 1 := by rw [S_len]; simp
      have hoc := occ_one (Str.ofString "\\\"\n\t\x0d ") c
      rw [m6_list] at hoc
      by_cases hm : c ∈ m6
      · rw [decide_eq_false (not_not_intro hm)] at hoc
        k_steps
        rename Fr _ _ _ _ => F9
        rename News _ _ _ _ => N9
        refine' goes_on ((i + 1, _)) _ _ _ rfl rfl F9 ⟨?y3, trivial⟩ ?y4 N9
        case y3 => dsimp only; rw [htk, spell_append]; simp only [spell, if_pos hm]; rw [ofString_b]; rw [S_append, S_append]; rfl
        case y4 => ktr_rel
      · rw [decide_eq_true hm] at hoc
        k_steps
        rename Fr _ _ _ _ => F9
        rename News _ _ _ _ => N9
        refine' goes_on ((i + 1, _)) _ _ _ rfl rfl F9 ⟨?y3, trivial⟩ ?y4 N9
        case y3 => dsimp only; rw [htk, spell_append]; simp only [spell, if_neg hm]; rw [S_append]; rfl
        case y4 => ktr_rel
    · intro st u h tk hinv F N
      (try k_fold)
      obtain ⟨i, t2⟩ := st
      dsimp only at hinv F N
      subst hinv
      simp only [ovl, ovd] at F
      have hs1 : (S (spell m6 (l.take (S l).cps.size))).length ≤ 300 := by
        rw [S_len]; have := spell_le m6 (l.take (S l).cps.size); rw [List.length_take] at this; omega
      k_steps
      rename Fr _ _ _ _ => F9
      rename News _ _ _ _ => N9
      have e : l.take (S l).cps.size = l := by simp
      rw [e]
      rw [show Str.ofString " " = S [32] from by decide +kernel, S_append]
      exact hret _ _ _ F9 N9
  · subst_vars
    rename Fr _ _ _ _ => F
    rename News _ _ _ _ => N
    refine for_str (σ := Nat × Tok) (fun st => [(Str.ofString "text", .str (S (spell m2 (l.take st.1))) st.2)]) [] (fun _ => news) (fun i st => st.1 = i) (0, _) (fun _ _ => rfl) rfl rfl F N ⟨rfl, trivial⟩ rfl rfl ?_ ?_
    · intro k c tv st I o u h tk hc hinv off F N
      (try k_fold)
      obtain ⟨i, t2⟩ := st
      dsimp only at hinv F N
      subst hinv
      simp only [ovl, ovd] at F
      have hc' : l[i]? = some c := by simpa using hc
      have hlt : i < l.length := (List.getElem?_eq_some_iff.mp hc').1
      have htk : l.take (i + 1) = l.take i ++ [c] := by rw [List.take_add_one, hc']; rfl
      have hs1 : (S (spell m2 (l.take i))).length ≤ 300 := by
        rw [S_len]; have := spell_le m2 (l.take i); rw [List.length_take] at this; omega
      have hs2 : (S [c]).length ≤ 1 := by rw [S_len]; simp
      have hoc := occ_one (Str.ofString "\\\"") c
      rw [m2_list] at hoc
      by_cases hm : c ∈ m2
      · rw [decide_eq_false (not_not_intro hm)] at hoc
        k_steps
        rename Fr _ _ _ _ => F9
        rename News _ _ _ _ => N9
        refine' goes_on ((i + 1, _)) _ _ _ rfl rfl F9 ⟨?y3, trivial⟩ ?y4 N9
        case y3 => dsimp only; rw [htk, spell_append]; simp only [spell, if_pos hm]; rw [ofString_b]; rw [S_append, S_append]; rfl
        case y4 => ktr_rel
      · rw [decide_eq_true hm] at hoc
        k_steps
        rename Fr _ _ _ _ => F9
        rename News _ _ _ _ => N9
        refine' goes_on ((i + 1, _)) _ _ _ rfl rfl F9 ⟨?y3, trivial⟩ ?y4 N9
        case y3 => dsimp only; rw [htk, spell_append]; simp only [spell, if_neg hm]; rw [S_append]; rfl
        case y4 => ktr_rel
    · intro st u h tk hinv F N
      (try k_fold)
      obtain ⟨i, t2⟩ := st
      dsimp only at hinv F N
      subst hinv
      simp only [ovl, ovd] at F
      have hs1 : (S (spell m2 (l.take (S l).cps.size))).length ≤ 300 := by
        rw [S_len]; have := spell_le m2 (l.take (S l).cps.size); rw [List.length_take] at this; omega
      k_steps
      rename Fr _ _ _ _ => F9
      rename News _ _ _ _ => N9
      have e : l.take (S l).cps.size = l := by simp
      rw [e]
      rw [ofString_q, S_append, S_append]
      exact hret _ _ _ F9 N9

example : True := by
  k_with "call ref" => ((with_reducible show wpAny _ _ (call (Value.ref 99) _) _ _ _); k_dflt (k_extra "@go"; exact octets_ok _ _ _ _ (by first | assumption | omega); k_extra "@rm"); intro t9w h9w tk9w F9w N9w)
  k_with "call ref" => ((with_reducible show wpAny _ _ (call (Value.ref 106) _) _ _ _); k_dflt (k_extra "@go"; exact spelled_ok _ _ _ _ _ (by first | assumption | omega); k_extra "@rm"); intro t9w h9w tk9w F9w N9w)
  trivial
-- RwQ
theorem ints_get {vs : List Value} {ns : List Int} (h : IntsAre vs ns) {i : Nat} {n : Int} (hn : ns[i]? = some n) : ∃ t, vs[i]? = some (.int n t) := by
  induction h generalizing i with
  | nil => simp at hn
  | cons m t _ ih =>
    cases i with
    | zero => simp at hn; subst hn; exact ⟨t, rfl⟩
    | succ j => simp at hn; simpa using ih hn
theorem b64 (n : Nat) : Builtin.bitAnd (n : Int) 64 = ((n / 64 % 2 * 64 : Nat) : Int) := by
  have := kbt_bit (n : Int) 6
  rw [show ((2 : Int) ^ 6) = 64 from rfl] at this
  rw [this]; omega
structure Vst where
  (b v : Int)
  i : Nat
  (tb tv : Tok)
set_option maxRecDepth 100000 in
set_option maxHeartbeats 8000000 in
theorem parse_c (w : World) (news : List (Addr × Obj)) (I D : Addr) (tv : List Value) (e i : Nat) (T : List Nat) (hT : IntsAre tv (T.map fun (n : Nat) => (n : Int))) (y : Nat) (r : List Nat) (hy : y < 4096) (hd : T.drop i = octs y ++ r) :
    Claim w 29 ((I, liObj D i) :: (D, { cls := .type "list", data := .seq tv.toArray e }) :: news) [.ref I] 5 40 (fun h₀ L m s Q => (∀ p ∈ news, p.1 ≠ I) ∧ D ≠ I ∧ ∀ (t : Tok) (h' : Heap) (tk' : Nat), Fr h₀ L h' m →
      News h₀ L h' ((I, liObj D (i + (octs y).length)) :: (D, { cls := .type "list", data := .seq tv.toArray e }) :: news) → Q (.int y t) { s with heap := h', toks := tk' }) := by
  unfold Claim
  k_fill
  w_top off
  intros; rename_i hret
  obtain ⟨hne, hDI, hret⟩ := hret
  refine wpAny_call ?_
  k_dflt cell_enter
  have at_ : ∀ (k n : Nat), T[k]? = some n → ∃ t, tv[k]? = some (Value.int (n : Int) t) := by
    intro k n hk
    exact ints_get hT (by rw [List.getElem?_map, hk]; rfl)
  have g0 : T[i]? = some (octs y).head! := by
    have := congrArg (fun l => l[0]?) hd
    rw [show octs y = (octs y).head! :: (octs y).tail from by unfold octs; split <;> rfl] at this
    simpa using this
  obtain ⟨t0, v0⟩ := at_ _ _ g0
  k_steps
  rename Fr _ _ _ _ => F
  rename News _ _ _ _ => N
  refine while_own (σ := Vst) (fun st => [(Str.ofString "b", .int st.b st.tb), (Str.ofString "val", .int st.v st.tv)]) [] (fun st => (I, liObj D st.i) :: (D, { cls := .type "list", data := .seq tv.toArray e }) :: news)
    (fun k st => (k = 0 ∧ Builtin.bitAnd st.b 64 = 0 ∧ st.v = y ∧ st.i = i + (octs y).length) ∨ (k = 1 ∧ 64 ≤ y ∧ Builtin.bitAnd st.b 64 = 64 ∧ st.v = (y / 64 : Nat) ∧ st.i = i + 1)) (if y < 64 then 0 else 1) ⟨_, _, _, _, _⟩ ?x0 F N ⟨rfl, rfl, trivial⟩ ?_
  case x0 =>
    dsimp only
    by_cases h64 : y < 64
    · have e1 : octs y = [y] := by simp [octs, h64]
      rw [if_pos h64, e1]
      refine .inl ⟨rfl, ?_, ?_, rfl⟩
      · show Builtin.bitAnd ((y : Nat) : Int) 64 = 0
        rw [b64]; omega
      · show Builtin.bitAnd ((y : Nat) : Int) 63 = _
        rw [bitAnd_m6]; omega
    · have e1 : octs y = [64 + y / 64, y % 64] := by simp [octs, h64]
      rw [if_neg h64, e1]
      refine .inr ⟨rfl, by omega, ?_, ?_, rfl⟩
      · show Builtin.bitAnd ((64 + y / 64 : Nat) : Int) 64 = 64
        rw [b64]; omega
      · show Builtin.bitAnd ((64 + y / 64 : Nat) : Int) 63 = _
        rw [bitAnd_m6]; omega
  clear F N
  intro k st u h tk hinv F N
  (try k_fold)
  obtain ⟨bb, vv, j, t1, t2⟩ := st
  dsimp only at hinv F N
  dsimp only [ovl, ovd] at F
  rcases hinv with ⟨rfl, hb, rfl, rfl⟩ | ⟨rfl, h64, hb, rfl, rfl⟩
  · k_steps
    · exact absurd hb (by assumption)
    · rename Fr _ _ _ _ => F9
      rename News _ _ _ _ => N9
      exact hret _ _ _ F9 N9
  · have e1 : octs y = [64 + y / 64, y % 64] := by simp [octs]; omega
    have g1 : T[i + 1]? = some (y % 64) := by
      have := congrArg (fun l => l[1]?) hd
      rw [e1] at this
      simpa using this
    obtain ⟨t3, v1⟩ := at_ _ _ g1
    k_steps
    · rename Fr _ _ _ _ => F9
      rename News _ _ _ _ => N9
      refine' w_turn rfl 0 ⟨_, _, _, _, _⟩ _ _ _ (by decide) rfl (.inl ⟨rfl, ?u1, ?u2, ?u3⟩) F9 ⟨rfl, rfl, trivial⟩ ?u4 N9
      case u1 => show Builtin.bitAnd ((y % 64 : Nat) : Int) 64 = 0; rw [b64]; omega
      case u2 =>
        show Builtin.bitOr (((y / 64 : Nat) : Int) * 2 ^ (6 : Int).toNat) (Builtin.bitAnd ((y % 64 : Nat) : Int) 63) = _
        rw [bitAnd_m6, show ((y / 64 : Nat) : Int) * 2 ^ (6 : Int).toNat = ((2 ^ 6 * (y / 64) : Nat) : Int) from by show ((y / 64 : Nat) : Int) * 64 = _; omega, show ((y % 64 : Nat) : Int) % 64 = ((y % 64 : Nat) : Int) from by omega, bor, ← Nat.two_pow_add_eq_or_of_lt (by omega)]
        omega
      case u3 => dsimp only; rw [e1]; rfl
      case u4 => ktr_rel
    · rename Builtin.bitAnd _ _ = 0 => hz
      rw [hb] at hz
      exact absurd hz (by decide)

-- RwX
theorem nat_at {vs : List Value} {ss : List Nat} {ns : List Int} (e : ns = ss.map fun (n : Nat) => (n : Int)) (h : IntsAre vs ns) {i : Nat} {v : Value} (hv : vs.toArray[i]? = some v) : ∃ (n : Nat) (t : Tok), ss[i]? = some n ∧ v = .int (n : Int) t := by
  subst e
  obtain ⟨k, t, e, hk⟩ := PyProof.Rows.IntsAre.at h i v (by simpa using hv)
  rw [List.getElem?_map] at hk
  cases q : ss[i]? with
  | none => rw [q] at hk; simp at hk
  | some n => rw [q] at hk; simp at hk; exact ⟨n, t, rfl, by rw [e, ← hk]⟩
abbrev one_ (total : Int) : Nat := (1 + Int.fmod total 4).toNat
abbrev other_ (total : Int) : Nat := (5 + Int.fmod (Int.fdiv total 4) 4).toNat
abbrev bare_ (total : Int) (k : Nat) : Bool := Int.fmod (Int.fdiv total 16 + (k : Int)) 2 == 1
abbrev octA (ss : List Nat) : List Nat := ((ss ++ [0]).map octs).flatten
abbrev word_ (ss : List Nat) (total : Int) : Nat → List Nat
  | 0 => (octA ss).take (one_ total)
  | 1 => ((octA ss).drop (one_ total)).take (other_ total - one_ total)
  | _ => (octA ss).drop (other_ total)
abbrev textS (ss : List Nat) (total : Int) : List Nat := spelled (word_ ss total 0) (bare_ total 0) ++ (spelled (word_ ss total 1) (bare_ total 1) ++ spelled (word_ ss total 2) (bare_ total 2))
theorem spelled_le (l : List Nat) (b : Bool) : (spelled l b).length ≤ 2 * l.length + 2 := by
  have h2 := spell_le m2 l
  have h6 := spell_le m6 l
  unfold spelled
  split
  · simp only [List.length_append, List.length_cons, List.length_nil]; omega
  · simp only [List.length_append, List.length_cons, List.length_nil]; omega
theorem flat_le (ss : List Nat) : ((ss.map octs).flatten).length ≤ 2 * ss.length := by
  induction ss with
  | nil => simp
  | cons a r ih =>
    simp only [List.map_cons, List.flatten_cons, List.length_append, List.length_cons]
    have : (octs a).length ≤ 2 := by unfold octs; split <;> simp
    omega
theorem one_eq (total : Int) : 1 + Int.fmod total 4 = ((one_ total : Nat) : Int) := by
  have b1 := Int.fmod_nonneg_of_pos total (b := 4) (by decide)
  show _ = (((1 + Int.fmod total 4).toNat : Nat) : Int)
  omega
theorem other_eq (total : Int) : 5 + Int.fmod (Int.fdiv total 4) 4 = ((other_ total : Nat) : Int) := by
  have b1 := Int.fmod_nonneg_of_pos (Int.fdiv total 4) (b := 4) (by decide)
  show _ = (((5 + Int.fmod (Int.fdiv total 4) 4).toNat : Nat) : Int)
  omega
theorem one_other (total : Int) : one_ total ≤ other_ total := by
  have b1 := Int.fmod_lt_of_pos total (b := 4) (by decide)
  have b2 := Int.fmod_nonneg_of_pos (Int.fdiv total 4) (b := 4) (by decide)
  show (1 + Int.fmod total 4).toNat ≤ (5 + Int.fmod (Int.fdiv total 4) 4).toNat
  omega
theorem word_0 (ss : List Nat) (total : Int) : Txt.slice (S ((ss ++ [0]).map octs).flatten) none (some (1 + Int.fmod total 4)) = S (word_ ss total 0) := by
  rw [one_eq, slice_to]; rfl
theorem word_1 (ss : List Nat) (total : Int) : Txt.slice (S ((ss ++ [0]).map octs).flatten) (some (1 + Int.fmod total 4)) (some (5 + Int.fmod (Int.fdiv total 4) 4)) = S (word_ ss total 1) := by
  rw [one_eq, other_eq, slice_S (one_other total)]; rfl
theorem word_2 (ss : List Nat) (total : Int) : Txt.slice (S ((ss ++ [0]).map octs).flatten) (some (5 + Int.fmod (Int.fdiv total 4) 4)) none = S (word_ ss total 2) := by
  rw [other_eq, slice_from]; rfl
theorem octA_le (ss : List Nat) (hl : ss.length ≤ 12) : (octA ss).length ≤ 26 := by
  have := flat_le (ss ++ [0]); rw [List.length_append] at this; simp only [List.length_cons, List.length_nil] at this
  show ((ss ++ [0]).map octs).flatten.length ≤ 26
  omega
theorem word_le (ss : List Nat) (total : Int) (hl : ss.length ≤ 12) (k : Nat) : (word_ ss total k).length ≤ 100 := by
  have := octA_le ss hl
  unfold word_
  split <;> simp only [List.length_take, List.length_drop] <;> omega
set_option maxRecDepth 100000 in
set_option maxHeartbeats 8000000 in
theorem text_ok (w : World) (news : List (Addr × Obj)) (a : Addr) (sv : List Value) (se : Nat) (ss : List Nat) (hsv : IntsAre sv (ss.map fun (n : Nat) => (n : Int))) (hl : ss.length ≤ 12) (hb : ∀ n ∈ ss, n < 4096) (total : Int) (tt : Tok) :
    Claim w 118 ((a, W.listOf sv.toArray se) :: news) [.ref a, .int total tt] 10 120 (fun h₀ L m s Q => (∀ p ∈ news, p.1 ≠ a) ∧ ∀ (t : Tok) (h' : Heap) (tk' : Nat), Fr h₀ L h' m → News h₀ L h' ((a, W.listOf sv.toArray se) :: news) → Q (.str (S (textS ss total)) t) { s with heap := h', toks := tk' }) := by
  unfold Claim
  k_fill
  w_top off
  intros; rename_i hret
  refine wpAny_call ?_
  k_dflt cell_enter
  k_steps
  rename Fr _ _ _ _ => F
  rename News _ _ _ _ => N
  rename IntsAre _ (_ ++ _) => hI
  have hlen := hI.length
  simp only [List.length_append, List.length_map, List.length_cons, List.length_nil] at hlen
  (try dsimp only)
  refine LCg.CompSrc.ledger rfl F N (.head _) ?_ ?_
  · simp only [List.size_toArray, PySem.sizeLine_eq]; omega
  intro g
  (try dsimp only)
  refine comp_rest (fun i y => ∃ n t, (ss ++ [0])[i]? = some n ∧ y = .str (S (octs n)) t) ?_ ?_
  · intro i v I oI C oC D m₂ ys h tk E' hi hv hC hx F N off ne
    obtain ⟨n, tn, hn, rfl⟩ := nat_at (ss := ss ++ [0]) (by simp) hI hv
    have hn' : n < 4096 := by
      have := List.mem_of_getElem? hn
      rcases List.mem_append.mp this with h | h
      · exact hb n h
      · simp at h; omega
    k_steps
    rename Fr _ _ _ _ => F9
    rename News _ _ _ _ => N9
    exact comp_end F9 N9 off (.inr ⟨_, .head _, rfl, _, rfl⟩) ⟨rfl, _, _, hn, rfl⟩
  · intro ys hyl hy
    have hS : StrsAre ys (((ss ++ [0]).map octs).map S) := by
      refine strs_of _ _ ?_ ?_
      · rw [hyl, List.length_map, List.size_toArray, List.length_append]; exact hlen
      · intro i y hi
        obtain ⟨n, t, e1, e2⟩ := hy i y hi
        exact ⟨octs n, t, by rw [List.getElem?_map, e1]; rfl, e2⟩
    have hol : ∀ l ∈ (ss ++ [0]).map octs, l.length ≤ 1000 := by
      intro l hl'
      obtain ⟨n, _, rfl⟩ := List.mem_map.mp hl'
      unfold octs; split <;> simp
    have hll : ((ss ++ [0]).map octs).length ≤ 1000 := by simp; omega
    have hfl : (S ((ss ++ [0]).map octs).flatten).length ≤ 1000 := by
      rw [S_len]; have := flat_le (ss ++ [0]); rw [List.length_append] at this; simp only [List.length_cons, List.length_nil] at this; omega
    k_steps
    (try dsimp only)
    rename Fr _ _ _ _ => F
    rename News _ _ _ _ => N
    rename IsRange _ _ _ _ _ _ _ _ => hr
    simp only [word_0, word_1, word_2] at N
    have w0 := word_le ss total hl 0
    have w1 := word_le ss total hl 1
    have w2 := word_le ss total hl 2
    replace hret := hret.2
    unfold textS at hret
    generalize word_ ss total 0 = l0 at *
    generalize word_ ss total 1 = l1 at *
    generalize word_ ss total 2 = l2 at *
    refine LCg.CompSrc.range (n := 3) rfl F N hr (by decide) (by decide) (by decide) ?_
    intro g2
    (try dsimp only)
    refine comp_rest (fun i y => ∃ l t, [spelled l0 (bare_ total 0), spelled l1 (bare_ total 1), spelled l2 (bare_ total 2)][i]? = some l ∧ y = .str (S l) t) ?_ ?_
    · intro i v I oI C oC D m₂ ys2 h tk E' hi hv hC hx F N off ne
      obtain ⟨tv, rfl⟩ := hv
      have hi3 : i = 0 ∨ i = 1 ∨ i = 2 := by omega
      rcases hi3 with rfl | rfl | rfl
      all_goals (
        simp only [Int.zero_add] at hx
        k_steps
        rename Fr _ _ _ _ => F9
        rename News _ _ _ _ => N9
        exact comp_end F9 N9 off trivial ⟨rfl, _, _, rfl, rfl⟩)
    · intro ys2 hyl2 hy2
      have hS2 : StrsAre ys2 ([spelled l0 (bare_ total 0), spelled l1 (bare_ total 1), spelled l2 (bare_ total 2)].map S) := strs_of _ _ (by rw [hyl2]; rfl) hy2
      have hol2 : ∀ l ∈ [spelled l0 (bare_ total 0), spelled l1 (bare_ total 1), spelled l2 (bare_ total 2)], l.length ≤ 1000 := by
        intro l hl
        have p0 := spelled_le l0 (bare_ total 0)
        have p1 := spelled_le l1 (bare_ total 1)
        have p2 := spelled_le l2 (bare_ total 2)
        simp only [List.mem_cons, List.not_mem_nil, or_false] at hl
        rcases hl with rfl | rfl | rfl <;> omega
      have hll2 : [spelled l0 (bare_ total 0), spelled l1 (bare_ total 1), spelled l2 (bare_ total 2)].length ≤ 1000 := by simp
      have ef : [spelled l0 (bare_ total 0), spelled l1 (bare_ total 1), spelled l2 (bare_ total 2)].flatten = spelled l0 (bare_ total 0) ++ (spelled l1 (bare_ total 1) ++ spelled l2 (bare_ total 2)) := by simp
      k_steps
      rename Fr _ _ _ _ => F9
      rename News _ _ _ _ => N9
      rw [ef]
      refine hret _ _ _ F9 fun p hp => N9 p ?_
      repeat (first | exact hp | refine List.Mem.tail _ ?_)

-- RwY
theorem tb_iff (n i : Nat) : n.testBit i = decide (n / 2 ^ i % 2 = 1) := by
  rw [Nat.testBit_eq_decide_div_mod_eq]
theorem filt_succ (n i : Nat) : ((List.range (i + 1)).filter (fun k => n.testBit k)).map nm = ((List.range i).filter (fun k => n.testBit k)).map nm ++ if n.testBit i then [nm i] else [] := by
  rw [List.range_succ, List.filter_append, List.map_append]
  congr 1
  by_cases h : n.testBit i = true
  · simp [h]
  · simp [h]
theorem filt_more (n j : Nat) (h : n < 2 ^ j) : ∀ d, ((List.range (j + d)).filter (fun k => n.testBit k)).map nm = ((List.range j).filter (fun k => n.testBit k)).map nm := by
  intro d
  induction d with
  | zero => rfl
  | succ d ih =>
    rw [show j + (d + 1) = (j + d) + 1 from by omega, filt_succ, ih]
    have : n.testBit (j + d) = false := Nat.testBit_lt_two_pow (Nat.lt_of_lt_of_le h (Nat.pow_le_pow_right (by decide) (by omega)))
    rw [this]; simp
theorem half (n i : Nat) : n / 2 ^ (i + 1) = n / 2 ^ i / 2 := by
  rw [Nat.pow_succ, Nat.div_div_eq_div_mul]
theorem low_odd (n i : Nat) (h : n / 2 ^ i % 2 = 1) : n / 2 ^ i * 2 ^ i - 2 ^ i = n / 2 ^ (i + 1) * 2 ^ (i + 1) := by
  rw [half, Nat.pow_succ]
  generalize n / 2 ^ i = q at *
  generalize 2 ^ i = P
  obtain ⟨r, rfl⟩ : ∃ r, q = 2 * r + 1 := ⟨q / 2, by omega⟩
  rw [show (2 * r + 1) / 2 = r from by omega, Nat.add_mul, Nat.one_mul, Nat.add_sub_cancel, Nat.mul_comm 2 r, Nat.mul_assoc, Nat.mul_comm 2 P]
theorem low_even (n i : Nat) (h : n / 2 ^ i % 2 ≠ 1) : n / 2 ^ i * 2 ^ i = n / 2 ^ (i + 1) * 2 ^ (i + 1) := by
  rw [half, Nat.pow_succ]
  generalize n / 2 ^ i = q at *
  generalize 2 ^ i = P
  obtain ⟨r, rfl⟩ : ∃ r, q = 2 * r := ⟨q / 2, by omega⟩
  rw [show 2 * r / 2 = r from by omega, Nat.mul_comm 2 r, Nat.mul_assoc, Nat.mul_comm 2 P]
theorem strs_snoc {vs : List Value} {ss : List Str} (h : StrsAre vs ss) (x : Str) (t : Tok) : StrsAre (vs ++ [.str x t]) (ss ++ [x]) := by
  induction h with
  | nil => exact .cons x t .nil
  | cons y u _ ih => exact .cons y u ih
theorem nml_le (n i : Nat) (hi : i ≤ 32) : ∀ l ∈ ((List.range i).filter (fun k => n.testBit k)).map nm, l.length ≤ 1000 := by
  intro l hl
  obtain ⟨k, hk, rfl⟩ := List.mem_map.mp hl
  have := List.mem_range.mp (List.mem_filter.mp hk).1
  exact Nat.le_trans (nm_len k (by omega)) (by decide)
theorem nml_len (n i : Nat) : (((List.range i).filter (fun k => n.testBit k)).map nm).length ≤ i := by
  rw [List.length_map]
  exact Nat.le_trans (List.length_filter_le _ _) (by rw [List.length_range]; omega)
structure Fst where
  f : Nat
  vs : List Value
  e : Nat
  t : Tok
set_option maxRecDepth 100000 in
set_option maxHeartbeats 8000000 in
theorem flags_c (w : World) (news : List (Addr × Obj)) (n : Nat) (t : Tok) (hn : n < 2 ^ 36) (h0 : 0 < n) :
    Claim w 22 news [.int n t] 5 60 (fun h₀ L m s Q => ∀ (t : Tok) (h' : Heap) (tk' : Nat), Fr h₀ L h' m → News h₀ L h' news → Q (.str (pf n) t) { s with heap := h', toks := tk' }) := by
  unfold Claim
  k_fill
  w_top off
  intros; rename_i hret
  refine wpAny_call ?_
  k_dflt cell_enter
  k_steps
  rename Fr _ _ _ _ => F
  rename News _ _ _ _ => N
  refine for_range (σ := Fst) (n := 32) (fun st => [(Str.ofString "flags", .int (st.f : Int) st.t)]) [Str.ofString "flag"] (fun st => (_, W.listOf st.vs.toArray st.e) :: news)
    (fun i st => st.f = n / 2 ^ i * 2 ^ i ∧ st.f ≠ 0 ∧ StrsAre st.vs (((List.range i).filter (fun k => n.testBit k)).map nm)) ⟨n, [], 0, t⟩ (by assumption) (by decide) (by decide) (fun _ _ => rfl) ⟨by simp, by show n ≠ 0; omega, .nil⟩ rfl F N ⟨rfl, trivial⟩ rfl rfl ?_ ?_
  · intro i tv st I o u h tk hi hinv off F N
    (try k_fold)
    obtain ⟨f, vs, e, t2⟩ := st
    dsimp only at hinv F N off
    obtain ⟨hf, hf0, hS⟩ := hinv
    have o1 := off
    k_lt o1
    dsimp only [ovl, ovd] at F
    have hx : (0 : Int) + (i : Int) = (i : Int) := by omega
    have hsz := hex_len i hi
    have hvl : vs.length ≤ 32 := by
      rw [hS.len_eq, List.length_map]
      exact Nat.le_trans (List.length_filter_le _ _) (by rw [List.length_range]; omega)
    rw [hx] at F
    have hP : 0 < 2 ^ i := Nat.two_pow_pos i
    have hfi : f / 2 ^ i = n / 2 ^ i := by rw [hf, Nat.mul_div_cancel _ hP]
    by_cases hb : n / 2 ^ i % 2 = 1
    · have hx1 := bxor_bit f i (by rw [hfi]; exact hb)
      have hnz : Builtin.bitAnd (f : Int) ((2 ^ i : Nat) : Int) ≠ 0 := by rw [band_bit, hfi, hb]; omega
      k_steps
      · rename Fr _ _ _ _ => F9
        rename News _ _ _ _ => N9
        simp only [List.push_toArray] at N9
        have hne : Builtin.bitXor (f : Int) ((2 ^ i : Nat) : Int) ≠ 0 := by assumption
        rw [hx1] at F9 hne
        refine' goes_on ⟨f - 2 ^ i, vs ++ [_], e + 1, _⟩ _ _ _ rfl ⟨?v1, ?v4, ?v2⟩ F9 ⟨rfl, trivial⟩ ?v3 N9
        case v1 => dsimp only; rw [hf, low_odd n i hb]
        case v4 => dsimp only; intro q; rw [q] at hne; exact hne rfl
        case v2 => dsimp only; rw [filt_succ, tb_iff, decide_eq_true hb]; exact strs_snoc hS _ _
        case v3 => ktr_rel
      · rename News _ _ _ _ => N9
        simp only [List.push_toArray] at N9
        have hS2 := strs_snoc hS (nm i) (by assumption)
        have hz : Builtin.bitXor (f : Int) ((2 ^ i : Nat) : Int) = 0 := by assumption
        rw [hx1, hf, low_odd n i hb] at hz
        have hlt : n < 2 ^ (i + 1) := by
          rcases Nat.lt_or_ge n (2 ^ (i + 1)) with q | q
          · exact q
          · have q1 : 0 < n / 2 ^ (i + 1) := Nat.div_pos q (Nat.two_pow_pos _)
            have q2 := Nat.mul_pos q1 (Nat.two_pow_pos (i + 1))
            omega
        have epf : pfW n = ((List.range i).filter (fun k => n.testBit k)).map nm ++ [nm i] := by
          unfold pfW
          have e1 := filt_more n (i + 1) hlt (31 - i)
          rw [show i + 1 + (31 - i) = 32 from by omega] at e1
          have e2 : n / 2 ^ 32 = 0 := Nat.div_eq_of_lt (Nat.lt_of_lt_of_le hlt (Nat.pow_le_pow_right (by decide) (by omega)))
          rw [e1, e2, if_pos rfl, List.append_nil, filt_succ, tb_iff, decide_eq_true hb]; rfl
        k_dflt (refine join_led2 N9 (.tail _ (.head _)) (strs_snoc hS _ _) ?_ ?_ (by decide) ?_)
        · intro l hl
          rcases List.mem_append.mp hl with q | q
          · exact nml_le n i (by omega) l q
          · rw [List.mem_singleton.mp q]; exact Nat.le_trans (nm_len i hi) (by decide)
        · rw [List.length_append]; have := nml_len n i; simp only [List.length_cons, List.length_nil]; omega
        rw [← epf]
        intro t' k'
        k_steps
        rename Fr _ _ _ _ => F9
        rename News _ _ _ _ => N8
        refine hret _ _ _ F9 fun p hp => N8 p ?_
        repeat (first | exact hp | refine List.Mem.tail _ ?_)
      · exact absurd (by assumption) hnz
    · have hz : Builtin.bitAnd (f : Int) ((2 ^ i : Nat) : Int) = 0 := by
        rw [band_bit, hfi, show n / 2 ^ i % 2 = 0 from by omega]; simp
      k_steps
      · exact absurd hz (by assumption)
      · rename Fr _ _ _ _ => F9
        rename News _ _ _ _ => N9
        refine' goes_on ⟨f, vs, e, t2⟩ _ _ _ rfl ⟨?u1, hf0, ?u2⟩ F9 ⟨rfl, trivial⟩ ?u3 N9
        case u1 => dsimp only; rw [hf, low_even n i hb]
        case u2 => dsimp only; rw [filt_succ, tb_iff, decide_eq_false hb]; simpa using hS
        case u3 => ktr_rel
  · intro st u h tk hinv F N
    (try k_fold)
    obtain ⟨f, vs, e, t2⟩ := st
    dsimp only at hinv F N
    obtain ⟨hf, hf0, hS⟩ := hinv
    dsimp only [ovl, ovd] at F
    have hh : n / 2 ^ 32 < 16 := Nat.div_lt_of_lt_mul (by omega)
    have hsz := hexh_len _ hh
    rw [← hf] at hsz
    have hvl : vs.length ≤ 32 := by
      rw [hS.len_eq, List.length_map]
      exact Nat.le_trans (List.length_filter_le _ _) (by rw [List.length_range]; omega)
    k_steps
    rename News _ _ _ _ => N9
    simp only [List.push_toArray] at N9
    have hnz : n / 2 ^ 32 ≠ 0 := by
      intro q; rw [q] at hf; omega
    have epf : pfW n = ((List.range 32).filter (fun k => n.testBit k)).map nm ++ [baseText "0x" 16 (f : Int)] := by
      unfold pfW
      rw [if_neg hnz, hf]
    k_dflt (refine join_led2 N9 (.head _) (strs_snoc hS _ _) ?_ ?_ (by decide) ?_)
    · intro l hl
      rcases List.mem_append.mp hl with q | q
      · exact nml_le n 32 (by omega) l q
      · rw [List.mem_singleton.mp q]; exact Nat.le_trans hsz (by decide)
    · rw [List.length_append]; have := nml_len n 32; simp only [List.length_cons, List.length_nil]; omega
    rw [← epf]
    intro t' k'
    k_steps
    rename Fr _ _ _ _ => F9
    rename News _ _ _ _ => N8
    refine hret _ _ _ F9 fun p hp => N8 p ?_
    repeat (first | exact hp | refine List.Mem.tail _ ?_)

-- RwU
structure Wst where
  vs : List Value
  e : Nat
  hi : Nat
  t : Tok
def hsum (ps : List Nat) : Nat := (ps.map fun p => if p < 32 then 0 else 2 ^ (p - 32)).sum
def lwW (ps : List Nat) : List Str := ((ps.filter fun p => decide (p < 32)).map nm) ++ if hsum ps = 0 then [] else [baseText "0x" 16 ((hsum ps * 2 ^ 32 : Nat) : Int)]
theorem hsum_snoc (l : List Nat) (p : Nat) : hsum (l ++ [p]) = hsum l + if p < 32 then 0 else 2 ^ (p - 32) := by simp [hsum]
theorem hsum_take (l : List Nat) (i : Nat) : hsum (l.take i) ≤ hsum l := by
  have e : hsum l = hsum (l.take i) + hsum (l.drop i) := by
    rw [hsum, hsum, hsum, ← List.sum_append, ← List.map_append, List.take_append_drop]
  omega
theorem lw_A (p : Nat) (h : p < 32) : (Str.ofString "0x" ++ Txt.item (Str.ofString "1248") (Int.fmod (p : Int) 4)).length ≤ 100 := by
  have h' : ∀ j : Fin 32, (Str.ofString "0x" ++ Txt.item (Str.ofString "1248") (Int.fmod (j.1 : Int) 4)).length ≤ 100 := by decide +kernel
  exact h' ⟨p, h⟩
theorem lw_A1 (p : Nat) (h : p < 32) : (Txt.item (Str.ofString "1248") (Int.fmod (p : Int) 4)).length ≤ 100 := by
  have h' : ∀ j : Fin 32, (Txt.item (Str.ofString "1248") (Int.fmod (j.1 : Int) 4)).length ≤ 100 := by decide +kernel
  exact h' ⟨p, h⟩
theorem lw_B (p : Nat) (h : p < 32) : (Txt.mul (Str.ofString "0") (Int.fdiv (p : Int) 4)).length ≤ 100 := by
  have h' : ∀ j : Fin 32, (Txt.mul (Str.ofString "0") (Int.fdiv (j.1 : Int) 4)).length ≤ 100 := by decide +kernel
  exact h' ⟨p, h⟩
theorem lw_nm (p : Nat) (h : p < 32) (h2 : 10 ≤ p) : Str.ofString "0x" ++ Txt.item (Str.ofString "1248") (Int.fmod (p : Int) 4) ++ Txt.mul (Str.ofString "0") (Int.fdiv (p : Int) 4) = nm p := by
  have h' : ∀ j : Fin 32, 10 ≤ j.1 → Str.ofString "0x" ++ Txt.item (Str.ofString "1248") (Int.fmod (j.1 : Int) 4) ++ Txt.mul (Str.ofString "0") (Int.fdiv (j.1 : Int) 4) = nm j.1 := by decide +kernel
  exact h' ⟨p, h⟩ h2
theorem lw_lo (p : Nat) (h : p < 10) : flagNames.getD ((p : Int)).toNat Str.empty = nm p := by
  have h' : ∀ j : Fin 10, flagNames.getD ((j.1 : Int)).toNat Str.empty = nm j.1 := by decide +kernel
  exact h' ⟨p, h⟩
theorem lw_C (p : Nat) (h : p < 16) : (Str.ofString "0x" ++ Txt.item (Str.ofString "0123456789abcdef") (p : Int)).length ≤ 100 := by
  have h' : ∀ j : Fin 16, (Str.ofString "0x" ++ Txt.item (Str.ofString "0123456789abcdef") (j.1 : Int)).length ≤ 100 := by decide +kernel
  exact h' ⟨p, h⟩
theorem lw_C1 (p : Nat) (h : p < 16) : (Txt.item (Str.ofString "0123456789abcdef") (p : Int)).length ≤ 100 := by
  have h' : ∀ j : Fin 16, (Txt.item (Str.ofString "0123456789abcdef") (j.1 : Int)).length ≤ 100 := by decide +kernel
  exact h' ⟨p, h⟩
theorem lw_hi (p : Nat) (h : p < 16) (h2 : 0 < p) : Str.ofString "0x" ++ Txt.item (Str.ofString "0123456789abcdef") (p : Int) ++ Str.ofString "00000000" = baseText "0x" 16 ((p * 2 ^ 32 : Nat) : Int) := by
  have h' : ∀ j : Fin 16, 0 < j.1 → Str.ofString "0x" ++ Txt.item (Str.ofString "0123456789abcdef") (j.1 : Int) ++ Str.ofString "00000000" = baseText "0x" 16 ((j.1 * 2 ^ 32 : Nat) : Int) := by decide +kernel
  exact h' ⟨p, h⟩ h2
theorem filt_len (l : List Nat) : (((l.filter fun p => decide (p < 32)).map nm)).length ≤ l.length := by
  rw [List.length_map]; exact List.length_filter_le _ _
theorem filt_le (l : List Nat) : ∀ x ∈ ((l.filter fun p => decide (p < 32)).map nm), x.length ≤ 1000 := by
  intro x hx
  obtain ⟨k, hk, rfl⟩ := List.mem_map.mp hx
  exact Nat.le_trans (nm_len k (by simpa using (List.mem_filter.mp hk).2)) (by decide)
set_option maxRecDepth 100000 in
set_option maxHeartbeats 8000000 in
theorem words_c (w : World) (news : List (Addr × Obj)) (c : Addr) (cv : List Value) (ce : Nat) (ps : List Nat) (hcv : IntsAre cv (ps.map fun (n : Nat) => (n : Int))) (hl : ps.length ≤ 36) (hp : ∀ p ∈ ps, p < 36) (hh : hsum ps < 16) :
    Claim w 135 ((c, { cls := .type "list", data := .seq cv.toArray ce }) :: news) [.ref c] 5 60 (fun h₀ L m s Q => (∀ p ∈ news, p.1 ≠ c) ∧ ∀ (t : Tok) (h' : Heap) (tk' : Nat), Fr h₀ L h' m →
      News h₀ L h' ((c, { cls := .type "list", data := .seq cv.toArray ce }) :: news) → Q (.str (Str.join (Str.ofString ", ") (lwW ps)) t) { s with heap := h', toks := tk' }) := by
  unfold Claim
  k_fill
  w_top off
  intros; rename_i hret
  obtain ⟨hne, hret⟩ := hret
  refine wpAny_call ?_
  k_dflt cell_enter
  k_steps
  rename Fr _ _ _ _ => F
  rename News _ _ _ _ => N
  refine for_list (σ := Wst) (its := cv.toArray) (fun st => [(Str.ofString "high", .int (st.hi : Int) st.t)]) [] (fun st => (_, W.listOf st.vs.toArray st.e) :: (_, W.listOf _ _) :: (c, { cls := .type "list", data := .seq cv.toArray ce }) :: news)
    (fun i st => StrsAre st.vs (((ps.take i).filter fun p => decide (p < 32)).map nm) ∧ st.hi = hsum (ps.take i)) ⟨[], 0, 0, _⟩ (fun _ _ => rfl) (fun i st _ => .inr ⟨_, .tail _ (.tail _ (.head _)), rfl, _, rfl⟩) ⟨.nil, rfl⟩ rfl F N ⟨rfl, trivial⟩ (N _ (.tail _ (.tail _ (.head _)))).2.1 rfl rfl ?_ ?_
  · intro i v st I o u h tk hv hinv off F N
    (try k_fold)
    obtain ⟨vs, e, hi, t2⟩ := st
    dsimp only at hinv F N off
    obtain ⟨hS, hH⟩ := hinv
    have o1 := off
    k_lt o1
    obtain ⟨p, tp, hpi, rfl⟩ := nat_at (ss := ps) rfl hcv hv
    have hp36 := hp p (List.mem_of_getElem? hpi)
    have htk : ps.take (i + 1) = ps.take i ++ [p] := by rw [List.take_add_one, hpi]; rfl
    have hvl : vs.length ≤ 36 := by
      rw [hS.len_eq]; have := filt_len (ps.take i); rw [List.length_take] at this; omega
    dsimp only [ovl, ovd] at F
    rcases Nat.lt_or_ge p 10 with h10 | h10
    · have hn : ((p : Int) < 10) := by omega
      k_steps
      · rename Fr _ _ _ _ => F9
        rename News _ _ _ _ => N9
        have e9 := lw_lo p h10
        unfold flagNames at e9
        simp only [List.push_toArray] at N9
        rw [e9] at N9
        refine' goes_on ⟨vs ++ [_], e + 1, hi, _⟩ _ _ _ rfl ⟨?a1, ?a2⟩ F9 ⟨rfl, trivial⟩ ?a3 N9
        case a1 =>
          dsimp only
          rw [htk, List.filter_append, List.map_append, show [p].filter (fun p => decide (p < 32)) = [p] from by simp; omega]
          exact strs_snoc hS (nm p) _
        case a2 => dsimp only; rw [htk, hsum_snoc, if_pos (by omega)]; exact hH
        case a3 => ktr_rel
    · rcases Nat.lt_or_ge p 32 with h32 | h32
      · have hA := lw_A p h32
        have hA1 := lw_A1 p h32
        have hB := lw_B p h32
        k_steps
        rename Fr _ _ _ _ => F9
        rename News _ _ _ _ => N9
        simp only [List.push_toArray] at N9
        rw [lw_nm p h32 h10] at N9
        refine' goes_on ⟨vs ++ [_], e + 1, hi, _⟩ _ _ _ rfl ⟨?b1, ?b2⟩ F9 ⟨rfl, trivial⟩ ?b3 N9
        case b1 =>
          dsimp only
          rw [htk, List.filter_append, List.map_append, show [p].filter (fun p => decide (p < 32)) = [p] from by simp; omega]
          exact strs_snoc hS (nm p) _
        case b2 => dsimp only; rw [htk, hsum_snoc, if_pos (by omega)]; exact hH
        case b3 => ktr_rel
      · k_steps
        rename Fr _ _ _ _ => F9
        rename News _ _ _ _ => N9
        have e9 : (hi : Int) + ((2 ^ ((p : Int) - 32).toNat : Nat) : Int) = ((hi + 2 ^ (p - 32) : Nat) : Int) := by
          rw [show ((p : Int) - 32).toNat = p - 32 from by omega]; push_cast; rfl
        rw [e9] at F9
        refine' goes_on ⟨vs, e, _, _⟩ _ _ _ rfl ⟨?c1, ?c2⟩ F9 ⟨rfl, trivial⟩ ?c3 N9
        case c1 =>
          dsimp only
          rw [htk, List.filter_append, List.map_append, show [p].filter (fun p => decide (p < 32)) = [] from by simp; omega, List.map_nil, List.append_nil]
          exact hS
        case c2 => dsimp only; rw [htk, hsum_snoc, if_neg (by omega), hH]
        case c3 => ktr_rel
  · intro st u h tk hinv F N
    (try k_fold)
    obtain ⟨vs, e, hi, t2⟩ := st
    dsimp only at hinv F N
    obtain ⟨hS, hH⟩ := hinv
    dsimp only [ovl, ovd] at F
    have hsz : cv.toArray.size = ps.length := by rw [List.size_toArray, hcv.length, List.length_map]
    rw [hsz, List.take_length] at hS hH
    have hB := filt_le ps
    have hBl : (((ps.filter fun p => decide (p < 32)).map nm)).length ≤ 1000 := by have := filt_len ps; omega
    have hvl : vs.length ≤ 36 := by rw [hS.len_eq]; have := filt_len ps; omega
    have hi16 : hi < 16 := by omega
    have hC := lw_C hi hi16
    have hC1 := lw_C1 hi hi16
    rcases Nat.eq_zero_or_pos hi with h0 | h0
    · have epf : lwW ps = (ps.filter fun p => decide (p < 32)).map nm := by
        unfold lwW; rw [← hH, if_pos h0, List.append_nil]
      k_steps
      rename Fr _ _ _ _ => F9
      rename News _ _ _ _ => N8
      rw [epf] at hret
      refine hret _ _ _ F9 fun p hp => N8 p ?_
      repeat (first | exact hp | refine List.Mem.tail _ ?_)
    · have epf : lwW ps = (ps.filter fun p => decide (p < 32)).map nm ++ [baseText "0x" 16 ((hi * 2 ^ 32 : Nat) : Int)] := by
        unfold lwW; rw [← hH, if_neg (by omega)]
      k_steps
      rename News _ _ _ _ => N9
      simp only [List.push_toArray] at N9
      rw [lw_hi hi hi16 h0] at N9
      k_dflt (refine join_led2 N9 (.head _) (strs_snoc hS _ _) ?_ ?_ (by decide) ?_)
      · intro l hl
        rcases List.mem_append.mp hl with q | q
        · exact hB l q
        · rw [List.mem_singleton.mp q]; exact Nat.le_trans (hexh_len hi hi16) (by decide)
      · rw [List.length_append]; have := filt_len ps; simp only [List.length_cons, List.length_nil]; omega
      rw [← epf]
      intro t' k'
      k_steps
      rename Fr _ _ _ _ => F9
      rename News _ _ _ _ => N8
      refine hret _ _ _ F9 fun p hp => N8 p ?_
      repeat (first | exact hp | refine List.Mem.tail _ ?_)

-- RwZa
/-- the words of a join, in plain lists -/
def jn : List (List Nat) → List Nat
  | [] => []
  | [a] => a
  | a :: b :: r => a ++ 44 :: 32 :: jn (b :: r)
theorem split44 : ∀ (a a' x y : List Nat), 44 ∉ a → 44 ∉ a' → a ++ 44 :: x = a' ++ 44 :: y → a = a' ∧ x = y
  | [], [], x, y, _, _, h => by simpa using h
  | [], c :: r, x, y, _, h', h => by
    simp only [List.nil_append, List.cons_append, List.cons.injEq] at h
    exact absurd (by rw [← h.1]; exact List.mem_cons_self) h'
  | c :: r, [], x, y, h', _, h => by
    simp only [List.nil_append, List.cons_append, List.cons.injEq] at h
    exact absurd (by rw [h.1]; exact List.mem_cons_self) h'
  | c :: r, c' :: r', x, y, h1, h2, h => by
    simp only [List.cons_append, List.cons.injEq] at h
    obtain ⟨e, h⟩ := split44 r r' x y (fun q => h1 (.tail _ q)) (fun q => h2 (.tail _ q)) h.2
    simp_all
theorem jn_inj : ∀ (L L' : List (List Nat)), (∀ l ∈ L, 44 ∉ l) → (∀ l ∈ L', 44 ∉ l) → L ≠ [] → L' ≠ [] → jn L = jn L' → L = L'
  | [], _, _, _, h, _, _ => absurd rfl h
  | _, [], _, _, _, h, _ => absurd rfl h
  | [a], [a'], _, _, _, _, h => by simpa [jn] using h
  | [a], a' :: b' :: r', h1, _, _, _, h => by
    simp only [jn] at h
    exact absurd (by rw [h]; simp) (h1 a (by simp))
  | a :: b :: r, [a'], _, h2, _, _, h => by
    simp only [jn] at h
    exact absurd (by rw [← h]; simp) (h2 a' (by simp))
  | a :: b :: r, a' :: b' :: r', h1, h2, _, _, h => by
    simp only [jn] at h
    obtain ⟨e, h⟩ := split44 a a' _ _ (h1 a (by simp)) (h2 a' (by simp)) h
    simp only [List.cons.injEq, true_and] at h
    have := jn_inj (b :: r) (b' :: r') (fun l q => h1 l (.tail _ q)) (fun l q => h2 l (.tail _ q)) (by simp) (by simp) h
    rw [e, this]
theorem comma_list : (Str.ofString ", ").cps.toList = [44, 32] := by decide +kernel
theorem app_list (a b : Str) : (a ++ b).cps.toList = a.cps.toList ++ b.cps.toList := by
  show (a.cps ++ b.cps).toList = _
  rw [Array.toList_append]
theorem join_jn : ∀ L : List Str, (Str.join (Str.ofString ", ") L).cps.toList = jn (L.map fun x => x.cps.toList)
  | [] => by simp only [Str.join, jn, List.map_nil]; rfl
  | [a] => by simp only [Str.join, jn, List.map_cons, List.map_nil]
  | a :: b :: r => by
    show (a ++ Str.ofString ", " ++ Str.join (Str.ofString ", ") (b :: r)).cps.toList = _
    rw [app_list, app_list, comma_list, join_jn (b :: r)]
    simp [jn]
theorem strlist_inj : ∀ L L' : List Str, (L.map fun x => x.cps.toList) = (L'.map fun x => x.cps.toList) → L = L'
  | [], [], _ => rfl
  | [], _ :: _, h => by simp at h
  | _ :: _, [], h => by simp at h
  | a :: r, b :: s, h => by
    simp only [List.map_cons, List.cons.injEq] at h
    have e : a = b := by
      cases a; cases b
      simp only [Str.mk.injEq]
      exact Array.toList_inj.mp h.1
    rw [e, strlist_inj r s h.2]
/-- the word of what lies above 31 -/
def hw (h : Nat) : Str := baseText "0x" 16 ((h * 2 ^ 32 : Nat) : Int)
theorem nm_comma (k : Nat) (h : k < 32) : 44 ∉ (nm k).cps.toList := by
  have h' : ∀ j : Fin 32, 44 ∉ (nm j.1).cps.toList := by decide +kernel
  exact h' ⟨k, h⟩
theorem hw_comma (k : Nat) (h : k < 16) : 44 ∉ (hw k).cps.toList := by
  have h' : ∀ j : Fin 16, 44 ∉ (hw j.1).cps.toList := by decide +kernel
  exact h' ⟨k, h⟩
theorem nm_inj (i j : Nat) (hi : i < 32) (hj : j < 32) (h : nm i = nm j) : i = j := by
  have h' : ∀ i j : Fin 32, nm i.1 = nm j.1 → i.1 = j.1 := by decide +kernel
  exact h' ⟨i, hi⟩ ⟨j, hj⟩ h
theorem hw_inj (i j : Nat) (hi : i < 16) (hj : j < 16) (h : hw i = hw j) : i = j := by
  have h' : ∀ i j : Fin 16, hw i.1 = hw j.1 → i.1 = j.1 := by decide +kernel
  exact h' ⟨i, hi⟩ ⟨j, hj⟩ h
theorem nm_hw (i j : Nat) (hi : i < 32) (hj : j < 16) (hj0 : j ≠ 0) : nm i ≠ hw j := by
  have h' : ∀ (i : Fin 32) (j : Fin 16), j.1 ≠ 0 → nm i.1 ≠ hw j.1 := by decide +kernel
  exact h' ⟨i, hi⟩ ⟨j, hj⟩ hj0
theorem pfW_eq (n : Nat) : pfW n = ((List.range 32).filter (fun k => n.testBit k)).map nm ++ if n / 2 ^ 32 = 0 then [] else [hw (n / 2 ^ 32)] := rfl
theorem pfW_mem (n : Nat) (x : Str) : x ∈ pfW n ↔ (∃ k, k < 32 ∧ n.testBit k = true ∧ nm k = x) ∨ (n / 2 ^ 32 ≠ 0 ∧ x = hw (n / 2 ^ 32)) := by
  rw [pfW_eq, List.mem_append, List.mem_map]
  constructor
  · rintro (⟨k, hk, e⟩ | h)
    · rw [List.mem_filter, List.mem_range] at hk
      exact .inl ⟨k, hk.1, hk.2, e⟩
    · by_cases h0 : n / 2 ^ 32 = 0
      · rw [if_pos h0] at h; cases h
      · rw [if_neg h0] at h; exact .inr ⟨h0, List.mem_singleton.mp h⟩
  · rintro (⟨k, hk, hb, e⟩ | ⟨h0, e⟩)
    · exact .inl ⟨k, by rw [List.mem_filter, List.mem_range]; exact ⟨hk, hb⟩, e⟩
    · rw [if_neg h0]; exact .inr (List.mem_singleton.mpr e)
theorem pfW_comma (n : Nat) (hn : n < 2 ^ 36) : ∀ l ∈ (pfW n).map (fun x => x.cps.toList), 44 ∉ l := by
  intro l hl
  obtain ⟨x, hx, rfl⟩ := List.mem_map.mp hl
  have hh : n / 2 ^ 32 < 16 := Nat.div_lt_of_lt_mul (by omega)
  rcases (pfW_mem n x).mp hx with ⟨k, hk, _, rfl⟩ | ⟨_, rfl⟩
  · exact nm_comma k hk
  · exact hw_comma _ hh
theorem pfW_ne (n : Nat) (h : 0 < n) : pfW n ≠ [] := by
  intro e
  by_cases h0 : n / 2 ^ 32 = 0
  · have hlt : n < 2 ^ 32 := by
      rcases Nat.lt_or_ge n (2 ^ 32) with q | q
      · exact q
      · have := Nat.div_pos q (Nat.two_pow_pos 32); omega
    obtain ⟨k, hk⟩ : ∃ k, n.testBit k = true := by
      apply Classical.byContradiction
      intro q
      have : n = 0 := Nat.eq_of_testBit_eq fun i => by
        rw [Nat.zero_testBit]
        cases hb : n.testBit i with
        | false => rfl
        | true => exact absurd ⟨i, hb⟩ q
      omega
    have hk32 : k < 32 := by
      rcases Nat.lt_or_ge k 32 with q | q
      · exact q
      · have := Nat.testBit_lt_two_pow (Nat.lt_of_lt_of_le hlt (Nat.pow_le_pow_right (by decide) q))
        rw [this] at hk; cases hk
    have : nm k ∈ pfW n := (pfW_mem n _).mpr (.inl ⟨k, hk32, hk, rfl⟩)
    rw [e] at this; cases this
  · have : hw (n / 2 ^ 32) ∈ pfW n := (pfW_mem n _).mpr (.inr ⟨h0, rfl⟩)
    rw [e] at this; cases this
theorem pfW_bit (a b : Nat) (hb : b < 2 ^ 36) (e : pfW a = pfW b) (k : Nat) (hk : k < 32) (h : a.testBit k = true) : b.testBit k = true := by
  have hh : b / 2 ^ 32 < 16 := Nat.div_lt_of_lt_mul (by omega)
  have h1 : nm k ∈ pfW b := e ▸ (pfW_mem a _).mpr (.inl ⟨k, hk, h, rfl⟩)
  rcases (pfW_mem b _).mp h1 with ⟨j, hj, hbj, ej⟩ | ⟨h0, ej⟩
  · rw [← nm_inj j k hj hk ej]; exact hbj
  · exact absurd ej (nm_hw k _ hk hh h0)
theorem pfW_high (a b : Nat) (ha : a < 2 ^ 36) (hb : b < 2 ^ 36) (e : pfW a = pfW b) (h : a / 2 ^ 32 ≠ 0) : a / 2 ^ 32 = b / 2 ^ 32 := by
  have hha : a / 2 ^ 32 < 16 := Nat.div_lt_of_lt_mul (by omega)
  have hhb : b / 2 ^ 32 < 16 := Nat.div_lt_of_lt_mul (by omega)
  have h1 : hw (a / 2 ^ 32) ∈ pfW b := e ▸ (pfW_mem a _).mpr (.inr ⟨h, rfl⟩)
  rcases (pfW_mem b _).mp h1 with ⟨j, hj, hbj, ej⟩ | ⟨h0, ej⟩
  · exact absurd ej (nm_hw j _ hj hha h)
  · exact hw_inj _ _ hha hhb ej
theorem pfW_inj (a b : Nat) (ha : a < 2 ^ 36) (hb : b < 2 ^ 36) (e : pfW a = pfW b) : a = b := by
  have hd : a / 2 ^ 32 = b / 2 ^ 32 := by
    by_cases h : a / 2 ^ 32 = 0
    · by_cases h' : b / 2 ^ 32 = 0
      · rw [h, h']
      · exact (pfW_high b a hb ha e.symm h').symm
    · exact pfW_high a b ha hb e h
  refine Nat.eq_of_testBit_eq fun k => ?_
  by_cases hk : k < 32
  · cases h1 : a.testBit k with
    | true => exact (pfW_bit a b hb e k hk h1).symm
    | false =>
      cases h2 : b.testBit k with
      | false => rfl
      | true => rw [pfW_bit b a ha e.symm k hk h2] at h1; cases h1
  · have := congrArg (fun q => q.testBit (k - 32)) hd
    simp only [Nat.testBit_div_two_pow] at this
    rwa [show k - 32 + 32 = k from by omega] at this
theorem pf_inj (a b : Nat) (ha : a < 2 ^ 36) (hb : b < 2 ^ 36) (ha0 : 0 < a) (hb0 : 0 < b) (e : pf a = pf b) : a = b := by
  have h := congrArg (fun x : Str => x.cps.toList) e
  simp only [pf, join_jn] at h
  have h2 := jn_inj _ _ (pfW_comma a ha) (pfW_comma b hb) (by simp [pfW_ne a ha0]) (by simp [pfW_ne b hb0]) h
  exact pfW_inj a b ha hb (strlist_inj _ _ h2)

-- RwZb
theorem flF_append (first : Nat) (a b : List Nat) : ∃ r, (flF first (a ++ b)).1 = (flF first a).1 ++ r := by
  have key : ∀ (b : List Nat) (s : List Nat × Nat), ∃ r, (b.foldl (flS first) s).1 = s.1 ++ r := by
    intro b
    induction b with
    | nil => intro s; exact ⟨[], by simp⟩
    | cons t r ih =>
      intro s
      obtain ⟨q, e⟩ := ih (flS first s t)
      refine ⟨[ors (2 ^ (first + s.1.length)) ((s.1.drop s.2).take t)] ++ q, ?_⟩
      rw [List.foldl_cons, e, ← List.append_assoc]
      rfl
  unfold flF
  rw [List.foldl_append]
  exact key b _
abbrev fl (first : Nat) (ts : List Nat) : List Nat := (flF first ts).1
theorem fl_length (first : Nat) (ts : List Nat) : (fl first ts).length = ts.length := (flF_len first ts).1
theorem fl_take (first : Nat) (ts : List Nat) (j : Nat) (h : j ≤ ts.length) : fl first (ts.take j) = (fl first ts).take j := by
  obtain ⟨r, e⟩ := flF_append first (ts.take j) (ts.drop j)
  rw [List.take_append_drop] at e
  show _ = ((flF first ts).1).take j
  rw [e]
  exact (List.take_left' (by rw [(flF_len _ _).1, List.length_take]; omega)).symm
theorem fl_next (first : Nat) (ts : List Nat) (j : Nat) (h : j < ts.length) :
    (fl first ts).take (j + 1) = (fl first ts).take j ++ [ors (2 ^ (first + j)) ((((fl first ts).take j).drop (ts.take j).sum).take ts[j])] := by
  rw [← fl_take first ts (j + 1) (by omega), ← fl_take first ts j (by omega), List.take_succ_eq_append_getElem h]
  show (flF first _).1 = _
  rw [flF_snoc]
  unfold flS
  rw [(flF_len first (ts.take j)).1, (flF_len first (ts.take j)).2, List.length_take, Nat.min_eq_left (by omega)]
theorem fl_bits (first : Nat) (ts : List Nat) : ∀ (i x : Nat), (fl first ts)[i]? = some x → x.testBit (first + i) = true ∧ ∀ k, x.testBit k = true → first ≤ k ∧ k ≤ first + i := by
  have key : ∀ n, ∀ ts : List Nat, ts.length = n → ∀ (i x : Nat), (fl first ts)[i]? = some x → x.testBit (first + i) = true ∧ ∀ k, x.testBit k = true → first ≤ k ∧ k ≤ first + i := by
    intro n
    induction n with
    | zero => intro ts h i x hx; rw [List.length_eq_zero_iff] at h; subst h; simp [fl, flF] at hx
    | succ n ih =>
      intro ts h i x hx
      have e := fl_next first ts n (by omega)
      rw [List.take_of_length_le (by rw [fl_length]; omega)] at e
      have ihn := ih (ts.take n) (by rw [List.length_take]; omega)
      rw [fl_take first ts n (by omega)] at ihn
      rw [e] at hx
      have hln : ((fl first ts).take n).length = n := by rw [List.length_take, fl_length]; omega
      by_cases hi : i < n
      · rw [List.getElem?_append_left (by rw [hln]; exact hi)] at hx
        exact ihn i x hx
      · by_cases hin : i = n
        · subst hin
          rw [List.getElem?_append_right (by rw [hln]; exact Nat.le_refl _), hln, Nat.sub_self] at hx
          simp only [List.getElem?_cons_zero, Option.some.injEq] at hx
          subst hx
          refine ⟨by rw [ors_bit, Nat.testBit_two_pow_self]; rfl, fun k hk => ?_⟩
          rw [ors_bit, Bool.or_eq_true] at hk
          rcases hk with hk | hk
          · rw [Nat.testBit_two_pow] at hk
            have := of_decide_eq_true hk
            omega
          · rw [List.any_eq_true] at hk
            obtain ⟨y, hy, hb⟩ := hk
            have hy2 := List.mem_of_mem_drop (List.mem_of_mem_take hy)
            obtain ⟨q, hq⟩ := List.mem_iff_getElem?.mp hy2
            have := (ihn q y hq).2 k hb
            have hql : q < i := by
              have := (List.getElem?_eq_some_iff.mp hq).1
              rw [hln] at this; exact this
            omega
        · rw [List.getElem?_eq_none (by rw [List.length_append, hln]; simp; omega)] at hx; cases hx
  exact key ts.length ts rfl
theorem fl_pos (first : Nat) (ts : List Nat) (x : Nat) (h : x ∈ fl first ts) : 0 < x := by
  obtain ⟨i, hi⟩ := List.mem_iff_getElem?.mp h
  have := (fl_bits first ts i x hi).1
  rcases Nat.eq_zero_or_pos x with q | q
  · rw [q, Nat.zero_testBit] at this; cases this
  · exact q
theorem fl_lt (first : Nat) (ts : List Nat) (hf : first < 25) (hl : ts.length ≤ 12) (x : Nat) (h : x ∈ fl first ts) : x < 2 ^ 36 := by
  obtain ⟨i, hi⟩ := List.mem_iff_getElem?.mp h
  have hb := (fl_bits first ts i x hi).2
  have hil := (List.getElem?_eq_some_iff.mp hi).1
  rw [fl_length] at hil
  refine Nat.lt_pow_two_of_testBit x fun k hk => ?_
  cases q : x.testBit k with
  | false => rfl
  | true => have := hb k q; omega
theorem fl_nodup (first : Nat) (ts : List Nat) (i j x : Nat) (hi : (fl first ts)[i]? = some x) (hj : (fl first ts)[j]? = some x) : i = j := by
  have h1 := fl_bits first ts i x hi
  have h2 := fl_bits first ts j x hj
  have a := h1.2 _ h2.1
  have b := h2.2 _ h1.1
  omega
theorem Okp.part {P : List (Nat × Nat)} (h : Okp P) : ∀ (j : Nat) (hj : j < (P.map (·.1)).length), ((P.map (·.1)).take j).sum + (P.map (·.1))[j] ≤ j := by
  induction h with
  | nil => intro j hj; simp at hj
  | @snoc P t y hP h3 hs _ ih =>
    intro j hj
    simp only [List.map_append, List.map_cons, List.map_nil] at hj ⊢
    by_cases hl : j < (P.map (·.1)).length
    · rw [List.take_append_of_le_length (by omega), List.getElem_append_left hl]
      exact ih j hl
    · have e : j = (P.map (·.1)).length := by rw [List.length_append] at hj; simp only [List.length_cons, List.length_nil] at hj; omega
      subst e
      rw [List.take_append_of_le_length (Nat.le_refl _), List.take_length, List.getElem_append_right (Nat.le_refl _)]
      simp only [Nat.sub_self, List.getElem_cons_zero]
      rw [List.length_map]; omega
theorem Okp.sym {P : List (Nat × Nat)} (h : Okp P) : ∀ q ∈ P, (q.1 = 0 ∧ 1 ≤ q.2 ∧ q.2 ≤ 255) ∨ (1 ≤ q.1 ∧ q.1 ≤ 3 ∧ ∃ z, z < 1280 ∧ q.2 = 255 + q.1 + 3 * z) := by
  induction h with
  | nil => intro q hq; cases hq
  | snoc _ h3 _ hy ih =>
    intro q hq
    rcases List.mem_append.mp hq with hq | hq
    · exact ih q hq
    · rw [List.mem_singleton.mp hq]
      rcases hy with h | ⟨h, z⟩
      · exact .inl h
      · exact .inr ⟨h, h3, z⟩
theorem filter_none {α : Type} (p : α → Bool) (l : List α) (h : ∀ x ∈ l, p x = false) : l.filter p = [] := by
  rw [List.filter_eq_nil_iff]; intro a ha; rw [h a ha]; exact Bool.false_ne_true
/-- the places of a number, sought among some that hold them all -/
theorem places_eq (x first len : Nat) (hl : first + len ≤ 36) (hb : ∀ k, x.testBit k = true → first ≤ k ∧ k < first + len) :
    ((List.range len).map (first + ·)).filter (fun k => x.testBit k) = (List.range 36).filter (fun k => x.testBit k) := by
  have e : 36 = first + len + (36 - (first + len)) := by omega
  have off : ∀ k, (k < first ∨ first + len ≤ k) → x.testBit k = false := fun k hk => by
    cases q : x.testBit k with
    | false => rfl
    | true => have := hb k q; omega
  rw [e, List.range_add, List.range_add, List.filter_append, List.filter_append, filter_none _ (List.range first) (fun k hk => off k (.inl (List.mem_range.mp hk))),
    filter_none _ (List.map _ (List.range (36 - (first + len)))) (fun k hk => by obtain ⟨j, _, rfl⟩ := List.mem_map.mp hk; exact off _ (.inr (by omega)))]
  simp
theorem hsum_append (a b : List Nat) : hsum (a ++ b) = hsum a + hsum b := by simp [hsum]
theorem hsum_low (l : List Nat) (h : ∀ p ∈ l, p < 32) : hsum l = 0 := by
  induction l with
  | nil => rfl
  | cons p r ih =>
    have : hsum (p :: r) = (if p < 32 then 0 else 2 ^ (p - 32)) + hsum r := by simp [hsum]
    rw [this, if_pos (h p (by simp)), ih fun q hq => h q (.tail _ hq)]
theorem hsum_places (x : Nat) (hx : x < 2 ^ 36) : hsum ((List.range 36).filter (fun k => x.testBit k)) = x / 2 ^ 32 := by
  have e : List.range 36 = List.range 32 ++ [32, 33, 34, 35] := by decide
  rw [e, List.filter_append, hsum_append, hsum_low _ (fun p hp => List.mem_range.mp (List.mem_filter.mp hp).1), Nat.zero_add]
  have hq : x / 2 ^ 32 < 16 := Nat.div_lt_of_lt_mul (by omega)
  have tb : ∀ i, x.testBit (32 + i) = (x / 2 ^ 32).testBit i := fun i => by rw [Nat.testBit_div_two_pow, Nat.add_comm]
  have e2 : [32, 33, 34, 35].filter (fun k => x.testBit k) = [32, 33, 34, 35].filter (fun k => (x / 2 ^ 32).testBit (k - 32)) := by
    refine List.filter_congr fun k hk => ?_
    have : k = 32 + (k - 32) := by
      simp only [List.mem_cons, List.not_mem_nil, or_false] at hk
      omega
    rw [← tb, ← this]
  rw [e2]
  have h' : ∀ q : Fin 16, hsum ([32, 33, 34, 35].filter (fun k => q.1.testBit (k - 32))) = q.1 := by decide +kernel
  exact h' ⟨_, hq⟩
theorem lw_pf (x first len : Nat) (hx : x < 2 ^ 36) (hl : first + len ≤ 36) (hb : ∀ k, x.testBit k = true → first ≤ k ∧ k < first + len) :
    lwW (((List.range len).map (first + ·)).filter (fun k => x.testBit k)) = pfW x := by
  rw [places_eq x first len hl hb]
  unfold lwW pfW
  rw [hsum_places x hx]
  congr 2
  rw [List.filter_filter]
  have e : List.range 36 = List.range 32 ++ [32, 33, 34, 35] := by decide
  rw [e, List.filter_append]
  have h1 : [32, 33, 34, 35].filter (fun a => decide (a < 32) && x.testBit a) = [] := by simp
  rw [h1, List.append_nil]
  refine List.filter_congr fun k hk => ?_
  rw [decide_eq_true (List.mem_range.mp hk), Bool.true_and]
theorem hsum_lt (x : Nat) (hx : x < 2 ^ 36) (first len : Nat) (hl : first + len ≤ 36) (hb : ∀ k, x.testBit k = true → first ≤ k ∧ k < first + len) : hsum (((List.range len).map (first + ·)).filter (fun k => x.testBit k)) < 16 := by
  rw [places_eq x first len hl hb, hsum_places x hx]
  exact Nat.div_lt_of_lt_mul (by omega)
theorem octA_ge (ss : List Nat) : ss.length + 1 ≤ (octA ss).length := by
  have key : ∀ l : List Nat, l.length ≤ ((l.map octs).flatten).length := by
    intro l
    induction l with
    | nil => simp
    | cons a r ih =>
      simp only [List.map_cons, List.flatten_cons, List.length_append, List.length_cons]
      have : 1 ≤ (octs a).length := by unfold octs; split <;> simp
      omega
  have := key (ss ++ [0])
  rw [List.length_append] at this
  exact this
theorem one_bd (total : Int) : 1 ≤ one_ total ∧ one_ total ≤ 4 := by
  have b1 := Int.fmod_nonneg_of_pos total (b := 4) (by decide)
  have b2 := Int.fmod_lt_of_pos total (b := 4) (by decide)
  show 1 ≤ (1 + Int.fmod total 4).toNat ∧ (1 + Int.fmod total 4).toNat ≤ 4
  omega
theorem other_bd (total : Int) : 5 ≤ other_ total ∧ other_ total ≤ 8 := by
  have b1 := Int.fmod_nonneg_of_pos (Int.fdiv total 4) (b := 4) (by decide)
  have b2 := Int.fmod_lt_of_pos (Int.fdiv total 4) (b := 4) (by decide)
  show 5 ≤ (5 + Int.fmod (Int.fdiv total 4) 4).toNat ∧ (5 + Int.fmod (Int.fdiv total 4) 4).toNat ≤ 8
  omega
theorem word_pos (ss : List Nat) (total : Int) (h : 8 ≤ ss.length) (k : Nat) : 0 < (word_ ss total k).length := by
  have h1 := octA_ge ss
  have h2 := one_bd total
  have h3 := other_bd total
  unfold word_
  split <;> simp only [List.length_take, List.length_drop] <;> omega
theorem words_cat (ss : List Nat) (total : Int) : [word_ ss total 0, word_ ss total 1, word_ ss total 2].flatten = octA ss := by
  have h2 := one_bd total
  have h3 := other_bd total
  simp only [List.flatten_cons, List.flatten_nil, List.append_nil, word_]
  generalize octA ss = l
  rw [show l.drop (other_ total) = (l.drop (one_ total)).drop (other_ total - one_ total) from by rw [List.drop_drop]; congr 1; omega, List.take_append_drop, List.take_append_drop]
theorem count_spell (marks l : List Nat) : (spell marks l).count 10 = l.count 10 := by
  induction l with
  | nil => rfl
  | cons c r ih =>
    simp only [spell, List.count_append, ih]
    by_cases h : c ∈ marks
    · rw [if_pos h]; simp [List.count_cons]; omega
    · rw [if_neg h]; simp [List.count_cons]; omega
theorem count_spelled (l : List Nat) (b : Bool) : (spelled l b).count 10 = l.count 10 := by
  unfold spelled
  split
  · rw [List.count_append, count_spell]; simp
  · rw [List.count_append, List.count_append, count_spell]; simp
theorem tape_at (ss : List Nat) (j y : Nat) (h : (ss ++ [0])[j]? = some y) : ∃ r, (octA ss).drop ((((ss ++ [0]).take j).map octs).flatten).length = octs y ++ r ∧ ((((ss ++ [0]).take j).map octs).flatten).length + (octs y).length = ((((ss ++ [0]).take (j + 1)).map octs).flatten).length := by
  obtain ⟨hj, e⟩ := List.getElem?_eq_some_iff.mp h
  have e1 : ss ++ [0] = (ss ++ [0]).take j ++ y :: (ss ++ [0]).drop (j + 1) := by rw [← e, List.getElem_cons_drop, List.take_append_drop]
  refine ⟨(((ss ++ [0]).drop (j + 1)).map octs).flatten, ?_, ?_⟩
  · show List.drop _ (((ss ++ [0]).map octs).flatten) = _
    have e2 : ((ss ++ [0]).map octs).flatten = (((ss ++ [0]).take j).map octs).flatten ++ (octs y ++ (((ss ++ [0]).drop (j + 1)).map octs).flatten) := by
      have := congrArg (fun l : List Nat => (l.map octs).flatten) e1
      simp only [List.map_append, List.map_cons, List.flatten_append, List.flatten_cons] at this ⊢
      rw [this]
    rw [e2, List.drop_left]
  · rw [List.take_add_one, h]
    simp
/-- the words known, with their flags -/
def Known (kvs : List (Str × Value)) (l : List Nat) : Prop := kvs.map (·.1) = l.map pf ∧ ∀ kv ∈ kvs, ∃ f ∈ l, ∃ t, kv = (pf f, Value.int (f : Int) t)
theorem Known.nil : Known [] [] := ⟨rfl, fun _ h => nomatch h⟩
theorem Known.get {kvs : List (Str × Value)} {l : List Nat} (K : Known kvs l) (hl : ∀ x ∈ l, 0 < x ∧ x < 2 ^ 36) {f : Nat} (hf : f ∈ l) : ∃ t, valueAt kvs (pf f) = some (Value.int (f : Int) t) := by
  have h1 : pf f ∈ kvs.map (·.1) := by rw [K.1]; exact List.mem_map_of_mem hf
  obtain ⟨kv, hkv, e⟩ := List.mem_map.mp h1
  unfold valueAt
  cases hq : kvs.find? (fun kv => decide (kv.1 = pf f)) with
  | none => rw [List.find?_eq_none] at hq; exact absurd (by simpa using e) (hq kv hkv)
  | some q =>
    have h2 := List.find?_some hq
    have h3 := List.mem_of_find?_eq_some hq
    obtain ⟨g, hg, t, rfl⟩ := K.2 q h3
    have h4 : pf g = pf f := by simpa using h2
    have h5 := pf_inj g f (hl g hg).2 (hl f hf).2 (hl g hg).1 (hl f hf).1 h4
    exact ⟨t, by rw [h5]; rfl⟩
theorem Known.put {kvs : List (Str × Value)} {l : List Nat} (K : Known kvs l) (hl : ∀ x ∈ l, 0 < x ∧ x < 2 ^ 36) {f : Nat} (hf : f ∉ l) (h0 : 0 < f) (h1 : f < 2 ^ 36) (t : Tok) : stored kvs (pf f) (Value.int (f : Int) t) = kvs ++ [(pf f, Value.int (f : Int) t)] ∧ Known (kvs ++ [(pf f, Value.int (f : Int) t)]) (l ++ [f]) := by
  have hn : ¬ (kvs.any (fun kv => decide (kv.1 = pf f)) = true) := by
    intro h
    rw [List.any_eq_true] at h
    obtain ⟨kv, hkv, e⟩ := h
    obtain ⟨g, hg, t, rfl⟩ := K.2 kv hkv
    have h4 : pf g = pf f := by simpa using e
    have h5 := pf_inj g f (hl g hg).2 h1 (hl g hg).1 h0 h4
    exact hf (h5 ▸ hg)
  refine ⟨by unfold stored; rw [if_neg hn], by simp [K.1], fun kv hkv => ?_⟩
  rcases List.mem_append.mp hkv with h | h
  · obtain ⟨g, hg, t, e⟩ := K.2 kv h
    exact ⟨g, List.mem_append_left _ hg, t, e⟩
  · exact ⟨f, by simp, t, by rw [List.mem_singleton.mp h]⟩

-- RwNc
section
variable {prog : Program} {w : World} {A : Around} {E : Value → Shared → Prop} {s : Shared} {elt it1 it2 tx ty : Expr} {scope : Scope} {pos : Pos} {it acc : Value} {env : Env} {R : Result → Shared → Prop}
abbrev two (elt it1 it2 tx ty : Expr) (scope : Scope) (pos : Pos) : Expr := .ListComp elt [⟨tx, it1, [], 0⟩, ⟨ty, it2, [], 0⟩] scope pos
theorem turn0 : compTurn (two elt it1 it2 tx ty scope pos) 0 it acc env = (standAt it1.pos >>= fun _ => pyNext it >>= fun r => match r with
      | none => pure (.done .next)
      | some v => letOwnedTupleGo tx it v >>= fun _ => assign tx env v >>= fun _ =>
        eval it2 env >>= fun x => standAt it2.pos >>= fun _ => foldedSetIterable it2 env x >>= fun x => holding [x] (pyIter x) >>= fun i => runOwn (.compStart (two elt it1 it2 tx ty scope pos) 1 i acc env) env >>= fun _ =>
          again (.compLoop (two elt it1 it2 tx ty scope pos) 0 it acc env)) := by
  unfold compTurn
  simp
  rfl
theorem turn1 : compTurn (two elt it1 it2 tx ty scope pos) 1 it acc env = (standAt it2.pos >>= fun _ => pyNext it >>= fun r => match r with
      | none => pure (.done .next)
      | some v => letOwnedTupleGo ty it v >>= fun _ => assign ty env v >>= fun _ =>
        (eval elt env >>= fun x => call (.builtin "list.append") [acc, x] >>= fun _ => pure ()) >>= fun _ =>
          again (.compLoop (two elt it1 it2 tx ty scope pos) 1 it acc env)) := by rfl
theorem loop1 (I : Nat → Shared → Prop)
    (turn : ∀ n s, I n s → wpAny (model prog w) A (pyNext it) (fun r s₁ => match r with
      | none => R (.ok .next) s₁
      | some v => wpAny (model prog w) A (assign ty env v) (fun _ s₂ => wpAny (model prog w) A (eval elt env) (fun x s₃ =>
          wpAny (model prog w) A (call (.builtin "list.append") [acc, x]) (fun _ s₄ => ∃ m, m < n ∧ I m s₄) (notedBy (model prog w) A env fun e s' => R (.error e) s') s₃)
          (notedBy (model prog w) A env fun e s' => R (.error e) s') s₂) (notedBy (model prog w) A env fun e s' => R (.error e) s') s₁) (notedBy (model prog w) A env fun e s' => R (.error e) s') s)
    (n : Nat) (h : I n s) (ht : ∀ v, letOwnedTupleGo ty it v = pure ()) :
    codeAny (model prog w) A (.compLoop (two elt it1 it2 tx ty scope pos) 1 it acc env) R s := by
  refine codeAny_loop rfl I (fun n s hI => ?_) n h
  show wpAny _ _ ((compTurn (two elt it1 it2 tx ty scope pos) 1 it acc env).onRaise (fun x => do noteFrame x env; theTreesLotGoes x)) _ _ s
  refine wpAny_noted ?_
  rw [turn1]
  refine wpAny_bind (wpAny_standAt (wpAny_bind (wpAny_mono (turn n s hI) (fun r s₁ h₁ => ?_) fun _ _ h' => h')))
  cases r with
  | none => exact wpAny_pure h₁
  | some v =>
    refine wpAny_bind (wpAny_of_eq (ht v) ?_)
    exact wpAny_bind (wpAny_mono h₁ (fun _ s₂ h₂ => wpAny_bind (wpAny_bind (wpAny_mono h₂ (fun x s₃ h₃ => wpAny_bind (wpAny_mono h₃
      (fun _ s₄ h₄ => wpAny_pure (wpAny_pure ⟨rfl, h₄⟩)) fun _ _ h' => h')) fun _ _ h' => h'))) fun _ _ h' => h')
theorem loop0 (I : Nat → Shared → Prop)
    (turn : ∀ n s, I n s → wpAny (model prog w) A (pyNext it) (fun r s₁ => match r with
      | none => R (.ok .next) s₁
      | some v => wpAny (model prog w) A (assign tx env v) (fun _ s₂ => wpAny (model prog w) A (eval it2 env) (fun x s₃ =>
          wpAny (model prog w) A (pyIter x) (fun i s₄ => codeAny (model prog w) A (.compStart (two elt it1 it2 tx ty scope pos) 1 i acc env)
            (fun r s' => match r with | .ok _ => ∃ m, m < n ∧ I m s' | .error e => cameBackBy (model prog w) A env (notedBy (model prog w) A env fun e s' => R (.error e) s') e s') s₄) (notedBy (model prog w) A env fun e s' => R (.error e) s') s₃)
          (notedBy (model prog w) A env fun e s' => R (.error e) s') s₂) (notedBy (model prog w) A env fun e s' => R (.error e) s') s₁) (notedBy (model prog w) A env fun e s' => R (.error e) s') s)
    (n : Nat) (h : I n s) (ht : ∀ v, letOwnedTupleGo tx it v = pure ()) (hs : ∀ x, foldedSetIterable it2 env x = pure x) :
    codeAny (model prog w) A (.compLoop (two elt it1 it2 tx ty scope pos) 0 it acc env) R s := by
  refine codeAny_loop rfl I (fun n s hI => ?_) n h
  show wpAny _ _ ((compTurn (two elt it1 it2 tx ty scope pos) 0 it acc env).onRaise (fun x => do noteFrame x env; theTreesLotGoes x)) _ _ s
  refine wpAny_noted ?_
  rw [turn0]
  refine wpAny_bind (wpAny_standAt (wpAny_bind (wpAny_mono (turn n s hI) (fun r s₁ h₁ => ?_) fun _ _ h' => h')))
  cases r with
  | none => exact wpAny_pure h₁
  | some v =>
    refine wpAny_bind (wpAny_of_eq (ht v) ?_)
    refine wpAny_bind (wpAny_mono h₁ (fun _ s₂ h₂ => wpAny_bind (wpAny_mono h₂ (fun x s₃ h₃ => wpAny_bind (wpAny_standAt (wpAny_bind (wpAny_of_eq (hs x) (wpAny_bind (wpAny_holding (wpAny_mono h₃
      (fun i s₄ h₄ => ?_) fun _ _ h' => h'))))))) fun _ _ h' => h')) fun _ _ h' => h')
    refine wpAny_bind (wpAny_runOwn (h := none) ?_)
    show codeAny _ A _ _ _
    refine codeAny_mono h₄ fun r s' hr => ?_
    cases r with
    | ok f => exact wpAny_pure ⟨rfl, hr⟩
    | error e => exact hr
end
structure Sit (h₀ : Heap) (L : Addr) (m : Str → Option Value) (I ax : Addr) (its : Array Value) (C D : Addr) (news : List (Addr × Obj)) (i : Nat) (ys : List Value) (h : Heap) : Prop where
  it : h.IsListIter I ax i
  ls : h.IsList ax its
  fr : Fr h₀ L h m
  nc : ∃ m', h.Ns C m'
  nw : News h₀ L h ((D, LCg.lst ys) :: news)
structure Far (h₀ : Heap) (L : Addr) (I ax : Addr) (C D : Addr) (news : List (Addr × Obj)) (X : Addr) : Prop where
  (xi : X ≠ I) (xa : X ≠ ax) (xc : X ≠ C) (xd : X ≠ D) (xl : X ≠ L)
  x0 : h₀.get? X = none
  xn : ∀ p ∈ news, p.1 ≠ X
theorem Sit.keep {h₀ : Heap} {L : Addr} {m : Str → Option Value} {I ax : Addr} {its : Array Value} {C D : Addr} {news : List (Addr × Obj)} {i : Nat} {ys : List Value} {h h' : Heap} {X : Addr}
    (S : Sit h₀ L m I ax its C D news i ys h) (f : Far h₀ L I ax C D news X) (hk : ∀ b o, b ∉ [X] → h.get? b = some o → h'.get? b = some o) : Sit h₀ L m I ax its C D news i ys h' where
  it := by obtain ⟨o, e, r⟩ := S.it; exact ⟨o, hk _ _ (by simpa using f.xi.symm) e, r⟩
  ls := by obtain ⟨o, e, r⟩ := S.ls; exact ⟨o, hk _ _ (by simpa using f.xa.symm) e, r⟩
  fr := LCg.fr_but S.fr hk f.xl.symm f.x0
  nc := by obtain ⟨m', hn⟩ := S.nc; exact ⟨m', hn.at' fun o e => hk _ o (by simpa using f.xc.symm) e⟩
  nw := LCg.news_but S.nw hk fun p hp => by
    rcases List.mem_cons.mp hp with rfl | hp
    · exact f.xd.symm
    · exact f.xn p hp

-- RwNd
section
variable {prog : Program} {w : World} {A : Around} {E : Value → Shared → Prop} {s : Shared} {elt it1 it2 tx ty : Expr} {scope : Scope} {pos : Pos} {it acc : Value} {env : Env} {R : Result → Shared → Prop}
theorem start1 (h0 : codeAny (model prog w) A (.compLoop (two elt it1 it2 tx ty scope pos) 1 it acc env) R s)
    (h : wpAny (model prog w) A (pyIter it) (fun it' s' => codeAny (model prog w) A (.compLoop (two elt it1 it2 tx ty scope pos) 1 it' acc env) R s')
      (notedBy (model prog w) A env fun x s' => R (.error x) s') s) :
    codeAny (model prog w) A (.compStart (two elt it1 it2 tx ty scope pos) 1 it acc env) R s := by
  refine codeAny_of_tree ?_
  show wpAny _ _ ((compStart (two elt it1 it2 tx ty scope pos) 1 it acc env).onRaise (fun x => do noteFrame x env; standAt theWindowsPlace)) _ _ s
  refine wpAny_notedAt ?_
  unfold compStart
  show wpAny _ _ (ask >>= _) _ _ s
  refine wpAny_bind (wpAny_askSetting (wpAny_ite ?_))
  split
  · first
      | exact wpAny_bind (wpAny_pure (wpAny_pure (And.intro rfl h0)))
      | exact wpAny_pure (And.intro rfl h0)
  · first
      | exact wpAny_bind (wpAny_rule (wpAny_bind (wpAny_standAt (wpAny_bind (wpAny_mono h (fun it' s' h' => wpAny_pure (And.intro rfl h')) fun _ _ x => x)))))
      | (refine wpAny_bind (wpAny_rule ?_); show wpAny _ _ (standAt it2.pos >>= _) _ _ s; exact wpAny_bind (wpAny_standAt (wpAny_bind (wpAny_mono h (fun it' s' h' => wpAny_pure (And.intro rfl h')) fun _ _ x => x))))
end
section
variable {prog : Program} {w : World} {A : Around} {s : Shared} {h₀ : Heap} {L : Addr} {m : Str → Option Value} {env : Env} {elt it1 it2 : Expr} {x y : Str} {px py : Pos} {scope : Scope} {cl : List (Str × Addr)} {pos : Pos} {I ax : Addr} {its : Array Value} {C D : Addr} {news : List (Addr × Obj)}
def EltOk (prog : Program) (w : World) (A : Around) (h₀ : Heap) (L : Addr) (m : Str → Option Value) (env : Env) (elt : Expr) (y : Str) (scope : Scope) (cl : List (Str × Addr)) (s : Shared) : Prop :=
  ∀ (C : Addr) (c : Nat) (tv : Tok) (h : Heap) (tk : Nat) (oC : Obj) (m₂ : Str → Option Value) (E' : Value → Shared → Prop), LCg.NsObj oC m₂ → m₂ y = some (.str (S [c]) tv) → Fr h₀ L h m → News h₀ L h [(C, oC)] →
    wpAny (model prog w) A (eval elt (compEnvC scope cl C env)) (fun v s' => ∃ t tk', v = .int (c : Int) t ∧ s' = { s with heap := h, toks := tk' }) E' { s with heap := h, toks := tk }
theorem nest_inner (hkind : scope.kind = .function) (hy : scope.names.lookup y = some .local) (helt : EltOk prog w A h₀ L m env elt y scope cl s) (fC : Far h₀ L I ax D D news C) (fD : Far h₀ L I ax C C news D) (hh : A.handled = none)
    {i : Nat} {ys : List Value} {ns : List Nat} {h : Heap} {tk : Nat} {wd : List Nat} {tw : Tok} (Z : Sit h₀ L m I ax its C D news i ys h) (hi : IntsAre ys (ns.map fun (n : Nat) => (n : Int))) (hl : (ns ++ wd).length ≤ 1000)
    {R : Result → Shared → Prop} (fin : ∀ ys' h' tk', Sit h₀ L m I ax its C D news i ys' h' → IntsAre ys' ((ns ++ wd).map fun (n : Nat) => (n : Int)) → R (.ok .next) { s with heap := h', toks := tk' }) (E' : Value → Shared → Prop) :
    wpAny (model prog w) A (pyIter (.str (S wd) tw)) (fun i2 s₄ => codeAny (model prog w) A (.compStart (two elt it1 it2 (.Name x px) (.Name y py) scope pos) 1 i2 (.ref D) (compEnvC scope cl C env)) R s₄) E' { s with heap := h, toks := tk } := by
  have main : ∀ (o : Obj) (St : Nat → Heap → Prop), Walks prog w A h.objs.size [h.objs.size] [h.objs.size] (S wd).cps.size (SignAt (S wd)) St → St 0 (h.push o) →
      codeAny (model prog w) A (.compStart (two elt it1 it2 (.Name x px) (.Name y py) scope pos) 1 (.ref h.objs.size) (.ref D) (compEnvC scope cl C env)) R { s with heap := h.push o, toks := tk } := by
    intro o St W hst
    have far : Far h₀ L I ax C D news h.objs.size := by
      refine ⟨?_, ?_, ?_, ?_, ?_, ?_, ?_⟩
      · intro q; obtain ⟨_, e, _⟩ := Z.it; exact absurd (Heap.lt_size e) (q ▸ Nat.lt_irrefl _)
      · intro q; obtain ⟨_, e, _⟩ := Z.ls; exact absurd (Heap.lt_size e) (q ▸ Nat.lt_irrefl _)
      · intro q; obtain ⟨m', hn⟩ := Z.nc; exact absurd hn.lt (q ▸ Nat.lt_irrefl _)
      · intro q; exact absurd (Heap.lt_size (Z.nw _ (.head _)).1) (q ▸ Nat.lt_irrefl _)
      · intro q; exact absurd Z.fr.ns.lt (q ▸ Nat.lt_irrefl _)
      · cases e : h₀.get? h.objs.size with
        | none => rfl
        | some o' => exact absurd (Heap.lt_size (Z.fr.keep _ _ e)) (Nat.lt_irrefl _)
      · intro p hp q; exact absurd (Heap.lt_size (Z.nw p (.tail _ hp)).1) (q ▸ Nat.lt_irrefl _)
    have Z0 : Sit h₀ L m I ax its C D news i ys (h.push o) := Z.keep far fun b o' hb e => Heap.get?_push_of_some _ e
    have loop : codeAny (model prog w) A (.compLoop (two elt it1 it2 (.Name x px) (.Name y py) scope pos) 1 (.ref h.objs.size) (.ref D) (compEnvC scope cl C env)) R { s with heap := h.push o, toks := tk } := by
      refine loop1 (fun k s' => ∃ h' tk' j ys', s' = { s with heap := h', toks := tk' } ∧ j ≤ wd.length ∧ k = wd.length + 1 - j ∧ St j h' ∧ Sit h₀ L m I ax its C D news i ys' h' ∧ IntsAre ys' ((ns ++ wd.take j).map fun (n : Nat) => (n : Int))) ?_ (wd.length + 1)
        ⟨_, _, 0, ys, rfl, Nat.zero_le _, rfl, hst, Z0, by simpa using hi⟩ (fun _ => rfl)
      rintro k s' ⟨h', tk', j, ys', rfl, hj, rfl, hst', Z', hi'⟩
      have hsz : (S wd).cps.size = wd.length := by simp
      by_cases hlt : j < wd.length
      · refine W.item j _ _ _ (by omega) hst' fun v h₂ tk₂ hP hst₂ hk₂ => ?_
        obtain ⟨c, u, hc, rfl⟩ := hP
        have hc' : wd[j]? = some c := by simpa using hc
        have Z2 := Z'.keep far hk₂
        obtain ⟨m', hn⟩ := Z2.nc
        refine wpAny_assign_Name (wpAny_storeName_local (lookup_relabel_local hy) hn (fun h₃ hn₃ hs₃ => ?_) (by simp [compEnvC, relabel, hkind]))
        obtain ⟨oC, heC, hoC⟩ := LCg.ns_obj hn₃
        have Z3 : Sit h₀ L m I ax its C D news i ys' h₃ :=
          { it := by obtain ⟨o, e, r⟩ := Z2.it; exact ⟨o, hs₃.extBut _ _ fC.xi.symm e, r⟩
            ls := by obtain ⟨o, e, r⟩ := Z2.ls; exact ⟨o, hs₃.extBut _ _ fC.xa.symm e, r⟩
            fr := Z2.fr.change hs₃ fC.xl fC.x0
            nc := ⟨_, hn₃⟩
            nw := fun p hp => by
              refine ⟨hs₃.extBut _ _ ?_ (Z2.nw p hp).1, (Z2.nw p hp).2⟩
              rcases List.mem_cons.mp hp with rfl | hp
              · exact fC.xd.symm
              · exact fC.xn p hp }
        have NC : News h₀ L h₃ [(C, oC)] := fun p hp => by
          rw [List.mem_singleton.mp hp]; exact ⟨heC, fC.xl, fC.x0⟩
        refine wpAny_mono (helt C c u h₃ _ oC _ _ hoC (by simp) Z3.fr NC) (fun v s₄ h₄ => ?_) fun _ _ e => e
        obtain ⟨t, tk₄, rfl, rfl⟩ := h₄
        have zD := (Z3.nw _ (.head _)).1
        have hst₃ : St (j + 1) h₃ := W.frame _ _ _ hst₂ fun b hb o' e => hs₃.extBut b o' (by rw [List.mem_singleton.mp hb]; exact far.xc) e
        have hyl : ys'.length ≤ 1000 := by
          rw [hi'.length, List.length_map, List.length_append, List.length_take]
          rw [List.length_append] at hl; omega
        refine append_at (hsz := by show ys'.toArray.size ≤ sizeLine; rw [List.size_toArray, PySem.sizeLine_eq]; omega) zD fun h₅ hs₅ hD₅ => ?_
        refine ⟨wd.length + 1 - (j + 1), by omega, h₅, _, j + 1, ys' ++ [.int (c : Int) t], rfl, hlt, rfl, W.frame _ _ _ hst₃ fun b hb o' e => hs₅.extBut b o' (by rw [List.mem_singleton.mp hb]; exact far.xd) e,
          { it := by obtain ⟨o, e, r⟩ := Z3.it; exact ⟨o, hs₅.extBut _ _ fD.xi.symm e, r⟩
            ls := by obtain ⟨o, e, r⟩ := Z3.ls; exact ⟨o, hs₅.extBut _ _ fD.xa.symm e, r⟩
            fr := Z3.fr.change hs₅ fD.xl fD.x0
            nc := ⟨_, hn₃.at' fun o e => hs₅.extBut _ _ fD.xc.symm e⟩
            nw := fun p hp => by
              rcases List.mem_cons.mp hp with rfl | hp
              · exact ⟨hD₅.trans (congrArg some (LCg.lst_snoc ys' _)), fD.xl, fD.x0⟩
              · exact ⟨hs₅.extBut _ _ (fD.xn p hp) (Z3.nw p (.tail _ hp)).1, (Z3.nw p (.tail _ hp)).2⟩ }, ?_⟩
        have e : (ns ++ wd.take (j + 1)).map (fun (n : Nat) => (n : Int)) = (ns ++ wd.take j).map (fun (n : Nat) => (n : Int)) ++ [(c : Int)] := by
          rw [List.take_add_one, hc']; simp
        rw [e]; exact ints_snoc hi' _ _
      · obtain rfl : j = wd.length := by omega
        rw [← hsz] at hst'
        refine W.done _ _ _ hst' fun h₂ tk₂ hk₂ => ?_
        rw [List.take_length] at hi'
        exact fin ys' h₂ tk₂ (Z'.keep far hk₂) hi'
    exact start1 loop (W.self 0 _ _ _ hst loop)
  cases ha : (S wd).cps.all (· < 128)
  · exact wpAny_pyIter_wide ha (main _ _ (Walks.strWide hh _ (S wd) tw) ⟨_, Heap.get?_push_size _ rfl, rfl, rfl⟩)
  · exact wpAny_pyIter_ascii ha (main _ _ (Walks.strAscii hh _ (S wd) tw) ⟨_, Heap.get?_push_size _ rfl, rfl, rfl⟩)
end

-- RwNe
section
variable {prog : Program} {w : World} {A : Around} {E : Value → Shared → Prop} {s : Shared} {h₀ : Heap} {L : Addr} {m : Str → Option Value} {env : Env} {elt it1 : Expr} {x y : Str} {px py px2 : Pos} {scope : Scope} {cl : List (Str × Addr)} {pos : Pos} {ax : Addr} {news : List (Addr × Obj)}
/-- what the outer iterable of the nested comprehension gives -/
def NestSrc (prog : Program) (w : World) (A : Around) (h₀ : Heap) (L : Addr) (m : Str → Option Value) (env : Env) (elt : Expr) (y : Str) (scope : Scope) (cl : List (Str × Addr)) (Q : Value → Shared → Prop) (xv : Value) (s₁ : Shared) : Prop :=
  ∃ (ax : Addr) (vs : List Value) (n : Nat) (news : List (Addr × Obj)) (ws : List (List Nat)), xv = .ref ax ∧ A.handled = none ∧ Fr h₀ L s₁.heap m ∧ News h₀ L s₁.heap news ∧ (ax, ({ cls := .type "list", data := .seq vs.toArray n } : Obj)) ∈ news ∧
    StrsAre vs (ws.map S) ∧ ws.flatten.length ≤ 1000 ∧ EltOk prog w A h₀ L m env elt y scope cl s₁ ∧
    ∀ (ys : List Value) (D : Addr) (h : Heap) (tk : Nat), IntsAre ys (ws.flatten.map fun (n : Nat) => (n : Int)) → (∀ p ∈ news, @LT.lt Nat _ p.1 D) → Fr h₀ L h m → News h₀ L h ((D, LCg.lst ys) :: news) → Q (.ref D) { s₁ with heap := h, toks := tk }
theorem nest_U {Q : Value → Shared → Prop} (F₀ : Fr h₀ L s.heap m)
    (hclos : closureFor scope env = pure cl) (hcell : ∀ z ∈ scope.names, z.2 ≠ .cell) (hkind : scope.kind = .function)
    (hnames : ∀ z ∈ scope.names, z.2 = .local → scope.names.lookup z.1 = some .local) (hx : scope.names.lookup x = some .local) (hy : scope.names.lookup y = some .local)
    (hdx : (x == ("__debug__" : Str)) = false)
    (h : wpAny (model prog w) A (eval it1 env) (NestSrc prog w A h₀ L m env elt y scope cl Q) E s)
    (hs : ∀ z, foldedSetIterable it1 env z = pure z := by intro _; rfl) :
    wpAny (model prog w) A (eval (two elt it1 (.Name x px2) (.Name x px) (.Name y py) scope pos) env) Q E s := by
  show wpAny _ _ (eval (.ListComp elt _ scope pos) env) _ _ _
  rw [eval_ListComp]
  refine wpAny_comprehension_free (use := none) rfl hs hclos hkind hnames (wpAny_mono h (fun xv s₁ h₁ => ?_) fun _ _ e => e)
  obtain ⟨ax, vs, nv, news, ws, rfl, hh, F, N, hax, hS, hfl, helt, fin⟩ := h₁
  have hl : s₁.heap.IsList ax vs.toArray := ⟨_, (N _ hax).1, rfl, _, rfl⟩
  refine wpAny_pyIter_list hl ?_
  have hlt : ax < s₁.heap.objs.size := Heap.lt_size (N _ hax).1
  generalize hH1 : s₁.heap.push { cls := .type "list_iterator", data := .fields #[.ref ax, .int 0 0] } = H1
  have up1 : ∀ b o, s₁.heap.get? b = some o → H1.get? b = some o := fun b o e => hH1 ▸ Heap.get?_push_of_some _ e
  have sz1 : H1.objs.size = s₁.heap.objs.size + 1 := by rw [← hH1, Heap.size_push]
  have hI1 : H1.IsListIter s₁.heap.objs.size ax 0 := ⟨_, hH1 ▸ Heap.get?_push_size _ rfl, rfl, rfl⟩
  refine wpAny_newObj_type (wpAny_newFunctionEnv hcell (by intro y hy; simp at hy) (fun h₃ hns₃ hsb₃ => ?_) hkind)
  dsimp only at hns₃ hsb₃ ⊢
  generalize hH2 : H1.push { cls := .type "list", dict := none, data := .seq ([] : List Value).toArray } = H2 at hns₃ hsb₃ ⊢
  have sz2 : H2.objs.size = H1.objs.size + 1 := by rw [← hH2, Heap.size_push]
  have up2 : ∀ b o, H1.get? b = some o → H2.get? b = some o := fun b o e => hH2 ▸ Heap.get?_push_of_some _ e
  have old : ∀ b o, H1.get? b = some o → h₃.get? b = some o := fun b o e => hsb₃.extBut b o (by have := Heap.lt_size e; exact Nat.ne_of_lt (Nat.lt_trans this (by rw [sz2]; exact Nat.lt_succ_self _))) (Heap.get?_push_of_some _ (up2 b o e))
  have old0 : ∀ b o, s₁.heap.get? b = some o → h₃.get? b = some o := fun b o e => old b o (up1 b o e)
  have hacc : h₃.get? H1.objs.size = some (LCg.lst []) := hsb₃.extBut _ _ (Nat.ne_of_lt (by rw [sz2]; exact Nat.lt_succ_self _)) (Heap.get?_push_of_some _ (hH2 ▸ Heap.get?_push_size _ rfl))
  have fresh₀ : ∀ a, s₁.heap.objs.size ≤ a → h₀.get? a = none := fun a ha => by
    cases e : h₀.get? a with
    | none => rfl
    | some o' => exact absurd (Heap.lt_size (F.keep a o' e)) (Nat.not_lt.mpr ha)
  have hLlt : L < s₁.heap.objs.size := F.ns.lt
  have below : ∀ p ∈ news, p.1 < s₁.heap.objs.size := fun p hp => Heap.lt_size (N p hp).1
  have fC : Far h₀ L s₁.heap.objs.size ax H1.objs.size H1.objs.size news H2.objs.size :=
    ⟨Nat.ne_of_gt (by rw [sz2, sz1]; omega), Nat.ne_of_gt (Nat.lt_trans hlt (by rw [sz2, sz1]; omega)), Nat.ne_of_gt (by rw [sz2]; omega), Nat.ne_of_gt (by rw [sz2]; omega), Nat.ne_of_gt (Nat.lt_trans hLlt (by rw [sz2, sz1]; omega)), fresh₀ _ (by rw [sz2, sz1]; omega), fun p hp => Nat.ne_of_lt (Nat.lt_trans (below p hp) (by rw [sz2, sz1]; omega))⟩
  have fD : Far h₀ L s₁.heap.objs.size ax H2.objs.size H2.objs.size news H1.objs.size :=
    ⟨Nat.ne_of_gt (by rw [sz1]; omega), Nat.ne_of_gt (Nat.lt_trans hlt (by rw [sz1]; omega)), Nat.ne_of_lt (by rw [sz2]; omega), Nat.ne_of_lt (by rw [sz2]; omega), Nat.ne_of_gt (Nat.lt_trans hLlt (by rw [sz1]; omega)), fresh₀ _ (by rw [sz1]; omega), fun p hp => Nat.ne_of_lt (Nat.lt_trans (below p hp) (by rw [sz1]; omega))⟩
  generalize hI : s₁.heap.objs.size = I at *
  generalize hD : H1.objs.size = D at *
  generalize hC : H2.objs.size = C at *
  have Z0 : Sit h₀ L m I ax vs.toArray C D news 0 [] h₃ :=
    { it := by obtain ⟨o, e, r⟩ := hI1; exact ⟨o, old _ _ e, r⟩
      ls := by obtain ⟨o, e, r⟩ := hl; exact ⟨o, old0 _ _ e, r⟩
      fr := F.keeps old0
      nc := ⟨_, hns₃⟩
      nw := fun p hp => by
        rcases List.mem_cons.mp hp with rfl | hp
        · exact ⟨hacc, fD.xl, fD.x0⟩
        · exact ⟨old0 _ _ (N p hp).1, (N p hp).2⟩ }
  have hvl : vs.length = ws.length := by rw [hS.len_eq, List.length_map]
  have W := Walks.list (prog := prog) (w := w) (A := A) hh I ax (Nat.ne_of_lt hlt) vs.toArray
  have loop : ∀ s₃ : Shared, s₃ = { s₁ with heap := h₃, toks := s₁.toks + ([] : List (Str × Value)).length } →
      codeAny (model prog w) A (.compLoop (two elt it1 (.Name x px2) (.Name x px) (.Name y py) scope pos) 0 (.ref I) (.ref D) (compEnvC scope cl C env)) (compPost (model prog w) A E none Q (.ref D) C) s₃ := by
    rintro s₃ rfl
    refine loop0 (fun k s' => ∃ h' tk' i ys, s' = { s₁ with heap := h', toks := tk' } ∧ i ≤ ws.length ∧ k = ws.length + 1 - i ∧ Sit h₀ L m I ax vs.toArray C D news i ys h' ∧ IntsAre ys ((ws.take i).flatten.map fun (n : Nat) => (n : Int))) ?_ (ws.length + 1)
      ⟨_, _, 0, [], rfl, Nat.zero_le _, rfl, Z0, .nil⟩ (fun _ => rfl) (fun _ => rfl)
    rintro k s' ⟨h', tk', i, ys, rfl, hi, rfl, Z', hY⟩
    have hsz : vs.toArray.size = ws.length := by rw [List.size_toArray]; exact hvl
    have aI : ax ≠ I := Nat.ne_of_lt hlt
    have lI : L ≠ I := Nat.ne_of_lt hLlt
    have zI : h₀.get? I = none := fresh₀ I (Nat.le_refl _)
    by_cases hlt' : i < ws.length
    · refine wpAny_pyNext_list_item (x := vs[i]'(by omega)) Z'.it Z'.ls (by simp [hvl, hlt']) fun h₂ hit₂ hs₂ => ?_
      obtain ⟨yv, tv, ev, ey⟩ := hS.item i _ (List.getElem?_eq_getElem (by omega : i < vs.length))
      have eyv : yv = S ws[i] := by
        rw [List.getElem?_map, List.getElem?_eq_getElem hlt'] at ey
        exact (Option.some.inj ey).symm
      rw [ev, eyv]
      have Z2 : Sit h₀ L m I ax vs.toArray C D news (i + 1) ys h₂ :=
        { it := hit₂
          ls := by obtain ⟨o, e, r⟩ := Z'.ls; exact ⟨o, hs₂.extBut _ _ aI e, r⟩
          fr := Z'.fr.change hs₂ lI.symm zI
          nc := by obtain ⟨m', hn⟩ := Z'.nc; exact ⟨m', hn.at' fun o e => hs₂.extBut _ _ fC.xi e⟩
          nw := fun p hp => by
            refine ⟨hs₂.extBut _ _ ?_ (Z'.nw p hp).1, (Z'.nw p hp).2⟩
            rcases List.mem_cons.mp hp with rfl | hp
            · exact fD.xi
            · exact Nat.ne_of_lt (below p hp) }
      obtain ⟨m', hn⟩ := Z2.nc
      dsimp only
      refine wpAny_assign_Name (wpAny_storeName_local (lookup_relabel_local hx) hn (fun h₄ hn₄ hs₄ => ?_) (by simp [compEnvC, relabel, hkind]))
      obtain ⟨oC, heC, hoC⟩ := LCg.ns_obj hn₄
      have Z4 : Sit h₀ L m I ax vs.toArray C D news (i + 1) ys h₄ :=
        { it := by obtain ⟨o, e, r⟩ := Z2.it; exact ⟨o, hs₄.extBut _ _ fC.xi.symm e, r⟩
          ls := by obtain ⟨o, e, r⟩ := Z2.ls; exact ⟨o, hs₄.extBut _ _ fC.xa.symm e, r⟩
          fr := Z2.fr.change hs₄ fC.xl fC.x0
          nc := ⟨_, hn₄⟩
          nw := fun p hp => by
            refine ⟨hs₄.extBut _ _ ?_ (Z2.nw p hp).1, (Z2.nw p hp).2⟩
            rcases List.mem_cons.mp hp with rfl | hp
            · exact fC.xd.symm
            · exact fC.xn p hp }
      have NC : News h₀ L h₄ [(C, oC)] := fun p hp => by
        rw [List.mem_singleton.mp hp]; exact ⟨heC, fC.xl, fC.x0⟩
      refine LCgL.ld_own (h₀ := h₀) (L := L) NC (.head _) hoC (v := .str (S ws[i]) tv) (by simp) ?_ (by simp [compEnvC, relabel, hkind]) (lookup_relabel_local hx) hdx
      have e1 : (ws.take (i + 1)).flatten = (ws.take i).flatten ++ ws[i] := by
        rw [List.take_succ_eq_append_getElem hlt', List.flatten_append]; simp
      refine nest_inner hkind hy helt fC fD hh Z4 hY ?_ (fun ys' h' tk' Z hI' => ?_) _
      · rw [← e1]
        have e2 : ws.flatten = (ws.take (i + 1)).flatten ++ (ws.drop (i + 1)).flatten := by rw [← List.flatten_append, List.take_append_drop]
        rw [e2, List.length_append] at hfl; omega
      · exact ⟨ws.length + 1 - (i + 1), by omega, h', tk', i + 1, ys', rfl, hlt', rfl, Z, by rw [e1]; exact hI'⟩
    · obtain rfl : i = ws.length := by omega
      refine W.done _ _ _ (by rw [hsz]; exact ⟨Z'.it, Z'.ls⟩) fun h₂ tk₂ hk₂ => ?_
      obtain ⟨m', hn⟩ := Z'.nc
      rw [List.take_length] at hY
      refine ⟨m', hn.at' fun o e => hk₂ _ _ (by simpa using fC.xi) e, fun h'' hs'' => fin ys D h'' tk₂ hY ?_ ?_ ?_⟩
      · intro p hp; exact Nat.lt_trans (below p hp) (by rw [sz1]; exact Nat.lt_succ_self _)
      · exact (LCg.fr_but Z'.fr hk₂ lI zI).change hs'' fC.xl fC.x0
      · intro p hp
        have z := Z'.nw p hp
        have hne : p.1 ≠ I ∧ p.1 ≠ C := by
          rcases List.mem_cons.mp hp with rfl | hp
          · exact ⟨fD.xi, fC.xd.symm⟩
          · exact ⟨Nat.ne_of_lt (below p hp), fC.xn p hp⟩
        exact ⟨hs''.extBut _ _ hne.2 (hk₂ _ _ (by simpa using hne.1) z.1), z.2⟩
  exact codeAny_compStart_list (loop _ rfl) (W.self 0 _ _ _ ⟨Z0.it, Z0.ls⟩ (loop _ rfl))
end

-- RwSa
theorem gettok_s (w : World) (text word r : List Nat) (bare : Bool) (b : Lx) (hR : ReadOk w text b.toSx) (hb : b.Chain) (rest : List (Addr × Obj)) (ln : Int) (tl : Tok) (en pos : Nat) (tp : Tok) (ep : Nat)
    (ho1 : ∀ p ∈ rest, p.1 ≠ b.l) (ho2 : ∀ p ∈ rest, p.1 ≠ b.dx) (hp : text.length ≤ 900) (hw : 0 < word.length) (ht : text.drop pos = spelled word bare ++ r) :
    ClaimC w 57 (b.led w ln tl #[] en pos tp ep rest) [.ref b.x] 20 160 (fun h₀ L m s Q => ∀ (t tl' tp' : Tok) (ep' : Nat) (h' : Heap) (tk' : Nat), Fr h₀ L h' m →
      News h₀ L h' (b.led w (ln + (word.count 10 : Nat)) tl' #[] en ((pos + (spelled word bare).length : Nat) : Int) tp' ep' rest) → Q (.str (S word) t) { s with heap := h', toks := tk' }) := by
  cases bare with
  | true =>
    have e : spelled word true = spell m6 word ++ [32] := by simp [spelled]
    have e2 : pos + (spell m6 word ++ [32]).length = pos + (spell m6 word).length + 1 := by simp; omega
    rw [e] at ht ⊢
    rw [e2]
    exact gettok_b w text word r b hR hb rest ln tl en pos tp ep ho1 ho2 hp hw (by rw [ht]; simp)
  | false =>
    have e : spelled word false = [34] ++ spell m2 word ++ [34] := by simp [spelled]
    have e2 : pos + ([34] ++ spell m2 word ++ [34]).length = pos + (spell m2 word).length + 2 := by simp; omega
    rw [e] at ht ⊢
    rw [e2]
    exact gettok_q w text word r b hR hb rest ln tl en pos tp ep ho1 ho2 hp (by rw [ht]; simp)
section
variable {h₀ h : Heap} {L : Addr} {w : World} {b : Lx} {ln : Int} {tl : Tok} {pb : Array Value} {en : Nat} {pos : Int} {tp : Tok} {ep : Nat} {a c d e : Addr × Obj} {rest : List (Addr × Obj)}
theorem news_in4 (N : News h₀ L h (a :: c :: d :: e :: b.led w ln tl pb en pos tp ep rest)) : News h₀ L h (b.led w ln tl pb en pos tp ep (a :: c :: d :: e :: rest)) := news_inL [a, c, d, e] N
theorem news_out4 (N : News h₀ L h (b.led w ln tl pb en pos tp ep (a :: c :: d :: e :: rest))) : News h₀ L h (a :: c :: d :: e :: b.led w ln tl pb en pos tp ep rest) := news_outL [a, c, d, e] N
end

example : True := by
  k_with "call ref" => ((with_reducible show wpAny _ _ (call (Value.ref 57) _) _ _ _); (rename ReadOk _ _ _ => hR9); (rename Lx.Chain _ => hC9); k_dflt (k_extra "@go"; exact (gettok_s _ _ _ _ _ _ hR9 hC9 _ _ _ _ _ _ _ (by k_all) (by k_all) (by assumption) (by assumption) (by assumption)).toClaim; k_extra "@rm"); intro t9w tl9w tp9w ep9w h9w tk9w F9w N9w)
  trivial
-- RwSb
section
variable {prog : Program} {w : World} {A : Around} {h₀ : Heap} {L : Addr} {m : Str → Option Value} {env : Env} {elt : Expr} {x : Str} {scope : Scope} {cl : List (Str × Addr)} {s : Shared} {Z : List (Addr × Obj) → Prop} {P : Nat → Value → Prop} {Fin : List Value → List (Addr × Obj) → Prop}
/-- a comprehension whose element changes the ledger -/
theorem comp_led {σ : Type} {n : Nat} (led : σ → List (Addr × Obj)) (R : Nat → σ → List Value → Prop) (st₀ : σ) (h0 : R 0 st₀ [])
    (turn : ∀ i st v I oI C oC D m₂ ys h tk (E' : Value → Shared → Prop), i < n → P i v → R i st ys → LCg.NsObj oC m₂ → m₂ x = some v → Fr h₀ L h m → News h₀ L h ((I, oI) :: (C, oC) :: (D, LCg.lst ys) :: led st) → LCg.Off3 I C D (led st) → ((@Ne Nat I C) ∧ (@Ne Nat I D) ∧ (@Ne Nat C D)) →
      wpAny (model prog w) A (eval elt (compEnvC scope cl C env)) (LCg.CompEnd h₀ L m { s with heap := h, toks := tk } I oI C oC D (LCg.lst ys) Z (fun y news' => ∃ st', news' = led st' ∧ R (i + 1) st' (ys ++ [y]))) E' { s with heap := h, toks := tk })
    (fin : ∀ st ys, R n st ys → Fin ys (led st)) : LCg.CompRest prog w A h₀ L m env elt x scope cl s Z P Fin n 0 [] (led st₀) := by
  have key : ∀ (j i : Nat) (st : σ) (ys : List Value), i + j = n → R i st ys → LCg.CompRest prog w A h₀ L m env elt x scope cl s Z P Fin j i ys (led st) := by
    intro j
    induction j with
    | zero => intro i st ys hi hr; exact LCg.CompRest.zero (fin st ys (by rw [show n = i from by omega]; exact hr))
    | succ j ih =>
      intro i st ys hi hr
      refine LCg.CompRest.succ ?_
      intro v I oI C oC D m₂ h tk E' hv hC hx F N off ne
      refine wpAny_mono (turn i st v I oI C oC D m₂ ys h tk E' (by omega) hv hr hC hx F N off ne) (fun y s₂ hq => ?_) fun _ _ e => e
      obtain ⟨h', tk', nw, e, F', N', off', hS, st', hn, hr'⟩ := hq
      rw [hn] at N' off' hS
      exact ⟨h', tk', led st', e, F', N', off', hS, ih (i + 1) st' _ (by omega) hr'⟩
  exact key n 0 st₀ [] (by omega) h0
end
theorem cut_at (ss : List Nat) (total : Int) (i : Nat) (hi : i < 3) : ∃ r, (textS ss total).drop (([spelled (word_ ss total 0) (bare_ total 0), spelled (word_ ss total 1) (bare_ total 1), spelled (word_ ss total 2) (bare_ total 2)].take i).flatten).length = spelled (word_ ss total i) (bare_ total i) ++ r := by
  have hi3 : i = 0 ∨ i = 1 ∨ i = 2 := by omega
  unfold textS
  rcases hi3 with rfl | rfl | rfl
  · exact ⟨spelled (word_ ss total 1) (bare_ total 1) ++ spelled (word_ ss total 2) (bare_ total 2), by simp⟩
  · exact ⟨spelled (word_ ss total 2) (bare_ total 2), by simp⟩
  · exact ⟨[], by simp [← List.append_assoc]⟩
abbrev wl (ss : List Nat) (total : Int) : List (List Nat) := [word_ ss total 0, word_ ss total 1, word_ ss total 2]
abbrev sl (ss : List Nat) (total : Int) : List (List Nat) := [spelled (word_ ss total 0) (bare_ total 0), spelled (word_ ss total 1) (bare_ total 1), spelled (word_ ss total 2) (bare_ total 2)]
theorem wl_next (ss : List Nat) (total : Int) (i : Nat) (hi : i < 3) : (wl ss total).take (i + 1) = (wl ss total).take i ++ [word_ ss total i] := by
  have hi3 : i = 0 ∨ i = 1 ∨ i = 2 := by omega
  rcases hi3 with rfl | rfl | rfl <;> rfl
theorem sl_next (ss : List Nat) (total : Int) (i : Nat) (hi : i < 3) : (sl ss total).take (i + 1) = (sl ss total).take i ++ [spelled (word_ ss total i) (bare_ total i)] := by
  have hi3 : i = 0 ∨ i = 1 ∨ i = 2 := by omega
  rcases hi3 with rfl | rfl | rfl <;> rfl
theorem sl_flat (ss : List Nat) (total : Int) : (sl ss total).flatten = textS ss total := by simp [textS]
theorem text_le (ss : List Nat) (total : Int) (hl : ss.length ≤ 12) : (textS ss total).length ≤ 900 := by
  have h0 := word_le ss total hl 0
  have h1 := word_le ss total hl 1
  have h2 := word_le ss total hl 2
  have p0 := spelled_le (word_ ss total 0) (bare_ total 0)
  have p1 := spelled_le (word_ ss total 1) (bare_ total 1)
  have p2 := spelled_le (word_ ss total 2) (bare_ total 2)
  unfold textS
  rw [List.length_append, List.length_append]
  omega
structure Tst where
  (tl tp : Tok) (ep : Nat) (ln : Int) (pos : Nat)
theorem off3_of {I C D : Addr} {l l' : List (Addr × Obj)} (h : LCg.Off3 I C D l) (e : l'.map (·.1) = l.map (·.1)) : LCg.Off3 I C D l' := by
  refine LCg.Off3.of fun p hp => ?_
  have h1 : p.1 ∈ l.map (·.1) := by rw [← e]; exact List.mem_map_of_mem hp
  obtain ⟨q, hq, e2⟩ := List.mem_map.mp h1
  rw [← e2]; exact h.mem q hq

example : True := by
  k_with "NestSrc" => (refine stop_at ?_)
  k_with "eval ListComp" => ((with_reducible show wpAny _ _ (eval (Expr.ListComp _ [_, _] _ _) _) _ _ _); k_dflt (refine nest_U (F₀ := by k_asm) (by with_unfolding_all rfl) (by decide) (by rfl) (by decide) (by rfl) (by rfl) (by decide) ?_))
  k_with "call builtin:iter" => ((with_reducible show wpAny _ _ (call (Value.builtin "iter") [Value.ref _]) _ _ _); k_dflt (refine' iter_li (by k_asm) (by k_asm) (by k_mem) ?_); intro I9w h9w F9w N9w l19w; (try k_lt l19w))
  trivial
-- RwSc
theorem parse_at (w : World) (a c : Addr × Obj) (rest : List (Addr × Obj)) (I D : Addr) (tv : List Value) (e i : Nat) (T : List Nat) (hT : IntsAre tv (T.map fun (n : Nat) => (n : Int))) (y : Nat) (r : List Nat) (hy : y < 4096) (hd : T.drop i = octs y ++ r)
    (hne : ∀ p ∈ a :: c :: rest, p.1 ≠ I) (hDI : D ≠ I) :
    Claim w 29 (a :: c :: (I, liObj D i) :: (D, { cls := .type "list", data := .seq tv.toArray e }) :: rest) [.ref I] 5 40 (fun h₀ L m s Q => ∀ (t : Tok) (h' : Heap) (tk' : Nat), Fr h₀ L h' m →
      News h₀ L h' (a :: c :: (I, liObj D (i + (octs y).length)) :: (D, { cls := .type "list", data := .seq tv.toArray e }) :: rest) → Q (.int y t) { s with heap := h', toks := tk' }) := by
  intro p loose mean mg mb dp un gd cn cs a' ccd cl outer A₀ base h₀ L m s Q E B F X N T' hk hd' hu hp
  refine parse_c w (a :: c :: rest) I D tv e i T hT y r hy hd p loose mean mg mb dp un gd cn cs a' ccd cl outer A₀ base h₀ L m s Q E B F X (news_sub N ?_) T' hk hd' hu ⟨hne, hDI, fun t h' tk' F' N' => hp t h' tk' F' (news_sub N' ?_)⟩
  · intro q hq; simp only [List.mem_cons] at hq ⊢; rcases hq with h | h | h | h | h <;> simp [h]
  · intro q hq; simp only [List.mem_cons] at hq ⊢; rcases hq with h | h | h | h | h <;> simp [h]
theorem pop_at (w : World) (b : Lx) (hb : b.Chain) (a1 a2 a3 a4 a5 a6 : Addr × Obj) (rest : List (Addr × Obj)) (ln : Int) (tl : Tok) (vs : List Value) (v : Value) (en : Nat) (pos : Int) (tp : Tok) (ep : Nat)
    (ho : ∀ p ∈ a1 :: a2 :: a3 :: a4 :: a5 :: a6 :: rest, p.1 ≠ b.pb) (hl : vs.length ≤ 900) :
    Claim w 57 (a1 :: a2 :: a3 :: a4 :: a5 :: a6 :: b.led w ln tl (v :: vs).toArray en pos tp ep rest) [.ref b.x] 20 160 (fun h₀ L m s Q => ∀ (en' : Nat) (h' : Heap) (tk' : Nat), Fr h₀ L h' m →
      News h₀ L h' (a1 :: a2 :: a3 :: a4 :: a5 :: a6 :: b.led w ln tl vs.toArray en' pos tp ep rest) → Q v { s with heap := h', toks := tk' }) := by
  intro p loose mean mg mb dp un gd cn cs a' ccd cl outer A₀ base h₀ L m s Q E B F X N T' hk hd' hu hp
  exact (pop_c w b hb ([a1, a2, a3, a4, a5, a6] ++ rest) ln tl vs v en pos tp ep ho hl).toClaim p loose mean mg mb dp un gd cn cs a' ccd cl outer A₀ base h₀ L m s Q E B F X (news_inL [a1, a2, a3, a4, a5, a6] N) T' hk hd' hu
    fun en' h' tk' F' N' => hp en' h' tk' F' (news_outL [a1, a2, a3, a4, a5, a6] N')
theorem push_at (w : World) (b : Lx) (hb : b.Chain) (a1 a2 a3 a4 a5 : Addr × Obj) (rest : List (Addr × Obj)) (ln : Int) (tl : Tok) (vs : List Value) (v : Value) (en : Nat) (pos : Int) (tp : Tok) (ep : Nat)
    (ho : ∀ p ∈ a1 :: a2 :: a3 :: a4 :: a5 :: rest, p.1 ≠ b.pb) (hl : vs.length ≤ 1000) :
    Claim w 64 (a1 :: a2 :: a3 :: a4 :: a5 :: b.led w ln tl vs.toArray en pos tp ep rest) [.ref b.x, v] 20 160 (fun h₀ L m s Q => ∀ (en' : Nat) (h' : Heap) (tk' : Nat), Fr h₀ L h' m →
      News h₀ L h' (a1 :: a2 :: a3 :: a4 :: a5 :: b.led w ln tl (vs ++ [v]).toArray en' pos tp ep rest) → Q .none { s with heap := h', toks := tk' }) := by
  intro p loose mean mg mb dp un gd cn cs a' ccd cl outer A₀ base h₀ L m s Q E B F X N T' hk hd' hu hp
  exact (push_c w b hb ([a1, a2, a3, a4, a5] ++ rest) ln tl vs v en pos tp ep ho hl).toClaim p loose mean mg mb dp un gd cn cs a' ccd cl outer A₀ base h₀ L m s Q E B F X (news_inL [a1, a2, a3, a4, a5] N) T' hk hd' hu
    fun en' h' tk' F' N' => hp en' h' tk' F' (news_outL [a1, a2, a3, a4, a5] N')
structure Rnt where
  (j y : Nat) (pl : Int) (o : Obj) (kvs : List (Str × Value)) (tv pv : List Value) (te en : Nat) (ts tq : Tok)
structure Inn where
  (pv : List Value) (en f : Nat) (t : Tok)
theorem sym_lt {P : List (Nat × Nat)} (hP : Okp P) {y : Nat} (h : y ∈ P.map (·.2) ++ [0]) : y < 4096 := by
  rcases List.mem_append.mp h with h | h
  · obtain ⟨q, hq, rfl⟩ := List.mem_map.mp h
    rcases hP.sym q hq with h | ⟨h1, h2, z, hz, e⟩
    · omega
    · show q.2 < 4096; omega
  · rw [List.mem_singleton.mp h]; decide
abbrev lenJ (ss : List Nat) (j : Nat) : Nat := ((((ss ++ [0]).take j).map octs).flatten).length
abbrev RInv (prog : Program) (w : World) (first : Nat) (ts ss : List Nat) (k : Nat) (st : Rnt) : Prop :=
  st.j + k = ts.length ∧ (ss ++ [0])[st.j]? = some st.y ∧ st.pl = ((first + st.j : Nat) : Int) ∧ st.o.IsDictOf (PySem.strKind prog w) st.kvs ∧ Known st.kvs ((fl first ts).take st.j) ∧
    StrsAre st.tv (((fl first ts).take st.j).map pf) ∧ StrsAre st.pv ((((fl first ts).take st.j).drop (ts.take st.j).sum).map pf)
theorem news_drop5 {h₀ h : Heap} {L : Addr} {a c d e x : Addr × Obj} {r : List (Addr × Obj)} (N : News h₀ L h (a :: c :: d :: e :: x :: r)) : News h₀ L h (a :: c :: d :: e :: r) := by
  refine news_sub N fun p hp => ?_
  simp only [List.mem_cons] at hp ⊢
  rcases hp with h | h | h | h | h <;> simp [h]
theorem strs_cons {vs : List Value} {x : Str} {r : List Str} (h : StrsAre vs (x :: r)) : ∃ t vs', vs = .str x t :: vs' ∧ StrsAre vs' r := by
  cases h with
  | cons _ t h => exact ⟨t, _, rfl, h⟩
theorem fl_drop_next (first : Nat) (ts : List Nat) (j q f : Nat) (hj : j < ts.length) (hq : ts[j]? = some q) (hc : (ts.take j).sum + q ≤ j) (h : (fl first ts).take (j + 1) = (fl first ts).take j ++ [f]) :
    ((fl first ts).take (j + 1)).drop (ts.take (j + 1)).sum = (((fl first ts).take j).drop (ts.take j).sum).drop q ++ [f] := by
  have e : (ts.take (j + 1)).sum = (ts.take j).sum + q := by
    rw [List.take_add_one, hq]; simp
  rw [h, e, List.drop_append_of_le_length (by rw [List.length_take, fl_length]; omega), List.drop_drop]

example : True := by
  k_with "call ref" => ((with_reducible show wpAny _ _ (call (Value.ref 29) _) _ _ _); k_dflt (k_extra "@go"; exact parse_at _ _ _ _ _ _ _ _ _ _ (by assumption) _ _ (by assumption) (by assumption) (by k_all) (by k_ne); k_extra "@rm"); intro t9w h9w tk9w F9w N9w)
  k_with "call ref" => ((with_reducible show wpAny _ _ (call (Value.ref 22) _) _ _ _); k_dflt (k_extra "@go"; exact flags_c _ _ _ _ (by assumption) (by assumption); k_extra "@rm"); intro t9w h9w tk9w F9w N9w)
  k_with "call ref" => ((with_reducible show wpAny _ _ (call (Value.ref 57) _) _ _ _); (rename Lx.Chain _ => hC9); k_dflt (k_extra "@go"; exact pop_at _ _ hC9 _ _ _ _ _ _ _ _ _ _ _ _ _ _ _ (by k_all) (by omega); k_extra "@rm"); intro en9w h9w tk9w F9w N9w)
  k_with "call ref" => ((with_reducible show wpAny _ _ (call (Value.ref 64) _) _ _ _); (rename Lx.Chain _ => hC9); k_dflt (k_extra "@go"; exact push_at _ _ hC9 _ _ _ _ _ _ _ _ _ _ _ _ _ _ (by k_all) (by omega); k_extra "@rm"); intro en9w h9w tk9w F9w N9w)
  k_with "subscriptTail" => ((with_reducible show wpAny _ _ (subscriptTail _ _ (Value.ref _) (Value.str _ _)) _ _ _); k_dflt (refine kda_item (knd := PySem.strKind _ _) (by k_asm) (by k_mem) (by k_asm) (strKind_is _ _ _ _) (by assumption) ?_))
  k_with "setItem ref str" => ((with_reducible show wpAny _ _ (setItem (Value.ref _) (Value.str _ _) _) _ _ _); k_dflt (refine' kda_set (knd := PySem.strKind _ _) (by k_asm) (by k_asm) (by k_updF) (by k_asm) (strKind_is _ _ _ _) (by rw [PySem.sizeLine_eq]; omega) ?_); intro h9w o9w F9w N9w hd9w; (try dsimp only at N9w))
  trivial
-- RwSd
set_option maxRecDepth 100000 in
set_option maxHeartbeats 8000000 in
theorem iseof_ok (w : World) (news : List (Addr × Obj)) (n : Nat) (t : Tok) (b : Bool) (hb : decide (n = 0) = b) :
    Claim w 85 news [.int n t] 5 40 (fun h₀ L m s Q => ∀ (h' : Heap) (tk' : Nat), Fr h₀ L h' m → News h₀ L h' news → Q (.bool b) { s with heap := h', toks := tk' }) := by
  unfold Claim
  k_fill
  w_top off
  intros; rename_i hret
  refine wpAny_call ?_
  k_dflt cell_enter
  k_steps
  rename News _ _ _ _ => N9
  rename Fr _ _ _ _ => F9
  rw [show ((n : Int) == 0) = b from by rw [← hb, Bool.eq_iff_iff, beq_iff_eq, decide_eq_true_iff]; omega]
  exact hret _ _ F9 N9
set_option maxRecDepth 100000 in
set_option maxHeartbeats 8000000 in
theorem isnt_ok (w : World) (news : List (Addr × Obj)) (n : Nat) (t : Tok) (b : Bool) (hb : decide (256 ≤ n) = b) :
    Claim w 78 news [.int n t] 5 40 (fun h₀ L m s Q => ∀ (h' : Heap) (tk' : Nat), Fr h₀ L h' m → News h₀ L h' news → Q (.bool b) { s with heap := h', toks := tk' }) := by
  unfold Claim
  k_fill
  w_top off
  intros; rename_i hret
  refine wpAny_call ?_
  k_dflt cell_enter
  k_steps
  rename News _ _ _ _ => N9
  rename Fr _ _ _ _ => F9
  rw [show decide (256 ≤ (n : Int)) = b from by rw [← hb, Bool.eq_iff_iff, decide_eq_true_iff, decide_eq_true_iff]; omega]
  exact hret _ _ F9 N9

example : True := by
  k_with "call ref" => ((with_reducible show wpAny _ _ (call (Value.ref 85) _) _ _ _); k_dflt (k_extra "@go"; exact iseof_ok _ _ _ _ _ (by assumption); k_extra "@rm"); intro h9w tk9w F9w N9w)
  k_with "call ref" => ((with_reducible show wpAny _ _ (call (Value.ref 78) _) _ _ _); k_dflt (k_extra "@go"; exact isnt_ok _ _ _ _ _ (by assumption); k_extra "@rm"); intro h9w tk9w F9w N9w)
  trivial
-- RwS
set_option maxRecDepth 100000 in
set_option maxHeartbeats 8000000 in
theorem run_c (w : World) (news : List (Addr × Obj)) (b : Lx) (hb : b.Chain) (P : List (Nat × Nat)) (hP : Okp P) (hPs : (P.map (·.1)).sum + 1 = P.length) (h12 : P.length ≤ 12) (h8 : 8 ≤ P.length) (total : Int) (hR : ReadOk w (textS (P.map (·.2)) total) b.toSx)
    (tl tp : Tok) (ep en : Nat) (first : Nat) (hf : first < 25) (t : Tok) (ho1 : ∀ p ∈ news, p.1 ≠ b.l) (ho2 : ∀ p ∈ news, p.1 ≠ b.dx) (ho3 : ∀ p ∈ news, p.1 ≠ b.pb) :
    Claim w 123 (b.led w 1 tl #[] en 0 tp ep news) [.ref b.x, .int first t] 35 300 (fun h₀ L m s Q => ∀ (tv pv : List Value) (te en' : Nat) (tl' tp' : Tok) (ep' : Nat) (D : Addr) (h' : Heap) (tk' : Nat), StrsAre tv ((fl first (P.map (·.1))).map pf) → StrsAre pv (((fl first (P.map (·.1))).drop (P.map (·.1)).sum).map pf) →
      (∀ p ∈ news, @LT.lt Nat _ p.1 D) → @LT.lt Nat _ b.pb D → Fr h₀ L h' m → News h₀ L h' ((D, W.listOf tv.toArray te) :: b.led w (1 + ((octA (P.map (·.2))).count 10 : Nat)) tl' pv.toArray en' ((textS (P.map (·.2)) total).length : Nat) tp' ep' news) → Q (.ref D) { s with heap := h', toks := tk' }) := by
  unfold Claim
  k_fill
  w_top off
  intros; rename_i hret
  have hb' := hb
  unfold Lx.Chain at hb'
  have hR0 := hR
  have hb0 := hb
  refine wpAny_call ?_
  k_dflt cell_enter
  k_steps
  rename Fr _ _ _ _ => F
  rename News _ _ _ _ => N
  rename IsRange _ _ _ _ _ _ _ _ => hr
  have hss8 : 8 ≤ (P.map (·.2)).length := by rw [List.length_map]; exact h8
  have hss12 : (P.map (·.2)).length ≤ 12 := by rw [List.length_map]; exact h12
  generalize hss : P.map (·.2) = ss at *
  have htl := text_le ss total hss12
  (try dsimp only)
  refine LCg.CompSrc.range (n := 3) rfl F N hr (by decide) (by decide) (by decide) ?_
  intro g
  (try dsimp only)
  refine comp_led (σ := Tst) (n := 3) (fun st => (_, _) :: b.led w st.ln st.tl #[] en (st.pos : Int) st.tp st.ep news)
    (fun i st ys => StrsAre ys (((wl ss total).take i).map S) ∧ st.ln = 1 + ((((wl ss total).take i).flatten).count 10 : Nat) ∧ st.pos = (((sl ss total).take i).flatten).length) ⟨tl, tp, ep, 1, 0⟩ ⟨.nil, rfl, rfl⟩ ?_ ?_
  · intro i st v I oI C oC D m₂ ys h tk E' hi hv hinv hC hx F N off ne
    obtain ⟨tl2, tp2, ep2, ln2, pos2⟩ := st
    dsimp only at hinv F N off
    obtain ⟨hS, hln, hps⟩ := hinv
    obtain ⟨r, hcut⟩ := cut_at ss total i hi
    rw [← hps] at hcut
    have hwp := word_pos ss total hss8 i
    have N2 := news_in4 N
    clear N
    have off0 := off
    obtain ⟨offI, offC, offD⟩ := nts3 off
    dsimp only [addrs] at offI offC offD
    dsimp only [LCg.Off3] at off
    k_steps
    rename Fr _ _ _ _ => F9
    rename News _ _ _ _ => N9
    refine comp_end F9 (news_out4 N9) (off3_of off0 rfl) trivial ⟨⟨_, _, _, _, _⟩, rfl, ?_, ?_, ?_⟩
    · rw [wl_next ss total i hi, List.map_append]; exact strs_snoc hS _ _
    · (try dsimp only); rw [wl_next ss total i hi, List.flatten_append, List.count_append, hln]; clear off off0 ne; simp; omega
    · (try dsimp only); rw [sl_next ss total i hi, List.flatten_append, List.length_append, hps]; simp
  · intro st ys hinv
    obtain ⟨tl2, tp2, ep2, ln2, pos2⟩ := st
    obtain ⟨hS, hln, hps⟩ := hinv
    clear F N hr
    k_steps
    rename Fr _ _ _ _ => F
    rename News _ _ _ _ => N
    dsimp only at hln hps N
    have hS3 : StrsAre ys ((wl ss total).map S) := hS
    have hln3 : ln2 = 1 + ((octA ss).count 10 : Nat) := by rw [hln, ← words_cat ss total]; rfl
    have hps3 : pos2 = (textS ss total).length := by rw [hps, ← sl_flat]; rfl
    clear hS hln hps
    subst hln3 hps3
    refine ⟨_, ys, _, _, wl ss total, rfl, rfl, F, N, .head _, hS3, ?_, ?_, ?_⟩
    · rw [words_cat]; have := octA_le ss hss12; omega
    · intro C c tv h tk oC m₂ E' hC hx F N
      k_steps
    intro tvs D2 h2 tk2 hI hlt F N
    rw [words_cat] at hI
    have hlt2 := hlt
    k_lt hlt2
    have hg0 : (ss ++ [0])[0]? = some ((ss ++ [0]).getD 0 0) := by
      rw [List.getD_eq_getElem?_getD, List.getElem?_eq_getElem (by rw [List.length_append]; omega)]; rfl
    generalize hy0 : (ss ++ [0]).getD 0 0 = y0 at hg0
    have hy0l : y0 < 4096 := sym_lt hP (by rw [hss]; exact List.mem_of_getElem? hg0)
    obtain ⟨r0, hdr0, hlen0⟩ := tape_at ss 0 y0 hg0
    simp only [List.take_zero, List.map_nil, List.flatten_nil, List.length_nil] at hdr0 hlen0
    k_steps
    rename Fr _ _ _ _ => F
    rename News _ _ _ _ => N
    rename Obj.IsDictOf (PySem.strKind _ _) _ _ => hd0
    rw [hlen0] at N
    have hpart := hP.part
    generalize htsd : P.map (·.1) = ts at *
    refine while_own (σ := Rnt) (fun st => [(Str.ofString "symbol", .int (st.y : Int) st.ts), (Str.ofString "place", .int st.pl st.tq)]) [Str.ofString "flags", Str.ofString "k", Str.ofString "word"]
      (fun st => (_, W.listOf st.tv.toArray st.te) :: (_, st.o) :: (_, liObj D2 (lenJ ss (st.j + 1))) :: (D2, LCg.lst tvs) :: (_, _) :: b.led w (1 + ((octA ss).count 10 : Nat)) tl2 st.pv.toArray st.en ((textS ss total).length : Nat) tp2 ep2 news)
      (RInv _ w first ts ss) ts.length ⟨0, y0, (first : Int), _, [], [], [], 0, en, _, _⟩ ⟨Nat.zero_add _, hg0, rfl, hd0, Known.nil, .nil, .nil⟩ F (news_drop5 N) ⟨rfl, rfl, trivial⟩ ?_
    intro k st u h tk hinv F1 N1
    (try k_fold)
    clear F N
    obtain ⟨j, y, pl, o, kvs, tv, pv, te, en2, t1, t2⟩ := st
    dsimp only [RInv] at hinv
    obtain ⟨hk, hy, hpl, hD, hK, hT, hPv⟩ := hinv
    dsimp only at F1 N1 hy hpl hD hK hT hPv hk
    subst hpl
    dsimp only [ovl, ovd] at F1
    have hnl : ts.length = P.length := by rw [← htsd, List.length_map]
    have hsl : ss.length = P.length := by rw [← hss, List.length_map]
    by_cases hjn : j = ts.length
    · have hy0 : y = 0 := by
        rw [List.getElem?_append_right (by omega), show j - ss.length = 0 from by omega] at hy
        simpa using hy.symm
      have e85 : decide (y = 0) = true := by rw [hy0]; rfl
      k_steps
      rename Fr _ _ _ _ => F9
      rename News _ _ _ _ => N9
      subst hjn
      rw [List.take_of_length_le (by rw [fl_length]; exact Nat.le_refl _)] at hT
      rw [List.take_length, List.take_of_length_le (by rw [fl_length]; exact Nat.le_refl _)] at hPv
      dsimp only [Lts] at *
      refine hret tv pv te en2 tl2 tp2 ep2 _ _ _ hT hPv ?_ ?_ F9 ?_
      · intro p9 hp9
        repeat (rename And _ _ => q8; cases q8)
        repeat (rename Lts _ (addrs _) => q9; replace q9 := lts_mem q9 p9 hp9)
        omega
      · omega
      · exact news_sub N9 fun p hp => by
          rcases List.mem_cons.mp hp with rfl | hp
          · exact .head _
          · exact .tail _ (.tail _ (.tail _ (.tail _ (.tail _ hp))))
    · have hq : P[j]? = some (P[j]'(by omega)) := List.getElem?_eq_getElem (by omega)
      generalize P[j]'(by omega) = q at hq
      have hyq : y = q.2 := by
        rw [List.getElem?_append_left (by omega), ← hss, List.getElem?_map, hq] at hy
        simpa using hy.symm
      have htj : ts[j]? = some q.1 := by rw [← htsd, List.getElem?_map, hq]; rfl
      have hqs := hP.sym q (List.mem_of_getElem? hq)
      have e85 : decide (y = 0) = false := decide_eq_false (by rcases hqs with h | ⟨h1, h2, z, hz, e⟩ <;> omega)
      obtain ⟨y', hy'⟩ : ∃ y', (ss ++ [0])[j + 1]? = some y' := ⟨_, List.getElem?_eq_getElem (by rw [List.length_append]; simp; omega)⟩
      have hyl' : y' < 4096 := sym_lt hP (by rw [hss]; exact List.mem_of_getElem? hy')
      obtain ⟨r', hdr', hlen'⟩ := tape_at ss (j + 1) y' hy'
      have hjl : j < ts.length := by omega
      have hpj := hpart j hjl
      have htj2 : ts[j] = q.1 := by rw [List.getElem?_eq_getElem hjl] at htj; exact Option.some.inj htj
      rw [htj2] at hpj
      have hnx := fl_next first ts j hjl
      rw [htj2] at hnx
      have hfbd : ∀ x ∈ (fl first ts).take j, 0 < x ∧ x < 2 ^ 36 := fun x hx => ⟨fl_pos first ts x (List.mem_of_mem_take hx), fl_lt first ts hf (by omega) x (List.mem_of_mem_take hx)⟩
      have hfd : ∀ f, (fl first ts).take (j + 1) = (fl first ts).take j ++ [f] → 0 < f ∧ f < 2 ^ 36 ∧ f ∉ (fl first ts).take j := by
        intro f e
        have hm : f ∈ fl first ts := List.mem_of_mem_take (by rw [e]; simp)
        refine ⟨fl_pos first ts f hm, fl_lt first ts hf (by omega) f hm, fun hx => ?_⟩
        obtain ⟨i, hi⟩ := List.mem_iff_getElem?.mp hx
        have hlt := (List.getElem?_eq_some_iff.mp hi).1
        rw [List.length_take, fl_length] at hlt
        rw [List.getElem?_take, if_pos (by omega)] at hi
        have hj2 : (fl first ts)[j]? = some f := by
          have : ((fl first ts).take (j + 1))[j]? = some f := by
            rw [e, List.getElem?_append_right (by rw [List.length_take]; omega), List.length_take, fl_length, show j - min j ts.length = 0 from by omega]; rfl
          rwa [List.getElem?_take, if_pos (by omega)] at this
        have := fl_nodup first ts i j f hi hj2
        omega
      have hkl : kvs.length ≤ 12 := by
        have := congrArg List.length hK.1
        rw [List.length_map, List.length_map, List.length_take, fl_length] at this; omega
      have htvl : tv.length ≤ 12 := by
        have := hT.len_eq
        rw [List.length_map, List.length_take, fl_length] at this; omega
      have hpvl : pv.length ≤ 12 := by
        have := hPv.len_eq
        rw [List.length_map, List.length_drop, List.length_take, fl_length] at this; omega
      have hAl : (((fl first ts).take j).drop (ts.take j).sum).length = j - (ts.take j).sum := by rw [List.length_drop, List.length_take, fl_length]; omega
      have hdn := fl_drop_next first ts j q.1
      generalize hA : ((fl first ts).take j).drop (ts.take j).sum = A at hnx hAl hPv hdn
      rcases hqs with ⟨hq0, hq1, hq2⟩ | ⟨hq1, hq2, z, hz, hq3⟩
      · have e78 : decide (256 ≤ y) = false := decide_eq_false (by omega)
        rw [hq0, List.take_zero, show ors (2 ^ (first + j)) [] = 2 ^ (first + j) from rfl] at hnx
        obtain ⟨hf0, hf36, hfn⟩ := hfd _ hnx
        have hpt := fun t => hK.put hfbd hfn hf0 hf36 t
        k_steps
        rename Fr _ _ _ _ => F9
        rename News _ _ _ _ => N9
        have hPv0 : StrsAre pv ((A.drop q.1).map pf) := by rw [hq0]; exact hPv
        have hlen2 : lenJ ss (j + 1) + (octs y').length = lenJ ss (j + 1 + 1) := hlen'
        rw [hlen2] at N9
        simp only [List.push_toArray] at N9
        rename Obj.IsDictOf (PySem.strKind _ _) _ (stored _ _ _) => hd9
        rw [(hpt _).1] at hd9
        refine' w_turn rfl (k - 1) ⟨j + 1, y', _, _, _, tv ++ [_], pv ++ [_], te + 1, _, _, _⟩ _ _ _ (by omega) rfl ⟨?a1, hy', ?a2, hd9, ?a3, ?a4, ?a5⟩ F9 ⟨rfl, rfl, trivial⟩ ?a6 N9
        case a1 => dsimp only; omega
        case a2 => dsimp only; push_cast; omega
        case a3 => dsimp only; rw [hnx]; exact (hpt _).2
        case a4 => dsimp only; rw [hnx, List.map_append]; exact strs_snoc hT _ _
        case a5 => dsimp only; rw [hdn _ hjl htj hpj hnx, List.map_append]; exact strs_snoc hPv0 _ _
        case a6 => ktr_rel
      · have e78 : decide (256 ≤ y) = true := decide_eq_true (by omega)
        k_steps
        rename Fr _ _ _ _ => F
        rename News _ _ _ _ => N
        rename IsRange _ _ _ _ _ _ _ _ => hr
        have hfm : ((y : Int) - 256).fmod 3 + 1 = (q.1 : Int) := by
          rw [Int.fmod_eq_emod_of_nonneg _ (by decide)]; omega
        rw [hfm] at hr
        refine for_range (σ := Inn) (n := q.1) (fun st => [(Str.ofString "flags", .int (st.f : Int) st.t)]) []
          (fun st => (_, W.listOf tv.toArray te) :: (_, o) :: (_, liObj D2 (lenJ ss (j + 1))) :: (D2, LCg.lst tvs) :: (_, _) :: b.led w (1 + ((octA ss).count 10 : Nat)) tl2 st.pv.toArray st.en ((textS ss total).length : Nat) tp2 ep2 news)
          (fun i st => st.f = ors (2 ^ (first + j)) (A.take i) ∧ StrsAre st.pv ((A.drop i).map pf)) ⟨pv, en2, 2 ^ (first + j), _⟩ hr (small_one (by omega) (by omega) (by omega) (by omega)) (by first | exact rangeSize_nat _ _ | (rw [rangeSize_nat]; omega)) (fun _ _ => rfl) ⟨rfl, hPv⟩ rfl F N ⟨rfl, trivial⟩ rfl rfl ?_ ?_
        · intro i tv3 st J oJ u3 h3 tk3 hi hinv3 off3 F N
          (try k_fold)
          obtain ⟨pv3, en3, f3, t3⟩ := st
          dsimp only at hinv3 F N off3
          obtain ⟨hf3, hP3⟩ := hinv3
          have o3 := off3
          k_lt o3
          dsimp only [ovl, ovd] at F
          have hAi : A.drop i = A[i]'(by omega) :: A.drop (i + 1) := List.drop_eq_getElem_cons (by omega)
          have hsub : ∀ x ∈ A, x ∈ (fl first ts).take j := fun x hx => by rw [← hA] at hx; exact List.mem_of_mem_drop hx
          have hAm : A[i]'(by omega) ∈ (fl first ts).take j := hsub _ (List.getElem_mem _)
          have hAt : A.take (i + 1) = A.take i ++ [A[i]'(by omega)] := List.take_succ_eq_append_getElem (by omega)
          generalize A[i]'(by omega) = ai at hAi hAm hAt
          rw [hAi, List.map_cons] at hP3
          obtain ⟨t4, pv4, rfl, hP4⟩ := strs_cons hP3
          obtain ⟨t5, hval⟩ := hK.get hfbd hAm
          have hpv4 : pv4.length ≤ 12 := by
            have := hP4.len_eq
            rw [List.length_map, List.length_drop] at this; omega
          k_steps
          rename Fr _ _ _ _ => F9
          rename News _ _ _ _ => N9
          rw [bor] at F9
          refine' goes_on ⟨pv4, _, f3 ||| ai, _⟩ _ _ _ rfl ⟨?b1, hP4⟩ F9 ⟨rfl, trivial⟩ ?b3 N9
          case b1 => dsimp only; rw [hAt, ors_snoc, hf3]
          case b3 => ktr_rel
        · intro st u3 h3 tk3 hinv3 F N
          (try k_fold)
          obtain ⟨pv3, en3, f3, t3⟩ := st
          dsimp only at hinv3 F N
          obtain ⟨hf3, hP3⟩ := hinv3
          dsimp only [ovl, ovd] at F
          rw [← hf3] at hnx
          obtain ⟨hf0, hf36, hfn⟩ := hfd _ hnx
          have hpt := fun t => hK.put hfbd hfn hf0 hf36 t
          have hpv3 : pv3.length ≤ 12 := by
            have := hP3.len_eq
            rw [List.length_map, List.length_drop] at this; omega
          k_steps
          rename Fr _ _ _ _ => F9
          rename News _ _ _ _ => N9
          have hlen2 : lenJ ss (j + 1) + (octs y').length = lenJ ss (j + 1 + 1) := hlen'
          rw [hlen2] at N9
          simp only [List.push_toArray] at N9
          rename Obj.IsDictOf (PySem.strKind _ _) _ (stored _ _ _) => hd9
          rw [(hpt _).1] at hd9
          refine' w_turn rfl (k - 1) ⟨j + 1, y', _, _, _, tv ++ [_], pv3 ++ [_], te + 1, _, _, _⟩ _ _ _ (by omega) rfl ⟨?a1, hy', ?a2, hd9, ?a3, ?a4, ?a5⟩ F9 ⟨rfl, rfl, trivial⟩ ?a6 N9
          case a1 => dsimp only; omega
          case a2 => dsimp only; push_cast; omega
          case a3 => dsimp only; rw [hnx]; exact (hpt _).2
          case a4 => dsimp only; rw [hnx, List.map_append]; exact strs_snoc hT _ _
          case a5 => dsimp only; rw [hdn _ hjl htj hpj hnx, List.map_append]; exact strs_snoc hP3 _ _
          case a6 => ktr_rel

-- RwLb
section
variable {M : Model} {A : Around} {E : Value → Shared → Prop} {s : Shared} {scope : Scope} {cl : List (Str × Addr)} {x : Str}
theorem newEnv_cell {outer : Env} {globals : Addr} {qual : Str} {func : Option Addr} {code : Value} {builtins : Addr} {Q : Env → Shared → Prop}
    (hcf : ∀ n, cellsFrom n scope.names cl = (x, n) :: cl) (hpc : ∀ h : Heap, pushCells h scope.names = h.push { cls := .type "cell", data := .cell none })
    (hQ : Q { scope := scope, locals := s.heap.objs.size, globals := globals, cells := (x, s.heap.objs.size + 1) :: cl, qual := qual, func := func, code := outer.code, frame := outer.frame, builtins := outer.builtins } { s with heap := (s.heap.push { cls := .type "dict", data := .dict #[] }).push { cls := .type "cell", data := .cell none } }) :
    wpAny M A (newFunctionEnv scope globals cl [] qual func code (some outer) builtins) Q E s := by
  simp only [newFunctionEnv, Option.isSome_some, if_true]
  refine wpAny_bind (wpAny_alloc ?_)
  refine wpAny_bind (wpAny_layCells _ (fun name kind cells => by cases hkc : kind == NameKind.cell <;> simp [hkc]) _ _ _ _ ?_)
  dsimp only
  rw [hcf, hpc, Heap.size_push]
  rw [List.forIn_nil]
  exact wpAny_bind (wpAny_pure (wpAny_pure hQ))
end
section
variable {prog : Program} {w : World} {A : Around} {E : Value → Shared → Prop} {s : Shared} {h₀ : Heap} {L : Addr} {m : Str → Option Value} {env : Env} {elt iter : Expr} {x : Str} {px : Pos} {scope : Scope} {cl : List (Str × Addr)} {pos : Pos}
/-- the source of a comprehension whose name is a cell -/
def CellSrc (prog : Program) (w : World) (A : Around) (h₀ : Heap) (L : Addr) (m : Str → Option Value) (env : Env) (elt : Expr) (x : Str) (scope : Scope) (cl : List (Str × Addr)) (y : Str) (Q : Flow → Shared → Prop) (xv : Value) (s₁ : Shared) : Prop :=
  ∃ (ax : Addr) (vs : List Value) (n : Nat) (news : List (Addr × Obj)) (R : Nat → Value → Prop), xv = .ref ax ∧ A.handled = none ∧ Fr h₀ L s₁.heap m ∧ News h₀ L s₁.heap news ∧ (ax, ({ cls := .type "list", data := .seq vs.toArray n } : Obj)) ∈ news ∧ vs.length ≤ 1000 ∧
    (∀ (i : Nat) (v : Value) (I C CF D : Addr) (oI oC oF : Obj) (ys : List Value) (h : Heap) (tk : Nat) (E' : Value → Shared → Prop), vs[i]? = some v → oF.data = .cell (some v) → Fr h₀ L h m → News h₀ L h ((CF, oF) :: (C, oC) :: (D, LCg.lst ys) :: (I, oI) :: news) →
      (@LT.lt Nat _ C CF ∧ @LT.lt Nat _ D C ∧ @LT.lt Nat _ I D ∧ ∀ p ∈ news, @LT.lt Nat _ p.1 I) →
      wpAny (model prog w) A (eval elt (compEnvC scope ((x, CF) :: cl) C env)) (fun y s' => ∃ h' tk', s' = { s₁ with heap := h', toks := tk' } ∧ Fr h₀ L h' m ∧ News h₀ L h' ((CF, oF) :: (C, oC) :: (D, LCg.lst ys) :: (I, oI) :: news) ∧ R i y) E' { s₁ with heap := h, toks := tk }) ∧
    ∀ ys : List Value, ys.length = vs.length → (∀ i z, ys[i]? = some z → R i z) → LCg.FinA h₀ L m s₁ y Q ys news
theorem Assign_cell {y : Str} {py spos : Pos} {Q : Flow → Shared → Prop} (F₀ : Fr h₀ L s.heap m) (hLe : env.locals = L)
    (hsw : swapsWith (.ListComp elt [⟨.Name x px, iter, [], 0⟩] scope pos) (some (.Name y py)) spos.line env = pure true)
    (hclos : closureFor scope env = pure cl) (hcf : ∀ n, cellsFrom n scope.names cl = (x, n) :: cl) (hpc : ∀ h : Heap, pushCells h scope.names = h.push { cls := .type "cell", data := .cell none }) (hkind : scope.kind = .function)
    (hnames : ∀ z ∈ scope.names, z.2 = .local → scope.names.lookup z.1 = some .local) (hx : (relabel scope env).names.lookup x = some .cell)
    (hy : env.kindOf y = some .local) (hp : (env.scope.kind == .class || (env.scope.kind == .module && env.locals != env.globals)) = false)
    (h : wpAny (model prog w) A (eval iter env) (CellSrc prog w A h₀ L m env elt x scope cl y Q) E s)
    (hs : ∀ z, foldedSetIterable iter env z = pure z := by intro _; rfl) :
    wpAny (model prog w) A (exec (.Assign [.Name y py] (.ListComp elt [⟨.Name x px, iter, [], 0⟩] scope pos) spos) env) Q E s := by
  subst hLe
  rw [exec_Assign_Name_used _ _ _ _ hsw]
  refine wpAny_bind (wpAny_standAt (wpAny_bind ?_))
  show wpAny _ A (do let _ ← comprehension (.ListComp elt [⟨.Name x px, iter, [], 0⟩] scope pos) scope env _ (newList []) false (eval iter env) (some (assign (.Name y py) env))) _ _ s
  refine wpAny_bind (wpAny_mono (wpAny_comprehension_free (use := some (assign (.Name y py) env)) (Q := fun _ s' => Q .next s') rfl hs hclos hkind hnames
    (wpAny_mono h (fun xv s₁ h₁ => ?_) fun _ _ e => e)) (fun _ s' hq => wpAny_pure (wpAny_pure hq)) fun _ _ e => e)
  obtain ⟨ax, vs, nv, news, R, rfl, hh, F, N, hax, hvl, turn, fin⟩ := h₁
  have hl : s₁.heap.IsList ax vs.toArray := ⟨_, (N _ hax).1, rfl, _, rfl⟩
  refine wpAny_pyIter_list hl ?_
  have hlt : ax < s₁.heap.objs.size := Heap.lt_size (N _ hax).1
  generalize hH1 : s₁.heap.push { cls := .type "list_iterator", data := .fields #[.ref ax, .int 0 0] } = H1
  have up1 : ∀ b o, s₁.heap.get? b = some o → H1.get? b = some o := fun b o e => hH1 ▸ Heap.get?_push_of_some _ e
  have sz1 : H1.objs.size = s₁.heap.objs.size + 1 := by rw [← hH1, Heap.size_push]
  have hI1 : H1.IsListIter s₁.heap.objs.size ax 0 := ⟨_, hH1 ▸ Heap.get?_push_size _ rfl, rfl, rfl⟩
  refine wpAny_newObj_type (newEnv_cell hcf hpc ?_)
  dsimp only
  generalize hH2 : H1.push { cls := .type "list", dict := none, data := .seq ([] : List Value).toArray } = H2
  have sz2 : H2.objs.size = H1.objs.size + 1 := by rw [← hH2, Heap.size_push]
  have up2 : ∀ b o, H1.get? b = some o → H2.get? b = some o := fun b o e => hH2 ▸ Heap.get?_push_of_some _ e
  have hD2 : H2.get? H1.objs.size = some (LCg.lst []) := hH2 ▸ Heap.get?_push_size _ rfl
  generalize hH3 : (H2.push { cls := .type "dict", data := .dict #[] }) = H3
  have sz3 : H3.objs.size = H2.objs.size + 1 := by rw [← hH3, Heap.size_push]
  have up3 : ∀ b o, H2.get? b = some o → H3.get? b = some o := fun b o e => hH3 ▸ Heap.get?_push_of_some _ e
  have hC3 : ∃ m', H3.Ns H2.objs.size m' := ⟨_, hH3 ▸ Heap.Ns.new H2 (.type "dict")⟩
  generalize hH4 : (H3.push { cls := .type "cell", data := .cell none }) = H4
  have up4 : ∀ b o, H3.get? b = some o → H4.get? b = some o := fun b o e => hH4 ▸ Heap.get?_push_of_some _ e
  have hF4 : H4.IsCell H3.objs.size none := ⟨_, hH4 ▸ Heap.get?_push_size _ rfl, rfl⟩
  rw [show H2.objs.size + 1 = H3.objs.size from sz3.symm]
  have fresh₀ : ∀ a, s₁.heap.objs.size ≤ a → h₀.get? a = none := fun a ha => by
    cases e : h₀.get? a with
    | none => rfl
    | some o' => exact absurd (Heap.lt_size (F.keep a o' e)) (Nat.not_lt.mpr ha)
  have hLlt : env.locals < s₁.heap.objs.size := F.ns.lt
  have below : ∀ p ∈ news, p.1 < s₁.heap.objs.size := fun p hp => Heap.lt_size (N p hp).1
  have hID : s₁.heap.objs.size < H1.objs.size := by rw [sz1]; exact Nat.lt_succ_self _
  have hDC : H1.objs.size < H2.objs.size := by rw [sz2]; exact Nat.lt_succ_self _
  have hCF : H2.objs.size < H3.objs.size := by rw [sz3]; exact Nat.lt_succ_self _
  have old0 : ∀ b o, s₁.heap.get? b = some o → H4.get? b = some o := fun b o e => up4 b o (up3 b o (up2 b o (up1 b o e)))
  have zI0 := fresh₀ s₁.heap.objs.size (Nat.le_refl _)
  have zD0 := fresh₀ H1.objs.size (Nat.le_of_lt hID)
  have zC0 := fresh₀ H2.objs.size (Nat.le_of_lt (Nat.lt_trans hID hDC))
  have zF0 := fresh₀ H3.objs.size (Nat.le_of_lt (Nat.lt_trans hID (Nat.lt_trans hDC hCF)))
  generalize hI : s₁.heap.objs.size = I at *
  generalize hD : H1.objs.size = D at *
  generalize hC : H2.objs.size = C at *
  generalize hCf : H3.objs.size = CF at *
  have ne1 : I ≠ D := Nat.ne_of_lt hID
  have ne2 : I ≠ C := Nat.ne_of_lt (Nat.lt_trans hID hDC)
  have ne3 : I ≠ CF := Nat.ne_of_lt (Nat.lt_trans hID (Nat.lt_trans hDC hCF))
  have ne4 : D ≠ C := Nat.ne_of_lt hDC
  have ne5 : D ≠ CF := Nat.ne_of_lt (Nat.lt_trans hDC hCF)
  have ne6 : C ≠ CF := Nat.ne_of_lt hCF
  have neL1 : env.locals ≠ I := Nat.ne_of_lt hLlt
  have neL2 : env.locals ≠ D := Nat.ne_of_lt (Nat.lt_trans hLlt hID)
  have neL3 : env.locals ≠ C := Nat.ne_of_lt (Nat.lt_trans hLlt (Nat.lt_trans hID hDC))
  have neL4 : env.locals ≠ CF := Nat.ne_of_lt (Nat.lt_trans hLlt (Nat.lt_trans hID (Nat.lt_trans hDC hCF)))
  have neN1 : ∀ p ∈ news, p.1 ≠ I := fun p hp => Nat.ne_of_lt (below p hp)
  have neN2 : ∀ p ∈ news, p.1 ≠ D := fun p hp => Nat.ne_of_lt (Nat.lt_trans (below p hp) hID)
  have neN3 : ∀ p ∈ news, p.1 ≠ C := fun p hp => Nat.ne_of_lt (Nat.lt_trans (below p hp) (Nat.lt_trans hID hDC))
  have neN4 : ∀ p ∈ news, p.1 ≠ CF := fun p hp => Nat.ne_of_lt (Nat.lt_trans (below p hp) (Nat.lt_trans hID (Nat.lt_trans hDC hCF)))
  have W := Walks.list (prog := prog) (w := w) (A := A) hh I ax (Nat.ne_of_lt hlt) vs.toArray
  have hsz : vs.toArray.size = vs.length := List.size_toArray
  have loop : ∀ s₃ : Shared, s₃ = { s₁ with heap := H4 } →
      codeAny (model prog w) A (.compLoop (.ListComp elt [⟨.Name x px, iter, [], 0⟩] scope pos) 0 (.ref I) (.ref D) (compEnvC scope ((x, CF) :: cl) C env)) (compPost (model prog w) A E (some (assign (.Name y py) env)) (fun _ s' => Q .next s') (.ref D) C) s₃ := by
    rintro s₃ rfl
    refine codeAny_compLoop_tests
      (fun k s' => ∃ h' tk i ys, s' = { s₁ with heap := h', toks := tk } ∧ i ≤ vs.length ∧ k = vs.length + 1 - i ∧ ys.length = i ∧ h'.IsListIter I ax i ∧ Fr h₀ env.locals h' m ∧ (∃ m', h'.Ns C m') ∧ (∃ v, h'.IsCell CF v) ∧ News h₀ env.locals h' ((D, LCg.lst ys) :: news) ∧ ∀ j z, ys[j]? = some z → R j z) ?_ (vs.length + 1)
      ⟨H4, _, 0, [], rfl, Nat.zero_le _, rfl, rfl, ?_, F.keeps old0, ?_, ⟨_, hF4⟩, ?_, fun j z e => by simp at e⟩
    · rintro k s' ⟨h', tk, i, ys, rfl, hi, rfl, hyl, hit, F', ⟨m', hn'⟩, ⟨v', hv'⟩, N', hR⟩
      have hls' : h'.IsList ax vs.toArray := ⟨_, (N' _ (.tail _ hax)).1, rfl, _, rfl⟩
      by_cases hlt' : i < vs.length
      · refine wpAny_pyNext_list_item (x := vs[i]) hit hls' (by simp [hlt']) fun h₂ hit₂ hs₂ => ?_
        have F₂ : Fr h₀ env.locals h₂ m := F'.change hs₂ neL1.symm zI0
        have N₂ : News h₀ env.locals h₂ ((D, LCg.lst ys) :: news) := fun p hp => by
          refine ⟨hs₂.extBut _ _ ?_ (N' p hp).1, (N' p hp).2⟩
          rcases List.mem_cons.mp hp with rfl | hp
          · exact ne1.symm
          · exact neN1 p hp
        have hn₂ : h₂.Ns C m' := hn'.at' fun o e => hs₂.extBut _ _ ne2.symm e
        have hv₂ : h₂.IsCell CF v' := by obtain ⟨o, e, r⟩ := hv'; exact ⟨o, hs₂.extBut _ _ ne3.symm e, r⟩
        refine wpAny_assign_Name (wpAny_storeName_cell hkind hx (by simp [compEnvC]) hv₂ fun h₃ hv₃ hs₃ => ?_)
        refine wpAny_tests_nil ?_
        simp only [if_true]
        have F₃ : Fr h₀ env.locals h₃ m := F₂.change hs₃ neL4.symm zF0
        have hn₃ : h₃.Ns C m' := hn₂.at' fun o e => hs₃.extBut _ _ ne6 e
        obtain ⟨oC, heC, hoC⟩ := LCg.ns_obj hn₃
        obtain ⟨oI, heI, hoI⟩ := hit₂
        have heI3 := hs₃.extBut _ _ ne3 heI
        obtain ⟨oF, heF, hoF⟩ := hv₃
        have N₃ : News h₀ env.locals h₃ ((CF, oF) :: (C, oC) :: (D, LCg.lst ys) :: (I, oI) :: news) := fun p hp => by
          rcases List.mem_cons.mp hp with rfl | hp
          · exact ⟨heF, neL4.symm, zF0⟩
          rcases List.mem_cons.mp hp with rfl | hp
          · exact ⟨heC, neL3.symm, zC0⟩
          rcases List.mem_cons.mp hp with rfl | hp
          · exact ⟨hs₃.extBut _ _ ne5 (N₂ _ (.head _)).1, neL2.symm, zD0⟩
          rcases List.mem_cons.mp hp with rfl | hp
          · exact ⟨heI3, neL1.symm, zI0⟩
          · exact ⟨hs₃.extBut _ _ (neN4 p hp) (N₂ p (.tail _ hp)).1, (N₂ p (.tail _ hp)).2⟩
        refine wpAny_mono (turn i vs[i] I C CF D oI oC oF ys h₃ _ _ (by simp [hlt']) hoF F₃ N₃ ⟨hCF, hDC, hID, below⟩) (fun y s₄ h₄ => ?_) fun _ _ e => e
        obtain ⟨h₄, tk₄, rfl, F₄, N₄, hRy⟩ := h₄
        have zD := (N₄ (D, LCg.lst ys) (.tail _ (.tail _ (.head _)))).1
        have hvl2 : ys.length ≤ 1000 := by omega
        refine append_at (hsz := by show ys.toArray.size ≤ sizeLine; rw [List.size_toArray, PySem.sizeLine_eq]; omega) zD fun h₅ hs₅ hD₅ => ?_
        refine ⟨vs.length + 1 - (i + 1), by omega, h₅, tk₄, i + 1, ys ++ [y], rfl, hlt', rfl, by rw [List.length_append, List.length_singleton, hyl], ?_, F₄.change hs₅ neL2.symm zD0, ?_, ?_, ?_, ?_⟩
        · exact ⟨oI, hs₅.extBut _ _ ne1 (N₄ _ (.tail _ (.tail _ (.tail _ (.head _))))).1, hoI⟩
        · exact ⟨m', (hoC.ns (N₄ _ (.tail _ (.head _))).1).at' fun o e => hs₅.extBut _ _ ne4.symm e⟩
        · exact ⟨_, oF, hs₅.extBut _ _ ne5.symm (N₄ _ (.head _)).1, hoF⟩
        · intro p hp
          rcases List.mem_cons.mp hp with rfl | hp
          · exact ⟨hD₅.trans (congrArg some (LCg.lst_snoc ys _)), neL2.symm, zD0⟩
          · have z := N₄ p (.tail _ (.tail _ (.tail _ (.tail _ hp))))
            exact ⟨hs₅.extBut _ _ (neN2 p hp) z.1, z.2⟩
        · intro j z hj
          by_cases hjl : j < ys.length
          · rw [List.getElem?_append_left hjl] at hj; exact hR j z hj
          · by_cases hje : j = ys.length
            · subst hje
              rw [List.getElem?_append_right (Nat.le_refl _), Nat.sub_self] at hj
              simp only [List.getElem?_cons_zero, Option.some.injEq] at hj
              rw [← hj, hyl]; exact hRy
            · rw [List.getElem?_eq_none (by rw [List.length_append, List.length_singleton]; omega)] at hj; cases hj
      · obtain rfl : i = vs.length := by omega
        refine W.done _ _ _ (by rw [hsz]; exact ⟨hit, hls'⟩) fun h₂ tk₂ hk₂ => ?_
        have F₂ : Fr h₀ env.locals h₂ m := LCg.fr_but F' hk₂ neL1 zI0
        have N₂ : News h₀ env.locals h₂ ((D, LCg.lst ys) :: news) := LCg.news_but N' hk₂ fun p hp => by
          rcases List.mem_cons.mp hp with rfl | hp
          · exact ne1.symm
          · exact neN1 p hp
        have hn₂ : h₂.Ns C m' := hn'.at' fun o e => hk₂ _ _ (by simpa using ne2.symm) e
        show wpAny _ A (assign (.Name y py) env (.ref D)) _ _ _
        refine wpAny_assign_Name (wpAny_storeName_local hy F₂.ns (fun h₃ hn₃ hs₃ => ?_) hp)
        have F₃ := F₂.set hn₃ hs₃
        have N₃ := N₂.set hs₃
        refine ⟨m', hn₂.sameBut hs₃ neL3.symm, fun h'' hs'' => fin ys hyl hR D h'' _ (F₃.change hs'' neL3.symm zC0) (fun p hp => ⟨hs''.extBut _ _ ?_ (N₃ p hp).1, (N₃ p hp).2⟩) (LCg.Off3.of (I := D) (C := D) (D := D) fun p hp => ⟨neN2 p hp, neN2 p hp, neN2 p hp⟩).one⟩
        rcases List.mem_cons.mp hp with rfl | hp
        · exact ne4
        · exact neN3 p hp
    · obtain ⟨o, e, r⟩ := hI1; exact ⟨o, up4 _ _ (up3 _ _ (up2 _ _ e)), r⟩
    · obtain ⟨m', hn⟩ := hC3; exact ⟨m', hn.at' fun o e => up4 _ _ e⟩
    · intro p hp
      rcases List.mem_cons.mp hp with rfl | hp
      · exact ⟨up4 _ _ (up3 _ _ hD2), neL2.symm, zD0⟩
      · exact ⟨old0 _ _ (N p hp).1, (N p hp).2⟩
  have hls4 : H4.IsList ax vs.toArray := ⟨_, old0 _ _ (N _ hax).1, rfl, _, rfl⟩
  have hit4 : H4.IsListIter I ax 0 := by obtain ⟨o, e, r⟩ := hI1; exact ⟨o, up4 _ _ (up3 _ _ (up2 _ _ e)), r⟩
  exact codeAny_compStart_list (loop _ rfl) (W.self 0 _ _ _ ⟨hit4, hls4⟩ (loop _ rfl))
end

-- RwLa
theorem ints_ex : ∀ (vs : List Value), (∀ v ∈ vs, ∃ n t, v = Value.int n t) → ∃ ns, IntsAre vs ns
  | [], _ => ⟨[], .nil⟩
  | v :: r, h => by
    obtain ⟨n, t, rfl⟩ := h v (by simp)
    obtain ⟨ns, hn⟩ := ints_ex r fun w hw => h w (.tail _ hw)
    exact ⟨n :: ns, .cons n t hn⟩
theorem ints_all {vs : List Value} {ns : List Int} (h : IntsAre vs ns) : ∀ v ∈ vs, ∃ n t, v = Value.int n t := by
  induction h with
  | nil => intro v hv; cases hv
  | cons n t _ ih =>
    intro v hv
    rcases List.mem_cons.mp hv with rfl | hv
    · exact ⟨n, t, rfl⟩
    · exact ih v hv
theorem slice_ints {vs : List Value} {ns : List Int} (h : IntsAre vs ns) (a b c : Option Int) : ∃ ms, IntsAre (slicePick vs.toArray a b c).toList ms := by
  refine ints_ex _ fun v hv => ints_all h v ?_
  unfold slicePick at hv
  simp only [List.mem_filterMap] at hv
  obtain ⟨i, _, hi⟩ := hv
  have : vs[i]? = some v := by simpa using hi
  exact List.mem_of_getElem? this
theorem sum_slice {prog : Program} {w : World} {A : Around} {E : Value → Shared → Prop} {s : Shared} {h₀ : Heap} {L D : Addr} {m : Str → Option Value} {news : List (Addr × Obj)} {vs : List Value} {ns : List Int} {a b c : Option Int} {n : Nat} {Q : Value → Shared → Prop}
    (hh : A.handled = none) (F : Fr h₀ L s.heap m) (N : News h₀ L s.heap news) (hm : (D, ({ cls := .type "list", data := .seq (slicePick vs.toArray a b c) n } : Obj)) ∈ news) (hi : IntsAre vs ns)
    (h : ∀ h' tk t' (n : Int), Fr h₀ L h' m → News h₀ L h' news → Q (.int n t') { s with heap := h', toks := tk }) :
    wpAny (model prog w) A (call (.builtin "sum") [.ref D]) Q E s := by
  obtain ⟨ms, hms⟩ := slice_ints hi a b c
  refine sumK (vs := (slicePick vs.toArray a b c).toList) hh F N ⟨_, (N _ hm).1, rfl, _, rfl⟩ hms fun h' tk t' F' N' => h h' tk t' _ F' N'
theorem news_law1 {h₀ h : Heap} {L : Addr} {a b d c2 c1 t : Addr × Obj} (N : News h₀ L h [a, b, d, c2, c1, t]) : News h₀ L h [t, a, b, c2, c1] := by
  refine news_sub N fun p hp => ?_
  simp only [List.mem_cons, List.not_mem_nil, or_false] at hp ⊢
  rcases hp with h | h | h | h | h <;> simp [h]
theorem sys_eq (P : List (Nat × Nat)) : sys P = (P.map (·.2)).map fun (n : Nat) => (n : Int) := by
  rw [List.map_map]; rfl
theorem news_lex {h₀ h : Heap} {L : Addr} {w : World} (sx : Sx) {x d l : Addr} {n : Nat} {a1 a2 a3 a4 tw tl : Tok} {ln pos : Int} {tp : Tok} {ep : Nat} {rest : List (Addr × Obj)}
    (N : News h₀ L h ((l, W.listOf #[] n) :: (x, instObj 67 d) :: (d, dictOf [⟨PyData.keyHash w.params "lineno", .str "lineno" a1, .int ln tl⟩, ⟨PyData.keyHash w.params "instream", .str "instream" a2, .ref sx.f⟩, ⟨PyData.keyHash w.params "whitespace", .str "whitespace" a3, .str ws tw⟩, ⟨PyData.keyHash w.params "pushback", .str "pushback" a4, .ref l⟩] 4) :: sx.led pos tp ep rest)) :
    News h₀ L h (Lx.led w ⟨sx, x, d, l, a1, a2, a3, a4, tw⟩ ln tl #[] n pos tp ep rest) := by
  refine news_sub N fun p hp => ?_
  have e1 : Lx.led w ⟨sx, x, d, l, a1, a2, a3, a4, tw⟩ ln tl #[] n pos tp ep rest = sx.led pos tp ep [] ++ ((x, instObj 67 d) :: (d, dictOf [⟨PyData.keyHash w.params "lineno", .str "lineno" a1, .int ln tl⟩, ⟨PyData.keyHash w.params "instream", .str "instream" a2, .ref sx.f⟩, ⟨PyData.keyHash w.params "whitespace", .str "whitespace" a3, .str ws tw⟩, ⟨PyData.keyHash w.params "pushback", .str "pushback" a4, .ref l⟩] 4) :: (l, W.listOf #[] n) :: rest) := rfl
  have e2 : sx.led pos tp ep rest = sx.led pos tp ep [] ++ rest := rfl
  rw [e1, List.mem_append] at hp
  rw [e2]
  simp only [List.mem_cons, List.mem_append] at hp ⊢
  rcases hp with h | h | h | h | h
  · exact .inr (.inr (.inr (.inl h)))
  · exact .inr (.inl h)
  · exact .inr (.inr (.inl h))
  · exact .inl h
  · exact .inr (.inr (.inr (.inr h)))
theorem range_led {prog : Program} {w : World} {A : Around} {E : Value → Shared → Prop} {s : Shared} {h₀ : Heap} {L : Addr} {m : Str → Option Value} {news : List (Addr × Obj)} {a b : Int} {t u : Tok} {Q : Value → Shared → Prop}
    (F : Fr h₀ L s.heap m) (N : News h₀ L s.heap news)
    (h : ∀ (r : Addr) (h' : Heap) (tk : Nat) (v : Tok), Fr h₀ L h' m → News h₀ L h' ((r, { cls := .type "range", data := .fields #[.int a t, .int b u, .int 1 v] }) :: news) → (∀ p ∈ news, @LT.lt Nat _ p.1 r) → Q (.ref r) { s with heap := h', toks := tk }) :
    wpAny (model prog w) A (call (.type "range") [.int a t, .int b u]) Q E s :=
  call_range_2 (h _ _ _ _ (F.push _) (N.push F _) fun p hp => Heap.lt_size (N p hp).1)
theorem strs_reads {h : Heap} {vs : List Value} {ss : List Str} (a : StrsAre vs ss) : ∃ as, ReadsAll h vs (ss.map PyData.str) as := by
  induction a with
  | nil => exact ⟨[], ReadsAll.nil⟩
  | cons x t _ ih => obtain ⟨as, r⟩ := ih; exact ⟨_, ReadsAll.cons (Reads.str _ _) r⟩
theorem strs_canLay : ∀ ss : List Str, (∀ x ∈ ss, PyData.strOk x = true) → PyData.canLayAll0 (ss.map PyData.str) = true
  | [], _ => rfl
  | x :: r, h => by simp [PyData.canLayAll0, PyData.canLay0, strs_canLay r fun y hy => h y (.tail _ hy), h x (by simp)]
theorem jn_all (p : Nat → Prop) (h1 : p 44) (h2 : p 32) : ∀ L : List (List Nat), (∀ l ∈ L, ∀ c ∈ l, p c) → ∀ c ∈ jn L, p c
  | [], _, c, hc => by simp [jn] at hc
  | [a], h, c, hc => h a (by simp) c (by simpa [jn] using hc)
  | a :: b :: r, h, c, hc => by
    simp only [jn, List.mem_append, List.mem_cons] at hc
    rcases hc with hc | rfl | rfl | hc
    · exact h a (by simp) c hc
    · exact h1
    · exact h2
    · exact jn_all p h1 h2 (b :: r) (fun l hl => h l (.tail _ hl)) c hc
theorem ok_of (x : Str) (h : ∀ c ∈ x.cps.toList, c < 128) : PyData.strOk x = true := by
  unfold PyData.strOk
  rw [← Array.all_toList, List.all_eq_true]
  intro c hc
  have := h c hc
  exact decide_eq_true (by omega)
theorem pf_ok (n : Nat) (hn : n < 2 ^ 36) : PyData.strOk (pf n) = true := by
  refine ok_of _ ?_
  rw [pf, join_jn]
  refine jn_all _ (by decide) (by decide) _ ?_
  intro l hl
  obtain ⟨x, hx, rfl⟩ := List.mem_map.mp hl
  have hh : n / 2 ^ 32 < 16 := Nat.div_lt_of_lt_mul (by omega)
  rcases (pfW_mem n x).mp hx with ⟨k, hk, _, rfl⟩ | ⟨_, rfl⟩
  · have h' : ∀ j : Fin 32, ∀ c ∈ (nm j.1).cps.toList, c < 128 := by decide +kernel
    exact h' ⟨k, hk⟩
  · have h' : ∀ j : Fin 16, ∀ c ∈ (hw j.1).cps.toList, c < 128 := by decide +kernel
    exact h' ⟨_, hh⟩
theorem strs_depth : ∀ ss : List Str, PyData.depthAll (ss.map PyData.str) ≤ 1
  | [] => by simp [PyData.depthAll]
  | _ :: r => by have := strs_depth r; simp [PyData.depthAll, PyData.depth]; omega
theorem strs_shaped (ss : List Str) (ho : ∀ x ∈ ss, PyData.strOk x = true) : SeqAt.shaped (.list (ss.map PyData.str)) = true := by
  have := strs_depth ss
  unfold SeqAt.shaped
  rw [Bool.and_eq_true]
  refine ⟨?_, decide_eq_true ?_⟩
  · rw [PyData.canLay0]; exact strs_canLay ss ho
  · rw [PyData.depth]; omega
theorem ne_strs {prog : Program} {w : World} {A : Around} {E : Value → Shared → Prop} {s : Shared} {h₀ : Heap} {L D1 D2 : Addr} {news : List (Addr × Obj)} {vs1 vs2 : List Value} {n1 n2 : Nat} {ss : List Str} {Q : Value → Shared → Prop}
    (N : News h₀ L s.heap news) (m1 : (D1, ({ cls := .type "list", data := .seq vs1.toArray n1 } : Obj)) ∈ news) (m2 : (D2, ({ cls := .type "list", data := .seq vs2.toArray n2 } : Obj)) ∈ news) (a1 : StrsAre vs1 ss) (a2 : StrsAre vs2 ss) (ho : ∀ x ∈ ss, PyData.strOk x = true) (hu : A.units + 64 < cLine)
    (h : Q (.bool false) s) : wpAny (model prog w) A (compareOp .NotEq (.ref D1) (.ref D2)) Q E s := by
  obtain ⟨as, r1⟩ := strs_reads (h := s.heap) a1
  obtain ⟨bs, r2⟩ := strs_reads (h := s.heap) a2
  refine ne_dataH (reads_list_at (N _ m1).1 rfl rfl r1) (reads_list_at (N _ m2).1 rfl rfl r2) (strs_shaped ss ho) (strs_shaped ss ho) hu ?_
  rw [SeqAt.eqv_refl _ (by rw [PyData.canLay0]; exact strs_canLay ss ho)]
  exact h
theorem shr_bit (x k : Nat) : Builtin.bitAnd (Int.fdiv (x : Int) (2 ^ k)) 1 = if x.testBit k = true then 1 else 0 := by
  have e : Int.fdiv (x : Int) (2 ^ k) = ((x / 2 ^ k : Nat) : Int) := by
    rw [← kbt_cast k, Int.fdiv_eq_ediv_of_nonneg _ (Int.natCast_nonneg _)]; rfl
  have := band_bit (x / 2 ^ k) 0
  rw [e, show (1 : Int) = ((2 ^ 0 : Nat) : Int) from rfl, this, tb_iff]
  generalize x / 2 ^ k = q
  by_cases h : q % 2 = 1
  · rw [decide_eq_true h, if_pos rfl]; simp [h]
  · have h0 : q % 2 = 0 := by omega
    rw [decide_eq_false h, if_neg (by decide)]; simp [h0]
section
variable {prog : Program} {w : World} {A : Around} {h₀ : Heap} {L : Addr} {m : Str → Option Value} {env : Env} {ct elt : Expr} {x : Str} {scope : Scope} {cl : List (Str × Addr)} {s : Shared} {Z : List (Addr × Obj) → Prop} {P : Nat → Value → Prop} {Fin : List Value → List (Addr × Obj) → Prop} {news : List (Addr × Obj)}
/-- a comprehension with one test, that keeps the ledger -/
theorem comp_restT {n : Nat} (keep : Nat → Bool) (g : Nat → Int)
    (turn : ∀ i v I oI C oC D m₂ ys h tk (E' : Value → Shared → Prop), i < n → P i v → LCg.NsObj oC m₂ → m₂ x = some v → Fr h₀ L h m → News h₀ L h ((I, oI) :: (C, oC) :: (D, LCg.lst ys) :: news) → LCg.Off3 I C D news → ((@Ne Nat I C) ∧ (@Ne Nat I D) ∧ (@Ne Nat C D)) →
      wpAny (model prog w) A (isTrue ct (compEnvC scope cl C env) (eval ct (compEnvC scope cl C env))) (fun ok s' => if ok = true then
        wpAny (model prog w) A (eval elt (compEnvC scope cl C env)) (LCg.CompEnd h₀ L m { s with heap := h, toks := tk } I oI C oC D (LCg.lst ys) Z (fun y news' => news' = news ∧ keep i = true ∧ ∃ t, y = Value.int (g i) t)) E' s'
        else LCg.CompEnd h₀ L m { s with heap := h, toks := tk } I oI C oC D (LCg.lst ys) Z (fun _ news' => news' = news ∧ keep i = false) Value.none s') E' { s with heap := h, toks := tk })
    (fin : ∀ ys, IntsAre ys (((List.range n).filter keep).map g) → Fin ys news) : LCt.CompRestT prog w A h₀ L m env ct elt x scope cl s Z P Fin n 0 [] news := by
  have key : ∀ (j i : Nat) (ys : List Value), i + j = n → IntsAre ys (((List.range i).filter keep).map g) → LCt.CompRestT prog w A h₀ L m env ct elt x scope cl s Z P Fin j i ys news := by
    intro j
    induction j with
    | zero => intro i ys hi hy; exact LCt.CompRestT.zero (fin ys (by rw [show n = i from by omega]; exact hy))
    | succ j ih =>
      intro i ys hi hy
      refine LCt.CompRestT.succ ?_
      intro v I oI C oC D m₂ h tk E' hv hC hx F N off ne
      refine wpAny_mono (turn i v I oI C oC D m₂ ys h tk E' (by omega) hv hC hx F N off ne) (fun ok s₂ hq => ?_) fun _ _ e => e
      cases ok with
      | true =>
        simp only [if_true] at hq ⊢
        refine wpAny_mono hq (fun y s₃ hq => ?_) fun _ _ e => e
        obtain ⟨h', tk', nw, e, F', N', off', hS, hn, hk, t, rfl⟩ := hq
        subst hn
        refine ⟨h', tk', nw, e, F', N', off', hS, ih (i + 1) _ (by omega) ?_⟩
        rw [List.range_succ, List.filter_append, List.map_append, show [i].filter keep = [i] from by simp [hk]]
        exact ints_snoc hy _ _
      | false =>
        simp only [Bool.false_eq_true, if_false] at hq ⊢
        obtain ⟨h', tk', nw, e, F', N', off', hS, hn, hk⟩ := hq
        subst hn
        refine ⟨h', tk', nw, e, F', N', off', hS, ih (i + 1) _ (by omega) ?_⟩
        rw [List.range_succ, List.filter_append, List.map_append, show [i].filter keep = [] from by simp [hk], List.map_nil, List.append_nil]
        exact hy
  exact key n 0 [] (by omega) .nil
end
theorem lex_ex {h₀ h : Heap} {L : Addr} {w : World} (sx : Sx) {x d l : Addr} {n : Nat} {a1 a2 a3 a4 tw tl : Tok} {ln pos : Int} {tp : Tok} {ep : Nat} {rest : List (Addr × Obj)}
    (N : News h₀ L h ((l, W.listOf #[] n) :: (x, instObj 67 d) :: (d, dictOf [⟨PyData.keyHash w.params "lineno", .str "lineno" a1, .int ln tl⟩, ⟨PyData.keyHash w.params "instream", .str "instream" a2, .ref sx.f⟩, ⟨PyData.keyHash w.params "whitespace", .str "whitespace" a3, .str ws tw⟩, ⟨PyData.keyHash w.params "pushback", .str "pushback" a4, .ref l⟩] 4) :: sx.led pos tp ep rest)) :
    ∃ b : Lx, b.toSx = sx ∧ b.x = x ∧ b.dx = d ∧ b.pb = l ∧ News h₀ L h (b.led w ln tl #[] n pos tp ep rest) := ⟨⟨sx, x, d, l, a1, a2, a3, a4, tw⟩, rfl, rfl, rfl, rfl, news_lex sx N⟩
section
variable {h₀ h : Heap} {L : Addr} {w : World} {b : Lx} {ln : Int} {tl : Tok} {pb : Array Value} {en : Nat} {pos : Int} {tp : Tok} {ep : Nat} {d t a b' c2 c1 r e : Addr × Obj} {rest : List (Addr × Obj)}
theorem news_law2 (N : News h₀ L h (d :: b.led w ln tl pb en pos tp ep [t, a, b', c2, c1])) : News h₀ L h (c2 :: c1 :: b' :: d :: b.led w ln tl pb en pos tp ep [t]) := by
  refine news_sub N fun p hp => ?_
  have e1 : b.led w ln tl pb en pos tp ep [t, a, b', c2, c1] = b.led w ln tl pb en pos tp ep [] ++ [t, a, b', c2, c1] := rfl
  have e2 : b.led w ln tl pb en pos tp ep [t] = b.led w ln tl pb en pos tp ep [] ++ [t] := rfl
  rw [e1]
  rw [e2] at hp
  simp only [List.mem_cons, List.mem_append, List.not_mem_nil, or_false] at hp ⊢
  rcases hp with h | h | h | h | h | h <;> simp [h]
theorem news_law3 (N : News h₀ L h (r :: c2 :: c1 :: b' :: rest)) : News h₀ L h (b' :: r :: c2 :: c1 :: rest) := by
  refine news_sub N fun p hp => ?_
  simp only [List.mem_cons] at hp ⊢
  rcases hp with h | h | h | h | h <;> simp [h]
end
theorem led_range {h₀ h : Heap} {L r : Addr} {news : List (Addr × Obj)} {a b : Int} {t u v : Tok} (N : News h₀ L h news) (hm : (r, ({ cls := .type "range", data := .fields #[.int a t, .int b u, .int 1 v] } : Obj)) ∈ news) : IsRange h r a b 1 t u v := (N _ hm).1
theorem ps_eq (x first n : Nat) : (((List.range n).filter fun i => x.testBit (first + i)).map fun i => ((first + i : Nat) : Int)) = (((List.range n).map (first + ·)).filter (fun k => x.testBit k)).map fun (k : Nat) => (k : Int) := by
  rw [List.filter_map, List.map_map]; rfl
theorem strs_ofG : ∀ (L : List Str) (ys : List Value), ys.length = L.length → (∀ (i : Nat) (y : Value), ys[i]? = some y → ∃ (x : Str) (t : Tok), L[i]? = some x ∧ y = Value.str x t) → StrsAre ys L
  | [], ys, h, _ => by simp at h; subst h; exact .nil
  | l :: r, [], h, _ => by simp at h
  | l :: r, y :: z, h, hy => by
    obtain ⟨x, t, e1, e2⟩ := hy 0 y rfl
    simp at e1; subst e1; subst e2
    exact .cons _ t (strs_ofG r z (by simpa using h) fun i y hi => hy (i + 1) y (by simpa using hi))
theorem strs_app_inv : ∀ {r : List Str} {x : Str} {vs : List Value}, StrsAre vs (r ++ [x]) → ∃ vi t, vs = vi ++ [Value.str x t] ∧ StrsAre vi r
  | [], x, vs, h => by
    obtain ⟨t, v', rfl, h'⟩ := strs_cons h
    cases h' with
    | nil => exact ⟨[], t, rfl, .nil⟩
  | a :: r, x, vs, h => by
    obtain ⟨t, v', rfl, h'⟩ := strs_cons h
    obtain ⟨vi, u, rfl, h2⟩ := strs_app_inv h'
    exact ⟨.str a t :: vi, u, rfl, .cons _ t h2⟩
theorem fl_last (first : Nat) (ts : List Nat) (hs : ts.sum + 1 = ts.length) : ∃ xl, fl first ts = (fl first ts).take ts.sum ++ [xl] ∧ (fl first ts).drop ts.sum = [xl] ∧ xl ∈ fl first ts := by
  have hl : ts.sum < (fl first ts).length := by rw [fl_length]; omega
  have e : (fl first ts).drop ts.sum = [(fl first ts)[ts.sum]] := by
    rw [List.drop_eq_getElem_cons hl, List.drop_of_length_le (by rw [fl_length]; omega)]
  exact ⟨_, by rw [← e, List.take_append_drop], e, List.getElem_mem hl⟩
theorem count_nl (l : List Nat) : Txt.count (S l) (Str.ofString "\n") = ((l.count 10 : Nat) : Int) := by
  rw [ofString_nl, count_is, countIn_signs_sum]
  induction l with
  | nil => rfl
  | cons c r ih =>
    have e : (S (c :: r)).cps.toList = c :: (S r).cps.toList := by simp
    rw [e, List.map_cons, List.sum_cons, ih]
    by_cases h : c = 10
    · subst h; simp; omega
    · simp [h]
theorem textS_count (ss : List Nat) (total : Int) : (textS ss total).count 10 = (octA ss).count 10 := by
  rw [← words_cat ss total]
  unfold textS
  simp only [List.count_append, count_spelled, List.flatten_cons, List.flatten_nil, List.append_nil]
theorem news_law4 {h₀ h : Heap} {L : Addr} {a x1 x2 x3 x4 x5 x6 : Addr × Obj} {R : List (Addr × Obj)} (N : News h₀ L h (a :: x1 :: x2 :: x3 :: x4 :: x5 :: x6 :: R)) : News h₀ L h (a :: R) := by
  refine news_sub N fun p hp => ?_
  simp only [List.mem_cons] at hp ⊢
  rcases hp with h | h <;> simp [h]
theorem item_last_led {prog : Program} {w : World} {A : Around} {E : Value → Shared → Prop} {s : Shared} {h₀ : Heap} {L D : Addr} {news : List (Addr × Obj)} {vi : List Value} {v : Value} {n : Nat} {value slice : Expr} {u : Tok} {Q : Value → Shared → Prop}
    (N : News h₀ L s.heap news) (hm : (D, ({ cls := .type "list", data := .seq (vi ++ [v]).toArray n } : Obj)) ∈ news) (h : Q v s)
    (hs : subscripted slice false (.ref D) (.int (-1) u) = operate [.ref D, .int (-1) u] (getItem (.ref D) (.int (-1) u)) := by with_unfolding_all rfl) (hg : ∀ r, letTemporaryGo value (.ref D) r = pure () := by intro _; with_unfolding_all rfl) :
    wpAny (model prog w) A (subscriptTail value slice (.ref D) (.int (-1) u)) Q E s := item_last ⟨_, (N _ hm).1, rfl, _, rfl⟩ h hs hg
theorem eq_same {prog : Program} {w : World} {A : Around} {E : Value → Shared → Prop} {s : Shared} {a b : Int} {t u : Tok} {Q : Value → Shared → Prop} (e : a = b) (h : Q (.bool true) s) : wpAny (model prog w) A (compareOp .Eq (.int a t) (.int b u)) Q E s := by
  subst e
  exact IsLeap.wpAny_eq_int' (by rw [beq_self_eq_true]; exact h)

example : True := by
  k_with "call builtin:sum" => ((with_reducible show wpAny _ _ (call (Value.builtin "sum") [Value.ref _]) _ _ _); k_dflt (refine' sum_slice (by with_unfolding_all rfl) (by k_asm) (by k_asm) (by k_mem) (by assumption) ?_); intro h9w tk9w t9w n9w F9w N9w)
  k_with "call type:range" => ((with_reducible show wpAny _ _ (call (Value.type "range") [Value.int _ _, Value.int _ _]) _ _ _); k_dflt (refine' range_led (by k_asm) (by k_asm) ?_); intro r9w h9w tk9w v9w F9w N9w l19w; (try k_lt l19w))
  k_with "exec Assign cons ListComp" => (k_dflt (refine Assign_cell (F₀ := by k_asm) (by rfl) (by with_unfolding_all rfl) (by with_unfolding_all rfl) (by intro n9w; rfl) (by intro h9w; rfl) (by rfl) (by decide) (by rfl) (by rfl) (by rfl) ?_))
  k_with "CellSrc" => (refine stop_at ?_)
  k_with "CompSrcT" => (refine stop_at ?_)
  k_with "eval ListComp" => ((with_reducible show wpAny _ _ (eval (Expr.ListComp _ [⟨_, _, [_], _⟩] _ _) _) _ _ _); k_dflt (refine LCt.ListComp_T (F₀ := by k_asm) (by with_unfolding_all rfl) (by decide) (by rfl) (by decide) (by rfl) ?_))
  k_with "compareOp NotEq ref ref" => (refine stop_at ?_)
  k_with "subscriptTail" => ((with_reducible show wpAny _ _ (subscriptTail _ _ (Value.ref _) (Value.int (-1) _)) _ _ _); refine stop_at ?_)
  k_with "call ref" => (refine stop_call (by decide) ?_)
  trivial
example : True := by
  k_with "compareOp Eq int int" => (refine stop_at ?_)
  k_with "getMethod str" => ((with_reducible show wpAny _ _ (getMethod (Value.str _ _) (PySem.Str.ofString "count") _) _ _ _); refine GM.count ?_)
  k_with "call builtin:str.count" => ((with_reducible show wpAny _ _ (call (Value.builtin "str.count") [Value.str _ _, Value.str _ _]) _ _ _); refine SC.count ?_)
  trivial
set_option maxRecDepth 100000 in
set_option maxHeartbeats 32000000 in
theorem law_holds : PySem.Challenge.rw_rw0020_01.Holds := Mine.hd (by
  k_go0
  (all_goals try k_fold)
  k_steps
  rename Fr _ _ _ _ => F
  rename News _ _ _ _ => N
  rename IsRange _ _ _ _ _ _ _ _ => hr
  (try dsimp only)
  refine LCg.CompSrc.range (n := 8) rfl F N hr (by decide) (by decide) (by decide) ?_
  intro g
  (try dsimp only)
  refine comp_rest (fun i y => ∃ n t, y = Value.int n t) ?_ ?_
  · intro i v I oI C oC D m₂ ys h tk E' hi hv hC hx F N off ne
    obtain ⟨tv, rfl⟩ := hv
    k_steps
    rename Fr _ _ _ _ => F9
    rename News _ _ _ _ => N9
    exact comp_end F9 (fun p hp => N9 p (by
      rcases List.mem_cons.mp hp with rfl | hp
      · repeat (first | exact .head _ | refine .tail _ ?_)
      · repeat (first | exact hp | refine .tail _ ?_))) off trivial ⟨rfl, _, _, rfl⟩
  · intro ys hyl hy
    clear F N hr
    obtain ⟨cs, hcs⟩ := ints_ex ys fun v hv => by
      obtain ⟨i, hi⟩ := List.mem_iff_getElem?.mp hv
      exact hy i v hi
    k_steps
    rename Fr _ _ _ _ => F
    rename News _ _ _ _ => N
    rename Below _ _ _ _ => B
    rename Frag.In _ _ => X
    rename Top _ _ _ _ _ _ => T
    refine Claim.go F N B X T rfl (program_ok _ _ _ _ _ cs hcs (by rw [← hcs.length, hyl])) (by ktr_room) (by ktr_units) ⟨by k_all, ?_⟩
    intro P tv sv te se h2 tk2 a b D hP hPs h12 h8 hTk hSy hlt F N
    obtain ⟨hl1, hl2, hl3⟩ := hlt
    have hl4 := hl1
    have hl5 := hl2
    have hl6 := hl3
    dsimp only [Lts] at hl4 hl5 hl6
    k_steps
    rename Fr _ _ _ _ => F
    rename News _ _ _ _ => N
    have hss12 : (P.map (·.2)).length ≤ 12 := by rw [List.length_map]; exact h12
    have htxl := text_le (P.map (·.2))
    refine Claim.go F (fun p hp => N p (.tail _ hp)) B X T rfl (text_ok _ _ _ _ _ (P.map (·.2)) (by rw [← sys_eq]; exact hSy) hss12 (fun n hn => sym_lt hP (List.mem_append_left _ hn)) _ _) (by ktr_room) (by ktr_units) ⟨by k_all, ?_⟩
    intro tx h3 tk3 F N
    k_steps
    rename Fr _ _ _ _ => F
    rename News _ _ _ _ => N
    refine Claim.go F (news_law1 N) B X T rfl (stream_ok _ _ _ _ (Nat.le_trans (htxl _ hss12) (by decide))) (by ktr_room) (by ktr_units) ⟨codeHd, by k_all, ?_⟩
    intro sx p87 tp ep h4 tk4 F N hch hlt4 h87 hR
    have hall : ∀ p ∈ (87, tabObj p87) :: _, @LT.lt Nat _ p.1 sx.ct := List.forall_mem_cons.mpr ⟨h87, hlt4⟩
    have hlt4n := hall
    k_lt hlt4n
    unfold Sx.Chain at hch
    k_steps
    rename Fr _ _ _ _ => F
    rename News _ _ _ _ => N
    have hfm : ∀ z : Int, Int.fmod z 25 = (((Int.fmod z 25).toNat : Nat) : Int) := fun z => by
      have := Int.fmod_nonneg_of_pos z (b := 25) (by decide); omega
    have hfl : ∀ z : Int, (Int.fmod z 25).toNat < 25 := fun z => by
      have := Int.fmod_lt_of_pos z (b := 25) (by decide); have := Int.fmod_nonneg_of_pos z (b := 25) (by decide); omega
    rw [hfm] at F ⊢
    generalize hxf : (Int.fmod (7 + _) 25).toNat = first at F ⊢
    have hfirst : first < 25 := hxf ▸ hfl _
    obtain ⟨bx, e1, e2, e3, e4, N2⟩ := lex_ex sx N
    clear N
    subst e1 e2 e3 e4
    have hbx : bx.Chain := by dsimp only [Lts] at *; simp only [Lx.Chain]; omega
    refine Claim.go F N2 B X T rfl (run_c _ _ bx hbx P hP hPs h12 h8 _ hR _ _ _ _ first hfirst _ (fun p hp => by have := hall p hp; dsimp only [Lts] at *; refine Nat.ne_of_lt ?_; omega) (fun p hp => by have := hall p hp; dsimp only [Lts] at *; refine Nat.ne_of_lt ?_; omega) (fun p hp => by have := hall p hp; dsimp only [Lts] at *; refine Nat.ne_of_lt ?_; omega)) (by ktr_room) (by ktr_units) ?_
    intro told pv te5 en5 tl5 tp5 ep5 D5 h5 tk5 hTd hPv hlt5 hpb5 F N
    k_lt hlt5
    have N3 := news_law2 N
    clear N N2
    k_steps
    rename Fr _ _ _ _ => F
    rename News _ _ _ _ => N
    refine Claim.go F (news_law3 N) B X T rfl (sets_c _ _ _ _ _ P hTk h12 (by omega) hPs hP.part first hfirst _) (by ktr_room) (by ktr_units) ⟨by k_all, ?_⟩
    intro fv D6 h6 tk6 hfv hlt6 F N
    k_lt hlt6
    k_steps
    rename Fr _ _ _ _ => F
    rename News _ _ _ _ => N
    have hnl : (P.map (·.1)).length = P.length := List.length_map _
    have hfvl : fv.length = P.length := by rw [hfv.length, List.length_map, (flF_len _ _).1, hnl]
    refine ⟨D6, fv, 0, _, fun i y => ∃ x t, (fl first (P.map (·.1)))[i]? = some x ∧ y = Value.str (pf x) t, rfl, rfl, F, N, .head _, by omega, ?_, ?_⟩
    · intro i v I C CF D oI oC oF ys7 h7 tk7 E7 hv hoF F N hord
      obtain ⟨o1, o2, o3, o4⟩ := hord
      have o5 := o4
      k_lt o5
      obtain ⟨x, tx, hx, rfl⟩ := nat_at (ss := fl first (P.map (·.1))) rfl hfv (i := i) (v := v) (by simpa using hv)
      k_steps
      rename Fr _ _ _ _ => F
      rename News _ _ _ _ => N
      refine LCt.CompSrcT.range (n := P.length) rfl F N (led_range N (by k_mem)) (small_one (by omega) (by omega) (by omega) (by omega)) (by rw [rangeSize_nat]; omega) (by rw [PySem.sizeLine_eq]; omega) ?_
      intro g7
      refine comp_restT (fun j => x.testBit (first + j)) (fun j => ((first + j : Nat) : Int)) ?_ ?_
      · intro j v8 J oJ C8 oC8 D8 m8 ys8 h8' tk8 E8 hj hv8 hC8 hx8 F N off8 ne8
        obtain ⟨tv8, rfl⟩ := hv8
        have hb := shr_bit x (first + j)
        have e8 : ((first : Int) + (j : Int)).toNat = first + j := by omega
        k_steps
        · rename Fr _ _ _ _ => F9
          rename News _ _ _ _ => N9
          rename Builtin.bitAnd _ _ ≠ 0 => hne
          rw [e8, hb] at hne
          have ht : x.testBit (first + j) = true := by
            cases q : x.testBit (first + j) with
            | true => rfl
            | false => rw [q] at hne; exact absurd rfl hne
          exact comp_end F9 N9 off8 trivial ⟨rfl, ht, _, by rw [Int.natCast_add]⟩
        · rename Fr _ _ _ _ => F9
          rename News _ _ _ _ => N9
          rename Builtin.bitAnd _ _ = 0 => hne
          rw [e8, hb] at hne
          have ht : x.testBit (first + j) = false := by
            cases q : x.testBit (first + j) with
            | false => rfl
            | true => rw [q] at hne; exact absurd hne (by decide)
          exact comp_end F9 N9 off8 trivial ⟨rfl, ht⟩
      · intro ys8 hys8
        k_steps
        rename Fr _ _ _ _ => F
        rename News _ _ _ _ => N
        have hbits := (fl_bits first _ i x hx).2
        have hil := (List.getElem?_eq_some_iff.mp hx).1
        rw [fl_length, hnl] at hil
        have hb36 : ∀ k, x.testBit k = true → first ≤ k ∧ k < first + P.length := fun k hk => ⟨(hbits k hk).1, Nat.lt_of_le_of_lt (hbits k hk).2 (Nat.add_lt_add_left hil _)⟩
        have hx36 := fl_lt first _ hfirst (by omega) x (List.mem_of_getElem? hx)
        have hpl : (((List.range P.length).map (first + ·)).filter (fun k => x.testBit k)).length ≤ 36 := by
          refine Nat.le_trans (List.length_filter_le _ _) ?_
          rw [List.length_map, List.length_range]; omega
        have hpb : ∀ p ∈ ((List.range P.length).map (first + ·)).filter (fun k => x.testBit k), p < 36 := fun p hp => by
          obtain ⟨j, hj, rfl⟩ := List.mem_map.mp (List.mem_filter.mp hp).1
          have := List.mem_range.mp hj; omega
        refine Claim.go F N B X T rfl (words_c _ _ _ _ _ (((List.range P.length).map (first + ·)).filter (fun k => x.testBit k)) (by rw [← ps_eq]; exact hys8) hpl hpb (hsum_lt x hx36 first P.length (by omega) hb36)) (by ktr_room) (by ktr_units) ⟨by k_all, ?_⟩
        intro t9 h9 tk9 F N
        rw [lw_pf x first P.length hx36 (by omega) hb36]
        exact ⟨h9, tk9, rfl, F, fun p hp => N p (.tail _ hp), x, t9, hx, rfl⟩
    · intro ys7 hyl7 hR7
      k_steps
      rename Fr _ _ _ _ => F
      rename News _ _ _ _ => N
      have hdue : StrsAre ys7 ((fl first (P.map (·.1))).map pf) := by
        refine strs_ofG _ _ (by rw [hyl7, hfvl, List.length_map, fl_length, hnl]) fun i y hi => ?_
        obtain ⟨x, t, hx, e⟩ := hR7 i y hi
        exact ⟨pf x, t, by rw [List.getElem?_map, hx]; rfl, e⟩
      obtain ⟨xl, hxl1, hxl2, hxm⟩ := fl_last first (P.map (·.1)) (by rw [hPs, hnl])
      have hx36 := fl_lt first _ hfirst (by omega) xl hxm
      have hokl : ∀ x ∈ (fl first (P.map (·.1))).map pf, PyData.strOk x = true := fun x hx => by
        obtain ⟨y, hy, rfl⟩ := List.mem_map.mp hx
        exact pf_ok y (fl_lt first _ hfirst (by omega) y hy)
      refine ne_strs N (by k_mem) (by k_mem) hTd hdue hokl (by ktr_units) ?_
      k_steps
      rename Fr _ _ _ _ => F
      rename News _ _ _ _ => N
      have hbu := hbx
      simp only [Lx.Chain] at hbu
      have h87n : @LT.lt Nat _ 87 bx.ct := hall _ (.head _)
      have N4 := news_law4 N
      clear N
      have htl := text_le (P.map (·.2))
      rw [hxl2] at hPv
      obtain ⟨t9, pv', rfl, hpv'⟩ := strs_cons hPv
      cases hpv'
      refine Claim.go F (news_inL [_] N4) B X T rfl (pop_c _ bx hbx _ _ _ [] _ _ _ _ _ (by k_all) (by decide)).toClaim (by ktr_room) (by ktr_units) ?_
      intro en9 h9 tk9 F N
      clear N4
      k_steps
      rename Fr _ _ _ _ => F
      rename News _ _ _ _ => N
      refine Claim.go F N B X T rfl (gettok_e _ _ bx hR hbx _ _ _ _ _ _ _ (by k_all) (by k_all) (Nat.le_trans (htl _ hss12) (by decide)) (List.drop_length ..)).toClaim (by ktr_room) (by ktr_units) ?_
      intro t10 tl10 tp10 ep10 h10 tk10 F N
      k_steps
      rename Fr _ _ _ _ => F
      rename News _ _ _ _ => N
      rw [hxl1, List.map_append] at hdue
      obtain ⟨vi, tv9, hvi, hvi2⟩ := strs_app_inv hdue
      subst hvi
      refine item_last_led N (by k_mem) ?_
      k_steps
      rename Fr _ _ _ _ => F
      rename News _ _ _ _ => N
      have hok2 : ∀ x ∈ [pf xl, S []], PyData.strOk x = true := fun x hx => by
        rcases List.mem_cons.mp hx with rfl | hx
        · exact pf_ok xl hx36
        · rw [List.mem_singleton.mp hx]; decide +kernel
      have hcn : ∀ z : Int, Txt.count (S (textS (P.map (·.2)) z)) (Str.ofString "\n") = (((octA (P.map (·.2))).count 10 : Nat) : Int) := fun z => by rw [count_nl, textS_count]
      refine ne_strs (ss := [pf xl, S []]) (vs1 := [Value.str (pf xl) _, Value.str (S []) _]) (vs2 := [Value.str (pf xl) _, Value.str (Str.ofString "") _]) N (.tail _ (.head _)) (.head _) (.cons _ _ (.cons _ _ .nil)) (by rw [S_nil]; exact .cons _ _ (.cons _ _ .nil)) hok2 (by ktr_units) ?_
      k_steps
      refine eq_same (by rw [hcn]) ?_
      rename Fr _ _ _ _ => F
      rename News _ _ _ _ => N
      refine ⟨goodW_bool F (by assumption) (raisesW_false ?_) ?_, GrownAt.of N (by k_mem), trivial⟩
      · wrow_none_raised
      · wrow_post)
end Mine
theorem PySem.Challenge.cw_rw0020_01_holds : PySem.Challenge.rw_rw0020_01.Holds :=
  Mine.law_holds
