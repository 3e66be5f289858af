import PyProof.Rows.All
import Wide.All
import OpenK.AllK
import Wide.FinOn
import Lean
import PySem.Challenge.RW_wa0002_01
open PySem PySem.W PyProof.Rows
set_option Elab.async false
namespace Mine
/-- the end of a turn: the frame's map meets J, the ledger holds led -/
def EndI (h₀ : Heap) (L : Addr) (s₁ : Shared) (led : List (Addr × Obj)) (J : (Str → Option Value) → Prop) (s₂ : Shared) : Prop :=
  ∃ h' tk m', s₂ = { s₁ with heap := h', toks := tk } ∧ Fr h₀ L h' m' ∧ News h₀ L h' led ∧ J m'
def PostI (h₀ : Heap) (L : Addr) (s₁ : Shared) (led : List (Addr × Obj)) (J : (Str → Option Value) → Prop) (Q : Flow → Shared → Prop) (f : Flow) (s₂ : Shared) : Prop :=
  match f with
  | .ret v => Q (.ret v) s₂
  | .brk => Q .next s₂
  | _ => EndI h₀ L s₁ led J s₂

section
variable {prog : Program} {w : World} {A : Around} {E : Value → Shared → Prop} {s : Shared} {env : Env} {h₀ : Heap} {target : Expr} {body : List Stmt} {Q : Flow → Shared → Prop}

theorem ints_cons {v : Value} {vs : List Value} {ns : List Int} (h : IntsAre (v :: vs) ns) : ∃ n r t, ns = n :: r ∧ v = .int n t ∧ IntsAre vs r := by
  cases h with
  | cons n t h' => exact ⟨_, _, _, rfl, rfl, h'⟩

theorem rest_enum (J : Nat → List Int → (Str → Option Value) → Prop) {ws : List (Addr × String)} {keep : List (Addr × Obj)}
    (off : ∀ p ∈ keep, p.1 ∉ ws.map (·.1)) (hk : SubL keep keep)
    (turn : ∀ (i : Nat) (n : Int) (r : List Int) (T : Addr) (t tt : Tok) (m : Str → Option Value) (h : Heap) (tk : Nat), J i (n :: r) m →
      IsTup h T #[.int (i : Int) tt, .int n t] → Fr h₀ env.locals h m → AllObj ws (fun its => News h₀ env.locals h (its ++ keep) →
        wpAny (model prog w) A (assign target env (.ref T)) (fun _ s₂ => wpAny (model prog w) A (execs body env)
          (PostI h₀ env.locals { s with heap := h, toks := tk } (its ++ keep) (J (i + 1) r) Q) E s₂) E { s with heap := h, toks := tk }))
    (done : ∀ (i : Nat) (m : Str → Option Value) (h : Heap) (tk : Nat), J i [] m → Fr h₀ env.locals h m → News h₀ env.locals h keep → Q .next { s with heap := h, toks := tk }) :
    ∀ (vs : List Value) (ns : List Int) (i : Nat) (m : Str → Option Value) (news : List (Addr × Obj)), IntsAre vs ns → J i ns m → (∀ p ∈ keep, p ∈ news) →
      ItemsRest prog w A E h₀ env target body Q s ws keep (enumItems i vs) m news
  | [], ns, i, m, news, hi, hj, hs => by
    cases hi
    exact fun h tk F N => done i m h tk hj F fun p hp => N p (hs p hp)
  | v :: vs, ns, i, m, news, hi, hj, hs => by
    obtain ⟨n, r, t, rfl, rfl, hi'⟩ := ints_cons hi
    refine ItemsRest.pair fun T tt h tk hT F => ?_
    have q := turn i n r T t tt m h tk hj hT F
    revert q
    generalize hk' : (fun its => News h₀ env.locals h (its ++ keep) → _) = k1
    generalize hk2 : (fun its => News h₀ env.locals h (its ++ news) → _) = k2
    intro q
    have up : ∀ its, its.map (·.1) = ws.map (·.1) → k1 its → k2 its := by
      subst hk' hk2
      intro its hmap q N
      refine wpAny_mono (q fun p hp => N p ?_) (fun _ s₂ h₂ => wpAny_mono h₂ (fun f s₃ p => ?_) fun _ _ e => e) fun _ _ e => e
      · rcases List.mem_append.mp hp with hp | hp
        · exact List.mem_append_left _ hp
        · exact List.mem_append_right _ (hs p hp)
      · have fin : EndI h₀ env.locals { s with heap := h, toks := tk } (its ++ keep) (J (i + 1) r) s₃ →
            UnrEndW h₀ env.locals { s with heap := h, toks := tk } its (fun m' n' => SubL keep n' ∧ ItemsRest prog w A E h₀ env target body Q s ws keep (enumItems (i + 1) vs) m' n') s₃ := by
          rintro ⟨h', tk', m', e, F', N', hj'⟩
          refine ⟨h', tk', m', keep, e, F', N', fun p hp q hq e => ?_, hk, rest_enum J off hk turn done vs r (i + 1) m' keep hi' hj' fun p hp => hp⟩
          refine off p hp ?_
          rw [← hmap, e]
          exact List.mem_map.mpr ⟨q, hq, rfl⟩
        cases f with
        | ret v => exact p
        | brk => exact p
        | next => exact fin p
        | cont => exact fin p
    have all : ∀ (ws' : List (Addr × String)) (pre : List (Addr × Obj)), AllObj ws' (fun its => k1 (pre ++ its)) → (pre.map (·.1)) ++ ws'.map (·.1) = ws.map (·.1) → AllObj ws' (fun its => k2 (pre ++ its)) := by
      intro ws'
      induction ws' with
      | nil => intro pre a e; exact up _ (by simpa using e) a
      | cons x xs ih =>
        intro pre a e o ho
        have := ih (pre ++ [(x.1, o)]) (by simpa using a o ho) (by simpa using e)
        simpa using this
    simpa using all ws [] (by simpa using q) (by simp)
end
/-- a stop of my own on the walk -/
def Stop (P : Prop) : Prop := P
theorem Stop.mk {P : Prop} (h : Stop P) : P := h
theorem Stop.out {P : Prop} (h : P) : Stop P := h

/-- a mark in the context: the walk stops once where my line asks for it -/
structure Mk (n : Nat) : Prop where
  mk ::
/-- the test of an If whose suite is left aside: it is false -/
def IfNo (C : Shared → Prop) (b : Bool) (s : Shared) : Prop := b = false ∧ C s
theorem if_no {M : Model} {A : Around} {E : Value → Shared → Prop} {s : Shared} {env : Env} {Q : Flow → Shared → Prop} {test : PySem.Expr} {body : List Stmt} {pos : Pos}
    (h : wpAny M A (isTrue test env (eval test env)) (IfNo (fun s₂ => Q .next s₂)) E s) : wpAny M A (exec (.If test body [] pos) env) Q E s := by
  refine wpAny_If (wpAny_mono h (fun b s₂ q => ?_) fun _ _ e => e)
  obtain ⟨rfl, q⟩ := q
  exact wpAny_execs_nil q

theorem kstB_self {m : Str → Option Value} {ps : List (Str × Value)} (h : ∀ p ∈ ps, m p.1 = some p.2) : kstB m ps = m := funext fun _ => kstB_eq h fun _ => rfl
def JoinV (P : Value → Prop) (h₀ : Heap) (L : Addr) (m : Str → Option Value) (led : List (Addr × Obj)) (s : Shared) (v : Value) (s' : Shared) : Prop :=
  P v ∧ ∃ h' tk, s' = { s with heap := h', toks := tk } ∧ Fr h₀ L h' m ∧ News h₀ L h' led
theorem JoinV.intro {P : Value → Prop} {h₀ : Heap} {L : Addr} {m : Str → Option Value} {led : List (Addr × Obj)} {s : Shared} {v : Value} {h' : Heap} {tk : Nat}
    (hp : P v) (F : Fr h₀ L h' m) (N : News h₀ L h' led) : JoinV P h₀ L m led s v { s with heap := h', toks := tk } := ⟨hp, h', tk, rfl, F, N⟩
section
variable {M : Model} {A : Around} {E : Value → Shared → Prop} {s : Shared} {h₀ : Heap} {L : Addr} {m : Str → Option Value} {led : List (Addr × Obj)} {Q : Value → Shared → Prop}
theorem reseat {α : Type} {t : Sem α} {Q : α → Shared → Prop} (C : (Str → Option Value) → Prop) (F : Fr h₀ L s.heap m) (N : News h₀ L s.heap led) (hm : C m)
    (k : ∀ m' h tk, C m' → Fr h₀ L h m' → News h₀ L h led → wpAny M A t Q E { s with heap := h, toks := tk }) : wpAny M A t Q E s := k m s.heap s.toks hm F N
theorem join_v {t : Sem Value} (P : Value → Prop) (_F : Fr h₀ L s.heap m) (_N : News h₀ L s.heap led) (h : wpAny M A t (JoinV P h₀ L m led s) E s)
    (k : ∀ v h' tk, P v → Fr h₀ L h' m → News h₀ L h' led → Q v { s with heap := h', toks := tk }) : wpAny M A t Q E s := by
  refine wpAny_mono h (fun v s' q => ?_) fun _ _ e => e
  obtain ⟨hp, h', tk, rfl, F, N⟩ := q
  exact k v h' tk hp F N
end
section
variable {prog : Program} {w : World} {A : Around} {E : Value → Shared → Prop} {s : Shared}
theorem topListAny_K {K : Frag} {h₀ : Heap} {L a : Addr} {m : Str → Option Value} {n : Nat} {value slice : PySem.Expr} {l : List Value} {ns : List Int} {dd : Option Addr} {sl : Array (Option Value)} {k : Int} {u : Tok} {Q : Value → Shared → Prop} (F : Fr h₀ L s.heap m) (X₀ : K.In h₀)
    (hl : K.lookup a = some ⟨.type "list", dd, .seq l.toArray n, sl⟩) (hi : IntsAre l ns) (h0 : 0 ≤ k) (h1 : k < ns.length) (hfit : k < 2 ^ 63) (h : ∀ t, Q (.int (ns.getD k.toNat 0) t) s)
    (hs : subscripted slice false (.ref a) (.int k u) = operate [.ref a, .int k u] (getItem (.ref a) (.int k u)) := by with_unfolding_all rfl) :
    wpAny (model prog w) A (subscriptTail value slice (.ref a) (.int k u)) Q E s := by
  obtain ⟨t, hx⟩ := hi.get k.toNat _ (ints_getD h0 h1)
  exact topList_K F X₀ hl h0 hfit hx (h t) hs
theorem item_three {value slice : PySem.Expr} {l : Addr} {vs : List Value} {k a b c : Int} {u : Tok} {Q : Value → Shared → Prop} (ht : IsTup s.heap l vs.toArray) (hi : IntsAre vs [a, b, c])
    (h0 : 0 ≤ k) (h1 : k < 3) (h : ∀ x t, (x = a ∨ x = b ∨ x = c) → Q (.int x t) s)
    (hs : subscripted slice false (.ref l) (.int k u) = operate [.ref l, .int k u] (getItem (.ref l) (.int k u)) := by with_unfolding_all rfl) :
    wpAny (model prog w) A (subscriptTail value slice (.ref l) (.int k u)) Q E s := by
  refine item_anyT ht hi h0 h1 (by omega) (fun t => h _ t ?_) hs
  have hk : k = 0 ∨ k = 1 ∨ k = 2 := by omega
  rcases hk with rfl | rfl | rfl
  · exact .inl rfl
  · exact .inr (.inl rfl)
  · exact .inr (.inr rfl)
end
section
variable (prog : Program) (w : World) (A : Around) (h₀ : Heap) (L : Addr)
/-- a call of f gives back R, and what stood stands -/
def FnC (f : Addr) (vs : List Value) (R : Tok → Value) : Prop :=
  ∀ (s : Shared) (Q E : Value → Shared → Prop) (m : Str → Option Value) (led : List (Addr × Obj)), Fr h₀ L s.heap m → News h₀ L s.heap led →
    (∀ (t : Tok) (h' : Heap) (tk' : Nat), Fr h₀ L h' m → News h₀ L h' led → Q (R t) { s with heap := h', toks := tk' }) → wpAny (model prog w) A (call (.ref f) vs) Q E s
def Fn1 (f : Addr) (pre : Int → Prop) (g : Int → Int) : Prop := ∀ (k : Int) (u : Tok), pre k → FnC prog w A h₀ L f [.int k u] (fun t => .int (g k) t)
def Fn1S (f : Addr) (pre : Int → Prop) (g : Int → Str) : Prop := ∀ (k : Int) (u : Tok), pre k → FnC prog w A h₀ L f [.int k u] (fun t => .str (g k) t)
def Fn1B (f : Addr) (pre : Int → Prop) (g : Int → Bool) : Prop := ∀ (k : Int) (u : Tok), pre k → FnC prog w A h₀ L f [.int k u] (fun _ => .bool (g k))
def Fn2 (f : Addr) (pre : Int → Int → Prop) (g : Int → Int → Int) : Prop := ∀ (k l : Int) (u v : Tok), pre k l → FnC prog w A h₀ L f [.int k u, .int l v] (fun t => .int (g k l) t)
def Fn4S (f : Addr) (pre : Int → Int → Int → Int → Prop) (g : Int → Int → Int → Int → Str) : Prop :=
  ∀ (a b c d : Int) (u v x y : Tok), pre a b c d → FnC prog w A h₀ L f [.int a u, .int b v, .int c x, .int d y] (fun t => .str (g a b c d) t)
end
section
variable {prog : Program} {w : World} {A : Around} {E : Value → Shared → Prop} {s : Shared} {h₀ : Heap} {L : Addr} {m : Str → Option Value} {led : List (Addr × Obj)} {f : Addr}
theorem have_fn {α : Type} {t : Sem α} {Q : α → Shared → Prop} (H : Program → World → Around → Heap → Addr → Prop) (_F : Fr h₀ L s.heap m) (h : H prog w A h₀ L)
    (k : H prog w A h₀ L → wpAny (model prog w) A t Q E s) : wpAny (model prog w) A t Q E s := k h
theorem use1 {pre : Int → Prop} {g : Int → Int} {k : Int} {u : Tok} {Q : Value → Shared → Prop} (H : Fn1 prog w A h₀ L f pre g) (F : Fr h₀ L s.heap m) (N : News h₀ L s.heap led) (hp : pre k)
    (h : ∀ t h' tk', Fr h₀ L h' m → News h₀ L h' led → Q (.int (g k) t) { s with heap := h', toks := tk' }) : wpAny (model prog w) A (call (.ref f) [.int k u]) Q E s := H k u hp s Q E m led F N h
theorem use1S {pre : Int → Prop} {g : Int → Str} {k : Int} {u : Tok} {Q : Value → Shared → Prop} (H : Fn1S prog w A h₀ L f pre g) (F : Fr h₀ L s.heap m) (N : News h₀ L s.heap led) (hp : pre k)
    (h : ∀ t h' tk', Fr h₀ L h' m → News h₀ L h' led → Q (.str (g k) t) { s with heap := h', toks := tk' }) : wpAny (model prog w) A (call (.ref f) [.int k u]) Q E s := H k u hp s Q E m led F N h
theorem use1B {pre : Int → Prop} {g : Int → Bool} {k : Int} {u : Tok} {Q : Value → Shared → Prop} (H : Fn1B prog w A h₀ L f pre g) (F : Fr h₀ L s.heap m) (N : News h₀ L s.heap led) (hp : pre k)
    (h : ∀ (_ : Tok) h' tk', Fr h₀ L h' m → News h₀ L h' led → Q (.bool (g k)) { s with heap := h', toks := tk' }) : wpAny (model prog w) A (call (.ref f) [.int k u]) Q E s := H k u hp s Q E m led F N h
theorem use2 {pre : Int → Int → Prop} {g : Int → Int → Int} {k l : Int} {u v : Tok} {Q : Value → Shared → Prop} (H : Fn2 prog w A h₀ L f pre g) (F : Fr h₀ L s.heap m) (N : News h₀ L s.heap led) (hp : pre k l)
    (h : ∀ t h' tk', Fr h₀ L h' m → News h₀ L h' led → Q (.int (g k l) t) { s with heap := h', toks := tk' }) : wpAny (model prog w) A (call (.ref f) [.int k u, .int l v]) Q E s := H k l u v hp s Q E m led F N h
theorem use4S {pre : Int → Int → Int → Int → Prop} {g : Int → Int → Int → Int → Str} {a b c d : Int} {u v x y : Tok} {Q : Value → Shared → Prop} (H : Fn4S prog w A h₀ L f pre g) (F : Fr h₀ L s.heap m) (N : News h₀ L s.heap led) (hp : pre a b c d)
    (h : ∀ t h' tk', Fr h₀ L h' m → News h₀ L h' led → Q (.str (g a b c d) t) { s with heap := h', toks := tk' }) : wpAny (model prog w) A (call (.ref f) [.int a u, .int b v, .int c x, .int d y]) Q E s := H a b c d u v x y hp s Q E m led F N h
theorem fn_ret {R : Tok → Value} {y : Value} {t : Tok} {h' : Heap} {tk' : Nat} {Q : Value → Shared → Prop}
    (hret : ∀ (t : Tok) (h' : Heap) (tk' : Nat), Fr h₀ L h' m → News h₀ L h' led → Q (R t) { s with heap := h', toks := tk' }) (t : Tok) (e : y = R t) (F : Fr h₀ L h' m) (N : News h₀ L h' led) : Q y { s with heap := h', toks := tk' } := by
  subst e
  exact hret t h' tk' F N
theorem int_eq {a b : Int} {t : Tok} (h : a = b) : Value.int a t = (fun t => Value.int b t) t := by subst h; rfl
theorem str_eq {a b : Str} {t : Tok} (h : a = b) : Value.str a t = (fun t => Value.str b t) t := by subst h; rfl
theorem bool_eq {a b : Bool} {t : Tok} (h : a = b) : Value.bool a = (fun _ : Tok => Value.bool b) t := by subst h; rfl
end
theorem off2 {D I : Nat} {o : Obj} {a b : String} (h : D < I) : ∀ p ∈ [((D, o) : Addr × Obj)], p.1 ∉ ([(I + 1, a), (I, b)] : List (Addr × String)).map (·.1) := by
  intro p hp hq
  rw [List.mem_singleton.mp hp] at hq
  have hq' : D = I + 1 ∨ D = I := by simpa using hq
  omega
theorem off1 {D I : Nat} {o : Obj} {a : String} (h : D < I) : ∀ p ∈ [((D, o) : Addr × Obj)], p.1 ∉ ([(I, a)] : List (Addr × String)).map (·.1) := by
  intro p hp hq
  rw [List.mem_singleton.mp hp] at hq
  have hq' : D = I := by simpa using hq
  omega
end Mine
namespace Mine
open PySem.Calls PySem.Builtin PySem.Builtin.Str
open PySem.NumText
/-- the signs of an int -/
def dg (n : Int) : List Nat := (PySem.Str.ofString (toString n)).cps.toList
def padk (k : Nat) (n : Int) : PySem.Str := ⟨(List.replicate (k - (dg n).length) 48 ++ dg n).toArray⟩
theorem dg_nat (m : Nat) : dg (m : Int) = (Nat.toDigits 10 m).map Char.toNat := PySem.W.KIN.signs_num m
theorem dg_all {n : Int} (h : 0 ≤ n) : AllDigits (dg n) := by
  obtain ⟨m, rfl⟩ := Int.eq_ofNat_of_zero_le h
  rw [dg_nat]
  intro c hc
  obtain ⟨ch, hch, rfl⟩ := List.mem_map.mp hc
  exact digit_range (Nat.isDigit_of_mem_toDigits (by decide) (by decide) hch)
theorem dg_ne {n : Int} (h : 0 ≤ n) : dg n ≠ [] := by
  obtain ⟨m, rfl⟩ := Int.eq_ofNat_of_zero_le h
  rw [dg_nat]
  intro e
  have := congrArg List.length e
  rw [List.length_map] at this
  have h2 := Nat.length_toDigits_pos (b := 10) (n := m)
  simp only [List.length_nil] at this
  omega
theorem dg_len {n : Int} (h : 0 ≤ n) {k : Nat} (hk : 0 < k) (h1 : n < 10 ^ k) : (dg n).length ≤ k := by
  have := toString_length_le h hk h1
  rw [dg, Array.length_toList]
  exact this
theorem padk_len {n : Int} {k : Nat} (h : 0 ≤ n) (hk : 0 < k) (h1 : n < 10 ^ k) : (padk k n).length = k := by
  have := dg_len h hk h1
  show (List.toArray _).size = k
  rw [List.size_toArray, List.length_append, List.length_replicate]
  omega
theorem padk_le {n : Int} {k : Nat} (h : 0 ≤ n) (h1 : n < 10 ^ 10) (hk : k ≤ 10) : (padk k n).length ≤ 10 := by
  have := dg_len h (by decide) h1
  show (List.toArray _).size ≤ 10
  rw [List.size_toArray, List.length_append, List.length_replicate]
  omega
theorem field {c : Percent} {k : Nat} {n : Int} {d : List Nat} (h1 : c.ljust = false) (h2 : c.sign = false) (h3 : c.blank = false) (h4 : c.alt = false) (h5 : c.zero = true) (h6 : c.width = some k) (h7 : c.prec = none) (h8 : c.type = 100)
    (hn : 0 ≤ n) (hd : d = dg n) : percentField c true (percentInt c (decide (n < 0)) d) = if k ≤ d.length then none else some (List.replicate (k - d.length) 48 ++ d) := by
  rw [KPc.int_text c h4 (.inl h8) h7 hn d]
  have ha : AllDigits d := hd ▸ dg_all hn
  have hne : d ≠ [] := hd ▸ dg_ne hn
  cases d with
  | nil => exact absurd rfl hne
  | cons x r =>
    have hx := ha.head
    have e1 : x ≠ 45 := by omega
    have e2 : x ≠ 43 := by omega
    by_cases hk : k ≤ (x :: r).length
    · rw [if_pos hk]
      unfold percentField
      rw [if_pos]
      rw [h2, h3, h6, h7]
      simpa using hk
    · rw [if_neg hk]
      unfold percentField
      rw [if_neg (by rw [h6, h7, h2, h3]; simpa using hk)]
      simp only [h1, h2, h3, h4, h5, h6, h7, h8, Bool.not_true, Bool.false_eq_true, if_false, if_true, show ((100 == 115 || 100 == 114 || 100 == 97) = true) = False from by decide, Bool.false_and, Option.getD_some, Bool.and_self]
      split
      · exact absurd (List.cons.inj ‹_›).1 e1
      · exact absurd (List.cons.inj ‹_›).1 e2
      · simp
theorem pad_none {c : Percent} {k : Nat} {n : Int} {d : List Nat} (h : percentField c true (percentInt c (decide (n < 0)) d) = none) (hk : c.width = some k) (h1 : c.ljust = false) (h2 : c.sign = false) (h3 : c.blank = false) (h4 : c.alt = false) (h5 : c.zero = true) (h7 : c.prec = none) (h8 : c.type = 100)
    (hn : 0 ≤ n) (hd : d = (PySem.Str.ofString (toString ((n.natAbs : Nat) : Int))).cps.toList) : (⟨(percentInt c (decide (n < 0)) d).toArray⟩ : PySem.Str) = padk k n := by
  have en : ((n.natAbs : Nat) : Int) = n := Int.natAbs_of_nonneg hn
  rw [en] at hd
  have hd' : d = dg n := hd
  rw [field h1 h2 h3 h4 h5 hk h7 h8 hn hd'] at h
  rw [KPc.int_text c h4 (.inl h8) h7 hn d]
  split at h
  · rw [padk, ← hd', Nat.sub_eq_zero_of_le ‹_›]
    rfl
  · exact nomatch h
theorem pad_some {c : Percent} {k : Nat} {n : Int} {d laid : List Nat} (h : percentField c true (percentInt c (decide (n < 0)) d) = some laid) (hk : c.width = some k) (h1 : c.ljust = false) (h2 : c.sign = false) (h3 : c.blank = false) (h4 : c.alt = false) (h5 : c.zero = true) (h7 : c.prec = none) (h8 : c.type = 100)
    (hn : 0 ≤ n) (hd : d = (PySem.Str.ofString (toString ((n.natAbs : Nat) : Int))).cps.toList) : (⟨laid.toArray⟩ : PySem.Str) = padk k n := by
  have en : ((n.natAbs : Nat) : Int) = n := Int.natAbs_of_nonneg hn
  rw [en] at hd
  have hd' : d = dg n := hd
  rw [field h1 h2 h3 h4 h5 hk h7 h8 hn hd'] at h
  split at h
  · exact nomatch h
  · rw [padk, ← hd', ← Option.some.inj h]
theorem after_pad {M : Model} {A : Around} {E : Value → Shared → Prop} {s : Shared} {l : List Nat} {p : List Value} {r : List Nat}
    {f : Nat → List Value × Writer × List Nat → Sem (ForInStep (List Value × Writer × List Nat))} {Q : List Value × Writer × List Nat → Shared → Prop} {w : Writer} {T x y : PySem.Str} {N K : Nat} {o : Option Value}
    (g : KPc.Good w T N) (hx : x = y) (hy : y.length ≤ K) (ho : KPc.Obj o x) (h : ∀ w', KPc.Good w' (T ++ y) (N + K) → wpAny M A (forIn l (p, w', r) f) Q E s) : wpAny M A (forIn l (p, w.add x o, r) f) Q E s := by
  subst hx
  exact h _ (KPc.good_mono (KPc.good_add g ho) (Nat.add_le_add_left hy _))
def fmtText (wd : PySem.Str) (d : Int) (mon : PySem.Str) (y h mi sc : Int) (z : PySem.Str) : PySem.Str :=
  wd ++ PySem.Str.ofString ", " ++ padk 2 d ++ PySem.Str.ofString " " ++ mon ++ PySem.Str.ofString " " ++ padk 4 y ++ PySem.Str.ofString " " ++ padk 2 h ++ PySem.Str.ofString ":" ++ padk 2 mi ++ PySem.Str.ofString ":" ++ padk 2 sc ++ PySem.Str.ofString " " ++ z
local macro_rules | `(tactic| walk_at "fmt lit") => `(tactic| (refine KPc.turn ?_; kpc_check; (repeat kpc_if); refine wpAny_pure ?_; refine KPc.after_add (by kpc_g) (by kpc_text) (by kpc_obj) ?_; intro _ _))
local macro_rules | `(tactic| walk_at "fmt pad2") => `(tactic| (refine KPc.turn ?_; kpc_check; (repeat kpc_if); refine wpAny_bind ?_; refine wpAny_holding ?_; (repeat kpc_if); kpt_conv; refine wpAny_bind (wpAny_pure ?_); refine wpAny_pure ?_; refine wpAny_of_eq (a := ?fmtA) ?fmtE ?_; (case fmtE => (dsimp only; split; (rename_i heq; exact congrArg (fun x => (pure (ForInStep.yield (_, Writer.add _ x none, _)) : Sem _)) (pad_none (k := 2) heq rfl rfl rfl rfl rfl rfl rfl rfl (by with_reducible assumption) rfl)); (rename_i heq; exact congrArg (fun x => (pure (ForInStep.yield (_, Writer.add _ x none, _)) : Sem _)) (pad_some (k := 2) heq rfl rfl rfl rfl rfl rfl rfl rfl (by with_reducible assumption) rfl)))); (refine after_pad (by kpc_g) rfl (padk_le (by with_reducible assumption) (Int.lt_trans (by with_reducible assumption) (by decide)) (by decide)) (by kpc_obj) ?_); intro _ _))
local macro_rules | `(tactic| walk_at "fmt pad4") => `(tactic| (refine KPc.turn ?_; kpc_check; (repeat kpc_if); refine wpAny_bind ?_; refine wpAny_holding ?_; (repeat kpc_if); kpt_conv; refine wpAny_bind (wpAny_pure ?_); refine wpAny_pure ?_; refine wpAny_of_eq (a := ?fmtA) ?fmtE ?_; (case fmtE => (dsimp only; split; (rename_i heq; exact congrArg (fun x => (pure (ForInStep.yield (_, Writer.add _ x none, _)) : Sem _)) (pad_none (k := 4) heq rfl rfl rfl rfl rfl rfl rfl rfl (by with_reducible assumption) rfl)); (rename_i heq; exact congrArg (fun x => (pure (ForInStep.yield (_, Writer.add _ x none, _)) : Sem _)) (pad_some (k := 4) heq rfl rfl rfl rfl rfl rfl rfl rfl (by with_reducible assumption) rfl)))); (refine after_pad (by kpc_g) rfl (padk_le (by with_reducible assumption) (Int.lt_trans (by with_reducible assumption) (by decide)) (by decide)) (by kpc_obj) ?_); intro _ _))
local macro_rules | `(tactic| walk_at "fmt str") => `(tactic| (refine KPc.turn ?_; kpc_check; (repeat kpc_if); refine wpAny_bind ?_; refine wpAny_holding ?_; (repeat kpc_if); kpt_conv; refine wpAny_pure ?_; refine wpAny_pure ?_; first | (refine KPc.after_str0 (by kpc_g) (by with_reducible assumption) (by kpc_obj) ?_; intro _ _) | (refine KPc.after_str (by kpc_g) (by with_reducible assumption) (by kpc_obj) ?_; intro _ _)))
set_option maxRecDepth 100000 in
set_option maxHeartbeats 4000000 in
theorem fmt_meets {wd mon z : PySem.Str} {d y h mi sc : Int} {t u1 u2 u3 u4 u5 u6 u7 u8 : Tok} {b : Addr} (hd0 : 0 ≤ d) (hd1 : d < 100) (hy0 : 0 ≤ y) (hy1 : y < 100000) (hh0 : 0 ≤ h) (hh1 : h < 100) (hm0 : 0 ≤ mi) (hm1 : mi < 100) (hs0 : 0 ≤ sc) (hs1 : sc < 100)
  (hw : wd.length ≤ 64) (hmo : mon.length ≤ 64) (hz : z.length ≤ 64) :
  Meets («str.__mod__» ⟨[.str ⟨#[37, 115, 44, 32, 37, 48, 50, 100, 32, 37, 115, 32, 37, 48, 52, 100, 32, 37, 48, 50, 100, 58, 37, 48, 50, 100, 58, 37, 48, 50, 100, 32, 37, 115]⟩ t, .ref b], []⟩)
    (fun _ R s => IsTup s.heap b #[.str wd u1, .int d u2, .str mon u3, .int y u4, .int h u5, .int mi u6, .int sc u7, .str z u8] ∧ ∀ t' k, R (.ok (.ret (.str (fmtText wd d mon y h mi sc z) t'))) { s with toks := k }) := by
  apply KPt.meets_tup
  intro _ _ _ _ _ _ kptH hQ
  obtain ⟨kptO, kptG, kptC, kptN, kptD⟩ := kptH
  rw [KPt.entry_is_r]
  unfold Builtin.Str.percentFormat
  refine wpAny_bind (wpAny_isInstance (T := "tuple") ⟨kptO, kptG, kptC⟩ KPt.sub_tt ?_)
  refine wpAny_bind (KPt.asStr_ref kptG kptD ?_)
  refine wpAny_bind (KPt.fills_ref ⟨kptO, kptG, kptC⟩ ?_)
  intro _
  kpc_if
  refine wpAny_bind (wpAny_seqItems kptG kptD ?_)
  refine wpAny_bind (wpAny_pure ?_)
  refine wpAny_bind ?_
  rw [KPc.range_list]
  refine KPc.start ?_
  intro w0 g0
  walk_at "fmt str"
  walk_at "fmt lit"
  walk_at "fmt pad2"
  walk_at "fmt lit"
  walk_at "fmt str"
  walk_at "fmt lit"
  walk_at "fmt pad4"
  walk_at "fmt lit"
  walk_at "fmt pad2"
  walk_at "fmt lit"
  walk_at "fmt pad2"
  walk_at "fmt lit"
  walk_at "fmt pad2"
  walk_at "fmt lit"
  walk_at "fmt str"
  refine KPc.turn ?_
  kpc_check
  (repeat kpc_if)
  kpc_close
end Mine
namespace Mine
/-- a text's length -/
def TL (x : Str) (n : Nat) : Prop := x.length ≤ n
theorem tl_lit {x : Str} (h : decide (x.length ≤ 64) = true) : TL x 64 := Nat.le_trans (of_decide_eq_true h) (Nat.le_refl _)
theorem tl_slice {x : Str} {l u : Option Int} (h : decide (x.length ≤ 64) = true) : TL (Txt.slice x l u) 64 := Nat.le_trans (Txt.slice_le x l u) (of_decide_eq_true h)
theorem tl_sliceT {x : Str} {l u : Option Int} {n : Nat} (h : TL x n) : TL (Txt.slice x l u) n := Nat.le_trans (Txt.slice_le x l u) h
theorem tl_num {n : Int} (h0 : 0 ≤ n) (h1 : n < 10 ^ 10) : TL (Str.ofString (toString n)) 10 := toString_length_le h0 (by decide) h1
theorem tl_tab {ws : List Str} {k : Nat} (h : ws.all (fun x => decide (x.length ≤ 64)) = true) : (ws.getD k Str.empty).length ≤ 64 := by
  rw [List.getD_eq_getElem?_getD]
  cases e : ws[k]? with
  | none => exact Nat.zero_le _
  | some x => exact of_decide_eq_true (List.all_eq_true.mp h x (List.mem_of_getElem? e))
def dayS : List Str := [Str.ofString "Mon", Str.ofString "Tue", Str.ofString "Wed", Str.ofString "Thu", Str.ofString "Fri", Str.ofString "Sat", Str.ofString "Sun"]
def monS : List Str := [Str.ofString "Jan", Str.ofString "Feb", Str.ofString "Mar", Str.ofString "Apr", Str.ofString "May", Str.ofString "Jun", Str.ofString "Jul", Str.ofString "Aug", Str.ofString "Sep", Str.ofString "Oct", Str.ofString "Nov", Str.ofString "Dec"]
def dayN (k : Int) : Str := dayS.getD k.toNat Str.empty
def monN (k : Int) : Str := monS.getD k.toNat Str.empty
def rowObj (y mo d hh mi sc wd : Int) (k1 k2 k3 k4 k5 k6 k7 : Tok) : Obj :=
  { cls := .type "tuple", data := .seq #[.int y k1, .int mo k2, .int d k3, .int hh k4, .int mi k5, .int sc k6, .int wd k7] }
structure RowOk (y mo d hh mi sc wd : Int) (z : Str) : Prop where
  y0 : 0 ≤ y
  y1 : y < 100000
  mo0 : 1 ≤ mo
  mo1 : mo ≤ 12
  d0 : 0 ≤ d
  d1 : d < 100
  h0 : 0 ≤ hh
  h1 : hh < 100
  m0 : 0 ≤ mi
  m1 : mi < 100
  s0 : 0 ≤ sc
  s1 : sc < 100
  w0 : 0 ≤ wd
  w1 : wd < 7
  z1 : z.length ≤ 64
section
variable {prog : Program} {w : World} {A : Around} {E : Value → Shared → Prop} {s : Shared} {h₀ : Heap} {L : Addr} {m : Str → Option Value} {led : List (Addr × Obj)}
theorem addT {x y : Str} {a b : Nat} {t u : Tok} {Q : Value → Shared → Prop} (hx : TL x a) (hy : TL y b) (hs : Nat.ble (a + b) 100000 = true) (h : ∀ t' tk, TL (x ++ y) (a + b) → Q (.str (x ++ y) t') { s with toks := tk }) :
    wpAny (model prog w) A (binaryOp .Add (.str x t) (.str y u)) Q E s := by
  have hs' := Nat.le_of_ble_eq_true hs
  have hl : TL (x ++ y) (a + b) := by
    show (x ++ y).length ≤ a + b
    rw [Str.length_append]
    exact Nat.add_le_add hx hy
  refine add_str (fun t' tk => h t' tk hl) ?_
  rw [sizeLine_eq]
  have h1 : x.length ≤ a := hx
  have h2 : y.length ≤ b := hy
  omega
theorem strT {a : Int} {t : Tok} {Q : Value → Shared → Prop} (h0 : 0 ≤ a) (h1 : a < 10 ^ 10) (h : ∀ t' tk, TL (Str.ofString (toString a)) 10 → Q (.str (Str.ofString (toString a)) t') { s with toks := tk }) :
    wpAny (model prog w) A (call (.type "str") [.int a t]) Q E s :=
  P.str_of_int (shown (N := 2 ^ 1920) (by omega) (by omega) (Int.le_refl _)) (h _ _ (tl_num h0 h1))
theorem fmt_mod {b : Addr} {wd mon z : Str} {d y hh mi sc : Int} {t u1 u2 u3 u4 u5 u6 u7 u8 : Tok} {Q : Value → Shared → Prop} (N : News h₀ L s.heap led)
    (hb : (b, ({ cls := .type "tuple", data := .seq #[.str wd u1, .int d u2, .str mon u3, .int y u4, .int hh u5, .int mi u6, .int sc u7, .str z u8] } : Obj)) ∈ led)
    (hd0 : 0 ≤ d) (hd1 : d < 100) (hy0 : 0 ≤ y) (hy1 : y < 100000) (hh0 : 0 ≤ hh) (hh1 : hh < 100) (hm0 : 0 ≤ mi) (hm1 : mi < 100) (hs0 : 0 ≤ sc) (hs1 : sc < 100)
    (hw : wd.length ≤ 64) (hmo : mon.length ≤ 64) (hz : z.length ≤ 64) (h : ∀ t' k, Q (.str (fmtText wd d mon y hh mi sc z) t') { s with toks := k }) :
    wpAny (model prog w) A (binaryOp .Mod (.str (Str.ofString "%s, %02d %s %04d %02d:%02d:%02d %s") t) (.ref b)) Q E s :=
  KPt.mod_tuple N hb (X' := ⟨#[37, 115, 44, 32, 37, 48, 50, 100, 32, 37, 115, 32, 37, 48, 52, 100, 32, 37, 48, 50, 100, 58, 37, 48, 50, 100, 58, 37, 48, 50, 100, 32, 37, 115]⟩) (by decide +kernel)
    (fmt_meets hd0 hd1 hy0 hy1 hh0 hh1 hm0 hm1 hs0 hs1 hw hmo hz) h
def FnF (prog : Program) (w : World) (A : Around) (h₀ : Heap) (L : Addr) (f : Addr) : Prop :=
  ∀ (r : Addr) (z : Str) (zt : Tok) (y mo d hh mi sc wd : Int) (k1 k2 k3 k4 k5 k6 k7 : Tok), RowOk y mo d hh mi sc wd z →
    ∀ (s : Shared) (Q E : Value → Shared → Prop) (m : Str → Option Value) (led : List (Addr × Obj)), Fr h₀ L s.heap m → News h₀ L s.heap ((r, rowObj y mo d hh mi sc wd k1 k2 k3 k4 k5 k6 k7) :: led) →
    (∀ (t : Tok) (h' : Heap) (tk' : Nat), Fr h₀ L h' m → News h₀ L h' ((r, rowObj y mo d hh mi sc wd k1 k2 k3 k4 k5 k6 k7) :: led) → Q (.str (fmtText (dayN wd) d (monN (mo - 1)) y hh mi sc z) t) { s with heap := h', toks := tk' }) →
    wpAny (model prog w) A (call (.ref f) [.ref r, .str z zt]) Q E s
theorem useF {f r : Addr} {z : Str} {zt : Tok} {y mo d hh mi sc wd : Int} {k1 k2 k3 k4 k5 k6 k7 : Tok} {Q : Value → Shared → Prop} (H : FnF prog w A h₀ L f) (F : Fr h₀ L s.heap m) (N : News h₀ L s.heap led)
    (hr : (r, rowObj y mo d hh mi sc wd k1 k2 k3 k4 k5 k6 k7) ∈ led) (ok : RowOk y mo d hh mi sc wd z)
    (h : ∀ (t : Tok) (h' : Heap) (tk' : Nat), Fr h₀ L h' m → News h₀ L h' led → Q (.str (fmtText (dayN wd) d (monN (mo - 1)) y hh mi sc z) t) { s with heap := h', toks := tk' }) :
    wpAny (model prog w) A (call (.ref f) [.ref r, .str z zt]) Q E s :=
  H r z zt y mo d hh mi sc wd k1 k2 k3 k4 k5 k6 k7 ok s Q E m led F (fun p hp => (List.mem_cons.mp hp).elim (fun e => by subst e; exact N _ hr) fun hp => N p hp)
    fun t h' tk' F' N' => h t h' tk' F' fun p hp => N' p (List.mem_cons_of_mem _ hp)
end
theorem day_slice {k : Int} (h0 : 0 ≤ k) (h1 : k < 7) : dayN k = Txt.slice (Str.ofString "MonTueWedThuFriSatSun") (some (3 * k)) (some (3 * k + 3)) := by
  have hk : k = 0 ∨ k = 1 ∨ k = 2 ∨ k = 3 ∨ k = 4 ∨ k = 5 ∨ k = 6 := by omega
  rcases hk with rfl | rfl | rfl | rfl | rfl | rfl | rfl <;> decide +kernel
theorem mar_slice {l : Int} (h0 : 0 ≤ l) (h1 : l < 12) : monN ((l + 2).fmod 12 + 1 - 1) = Txt.slice (Str.ofString "MarAprMayJunJulAugSepOctNovDecJanFeb") (some (3 * l)) (some (3 * l + 3)) := by
  have hl : l = 0 ∨ l = 1 ∨ l = 2 ∨ l = 3 ∨ l = 4 ∨ l = 5 ∨ l = 6 ∨ l = 7 ∨ l = 8 ∨ l = 9 ∨ l = 10 ∨ l = 11 := by omega
  rcases hl with rfl | rfl | rfl | rfl | rfl | rfl | rfl | rfl | rfl | rfl | rfl | rfl <;> decide +kernel
theorem padk_long {k : Nat} {n : Int} (h : k ≤ (dg n).length) : padk k n = Str.ofString (toString n) := by
  rw [padk, Nat.sub_eq_zero_of_le h]
  rfl
theorem dg_len_ge {n : Int} {k : Nat} (h : (10 ^ k : Nat) ≤ n) : k + 1 ≤ (dg n).length := by
  obtain ⟨m, rfl⟩ := Int.eq_ofNat_of_zero_le (Int.le_trans (Int.natCast_nonneg _) h)
  rw [dg_nat, List.length_map]
  exact digits10_ge (by omega)
theorem pad2_0 : padk 2 0 = Str.ofString "00" := by decide +kernel
theorem pad2_1 : padk 2 1 = Str.ofString "01" := by decide +kernel
theorem tl_mul0 {k : Nat} : TL (Txt.mul (Str.ofString "0") (4 - (k : Int))) 4 := len_mul_one (c := 48) (by decide +kernel) (by omega)
theorem mul_pad (y : Int) : Txt.mul (Str.ofString "0") (4 - ((Str.ofString (toString y)).length : Int)) ++ Str.ofString (toString y) = padk 4 y := by
  have e0 : Str.ofString "0" = ⟨#[48]⟩ := by decide +kernel
  refine Str.ext' (Array.toList_inj.mp ?_)
  rw [Str.cps_append, Array.toList_append, e0, mul_one_list, padk]
  have hl : (dg y).length = (Str.ofString (toString y)).length := Array.length_toList
  have e : ((4 : Int) - ((Str.ofString (toString y)).length : Int)).toNat = 4 - (dg y).length := by omega
  rw [e]
  rfl
end Mine
namespace Mine
def leap (y : Int) : Bool := decide (y.fmod 4 = 0) && (!decide (y.fmod 100 = 0) || decide (y.fmod 400 = 0))
def dby (year : Int) : Int := (year - 1) * 365 + (year - 1).fdiv 4 - (year - 1).fdiv 100 + (year - 1).fdiv 400
def dbm (year month : Int) : Int := [-1, 0, 31, 59, 90, 120, 151, 181, 212, 243, 273, 304, 334].getD month.toNat 0 + (if 2 < month ∧ leap year = true then 1 else 0)
theorem fd (a : Int) {b : Int} (h : 0 ≤ b) : a.fdiv b = a / b := Int.fdiv_eq_ediv_of_nonneg a h
theorem fm (a : Int) {b : Int} (h : 0 ≤ b) : a.fmod b = a % b := Int.fmod_eq_emod_of_nonneg a h
theorem dby_split (y : Int) : dby (y + 1) = 146097 * y.fdiv 400 + 36524 * (y.fdiv 100).fmod 4 + 1461 * (y.fdiv 4).fmod 25 + 365 * y.fmod 4 := by
  simp (disch := omega) only [dby, fd, fm]
  omega
theorem inv_step {y x d o f u t : Int} (hx : x = 1 ∨ x = -2 ∨ x = 3) (hd : d = 146097 * t + 36524 * u + 1461 * f + 365 * o) :
  d + x * dby (y + 1) = 146097 * (t + x * y.fdiv 400) + 36524 * (u + x * (y.fdiv 100).fmod 4) + 1461 * (f + x * (y.fdiv 4).fmod 25) + 365 * (o + x * y.fmod 4) := by
  rw [dby_split, hd]
  rcases hx with rfl | rfl | rfl <;> omega
theorem due_eq {d o f u t : Int} (hd : d = 146097 * t + 36524 * u + 1461 * f + 365 * o) :
  dby (400 * (t + (u + (f + o.fdiv 4).fdiv 25).fdiv 4) + 100 * (u + (f + o.fdiv 4).fdiv 25).fmod 4 + 4 * (f + o.fdiv 4).fmod 25 + o.fmod 4 + 1) = d + o.fdiv 4 - (f + o.fdiv 4).fdiv 25 + (u + (f + o.fdiv 4).fdiv 25).fdiv 4 := by
  simp (disch := omega) only [dby, fd, fm]
  omega
theorem leap_eq {t u f o : Int} : (leap (400 * (t + (u + (f + o.fdiv 4).fdiv 25).fdiv 4) + 100 * (u + (f + o.fdiv 4).fdiv 25).fmod 4 + 4 * (f + o.fdiv 4).fmod 25 + o.fmod 4) !=
    (decide (o.fmod 4 = 0) && (!decide ((f + o.fdiv 4).fmod 25 = 0) || decide ((u + (f + o.fdiv 4).fdiv 25).fmod 4 = 0)))) = false := by
  simp (disch := omega) only [leap, fd, fm]
  have h1 : decide ((400 * (t + (u + (f + o / 4) / 25) / 4) + 100 * ((u + (f + o / 4) / 25) % 4) + 4 * ((f + o / 4) % 25) + o % 4) % 4 = 0) = decide (o % 4 = 0) := by rw [decide_eq_decide]; omega
  have h2 : o % 4 = 0 → decide ((400 * (t + (u + (f + o / 4) / 25) / 4) + 100 * ((u + (f + o / 4) / 25) % 4) + 4 * ((f + o / 4) % 25) + o % 4) % 100 = 0) = decide ((f + o / 4) % 25 = 0) := by intro h; rw [decide_eq_decide]; omega
  have h3 : o % 4 = 0 → (f + o / 4) % 25 = 0 → decide ((400 * (t + (u + (f + o / 4) / 25) / 4) + 100 * ((u + (f + o / 4) / 25) % 4) + 4 * ((f + o / 4) % 25) + o % 4) % 400 = 0) = decide ((u + (f + o / 4) / 25) % 4 = 0) := by intro h h'; rw [decide_eq_decide]; omega
  rw [h1]
  by_cases e1 : o % 4 = 0
  · rw [h2 e1]
    by_cases e2 : (f + o / 4) % 25 = 0
    · rw [h3 e1 e2]; simp
    · simp [e2]
  · simp [e1]
theorem and3a {a b c : Int} (h1 : a = 0) (h2 : b ≠ 0) : Value.bool (b != 0) = Value.bool (decide (a = 0) && (!decide (b = 0) || decide (c = 0))) := by simp [h1, h2]
theorem and3b {a b c : Int} (h1 : a = 0) (h2 : b = 0) : Value.bool (c == 0) = Value.bool (decide (a = 0) && (!decide (b = 0) || decide (c = 0))) := by simp only [h1, h2]; simp; rw [Bool.eq_iff_iff]; simp
theorem and3c {a b c : Int} (h1 : a ≠ 0) : Value.bool (a == 0) = Value.bool (decide (a = 0) && (!decide (b = 0) || decide (c = 0))) := by simp [h1]
/-- what the columns say -/
structure Cols (d t u f o tot due one four hun : Int) : Prop where
  inv : d = 146097 * t + 36524 * u + 1461 * f + 365 * o
  one0 : 0 ≤ one
  one1 : one < 4
  four0 : 0 ≤ four
  four1 : four < 25
  hun0 : 0 ≤ hun
  hun1 : hun < 4
  totq : ∃ q, tot = 400 * q + 100 * hun + 4 * four + one
  due : due = dby (tot + 1)
theorem cols {d t u f o : Int} (hd : d = 146097 * t + 36524 * u + 1461 * f + 365 * o) :
    Cols d t u f o (400 * (t + (u + (f + o.fdiv 4).fdiv 25).fdiv 4) + 100 * (u + (f + o.fdiv 4).fdiv 25).fmod 4 + 4 * (f + o.fdiv 4).fmod 25 + o.fmod 4)
      (d + o.fdiv 4 - (f + o.fdiv 4).fdiv 25 + (u + (f + o.fdiv 4).fdiv 25).fdiv 4) (o.fmod 4) ((f + o.fdiv 4).fmod 25) ((u + (f + o.fdiv 4).fdiv 25).fmod 4) := by
  refine ⟨hd, ?_, ?_, ?_, ?_, ?_, ?_, ⟨_, rfl⟩, (due_eq hd).symm⟩
  all_goals (simp (disch := omega) only [fm]; omega)
theorem ne_false {a b : Int} (h : a = b) : (a != b) = false := by subst h; simp
theorem three_lo {x : Int} (h : x = 1 ∨ x = -2 ∨ x = 3) : -2 ≤ x := by omega
theorem three_hi {x : Int} (h : x = 1 ∨ x = -2 ∨ x = 3) : x ≤ 3 := by omega
theorem dby_next (y : Int) : dby (y + 1) = dby y + 365 + (if leap y = true then 1 else 0) := by
  have e : leap y = decide (y % 4 = 0 ∧ (¬ y % 100 = 0 ∨ y % 400 = 0)) := by
    simp (disch := omega) only [leap, fm]
    rw [Bool.eq_iff_iff]; simp
  rw [e]
  simp (disch := omega) only [dby, fd, decide_eq_true_eq]
  split <;> omega
theorem dbm_of (y m : Int) (c : Int) (hc : [-1, 0, 31, 59, 90, 120, 151, 181, 212, 243, 273, 304, 334].getD m.toNat 0 = c) : dbm y m = c + (if 2 < m ∧ leap y = true then 1 else 0) := by rw [dbm, hc]
theorem begun_eq {tot due l : Int} (hd : due = dby (tot + 1)) (h0 : 0 ≤ l) (h1 : l < 12) :
    dby (tot + l.fdiv 10) + dbm (tot + l.fdiv 10) ((l + 2).fmod 12 + 1) = due - 306 + 153 * l.fdiv 5 + 61 * (l.fmod 5).fdiv 2 + 31 * (l.fmod 5).fmod 2 := by
  have e := dby_next tot
  rw [← hd] at e
  have hl : l = 0 ∨ l = 1 ∨ l = 2 ∨ l = 3 ∨ l = 4 ∨ l = 5 ∨ l = 6 ∨ l = 7 ∨ l = 8 ∨ l = 9 ∨ l = 10 ∨ l = 11 := by omega
  rcases hl with rfl | rfl | rfl | rfl | rfl | rfl | rfl | rfl | rfl | rfl | rfl | rfl <;>
    simp only [dbm, Int.reduceFDiv, Int.reduceFMod, Int.reduceAdd, Int.reduceMul, Int.add_zero, Int.reduceToNat, List.getD_cons_succ, List.getD_cons_zero, ← hd, Int.reduceLT, true_and, false_and, if_false]
  all_goals first
    | omega
    | (generalize (if leap tot = true then (1 : Int) else 0) = z at e ⊢; omega)
/-- what is told of the month -/
structure Mon (tot due one four hun l bg : Int) : Prop where
  l0 : 0 ≤ l
  l1 : l < 12
  wk : bg.fmod 7 = (5 * hun + 5 * four + one + 6 * l.fdiv 5 + 5 * (l.fmod 5).fdiv 2 + 3 * (l.fmod 5).fmod 2 + 2).fmod 7
theorem mon {d t u f o tot due one four hun l : Int} (c : Cols d t u f o tot due one four hun) (h0 : 0 ≤ l) (h1 : l < 12) :
    Mon tot due one four hun l (dby (tot + l.fdiv 10) + dbm (tot + l.fdiv 10) ((l + 2).fmod 12 + 1)) := by
  refine ⟨h0, h1, ?_⟩
  obtain ⟨q, hq⟩ := c.totq
  have e : due = 146097 * q + 36524 * hun + 1461 * four + 365 * one := by
    rw [c.due, hq]
    have := c.one0; have := c.one1; have := c.four0; have := c.four1; have := c.hun0; have := c.hun1
    simp (disch := omega) only [dby, fd]
    omega
  rw [begun_eq c.due h0 h1, e]
  simp (disch := omega) only [fm, fd]
  omega
theorem dbm_eq1 {a b : Int} (h : 2 < b) : [-1, 0, 31, 59, 90, 120, 151, 181, 212, 243, 273, 304, 334].getD b.toNat 0 + (if leap a = true then (1 : Int) else 0) = dbm a b := by
  rw [dbm]
  by_cases e : leap a = true
  · rw [if_pos e, if_pos ⟨h, e⟩]
  · rw [if_neg e, if_neg fun q => e q.2]
theorem dbm_eq2 {a b : Int} (h : ¬ 2 < b) : [-1, 0, 31, 59, 90, 120, 151, 181, 212, 243, 273, 304, 334].getD b.toNat 0 + (if decide (2 < b) = true then (1 : Int) else 0) = dbm a b := by
  rw [dbm, if_neg (by simpa using h), if_neg fun q => h q.1]
def text2 (name l y : Int) : Str :=
  Txt.slice (Str.ofString "MonTueWedThuFriSatSun") (some (3 * name)) (some (3 * name + 3)) ++ Str.ofString ", 01 " ++ Txt.slice (Str.ofString "MarAprMayJunJulAugSepOctNovDecJanFeb") (some (3 * l)) (some (3 * l + 3)) ++ Str.ofString " " ++ Str.ofString (toString y) ++ Str.ofString " 00:00:00 -0000"
theorem text_eq {name l y : Int} (hn0 : 0 ≤ name) (hn1 : name < 7) (h0 : 0 ≤ l) (h1 : l < 12) (hy : 1000 ≤ y) :
    fmtText (dayN name) 1 (monN ((l + 2).fmod 12 + 1 - 1)) y 0 0 0 (Str.ofString "-0000") = text2 name l y := by
  have e1 : Str.ofString ", 01 " = Str.ofString ", " ++ (Str.ofString "01" ++ Str.ofString " ") := by decide +kernel
  have e2 : Str.ofString " 00:00:00 -0000" = Str.ofString " " ++ (Str.ofString "00" ++ (Str.ofString ":" ++ (Str.ofString "00" ++ (Str.ofString ":" ++ (Str.ofString "00" ++ (Str.ofString " " ++ Str.ofString "-0000")))))) := by decide +kernel
  rw [fmtText, text2, day_slice hn0 hn1, mar_slice h0 h1, padk_long (k := 4) (dg_len_ge (k := 3) (by omega)), pad2_0, pad2_1, e1, e2]
  simp only [Str.append_assoc]
theorem text2_ok {d t u f o tot due one four hun l bg : Int} (c : Cols d t u f o tot due one four hun) (mn : Mon tot due one four hun l bg) :
    fmtText (dayN (bg.fmod 7)) 1 (monN ((l + 2).fmod 12 + 1 - 1)) (2000 + tot.fmod 400 + l.fdiv 10) 0 0 0 (Str.ofString "-0000") =
      text2 ((5 * hun + 5 * four + one + 6 * l.fdiv 5 + 5 * (l.fmod 5).fdiv 2 + 3 * (l.fmod 5).fmod 2 + 2).fmod 7) l (2000 + 100 * hun + 4 * four + one + l.fdiv 10) := by
  obtain ⟨q, hq⟩ := c.totq
  have := c.one0; have := c.one1; have := c.four0; have := c.four1; have := c.hun0; have := c.hun1; have := mn.l0; have := mn.l1
  have e : 2000 + tot.fmod 400 + l.fdiv 10 = 2000 + 100 * hun + 4 * four + one + l.fdiv 10 := by
    simp (disch := omega) only [fm, fd]
    omega
  rw [mn.wk, e]
  refine text_eq ?_ ?_ mn.l0 mn.l1 ?_
  all_goals (simp (disch := omega) only [fm, fd]; omega)
theorem row_ok {d t u f o tot due one four hun l bg : Int} (c : Cols d t u f o tot due one four hun) (mn : Mon tot due one four hun l bg) :
    RowOk (2000 + tot.fmod 400 + l.fdiv 10) ((l + 2).fmod 12 + 1) 1 0 0 0 (bg.fmod 7) (Str.ofString "-0000") := by
  have := mn.l0; have := mn.l1
  refine ⟨?_, ?_, ?_, ?_, by decide, by decide, by decide, by decide, by decide, by decide, by decide, by decide, ?_, ?_, by decide +kernel⟩
  all_goals (simp (disch := omega) only [fm, fd]; omega)
theorem year_num {d t u f o tot due one four hun l bg : Int} (c : Cols d t u f o tot due one four hun) (mn : Mon tot due one four hun l bg) :
    0 ≤ 2000 + 100 * hun + 4 * four + one + l.fdiv 10 ∧ 2000 + 100 * hun + 4 * four + one + l.fdiv 10 < 10 ^ 10 := by
  have := c.one0; have := c.one1; have := c.four0; have := c.four1; have := c.hun0; have := c.hun1; have := mn.l0; have := mn.l1
  simp (disch := omega) only [fd]
  omega
theorem ne_falseS {a b : Str} (h : a = b) : (a != b) = false := by subst h; simp
end Mine
namespace Mine
def lfirst (k : Int) : Int := dby (k.fdiv 12) + dbm (k.fdiv 12) (k.fmod 12 + 1)
def llen (k : Int) : Int := if k.fmod 12 = 1 then (if leap (k.fdiv 12) = true then 29 else 28) else 31 - ((k.fmod 12).fmod 7).fmod 2
/-- a leap day, 1 or 0 -/
def lp (y : Int) : Int := if leap y = true then 1 else 0
theorem lp01 (y : Int) : lp y = 0 ∨ lp y = 1 := by unfold lp; split <;> simp
theorem dby_lp (y : Int) : dby (y + 1) = dby y + 365 + lp y := dby_next y
theorem twelve (k : Int) : ∃ y r, k = 12 * y + r ∧ 0 ≤ r ∧ r < 12 ∧ k.fdiv 12 = y ∧ k.fmod 12 = r := by
  refine ⟨k / 12, k % 12, ?_, ?_, ?_, fd _ (by omega), fm _ (by omega)⟩ <;> omega
theorem fd12 {y r : Int} (h0 : 0 ≤ r) (h1 : r < 12) : (12 * y + r).fdiv 12 = y := by rw [fd _ (by omega)]; omega
theorem fm12 {y r : Int} (h0 : 0 ≤ r) (h1 : r < 12) : (12 * y + r).fmod 12 = r := by rw [fm _ (by omega)]; omega
/-- the month's table: days ahead without and with the leap day -/
def tb (r : Int) : Int := [0, 31, 59, 90, 120, 151, 181, 212, 243, 273, 304, 334].getD r.toNat 0
theorem dbm_tb {y r : Int} (h0 : 0 ≤ r) (h1 : r < 12) : dbm y (r + 1) = tb r + (if 2 ≤ r then lp y else 0) := by
  have hr : r = 0 ∨ r = 1 ∨ r = 2 ∨ r = 3 ∨ r = 4 ∨ r = 5 ∨ r = 6 ∨ r = 7 ∨ r = 8 ∨ r = 9 ∨ r = 10 ∨ r = 11 := by omega
  rcases hr with rfl | rfl | rfl | rfl | rfl | rfl | rfl | rfl | rfl | rfl | rfl | rfl <;>
    simp only [dbm, tb, lp, Int.reduceAdd, Int.reduceToNat, List.getD_cons_succ, List.getD_cons_zero, Int.reduceLT, Int.reduceLE, true_and, false_and, if_false, if_true]
theorem first_of {y r : Int} (h0 : 0 ≤ r) (h1 : r < 12) : lfirst (12 * y + r) = dby y + tb r + (if 2 ≤ r then lp y else 0) := by
  rw [lfirst, fd12 h0 h1, fm12 h0 h1, dbm_tb h0 h1]
  omega
theorem len_of {y r : Int} (h0 : 0 ≤ r) (h1 : r < 12) : llen (12 * y + r) = if r = 1 then 28 + lp y else 31 - (r.fmod 7).fmod 2 := by
  rw [llen, fd12 h0 h1, fm12 h0 h1]
  split
  · unfold lp; split <;> rfl
  · rfl
theorem first_next (k : Int) : lfirst (k + 1) = lfirst k + llen k := by
  obtain ⟨y, r, rfl, h0, h1, -, -⟩ := twelve k
  rw [first_of h0 h1, len_of h0 h1]
  have e := dby_lp y
  have hr : r = 0 ∨ r = 1 ∨ r = 2 ∨ r = 3 ∨ r = 4 ∨ r = 5 ∨ r = 6 ∨ r = 7 ∨ r = 8 ∨ r = 9 ∨ r = 10 ∨ r = 11 := by omega
  by_cases h11 : r = 11
  · subst h11
    have e2 : 12 * y + 11 + 1 = 12 * (y + 1) + 0 := by omega
    rw [e2, first_of (by omega) (by omega), e]
    simp only [tb, Int.reduceToNat, List.getD_cons_succ, List.getD_cons_zero, Int.reduceLE, if_false, if_true, Int.reduceFMod, Int.reduceEq, Int.reduceSub]
    omega
  · have e2 : 12 * y + r + 1 = 12 * y + (r + 1) := by omega
    rw [e2, first_of (by omega) (by omega)]
    rcases hr with rfl | rfl | rfl | rfl | rfl | rfl | rfl | rfl | rfl | rfl | rfl | rfl <;>
      simp only [tb, Int.reduceToNat, List.getD_cons_succ, List.getD_cons_zero, Int.reduceLE, Int.reduceAdd, if_false, if_true, Int.reduceFMod, Int.reduceEq, Int.reduceSub] <;> omega
theorem len_lo (k : Int) : 28 ≤ llen k := by
  obtain ⟨y, r, rfl, h0, h1, -, -⟩ := twelve k
  rw [len_of h0 h1]
  have := lp01 y
  simp (disch := omega) only [fm]
  split <;> omega
theorem len_hi (k : Int) : llen k ≤ 31 := by
  obtain ⟨y, r, rfl, h0, h1, -, -⟩ := twelve k
  rw [len_of h0 h1]
  have := lp01 y
  simp (disch := omega) only [fm]
  split <;> omega
theorem len_feb {k : Int} (h : llen k ≤ 29) : llen (k - 1) = 31 := by
  obtain ⟨y, r, rfl, h0, h1, -, -⟩ := twelve k
  rw [len_of h0 h1] at h
  have hr : r = 1 := by
    simp (disch := omega) only [fm] at h
    split at h <;> omega
  subst hr
  have e : 12 * y + 1 - 1 = 12 * y + 0 := by omega
  rw [e, len_of (by omega) (by omega)]
  rfl
theorem len_years (y z r : Int) (h0 : 0 ≤ r) (h1 : r < 12) : llen (12 * y + r) ≤ llen (12 * z + r) + 1 := by
  rw [len_of h0 h1, len_of h0 h1]
  have := lp01 y
  have := lp01 z
  split <;> omega
theorem first_mono {a b : Int} (h : a ≤ b) : lfirst a + 28 * (b - a) ≤ lfirst b := by
  obtain ⟨n, rfl⟩ : ∃ n : Nat, b = a + n := ⟨(b - a).toNat, by omega⟩
  clear h
  induction n with
  | zero => simp
  | succ n ih =>
    have e := first_next (a + n)
    have l := len_lo (a + n)
    have e2 : a + ((n + 1 : Nat) : Int) = a + n + 1 := by omega
    rw [e2, e]
    omega
theorem first_year (k : Int) : lfirst (k + 12) - lfirst k = if leap ((k + 10).fdiv 12) = true then 366 else 365 := by
  obtain ⟨y, r, rfl, h0, h1, -, -⟩ := twelve k
  have e2 : 12 * y + r + 12 = 12 * (y + 1) + r := by omega
  rw [e2, first_of h0 h1, first_of h0 h1]
  have e := dby_lp y
  have goal : ∀ z : Int, (if leap z = true then (366 : Int) else 365) = 365 + lp z := by intro z; unfold lp; split <;> rfl
  rw [goal]
  by_cases h : 2 ≤ r
  · have ez : (12 * y + r + 10).fdiv 12 = y + 1 := by rw [fd _ (by omega)]; omega
    rw [ez, if_pos h, if_pos h]; omega
  · have ez : (12 * y + r + 10).fdiv 12 = y := by rw [fd _ (by omega)]; omega
    rw [ez, if_neg h, if_neg h]; omega
/-- a person: born, month, date, figures -/
structure Per (born month date fig : Int) : Prop where
  ex : ∃ y r, 1 ≤ y ∧ y ≤ 12000 ∧ 0 ≤ r ∧ r < 12 ∧ month = 12 * y + r ∧ fig = 10000 * y + 100 * (r + 1) + date
  d0 : 1 ≤ date
  d1 : date ≤ llen month
  born : born = lfirst month + date
section
variable {start month date written today now shown rd : Int}
theorem age_of (p : Per start month date written) (q : Per today now shown rd) :
    ∃ M, month + 12 * (rd - written).fdiv 10000 = M ∧ M ≤ now ∧ now ≤ M + 12 ∧ (M = now → date ≤ shown) ∧ (now = M + 12 → shown < date) ∧ date ≤ llen M + 1 := by
  obtain ⟨y, r, y0, y1, r0, r1, hm, hf⟩ := p.ex
  obtain ⟨y', r', y0', y1', r0', r1', hm', hf'⟩ := q.ex
  have a1 := p.d0; have a2 := p.d1; have b1 := q.d0; have b2 := q.d1
  have a3 := len_hi month; have b3 := len_hi now
  refine ⟨_, rfl, ?_⟩
  have hy := len_years y (y + (rd - written).fdiv 10000) r r0 r1
  have e : 12 * (y + (rd - written).fdiv 10000) + r = month + 12 * (rd - written).fdiv 10000 := by omega
  rw [e, ← hm] at hy
  refine ⟨?_, ?_, ?_, ?_, by omega⟩ <;> rw [fd _ (by omega)] <;> omega
theorem last_le (p : Per start month date written) (q : Per today now shown rd) : lfirst (month + 12 * (rd - written).fdiv 10000) + date ≤ today := by
  obtain ⟨M, e, h1, h2, h3, h4, h5⟩ := age_of p q
  rw [e, q.born]
  have b1 := q.d0
  by_cases h : M = now
  · have := h3 h; subst h; omega
  · have m := first_mono (a := M + 1) (b := now) (by omega)
    rw [first_next] at m
    omega
theorem lt_coming (p : Per start month date written) (q : Per today now shown rd) : today < lfirst (month + 12 * (rd - written).fdiv 10000 + 12) + date := by
  obtain ⟨M, e, h1, h2, h3, h4, h5⟩ := age_of p q
  rw [e, q.born]
  have a1 := p.d0; have b2 := q.d1
  by_cases h : now = M + 12
  · have := h4 h; rw [← h]; omega
  · have m := first_mono (a := now + 1) (b := M + 12) (by omega)
    rw [first_next] at m
    omega
theorem year_days (m a d : Int) : lfirst (m + 12 * a + 12) + d - (lfirst (m + 12 * a) + d) = if leap ((m + 10).fdiv 12 + a) = true then 366 else 365 := by
  have e := first_year (m + 12 * a)
  have e2 : (m + 12 * a + 10).fdiv 12 = (m + 10).fdiv 12 + a := by
    rw [fd _ (by omega), fd _ (by omega)]; omega
  rw [e2] at e
  rw [← e]
  omega
theorem begun0 (p : Per start month date written) (q : Per today now shown rd) : today - (lfirst (month + (now - month)) + date) = shown - date := by
  have e : month + (now - month) = now := by omega
  rw [e, q.born]; omega
theorem ended0 (p : Per start month date written) (q : Per today now shown rd) : lfirst (month + (now - month) + 1) + date - today = llen (month + (now - month)) - (shown - date) := by
  have e : month + (now - month) = now := by omega
  rw [e, q.born, first_next]; omega
theorem begun1 (p : Per start month date written) (q : Per today now shown rd) : today - (lfirst (month + (now - month - 1)) + date) = shown - date + llen (now - 1) := by
  have e : month + (now - month - 1) = now - 1 := by omega
  have f := first_next (now - 1)
  rw [show now - 1 + 1 = now from by omega] at f
  rw [e, q.born, f]; omega
theorem ended1 (p : Per start month date written) (q : Per today now shown rd) : lfirst (month + (now - month - 1) + 1) + date - today = llen (month + (now - month - 1)) - (shown - date + llen (now - 1)) := by
  have e : month + (now - month - 1) = now - 1 := by omega
  rw [e, q.born, show now - 1 + 1 = now from by omega]; omega
theorem feb2 (p : Per start month date written) (q : Per today now shown rd) (h : shown - date + llen (now - 1) < 0) : llen (now - 2) = 31 := by
  have a2 := p.d1; have a3 := len_hi month; have b1 := q.d0
  have := len_feb (k := now - 1) (by omega)
  rw [show now - 1 - 1 = now - 2 from by omega] at this
  exact this
theorem begun2 (p : Per start month date written) (q : Per today now shown rd) (h : shown - date + llen (now - 1) < 0) : today - (lfirst (month + (now - month - 1 - 1)) + date) = shown - date + llen (now - 1) + 31 := by
  have e : month + (now - month - 1 - 1) = now - 2 := by omega
  have f := first_next (now - 1)
  rw [show now - 1 + 1 = now from by omega] at f
  have g := first_next (now - 2)
  rw [show now - 2 + 1 = now - 1 from by omega, feb2 p q h] at g
  rw [e, q.born, f, g]; omega
theorem ended2 (p : Per start month date written) (q : Per today now shown rd) (h : shown - date + llen (now - 1) < 0) : lfirst (month + (now - month - 1 - 1) + 1) + date - today = llen (month + (now - month - 1 - 1)) - (shown - date + llen (now - 1) + 31) := by
  have e : month + (now - month - 1 - 1) = now - 2 := by omega
  have f := first_next (now - 1)
  rw [show now - 1 + 1 = now from by omega] at f
  rw [e, show now - 2 + 1 = now - 1 from by omega, feb2 p q h, q.born, f]; omega
end
theorem llen29 {a : Int} (h : a.fmod 12 = 1) (h2 : leap (a.fdiv 12) = true) : 29 = llen a := by rw [llen, if_pos h, if_pos h2]
theorem llen28 {a : Int} (h : a.fmod 12 = 1) (h2 : leap (a.fdiv 12) = false) : 28 = llen a := by rw [llen, if_pos h, h2]; rfl
theorem llen28' {a : Int} (h : a.fmod 12 = 1) (h2 : ¬ leap (a.fdiv 12) = true) : 28 = llen a := by rw [llen, if_pos h, if_neg h2]
theorem llenE {a : Int} (h : ¬ a.fmod 12 = 1) : 31 - ((a.fmod 12).fmod 7).fmod 2 = llen a := by rw [llen, if_neg h]
/-- the line that the law writes -/
def moved (year rest : Int) : Int := if rest < 2 then year - 1 else year
def lineT (name day rest year clock : Int) : Str :=
  Txt.slice (Str.ofString "SunMonTueWedThuFriSat") (some (3 * name)) (some (3 * name + 3)) ++ Str.ofString ", " ++ padk 2 day ++ Str.ofString " " ++ (Txt.slice (Str.ofString "JanFebMarAprMayJunJulAugSepOctNovDec") (some (3 * rest)) (some (3 * rest + 3)) ++ Str.ofString " ") ++ (padk 4 year ++ Str.ofString " ") ++
    padk 2 (clock.fdiv 3600) ++ Str.ofString ":" ++ padk 2 ((clock.fdiv 60).fmod 60) ++ Str.ofString ":" ++ padk 2 (clock.fmod 60) ++ Str.ofString " +0000"
def lineN (year rest day : Int) : Int := (moved year rest + (moved year rest).fdiv 4 - (moved year rest).fdiv 100 + (moved year rest).fdiv 400 + [0, 3, 2, 5, 0, 3, 5, 1, 4, 6, 2, 4].getD rest.toNat 0 + day).fmod 7
def lawLine (year rest day clock : Int) : Str := lineT (lineN year rest day) day rest year clock
theorem law_two {n : Int} (h0 : 0 ≤ n) (h1 : n < 100) : Txt.slice (Str.ofString (toString (100 + n))) (some 1) none = padk 2 n := by
  have key : ∀ k : Fin 100, Txt.slice (Str.ofString (toString (100 + ((k.val : Nat) : Int)))) (some 1) none = padk 2 ((k.val : Nat) : Int) := by decide +kernel
  have := key ⟨n.toNat, by omega⟩
  have e : ((n.toNat : Nat) : Int) = n := Int.toNat_of_nonneg h0
  simp only [e] at this
  exact this
theorem jan_slice {r : Int} (h0 : 0 ≤ r) (h1 : r < 12) : monN (r + 1 - 1) = Txt.slice (Str.ofString "JanFebMarAprMayJunJulAugSepOctNovDec") (some (3 * r)) (some (3 * r + 3)) := by
  have hl : r = 0 ∨ r = 1 ∨ r = 2 ∨ r = 3 ∨ r = 4 ∨ r = 5 ∨ r = 6 ∨ r = 7 ∨ r = 8 ∨ r = 9 ∨ r = 10 ∨ r = 11 := by omega
  rcases hl with rfl | rfl | rfl | rfl | rfl | rfl | rfl | rfl | rfl | rfl | rfl | rfl <;> decide +kernel
theorem sun_slice {k : Int} : dayN ((k + 6).fmod 7) = Txt.slice (Str.ofString "SunMonTueWedThuFriSat") (some (3 * k.fmod 7)) (some (3 * k.fmod 7 + 3)) := by
  have e : (k + 6).fmod 7 = (k.fmod 7 + 6).fmod 7 := by simp (disch := omega) only [fm]; omega
  have h0 : 0 ≤ k.fmod 7 := by rw [fm _ (by omega)]; omega
  have h1 : k.fmod 7 < 7 := by rw [fm _ (by omega)]; omega
  rw [e]
  generalize k.fmod 7 = j at h0 h1
  have hj : j = 0 ∨ j = 1 ∨ j = 2 ∨ j = 3 ∨ j = 4 ∨ j = 5 ∨ j = 6 := by omega
  rcases hj with rfl | rfl | rfl | rfl | rfl | rfl | rfl <;> decide +kernel
theorem name_eq {y r d : Int} (h0 : 0 ≤ r) (h1 : r < 12) : (lfirst (12 * y + r) + d).fmod 7 = lineN y r d := by
  rw [first_of h0 h1, lineN, moved]
  have e := dby_lp y
  have f : dby (y + 1) = y * 365 + y / 4 - y / 100 + y / 400 := by
    simp (disch := omega) only [dby, fd]
    omega
  have g : dby y = (y - 1) * 365 + (y - 1) / 4 - (y - 1) / 100 + (y - 1) / 400 := by
    simp (disch := omega) only [dby, fd]
  have hr : r = 0 ∨ r = 1 ∨ r = 2 ∨ r = 3 ∨ r = 4 ∨ r = 5 ∨ r = 6 ∨ r = 7 ∨ r = 8 ∨ r = 9 ∨ r = 10 ∨ r = 11 := by omega
  simp (disch := omega) only [fm, fd]
  rcases hr with rfl | rfl | rfl | rfl | rfl | rfl | rfl | rfl | rfl | rfl | rfl | rfl <;>
    simp only [tb, Int.reduceToNat, List.getD_cons_succ, List.getD_cons_zero, Int.reduceLE, Int.reduceLT, if_false, if_true] <;> omega
def IsInt (v : Value) (n : Int) : Prop := ∃ t, v = .int n t
theorem moved_lt {y r : Int} {t : Tok} (h : r < 2) : IsInt (Value.int (y - 1) t) (moved y r) := ⟨t, by rw [moved, if_pos h]⟩
theorem moved_ge {y r : Int} {t : Tok} (h : ¬ r < 2) : IsInt (Value.int y t) (moved y r) := ⟨t, by rw [moved, if_neg h]⟩
theorem line_eq {y r d c : Int} (d0 : 1 ≤ d) (d1 : d ≤ 31) (c20 : 0 ≤ c.fdiv 3600) (c21 : c.fdiv 3600 < 100) (c30 : 0 ≤ (c.fdiv 60).fmod 60) (c31 : (c.fdiv 60).fmod 60 < 100) (c40 : 0 ≤ c.fmod 60) (c41 : c.fmod 60 < 100) :
    Txt.slice (Str.ofString "SunMonTueWedThuFriSat") (some (3 * lineN y r d)) (some (3 * lineN y r d + 3)) ++ Str.ofString ", " ++ Txt.slice (Str.ofString (toString (100 + d))) (some 1) none ++ Str.ofString " " ++ Txt.slice (Str.ofString "JanFebMarAprMayJunJulAugSepOctNovDec") (some (3 * r)) (some (3 * r + 3)) ++ Str.ofString " " ++
      Txt.mul (Str.ofString "0") (4 - ((Str.ofString (toString y)).length : Int)) ++ Str.ofString (toString y) ++ Str.ofString " " ++ Txt.slice (Str.ofString (toString (100 + c.fdiv 3600))) (some 1) none ++ Str.ofString ":" ++ Txt.slice (Str.ofString (toString (100 + (c.fdiv 60).fmod 60))) (some 1) none ++ Str.ofString ":" ++ Txt.slice (Str.ofString (toString (100 + c.fmod 60))) (some 1) none ++ Str.ofString " +0000" = lawLine y r d c := by
  rw [law_two (by omega) (by omega), law_two c20 c21, law_two c30 c31, law_two c40 c41, lawLine, lineT, ← mul_pad]
  simp only [Str.append_assoc]
end Mine
namespace Mine
/-- the end of a turn that has made something: the ledger is told by J too -/
def EndL (h₀ : Heap) (L : Addr) (s₁ : Shared) (its keep : List (Addr × Obj)) (J : (Str → Option Value) → List (Addr × Obj) → Prop) (s₂ : Shared) : Prop :=
  ∃ h' tk m' led', s₂ = { s₁ with heap := h', toks := tk } ∧ Fr h₀ L h' m' ∧ News h₀ L h' (its ++ led') ∧ (∀ p ∈ led', ∀ q ∈ its, p.1 ≠ q.1) ∧ SubL keep led' ∧ J m' led'
def PostL (h₀ : Heap) (L : Addr) (s₁ : Shared) (its keep : List (Addr × Obj)) (J : (Str → Option Value) → List (Addr × Obj) → Prop) (Q : Flow → Shared → Prop) (f : Flow) (s₂ : Shared) : Prop :=
  match f with
  | .ret v => Q (.ret v) s₂
  | .brk => Q .next s₂
  | _ => EndL h₀ L s₁ its keep J s₂
section
variable {prog : Program} {w : World} {A : Around} {E : Value → Shared → Prop} {s : Shared} {env : Env} {h₀ : Heap} {target : PySem.Expr} {body : List Stmt} {Q : Flow → Shared → Prop}
/-- a loop over values, one iterator; what is made is told by J -/
theorem rest_valsL (J : List Value → (Str → Option Value) → List (Addr × Obj) → Prop) {I : Addr} {c : String} {keep : List (Addr × Obj)}
    (turn : ∀ (v : Value) (r : List Value) (m : Str → Option Value) (led : List (Addr × Obj)) (h : Heap) (tk : Nat) (o : Obj), J (v :: r) m led → o.cls = .type c →
      Fr h₀ env.locals h m → News h₀ env.locals h ((I, o) :: led) →
        wpAny (model prog w) A (assign target env v) (fun _ s₂ => wpAny (model prog w) A (execs body env)
          (PostL h₀ env.locals { s with heap := h, toks := tk } [(I, o)] keep (J r) Q) E s₂) E { s with heap := h, toks := tk })
    (done : ∀ (m : Str → Option Value) (led : List (Addr × Obj)) (h : Heap) (tk : Nat), J [] m led → Fr h₀ env.locals h m → News h₀ env.locals h led → Q .next { s with heap := h, toks := tk }) :
    ∀ (vs : List Value) (m : Str → Option Value) (led news : List (Addr × Obj)), J vs m led → (∀ p ∈ led, p ∈ news) →
      ItemsRest prog w A E h₀ env target body Q s [(I, c)] keep (vs.map .val) m news
  | [], m, led, news, hj, hs => fun h tk F N => done m led h tk hj F fun p hp => N p (hs p hp)
  | v :: r, m, led, news, hj, hs => by
    refine ItemsRest.val fun h tk F => ?_
    refine AllObj.cons fun o ho => AllObj.nil fun N => ?_
    have N₁ : News h₀ env.locals h ((I, o) :: led) := fun p hp => by
      rcases List.mem_cons.mp hp with rfl | hp
      · exact N _ (List.mem_append_left _ (List.mem_singleton.mpr rfl))
      · exact N _ (List.mem_append_right _ (hs p hp))
    refine wpAny_mono (turn v r m led h tk o hj ho F N₁) (fun _ s₂ h₂ => wpAny_mono h₂ (fun f s₃ p => ?_) fun _ _ e => e) fun _ _ e => e
    have fin : EndL h₀ env.locals { s with heap := h, toks := tk } [(I, o)] keep (J r) s₃ →
        UnrEndW h₀ env.locals { s with heap := h, toks := tk } [(I, o)] (fun m' n' => SubL keep n' ∧ ItemsRest prog w A E h₀ env target body Q s [(I, c)] keep (r.map .val) m' n') s₃ := by
      rintro ⟨h', tk', m', led', e, F', N', hne, hk, hj'⟩
      exact ⟨h', tk', m', led', e, F', N', hne, hk, rest_valsL J turn done r m' led' led' hj' fun p hp => hp⟩
    cases f with
    | ret v => exact p
    | brk => exact p
    | next => exact fin p
    | cont => exact fin p
end
/-- a made tuple of four ints -/
def pTup (b mo d f : Int) (t1 t2 t3 t4 : Tok) : Obj := { cls := .type "tuple", data := .seq #[.int b t1, .int mo t2, .int d t3, .int f t4] }
/-- each of the people is a tuple that stands in the ledger -/
def Ppl (tups : List (Addr × Obj)) (vs : List Value) : Prop :=
  ∀ v ∈ vs, ∃ T b mo d f t1 t2 t3 t4, v = .ref T ∧ (T, pTup b mo d f t1 t2 t3 t4) ∈ tups ∧ Per b mo d f
theorem Ppl.snoc {tups : List (Addr × Obj)} {vs : List Value} {T : Addr} {b mo d f : Int} {t1 t2 t3 t4 : Tok} (h : Ppl tups vs) (p : Per b mo d f) :
    Ppl ((T, pTup b mo d f t1 t2 t3 t4) :: tups) (vs ++ [Value.ref T]) := by
  intro v hv
  rcases List.mem_append.mp hv with hv | hv
  · obtain ⟨T', b', mo', d', f', s1, s2, s3, s4, e, hm, hp⟩ := h v hv
    exact ⟨T', b', mo', d', f', s1, s2, s3, s4, e, List.mem_cons_of_mem _ hm, hp⟩
  · exact ⟨T, b, mo, d, f, t1, t2, t3, t4, List.mem_singleton.mp hv, List.mem_cons_self .., p⟩
/-- what holds between the turns of the building loop -/
def J1 (lx : Addr) (lo : Obj) (pl I : Addr) (r : List Value) (m : Str → Option Value) (led : List (Addr × Obj)) : Prop :=
  ∃ (ns : List Int) (u : Str → Option Value) (vs : List Value) (n : Nat) (tups : List (Addr × Obj)), IntsAre r ns ∧ m = kstB u [(Str.ofString "people", .ref pl)] ∧
    led = (lx, lo) :: (pl, W.listOf vs.toArray n) :: tups ∧ Ppl tups vs ∧ (∀ p ∈ tups, p.1 ≠ pl) ∧ (∀ p ∈ tups, p.1 ≠ I) ∧ vs.length + ns.length ≤ 7
section
variable {prog : Program} {w : World} {A : Around} {E : Value → Shared → Prop} {s : Shared} {env : Env} {h₀ : Heap} {target : PySem.Expr} {body : List Stmt} {Q : Flow → Shared → Prop}
theorem rest_ppl {D pl I : Addr} {lo : Obj} {p1 p2 : Addr × Obj} {ws : List Value} {ns : List Int} {m₀ : Str → Option Value} (hi : IntsAre ws ns) (hn : ns.length ≤ 7) (hm : m₀ (Str.ofString "people") = some (.ref pl))
    (hDI : D < I) (hpI : pl < I) (hpD : pl < D)
    (turn : ∀ (pl D I : Addr) (lo : Obj), @LT.lt Nat _ D I → @LT.lt Nat _ pl I → @LT.lt Nat _ pl D → ∀ (ns : List Int) (k : Int) (t : Tok) (r : List Value) (u : Str → Option Value) (vs : List Value) (n : Nat) (tups : List (Addr × Obj)) (h : Heap) (tk : Nat) (o : Obj), o.cls = .type "list_iterator" → IntsAre r ns →
      Ppl tups vs → (∀ p ∈ tups, p.1 ≠ pl) → (∀ p ∈ tups, p.1 ≠ I) → vs.length + ns.length ≤ 6 → Fr h₀ env.locals h (kstB u [(Str.ofString "people", .ref pl)]) →
      News h₀ env.locals h ((I, o) :: (D, lo) :: (pl, W.listOf vs.toArray n) :: tups) →
        wpAny (model prog w) A (assign target env (.int k t)) (fun _ s₂ => wpAny (model prog w) A (execs body env)
          (PostL h₀ env.locals { s with heap := h, toks := tk } [(I, o)] [(D, lo)] (J1 D lo pl I r) Q) E s₂) E { s with heap := h, toks := tk })
    (done : ∀ (pl : Addr) (u : Str → Option Value) (vs : List Value) (n : Nat) (tups : List (Addr × Obj)) (h : Heap) (tk : Nat), Ppl tups vs → vs.length ≤ 7 → Fr h₀ env.locals h (kstB u [(Str.ofString "people", .ref pl)]) →
      News h₀ env.locals h ((pl, W.listOf vs.toArray n) :: tups) → Q .next { s with heap := h, toks := tk }) :
    ItemsRest prog w A E h₀ env target body Q s [(I, "list_iterator")] [(D, lo)] (ws.map .val) m₀ [(D, lo), p1, p2, (pl, W.listOf #[] 0)] := by
  refine rest_valsL (J1 D lo pl I) ?_ ?_ ws m₀ [(D, lo), (pl, W.listOf #[] 0)] _ ⟨ns, m₀, [], 0, [], hi, ?_, rfl, ?_, ?_, ?_, ?_⟩ ?_
  · rintro v r m led h tk o ⟨ns, u, vs, n, tups, hi, rfl, rfl, hp, h1, h2, hl⟩ ho F N
    obtain ⟨k, q, t, rfl, rfl, hi'⟩ := ints_cons hi
    refine turn pl D I lo hDI hpI hpD q k t r u vs n tups h tk o ho hi' hp h1 h2 ?_ F N
    rw [List.length_cons] at hl
    omega
  · rintro m led h tk ⟨ns, u, vs, n, tups, hi, rfl, rfl, hp, h1, h2, hl⟩ F N
    exact done pl u vs n tups h tk hp (by omega) F fun p hp => N p (List.mem_cons_of_mem _ hp)
  · exact (kstB_self (by intro p hp; rw [List.mem_singleton.mp hp]; exact hm)).symm
  · intro v hv; exact nomatch hv
  · intro p hp; exact nomatch hp
  · intro p hp; exact nomatch hp
  · simpa using hn
  · intro p hp
    rcases List.mem_cons.mp hp with rfl | hp
    · exact .head _
    · rw [List.mem_singleton.mp hp]
      exact .tail _ (.tail _ (.tail _ (.head _)))
end
theorem end_ppl {h₀ h' : Heap} {L T D pl I : Addr} {lo o : Obj} {x1 x2 : Addr × Obj} {s₁ : Shared} {m' : Str → Option Value} {vs r : List Value} {ns : List Int} {n tk : Nat} {tups : List (Addr × Obj)} {b mo d f : Int} {t1 t2 t3 t4 : Tok}
    (F : Fr h₀ L h' m') (N : News h₀ L h' ((T, ({ cls := .type "tuple", data := .seq #[.int b t1, .int mo t2, .int d t3, .int f t4] } : Obj)) :: x1 :: x2 :: (I, o) :: (D, lo) :: (pl, W.listOf (vs.toArray.push (.ref T)) (n + 1)) :: tups))
    (hr : IntsAre r ns) (hp : Ppl tups vs) (per : Per b mo d f) (h1 : ∀ p ∈ tups, p.1 ≠ pl) (h2 : ∀ p ∈ tups, p.1 ≠ I) (hl : vs.length + ns.length ≤ 6) (hm : ∀ p ∈ [(Str.ofString "people", Value.ref pl)], m' p.1 = some p.2)
    (n1 : T ≠ pl) (n2 : T ≠ I) (n3 : D ≠ I) (n4 : pl ≠ I) : EndL h₀ L s₁ [(I, o)] [(D, lo)] (J1 D lo pl I r) { s₁ with heap := h', toks := tk } := by
  refine ⟨h', tk, m', (D, lo) :: (pl, W.listOf (vs ++ [Value.ref T]).toArray (n + 1)) :: (T, pTup b mo d f t1 t2 t3 t4) :: tups, rfl, F, ?_, ?_, ⟨.head _, trivial⟩, ns, m', vs ++ [Value.ref T], n + 1, (T, pTup b mo d f t1 t2 t3 t4) :: tups, hr, (kstB_self hm).symm, rfl, hp.snoc per, ?_, ?_, ?_⟩
  · rw [List.push_toArray] at N
    intro p hp
    refine N p ?_
    simp only [List.mem_append, List.mem_cons, List.not_mem_nil, or_false] at hp ⊢
    rcases hp with h | h | h | h | h
    · exact .inr (.inr (.inr (.inl h)))
    · exact .inr (.inr (.inr (.inr (.inl h))))
    · exact .inr (.inr (.inr (.inr (.inr (.inl h)))))
    · exact .inl h
    · exact .inr (.inr (.inr (.inr (.inr (.inr h)))))
  · intro p hp q hq
    rw [List.mem_singleton.mp hq]
    rcases List.mem_cons.mp hp with rfl | hp
    · exact n3
    rcases List.mem_cons.mp hp with rfl | hp
    · exact n4
    rcases List.mem_cons.mp hp with rfl | hp
    · exact n2
    · exact h2 p hp
  · intro p hp
    rcases List.mem_cons.mp hp with rfl | hp
    · exact n1
    · exact h1 p hp
  · intro p hp
    rcases List.mem_cons.mp hp with rfl | hp
    · exact n2
    · exact h2 p hp
  · rw [List.length_append, List.length_cons, List.length_nil]
    omega
/-- a day: year, month, day of the month, second, number -/
structure Day (y r d c b : Int) : Prop where
  y0 : 1 ≤ y
  y1 : y ≤ 12000
  r0 : 0 ≤ r
  r1 : r < 12
  d0 : 1 ≤ d
  d1 : d ≤ llen (12 * y + r)
  c0 : 0 ≤ c
  c1 : c < 86400
  b : b = lfirst (12 * y + r) + d
end Mine
namespace Mine
open PySem.NumText
theorem cut_eq {c : Nat} : ∀ {a b R R' : List Nat}, c ∉ a → c ∉ b → a ++ c :: R = b ++ c :: R' → a = b ∧ R = R'
  | [], [], _, _, _, _, h => ⟨rfl, (List.cons.inj h).2⟩
  | [], y :: b, _, _, _, hb, h => absurd ((List.cons.inj h).1 ▸ List.mem_cons_self ..) hb
  | x :: a, [], _, _, ha, _, h => absurd ((List.cons.inj h).1 ▸ List.mem_cons_self ..) ha
  | x :: a, y :: b, R, R', ha, hb, h => by
    obtain ⟨h1, h2⟩ := List.cons.inj h
    obtain ⟨e1, e2⟩ := cut_eq (fun q => ha (List.mem_cons_of_mem _ q)) (fun q => hb (List.mem_cons_of_mem _ q)) h2
    exact ⟨by rw [h1, e1], e2⟩
theorem join_cps (c : Nat) (x y : Str) (r : List Str) : (Str.join ⟨#[c]⟩ (x :: y :: r)).cps.toList = x.cps.toList ++ c :: (Str.join ⟨#[c]⟩ (y :: r)).cps.toList := by
  show (x ++ (⟨#[c]⟩ : Str) ++ Str.join ⟨#[c]⟩ (y :: r)).cps.toList = _
  rw [Str.cps_append, Str.cps_append, Array.toList_append, Array.toList_append]
  simp
theorem join_inj {c : Nat} : ∀ (ps qs : List Str), ps ≠ [] → qs ≠ [] → (∀ p ∈ ps, c ∉ p.cps.toList) → (∀ p ∈ qs, c ∉ p.cps.toList) → Str.join ⟨#[c]⟩ ps = Str.join ⟨#[c]⟩ qs → ps = qs
  | [], _, h, _, _, _, _ => absurd rfl h
  | _ :: _, [], _, h, _, _, _ => absurd rfl h
  | [x], [y], _, _, _, _, h => by
    have h' : x = y := h
    rw [h']
  | [x], y :: z :: r, _, _, hp, _, h => by
    have h' := congrArg (fun s : Str => s.cps.toList) h
    simp only [join_cps] at h'
    have h2 : x.cps.toList = y.cps.toList ++ c :: (Str.join ⟨#[c]⟩ (z :: r)).cps.toList := h'
    exact absurd (h2 ▸ List.mem_append_right _ (List.mem_cons_self ..)) (hp x (List.mem_singleton.mpr rfl))
  | x :: w :: q, [y], _, _, _, hq, h => by
    have h' := congrArg (fun s : Str => s.cps.toList) h
    simp only [join_cps] at h'
    have h2 : x.cps.toList ++ c :: (Str.join ⟨#[c]⟩ (w :: q)).cps.toList = y.cps.toList := h'
    exact absurd (h2 ▸ List.mem_append_right _ (List.mem_cons_self ..)) (hq y (List.mem_singleton.mpr rfl))
  | x :: w :: q, y :: z :: r, _, _, hp, hq, h => by
    have h' := congrArg (fun s : Str => s.cps.toList) h
    simp only [join_cps] at h'
    obtain ⟨e1, e2⟩ := cut_eq (hp x (List.mem_cons_self ..)) (hq y (List.mem_cons_self ..)) h'
    have e3 : x = y := Str.ext' (Array.toList_inj.mp e1)
    have e4 := join_inj (w :: q) (z :: r) (by simp) (by simp) (fun p hm => hp p (List.mem_cons_of_mem _ hm)) (fun p hm => hq p (List.mem_cons_of_mem _ hm)) (Str.ext' (Array.toList_inj.mp e2))
    rw [e3, e4]
theorem split_of {c : Nat} {x : Str} {ps : List Str} (hx : x = Str.join ⟨#[c]⟩ ps) (hne : ps ≠ []) (hf : ∀ p ∈ ps, c ∉ p.cps.toList) : Txt.split x ⟨#[c]⟩ = ps := by
  refine join_inj _ _ ?_ hne (StrLaws.split_free x c) hf ?_
  · intro e
    have := split_pos x ⟨#[c]⟩
    rw [e] at this
    exact absurd this (by decide)
  · rw [StrLaws.join_split, hx]
def dayP (n : Int) : Str := Txt.slice (Str.ofString "SunMonTueWedThuFriSat") (some (3 * n)) (some (3 * n + 3)) ++ Str.ofString ","
def monP (r : Int) : Str := Txt.slice (Str.ofString "JanFebMarAprMayJunJulAugSepOctNovDec") (some (3 * r)) (some (3 * r + 3))
def clkP (c : Int) : Str := padk 2 (c.fdiv 3600) ++ Str.ofString ":" ++ padk 2 ((c.fdiv 60).fmod 60) ++ Str.ofString ":" ++ padk 2 (c.fmod 60)
def parts (y r d c : Int) : List Str := [dayP (lineN y r d), padk 2 d, monP r, padk 4 y, clkP c, Str.ofString "+0000"]
theorem line_join (y r d c : Int) : lawLine y r d c = Str.join ⟨#[32]⟩ (parts y r d c) := by
  have e1 : Str.ofString ", " = Str.ofString "," ++ ⟨#[32]⟩ := by decide +kernel
  have e2 : Str.ofString " " = ⟨#[32]⟩ := by decide +kernel
  have e3 : Str.ofString " +0000" = ⟨#[32]⟩ ++ Str.ofString "+0000" := by decide +kernel
  show lawLine y r d c = dayP (lineN y r d) ++ ⟨#[32]⟩ ++ (padk 2 d ++ ⟨#[32]⟩ ++ (monP r ++ ⟨#[32]⟩ ++ (padk 4 y ++ ⟨#[32]⟩ ++ (clkP c ++ ⟨#[32]⟩ ++ Str.ofString "+0000"))))
  rw [lawLine, lineT, e1, e2, e3, dayP, monP, clkP]
  simp only [Str.append_assoc]
theorem padk_free {k : Nat} {n : Int} {c : Nat} (h : 0 ≤ n) (hc : c < 48 ∨ 57 < c) : c ∉ (padk k n).cps.toList := by
  intro hm
  have hm' : c ∈ List.replicate (k - (dg n).length) 48 ++ dg n := hm
  rcases List.mem_append.mp hm' with q | q
  · have := (List.mem_replicate.mp q).2
    omega
  · have := dg_all h c q
    omega
theorem app_free {x y : Str} {c : Nat} (hx : c ∉ x.cps.toList) (hy : c ∉ y.cps.toList) : c ∉ (x ++ y).cps.toList := by
  rw [Str.cps_append, Array.toList_append]
  intro h
  exact (List.mem_append.mp h).elim hx hy
theorem day_free {n : Int} (h0 : 0 ≤ n) (h1 : n < 7) : 32 ∉ (dayP n).cps.toList := by
  have hj : n = 0 ∨ n = 1 ∨ n = 2 ∨ n = 3 ∨ n = 4 ∨ n = 5 ∨ n = 6 := by omega
  rcases hj with rfl | rfl | rfl | rfl | rfl | rfl | rfl <;> decide +kernel
theorem mon_free {r : Int} (h0 : 0 ≤ r) (h1 : r < 12) : 32 ∉ (monP r).cps.toList := by
  have hl : r = 0 ∨ r = 1 ∨ r = 2 ∨ r = 3 ∨ r = 4 ∨ r = 5 ∨ r = 6 ∨ r = 7 ∨ r = 8 ∨ r = 9 ∨ r = 10 ∨ r = 11 := by omega
  rcases hl with rfl | rfl | rfl | rfl | rfl | rfl | rfl | rfl | rfl | rfl | rfl | rfl <;> decide +kernel
theorem line_split {y r d c : Int} (y0 : 0 ≤ y) (r0 : 0 ≤ r) (r1 : r < 12) (d0 : 0 ≤ d) (c0 : 0 ≤ c) : Txt.split (lawLine y r d c) (Str.ofString " ") = parts y r d c := by
  have e2 : Str.ofString " " = ⟨#[32]⟩ := by decide +kernel
  have hn0 : 0 ≤ lineN y r d := by rw [lineN, fm _ (by omega)]; omega
  have hn1 : lineN y r d < 7 := by rw [lineN, fm _ (by omega)]; omega
  rw [e2]
  refine split_of (line_join y r d c) (by simp [parts]) ?_
  have q1 : 0 ≤ c.fdiv 3600 := by rw [fd _ (by omega)]; omega
  have q2 : 0 ≤ (c.fdiv 60).fmod 60 := by rw [fm _ (by omega)]; omega
  have q3 : 0 ≤ c.fmod 60 := by rw [fm _ (by omega)]; omega
  have hcl : 32 ∉ (Str.ofString ":").cps.toList := by decide +kernel
  intro p hp
  simp only [parts, List.mem_cons, List.not_mem_nil, or_false] at hp
  rcases hp with rfl | rfl | rfl | rfl | rfl | rfl
  · exact day_free hn0 hn1
  · exact padk_free d0 (by decide)
  · exact mon_free r0 r1
  · exact padk_free y0 (by decide)
  · exact app_free (app_free (app_free (app_free (padk_free q1 (by decide)) hcl) (padk_free q2 (by decide))) hcl) (padk_free q3 (by decide))
  · decide +kernel
theorem vals_zero : ∀ (j : Nat) (l : List Nat), digitsVal (List.replicate j 48 ++ l) = digitsVal l
  | 0, l => rfl
  | j + 1, l => by
    rw [List.replicate_succ]
    show digitsVal (48 :: (List.replicate j 48 ++ l)) = _
    rw [digitsVal_zero, vals_zero j l]
theorem pad_reads {k : Nat} {n : Int} (h0 : 0 ≤ n) (h1 : n < 10 ^ 10) (hk : k ≤ 10) : PySem.intText? (padk k n) = some n := by
  have hl := padk_le (k := k) h0 h1 hk
  have e0 : (padk k n).cps.toList = List.replicate (k - (dg n).length) 48 ++ dg n := rfl
  have hd : AllDigits (padk k n).cps.toList := by
    intro c hc
    rw [e0] at hc
    rcases List.mem_append.mp hc with q | q
    · have := (List.mem_replicate.mp q).2
      omega
    · exact dg_all h0 c q
  have hne : (padk k n).cps.toList ≠ [] := by
    rw [e0]
    intro e
    exact dg_ne h0 (List.append_eq_nil_iff.mp e).2
  have e := intText_digits hd hne (Nat.le_trans hl (by decide))
  rw [e0, vals_zero] at e
  obtain ⟨m, rfl⟩ := Int.eq_ofNat_of_zero_le h0
  rw [dg_nat, PySem.W.KIN.val_back] at e
  exact e
section
variable {prog : Program} {w : World} {A : Around} {E : Value → Shared → Prop} {s : Shared}
theorem call_pad {k : Nat} {n : Int} {t : Tok} {Q : Value → Shared → Prop} (h0 : 0 ≤ n) (h1 : n < 10 ^ 10) (hk : k ≤ 10) (h : ∀ t' tk, Q (.int n t') { s with toks := tk }) : wpAny (model prog w) A (call (.type "int") [.str (padk k n) t]) Q E s :=
  PySem.W.KIN.call_text (pad_reads h0 h1 hk) (Nat.le_trans (padk_le h0 h1 hk) (by decide)) (h _ _)
theorem mon_occ {r : Int} (h0 : 0 ≤ r) (h1 : r < 12) : PySem.Builtin.Str.occurrences (Str.ofString "JanFebMarAprMayJunJulAugSepOctNovDec") (monP r) 0 (Str.ofString "JanFebMarAprMayJunJulAugSepOctNovDec").length 1 = [(3 * r).toNat] := by
  have hl : r = 0 ∨ r = 1 ∨ r = 2 ∨ r = 3 ∨ r = 4 ∨ r = 5 ∨ r = 6 ∨ r = 7 ∨ r = 8 ∨ r = 9 ∨ r = 10 ∨ r = 11 := by omega
  rcases hl with rfl | rfl | rfl | rfl | rfl | rfl | rfl | rfl | rfl | rfl | rfl | rfl <;> decide +kernel
theorem idx_mon {r : Int} {t u : Tok} {Q : Value → Shared → Prop} (h0 : 0 ≤ r) (h1 : r < 12) (h : ∀ t' tk, Q (.int (3 * r) t') { s with toks := tk }) :
    wpAny (model prog w) A (call (.builtin "str.index") [.str (Str.ofString "JanFebMarAprMayJunJulAugSepOctNovDec") t, .str (monP r) u]) Q E s := by
  refine SC.index (mon_occ h0 h1) ?_
  have e : (((3 * r).toNat : Nat) : Int) = 3 * r := Int.toNat_of_nonneg (by omega)
  rw [e]
  exact h _ _
end
theorem line_ok {y r d c b : Int} (hd : Day y r d c b) :
    fmtText (dayN ((b + 6).fmod 7)) d (monN (r + 1 - 1)) y (c.fdiv 3600) ((c.fdiv 60).fmod 60) (c.fmod 60) (Str.ofString "+0000") = lawLine y r d c := by
  have e3 : Str.ofString " " ++ Str.ofString "+0000" = Str.ofString " +0000" := by decide +kernel
  rw [lawLine, lineT, ← e3, ← name_eq hd.r0 hd.r1, ← hd.b, fmtText, sun_slice, jan_slice hd.r0 hd.r1]
  simp only [Str.append_assoc]
theorem day_of (k : Int) : Day ((k.fdiv 372).fmod 12000 + 1) ((k.fdiv 31).fmod 12)
    (if llen (12 * ((k.fdiv 372).fmod 12000 + 1) + (k.fdiv 31).fmod 12) < k.fmod 31 + 1 then llen (12 * ((k.fdiv 372).fmod 12000 + 1) + (k.fdiv 31).fmod 12) else k.fmod 31 + 1)
    ((k.fdiv 4464000).fmod 86400)
    (lfirst (12 * ((k.fdiv 372).fmod 12000 + 1) + (k.fdiv 31).fmod 12) +
      if llen (12 * ((k.fdiv 372).fmod 12000 + 1) + (k.fdiv 31).fmod 12) < k.fmod 31 + 1 then llen (12 * ((k.fdiv 372).fmod 12000 + 1) + (k.fdiv 31).fmod 12) else k.fmod 31 + 1) := by
  have hl := len_lo (12 * ((k.fdiv 372).fmod 12000 + 1) + (k.fdiv 31).fmod 12)
  have a1 : 0 ≤ (k.fdiv 372).fmod 12000 := by rw [fm _ (by omega)]; omega
  have a2 : (k.fdiv 372).fmod 12000 < 12000 := by rw [fm _ (by omega)]; omega
  have b1 : 0 ≤ (k.fdiv 31).fmod 12 := by rw [fm _ (by omega)]; omega
  have b2 : (k.fdiv 31).fmod 12 < 12 := by rw [fm _ (by omega)]; omega
  have c1 : 0 ≤ (k.fdiv 4464000).fmod 86400 := by rw [fm _ (by omega)]; omega
  have c2 : (k.fdiv 4464000).fmod 86400 < 86400 := by rw [fm _ (by omega)]; omega
  have d1 : 0 ≤ k.fmod 31 := by rw [fm _ (by omega)]; omega
  refine ⟨by omega, by omega, b1, b2, ?_, ?_, c1, c2, rfl⟩
  · split <;> omega
  · split <;> omega
theorem per_of {y r d c b : Int} (hd : Day y r d c b) : Per b (y * 12 + (3 * r).fdiv 3) d (y * 10000 + ((3 * r).fdiv 3 + 1) * 100 + d) := by
  have e : (3 * r).fdiv 3 = r := by rw [fd _ (by omega)]; omega
  have e2 : y * 12 + r = 12 * y + r := by omega
  rw [e, e2]
  have e3 := hd.b
  exact ⟨⟨y, r, hd.y0, hd.y1, hd.r0, hd.r1, rfl, by omega⟩, hd.d0, hd.d1, hd.b⟩
theorem line_short {y r d c : Int} (y0 : 0 ≤ y) (y1 : y < 10 ^ 10) (d0 : 0 ≤ d) (d1 : d < 10 ^ 10) (c0 : 0 ≤ c) (c1 : c < 10 ^ 10) : (lawLine y r d c).length ≤ 1000 := by
  have s1 : ∀ n, (Txt.slice (Str.ofString "SunMonTueWedThuFriSat") (some (3 * n)) (some (3 * n + 3))).length ≤ 64 := fun n => tl_slice (by decide +kernel)
  have s2 : ∀ n, (Txt.slice (Str.ofString "JanFebMarAprMayJunJulAugSepOctNovDec") (some (3 * n)) (some (3 * n + 3))).length ≤ 64 := fun n => tl_slice (by decide +kernel)
  have q1 : 0 ≤ c.fdiv 3600 := by rw [fd _ (by omega)]; omega
  have q2 : 0 ≤ (c.fdiv 60).fmod 60 := by rw [fm _ (by omega)]; omega
  have q3 : 0 ≤ c.fmod 60 := by rw [fm _ (by omega)]; omega
  have p1 : c.fdiv 3600 < 10 ^ 10 := by rw [fd _ (by omega)]; omega
  have p2 : (c.fdiv 60).fmod 60 < 10 ^ 10 := by rw [fm _ (by omega)]; omega
  have p3 : c.fmod 60 < 10 ^ 10 := by rw [fm _ (by omega)]; omega
  have l1 := padk_le (k := 2) q1 p1 (by decide)
  have l2 := padk_le (k := 2) q2 p2 (by decide)
  have l3 := padk_le (k := 2) q3 p3 (by decide)
  have l4 := padk_le (k := 2) d0 d1 (by decide)
  have l5 := padk_le (k := 4) y0 y1 (by decide)
  have m1 := s1 (lineN y r d)
  have m2 := s2 r
  have t1 : (Str.ofString ", ").length = 2 := by decide +kernel
  have t2 : (Str.ofString " ").length = 1 := by decide +kernel
  have t3 : (Str.ofString ":").length = 1 := by decide +kernel
  have t4 : (Str.ofString " +0000").length = 6 := by decide +kernel
  rw [lawLine, lineT]
  simp only [Str.length_append, t1, t2, t3, t4]
  omega
end Mine
namespace Mine
section
variable {prog : Program} {w : World} {A : Around} {E : Value → Shared → Prop} {s : Shared} {env : Env} {h₀ : Heap} {target : PySem.Expr} {body : List Stmt} {Q : Flow → Shared → Prop}
/-- a loop that reads the people: what it makes is dropped at each turn's end -/
theorem rest_people (J : (Str → Option Value) → Prop) {I : Addr} {c : String} {keep led news tups : List (Addr × Obj)} {vs : List Value} {m₀ : Str → Option Value} (hp : Ppl tups vs) (off : ∀ p ∈ led, p.1 ≠ I) (hk : SubL keep led)
    (hin : ∀ p ∈ tups, p ∈ led) (hj : J m₀) (hs : ∀ p ∈ led, p ∈ news)
    (turn : ∀ (T : Addr) (b mo d f : Int) (t1 t2 t3 t4 : Tok) (m : Str → Option Value) (h : Heap) (tk : Nat) (o : Obj), Per b mo d f → J m → o.cls = .type c →
      Fr h₀ env.locals h m → News h₀ env.locals h ((T, ({ cls := .type "tuple", data := .seq #[.int b t1, .int mo t2, .int d t3, .int f t4] } : Obj)) :: (I, o) :: led) →
        wpAny (model prog w) A (assign target env (.ref T)) (fun _ s₂ => wpAny (model prog w) A (execs body env)
          (PostI h₀ env.locals { s with heap := h, toks := tk } ((I, o) :: led) J Q) E s₂) E { s with heap := h, toks := tk })
    (done : ∀ (m : Str → Option Value) (h : Heap) (tk : Nat), J m → Fr h₀ env.locals h m → News h₀ env.locals h led → Q .next { s with heap := h, toks := tk }) :
    ItemsRest prog w A E h₀ env target body Q s [(I, c)] keep (vs.map .val) m₀ news := by
  refine rest_valsL (fun r m l => (∀ v ∈ r, v ∈ vs) ∧ J m ∧ l = led) ?_ ?_ vs m₀ led news ⟨fun _ h => h, hj, rfl⟩ hs
  · rintro v r m l h tk o ⟨hr, hm, rfl⟩ ho F N
    obtain ⟨T, b, mo, d, f, t1, t2, t3, t4, rfl, hT, per⟩ := hp v (hr v (List.mem_cons_self ..))
    have N₁ : News h₀ env.locals h ((T, ({ cls := .type "tuple", data := .seq #[.int b t1, .int mo t2, .int d t3, .int f t4] } : Obj)) :: (I, o) :: l) := fun p hp => by
      rcases List.mem_cons.mp hp with rfl | hp
      · exact N _ (List.mem_cons_of_mem _ (hin _ hT))
      · exact N p hp
    refine wpAny_mono (turn T b mo d f t1 t2 t3 t4 m h tk o per hm ho F N₁) (fun _ s₂ h₂ => wpAny_mono h₂ (fun g s₃ p => ?_) fun _ _ e => e) fun _ _ e => e
    have fin : EndI h₀ env.locals { s with heap := h, toks := tk } ((I, o) :: l) J s₃ → EndL h₀ env.locals { s with heap := h, toks := tk } [(I, o)] keep (fun m l' => (∀ v ∈ r, v ∈ vs) ∧ J m ∧ l' = l) s₃ := by
      rintro ⟨h', tk', m', e, F', N', hj'⟩
      exact ⟨h', tk', m', l, e, F', N', fun p hp q hq => by rw [List.mem_singleton.mp hq]; exact off p hp, hk, fun v hv => hr v (List.mem_cons_of_mem _ hv), hj', rfl⟩
    cases g with
    | ret v => exact p
    | brk => exact p
    | next => exact fin p
    | cont => exact fin p
  · rintro m l h tk ⟨_, hm, rfl⟩ F N
    exact done m h tk hm F N
/-- a statement whose ways meet: the frame's map meets C behind it -/
def JoinS (h₀ : Heap) (L : Addr) (led : List (Addr × Obj)) (C : (Str → Option Value) → Prop) (s : Shared) (f : Flow) (s' : Shared) : Prop :=
  f = .next ∧ ∃ h' tk m', s' = { s with heap := h', toks := tk } ∧ Fr h₀ L h' m' ∧ News h₀ L h' led ∧ C m'
theorem JoinS.intro {h₀ : Heap} {L : Addr} {led : List (Addr × Obj)} {C : (Str → Option Value) → Prop} {s : Shared} {h' : Heap} {tk : Nat} {m' : Str → Option Value} (F : Fr h₀ L h' m') (N : News h₀ L h' led) (hc : C m') :
    JoinS h₀ L led C s .next { s with heap := h', toks := tk } := ⟨rfl, h', tk, m', rfl, F, N, hc⟩
theorem join_s {M : Model} {L : Addr} {m : Str → Option Value} {led : List (Addr × Obj)} {t : Sem Flow} (C : (Str → Option Value) → Prop) (_F : Fr h₀ L s.heap m) (_N : News h₀ L s.heap led) (h : wpAny M A t (JoinS h₀ L led C s) E s)
    (k : ∀ m' h' tk, C m' → Fr h₀ L h' m' → News h₀ L h' led → Q .next { s with heap := h', toks := tk }) : wpAny M A t Q E s := by
  refine wpAny_mono h (fun f s' q => ?_) fun _ _ e => e
  obtain ⟨rfl, h', tk, m', rfl, F, N, hc⟩ := q
  exact k m' h' tk hc F N
end
end Mine
open Mine
local macro_rules | `(tactic| walk_at "exec For Name BinOp cons nil") => `(tactic| ((rename Fr _ _ _ _ => lF'); (with_unfolding_all refine' For_turns lF' ?_; k_whole)))
local macro_rules | `(tactic| walk_at "exec If Compare cons nil") => `(tactic| ((with_reducible show wpAny _ _ (exec (Stmt.If _ [Stmt.Return (some (Expr.Constant _ _ _)) _] _ _) _) _ _ _); refine if_no ?_))
local macro_rules | `(tactic| walk_at "IfNo") => `(tactic| k_dflt (refine ⟨(by decide +kernel), ?_⟩))
local macro_rules | `(tactic| walk_at "subscriptTail Name Name ref int") => `(tactic| (k_here; (with_reducible show wpAny _ _ (subscriptTail _ _ (Value.ref _) (Value.int _ _)) _ _ _); k_dflt (refine' topListAny_K ?F ?X ?l ?i ?k3 ?k4 ?k5 ?_; (case F => k_asm); (case X => k_asm); (case l => k_is); (case i => l_ints); (case k3 => first | omega | ((try dsimp only [List.length_cons, List.length_nil]); omega) | l_idx); (case k4 => first | omega | ((try dsimp only [List.length_cons, List.length_nil]); omega) | l_idx); (case k5 => first | omega | ((try dsimp only [List.length_cons, List.length_nil]); omega) | l_idx); k_whole); intro _))
local macro_rules | `(tactic| walk_at "binaryOp Add str str") => `(tactic| k_dflt (refine' addT ?a ?b ?c ?_; (case a => first | (with_reducible assumption) | exact tl_sliceT (by with_reducible assumption) | exact tl_lit (by decide +kernel) | exact tl_slice (by decide +kernel)); (case b => first | (with_reducible assumption) | exact tl_sliceT (by with_reducible assumption) | exact tl_lit (by decide +kernel) | exact tl_slice (by decide +kernel)); (case c => exact rfl); intro _ _ _))
local macro_rules | `(tactic| walk_at "call type:str") => `(tactic| ((with_reducible show wpAny _ _ (call (Value.type "str") [Value.int _ _]) _ _ _); k_dflt (refine' strT ?a ?b ?_; (case a => first | assumption | omega); (case b => first | assumption | omega); intro _ _ _)))
local macro_rules | `(tactic| walk_at "subscriptTail List") => `(tactic| (refine' KTb.item_list ?hl ?hw ?h0 ?h1 ?hf ?_; (case hl => exact News.isList (by k_asm) (by k_mem)); (case hw => (repeat (first | exact StrsAre.nil | apply StrsAre.cons))); (case h0 => omega); (case h1 => (simp only [List.length_cons, List.length_nil]; omega)); (case hf => omega); intro _ _))
local macro_rules | `(tactic| walk_at "binaryOp Mod str ref") => `(tactic| k_dflt (refine' fmt_mod ?N ?hb ?a1 ?a2 ?a3 ?a4 ?a5 ?a6 ?a7 ?a8 ?a9 ?b1 ?b2 ?b3 ?b4 ?_; (case N => k_asm); (case hb => k_mem); (case a1 => omega); (case a2 => omega); (case a3 => omega); (case a4 => omega); (case a5 => omega); (case a6 => omega); (case a7 => omega); (case a8 => omega); (case a9 => omega); (case b1 => omega); (case b2 => exact tl_tab (by decide +kernel)); (case b3 => exact tl_tab (by decide +kernel)); (case b4 => assumption); intro _ _))
local macro_rules | `(tactic| walk_at "binaryOp Add str str") => `(tactic| k_dflt (refine' addT ?a ?b ?c ?_; (case a => first | (with_reducible assumption) | exact tl_sliceT (by with_reducible assumption) | exact tl_mul0 | exact tl_lit (by decide +kernel) | exact tl_slice (by decide +kernel)); (case b => first | (with_reducible assumption) | exact tl_sliceT (by with_reducible assumption) | exact tl_mul0 | exact tl_lit (by decide +kernel) | exact tl_slice (by decide +kernel)); (case c => exact rfl); intro _ _ _))
local macro_rules | `(tactic| walk_at "eval IfExp Compare BinOp Name") => `(tactic| ((rename Mk 1 => hM); clear hM; refine Stop.mk ?_))
local macro_rules | `(tactic| walk_at "JoinV") => `(tactic| k_dflt (refine' JoinV.intro ?_ ?F ?N; (case F => k_asm); (case N => first | k_asm | (refine' cb_drop ?cbN ?cbS; (case cbN => assumption); (case cbS => kcj_all)))))
local macro_rules | `(tactic| walk_at "pyIter ref") => `(tactic| (k_here; (with_reducible show wpAny _ _ (pyIter (Value.ref _)) (fun it s₂ => TurnsAt _ _ _ _ _ _ _ _ _ it s₂) _ _); (rename Fr _ _ _ _ => lF'); (rename News _ _ _ _ => lN'); with_unfolding_all (refine' iter_listTurns ?a lF' lN' ?hm ?c ?d ?_; (case a => rfl); (case hm => k_mem); (case c => rfl); (case d => rfl))); refine Stop.mk ?_)
local macro_rules | `(tactic| walk_at "call ref cons nil") => `(tactic| (k_dflt (refine' use1 ?H ?F ?N ?P ?_; (case H => assumption); (case F => k_asm); (case N => k_asm); (case P => exact trivial)); intro _ _ _ _ _; (try k_sweep)))
local macro_rules | `(tactic| walk_at "call ref cons nil") => `(tactic| (k_dflt (refine' use4S ?H ?F ?N ?P ?_; (case H => assumption); (case F => k_asm); (case N => k_asm); (case P => assumption)); intro _ _ _ _ _; (try k_sweep)))
local macro_rules | `(tactic| walk_at "call ref cons nil") => `(tactic| k_dflt (refine' useF ?H ?F ?N ?r ?ok ?_; (case H => assumption); (case F => k_asm); (case N => k_asm); (case r => k_mem); (case ok => assumption); intro _ _ _ _ _; (try k_sweep)))
local macro_rules | `(tactic| walk_at "exec Assign cons Tuple") => `(tactic| ((rename Mk 2 => hM); clear hM; refine Stop.mk ?_))
local macro_rules | `(tactic| walk_at "call builtin:str.split") => `(tactic| (k_here; (with_reducible show wpAny _ _ (call (Value.builtin "str.split") [Value.str (lawLine _ _ _ _) _, Value.str _ _]) _ _ _); (k_dflt (refine' KSpl.split1 ?F ?N ?y ?_ ?z; (case F => k_asm); (case N => k_asm); (case y => decide +kernel); (case z => (rw [sizeLine_eq]; exact Nat.le_trans (Nat.add_le_add_right (by assumption) 2) (by decide))))); intro D' l' h' k' e' a' F' N' l1; (try k_lt l1); (rw [line_split (by omega) (by omega) (by omega) (by omega) (by omega)] at e'); (unfold parts at e'); (kspl_open e'); (simp only [strValues, List.map_cons, List.map_nil] at N' a')))
local macro_rules | `(tactic| walk_at "call builtin:str.index") => `(tactic| (k_here; (with_reducible show wpAny _ _ (call (Value.builtin "str.index") [Value.str _ _, Value.str (monP _) _]) _ _ _); k_dflt (refine' idx_mon ?a ?b ?_; (case a => omega); (case b => omega)); intro _ _))
local macro_rules | `(tactic| walk_at "call type:int") => `(tactic| (k_here; (with_reducible show wpAny _ _ (call (Value.type "int") [Value.str (padk _ _) _]) _ _ _); k_dflt (refine' call_pad ?a ?b ?c ?_; (case a => omega); (case b => omega); (case c => decide)); intro _ _))
local macro_rules | `(tactic| walk_at "call builtin:list.append") => `(tactic| (k_here; (with_reducible show wpAny _ _ (call (Value.builtin _) [Value.ref _, _]) _ _ _); k_dflt (refine' append_K ?k1 ?k2 ?k3 ?_ ?z; (case k1 => k_asm); (case k2 => k_asm); (case k3 => (first | exact Upd.head (by assumption) | (refine' Upd.tail ?a ?b; (case a => k_ne); (case b => (first | exact Upd.head (by assumption) | (refine' Upd.tail ?a ?b; (case a => k_ne); (case b => (first | exact Upd.head (by assumption) | (refine' Upd.tail ?a ?b; (case a => k_ne); (case b => (first | exact Upd.head (by assumption) | (refine' Upd.tail ?a ?b; (case a => k_ne); (case b => (first | exact Upd.head (by assumption) | (refine' Upd.tail ?a ?b; (case a => k_ne); (case b => exact Upd.head (by assumption))))))))))))))))); (case z => (rw [List.size_toArray, sizeLine_eq]; omega)); k_whole); intro h' F' N'))
local macro_rules | `(tactic| walk_at "exec For Tuple Name cons nil") => `(tactic| ((rename Fr _ _ _ _ => lF'); (with_unfolding_all refine' For_turns lF' ?_; k_whole)))
local macro_rules | `(tactic| walk_at "eval IfExp Call") => `(tactic| ((rename Mk 3 => hM); clear hM; refine Stop.mk ?_))
local macro_rules | `(tactic| walk_at "exec If UnaryOp cons nil") => `(tactic| ((with_reducible show wpAny _ _ (exec (Stmt.If _ [Stmt.Return (some (Expr.Constant _ _ _)) _] _ _) _) _ _ _); refine if_no ?_))
local macro_rules | `(tactic| walk_at "exec If BoolOp cons nil") => `(tactic| ((with_reducible show wpAny _ _ (exec (Stmt.If _ [Stmt.Return (some (Expr.Constant _ _ _)) _] _ _) _) _ _ _); refine if_no ?_))
set_option maxRecDepth 100000 in
set_option maxHeartbeats 100000000 in
theorem PySem.Challenge.cw_wa0002_01_holds : PySem.Challenge.rw_wa0002_01.Holds := by
  k_with "call ref" => k_call_by "_days_before_year" dby
  k_with "call ref" => k_call_by "_is_leap" leap
  k_with "tree" => simp only [dby, leap]
  w_on
  o_law
  k_head
  case hw => w_witness2
  k_go0
  all_goals try k_fold
  refine have_fn (fun prog w A h₀ L => Fn1 prog w A h₀ L 56 (fun _ => True) lfirst) (by assumption) ?_ ?_
  · rintro a ta _ s Q E m led F N hret
    dsimp only at hret
    have hm0 : 0 ≤ a.fmod 12 := by rw [fm _ (by omega)]; omega
    have hm1 : a.fmod 12 < 12 := by rw [fm _ (by omega)]; omega
    k_steps
    all_goals refine cb_retI hret ?_ (by k_asm) (by first | k_asm | (refine' cb_drop ?cbN ?cbS; (case cbN => assumption); (case cbS => kcj_all)))
    · exact congrArg (dby (a.fdiv 12) + ·) (dbm_eq1 (by assumption))
    · exact congrArg (dby (a.fdiv 12) + ·) (dbm_eq2 (by assumption))
  intro Hfirst
  refine have_fn (fun prog w A h₀ L => Fn1 prog w A h₀ L 63 (fun _ => True) llen) (by assumption) ?_ ?_
  · rintro a ta _ s Q E m led F N hret
    dsimp only at hret
    k_steps
    all_goals refine cb_retI hret ?_ (by k_asm) (by first | k_asm | (refine' cb_drop ?cbN ?cbS; (case cbN => assumption); (case cbS => kcj_all)))
    all_goals first | exact llen29 (by assumption) (by assumption) | exact llen28 (by assumption) (by assumption) | exact llen28' (by assumption) (by assumption) | exact llenE (by assumption)
  intro Hlen
  refine have_fn (fun prog w A h₀ L => FnF prog w A h₀ L 49) (by assumption) ?_ ?_
  · rintro r z zt y mo d hh mi sc wd k1 k2 k3 k4 k5 k6 k7 ⟨y0, y1, mo0, mo1, d0, d1, h0, h1, m0, m1, s0, s1, w0, w1, z1⟩ s Q E m led F N hret
    dsimp only [rowObj] at N hret
    k_steps
    refine cb_retS hret rfl (by k_asm) (by first | k_asm | (refine' cb_drop ?cbN ?cbS; (case cbN => assumption); (case cbS => kcj_all)))
  intro Hfmt
  refine have_fn (fun prog w A h₀ L => Fn4S prog w A h₀ L 77 (fun y r d c => 1 ≤ y ∧ y ≤ 12000 ∧ 0 ≤ r ∧ r < 12 ∧ 1 ≤ d ∧ d ≤ 31 ∧ 0 ≤ c ∧ c < 86400) lawLine) (by assumption) ?_ ?_
  · rintro y r d c ty tr td tc ⟨y0, y1, r0, r1, d0, d1, c0, c1⟩ s Q E m led F N hret
    dsimp only at hret
    have c20 : 0 ≤ c.fdiv 3600 := by rw [fd _ (by omega)]; omega
    have c21 : c.fdiv 3600 < 100 := by rw [fd _ (by omega)]; omega
    have c30 : 0 ≤ (c.fdiv 60).fmod 60 := by rw [fm _ (by omega)]; omega
    have c31 : (c.fdiv 60).fmod 60 < 100 := by rw [fm _ (by omega)]; omega
    have c40 : 0 ≤ c.fmod 60 := by rw [fm _ (by omega)]; omega
    have c41 : c.fmod 60 < 100 := by rw [fm _ (by omega)]; omega
    have M1 : Mk 1 := .mk
    k_steps
    refine Stop.out ?_
    refine join_v (fun v => IsInt v (moved y r)) (by assumption) (by assumption) ?_ ?_
    · k_steps
      all_goals first | exact moved_lt (by assumption) | exact moved_ge (by assumption)
    rintro v h' tk' ⟨tv, rfl⟩ F N
    k_steps
    refine cb_retS hret ?_ (by k_asm) (by first | k_asm | (refine' cb_drop ?cbN ?cbS; (case cbN => assumption); (case cbS => kcj_all)))
    exact line_eq d0 d1 c20 c21 c30 c31 c40 c41
  intro Hline
  k_steps
  refine Stop.out ?_
  intro I hI
  have hI1 := hI _ (.head _)
  have hI2 := hI _ (.tail _ (.tail _ (.tail _ (.head _))))
  dsimp only at hI1 hI2
  refine rest_ppl (by assumption) ?_ (by rfl) hI1 hI2 ?_ ?_ ?_
  · simp only [List.length_append, List.length_cons, List.length_nil, List.length_take]
    omega
  · first | k_ne | (show @LT.lt Nat _ _ _; omega)
  · rintro pl D I lo hDI hpI hpD ns k t r u vs n tups h tk o ho hr hp h1 h2 hl F1 N1
    have M2 : Mk 2 := .mk
    k_steps
    refine Stop.out ?_
    refine reseat (fun m' => ∃ (v : Str → Option Value) (y r d c b : Int) (t1 t2 t3 t4 t5 : Tok), m' = kstB v [(Str.ofString "people", .ref pl), (Str.ofString "rest", .int r t1), (Str.ofString "year", .int y t2), (Str.ofString "day", .int d t3), (Str.ofString "clock", .int c t4), (Str.ofString "born", .int b t5)] ∧ Day y r d c b) (by assumption) (by assumption) ?_ ?_
    · exact ⟨_, _, _, _, _, _, _, _, _, _, _, (kstB_self (by kst_all)).symm, day_of k⟩
    rintro m' h' tk' ⟨u', y, m, d, c, b, t1, t2, t3, t4, t5, rfl, hd⟩ F2 N2
    have hrow : RowOk y (m + 1) d (c.fdiv 3600) ((c.fdiv 60).fmod 60) (c.fmod 60) ((b + 6).fmod 7) (Str.ofString "+0000") := by
      obtain ⟨y0, y1, m0, m1, d0, d1, c0, c1, hb⟩ := hd
      have d2 := len_hi (12 * y + m)
      refine ⟨by omega, by omega, by omega, by omega, by omega, by omega, ?_, ?_, ?_, ?_, ?_, ?_, ?_, ?_, by decide +kernel⟩
      all_goals simp (disch := omega) only [fm, fd]
      all_goals omega
    have hlo := line_ok hd
    have hargs : 1 ≤ y ∧ y ≤ 12000 ∧ 0 ≤ m ∧ m < 12 ∧ 1 ≤ d ∧ d ≤ 31 ∧ 0 ≤ c ∧ c < 86400 := ⟨hd.y0, hd.y1, hd.r0, hd.r1, hd.d0, Int.le_trans hd.d1 (len_hi _), hd.c0, hd.c1⟩
    k_steps
    refine ⟨ne_falseS hlo, ?_⟩
    dsimp only
    refine reseat (fun m' => ∃ (v : Str → Option Value) (t1 t2 : Tok), m' = kstB v [(Str.ofString "people", .ref pl), (Str.ofString "line", .str (lawLine y m d c) t1), (Str.ofString "born", .int b t2)]) (by assumption) (by assumption) ?_ ?_
    · exact ⟨_, _, _, (kstB_self (by rw [← hlo]; kst_all)).symm⟩
    rintro m' h' tk' ⟨u', t1, t2, rfl⟩ F2 N2
    have per := per_of hd
    obtain ⟨y0, y1, m0, m1, d0, d31, c0, c1⟩ := hargs
    have hsh := line_short (r := m) (y := y) (d := d) (c := c) (by omega) (by omega) (by omega) (by omega) (by omega) (by omega)
    k_steps
    show EndL _ _ _ _ _ _ _
    refine end_ppl (by k_asm) (by assumption) hr hp per h1 h2 hl (by kst_all) ?_ ?_ ?_ ?_
    all_goals try k_ne
  · rintro pl u vs n tups h tk hp hl F1 N1
    k_steps
    refine Stop.out ?_
    intro I hI
    have hpI := hI _ (.head _)
    dsimp only at hpI
    refine rest_people (fun m' => ∃ u, m' = kstB u [(Str.ofString "people", .ref pl)]) (led := (pl, W.listOf vs.toArray n) :: tups) hp (fun p hp => Nat.ne_of_lt (hI p hp)) ⟨.head _, trivial⟩ (fun p hp => .tail _ hp) ⟨_, rfl⟩ (fun p hp => hp) ?_ ?_
    · rintro T born mo da fig ta1 ta2 ta3 ta4 m h tk o per ⟨u, rfl⟩ ho F1 N1
      k_steps
      refine Stop.out ?_
      intro I2 hI2
      refine rest_people (fun m' => ∃ u, m' = kstB u [(Str.ofString "people", .ref pl), (Str.ofString "month", .int mo ta2), (Str.ofString "date", .int da ta3), (Str.ofString "written", .int fig ta4)]) (led := (I, o) :: (pl, W.listOf vs.toArray n) :: tups) hp (fun p hp => Nat.ne_of_lt (hI2 p (.tail _ hp))) ⟨.tail _ (.head _), trivial⟩ (fun p hp => .tail _ (.tail _ hp)) ⟨_, (kstB_self (by kst_all)).symm⟩ (fun p hp => .tail _ hp) ?_ ?_
      · clear hp
        rintro T2 today now shown rd tb1 tb2 tb3 tb4 m h tk o2 per2 ⟨u, rfl⟩ ho2 F1 N1
        have q1 := last_le per per2
        have q2 := lt_coming per per2
        have q3 := year_days mo ((rd - fig).fdiv 10000) da
        have M3 : Mk 3 := .mk
        k_steps
        refine ⟨by rw [decide_eq_true q2]; rfl, ?_⟩
        dsimp only
        k_steps
        refine Stop.out ?_
        refine join_v (fun v => IsInt v (if leap ((mo + 10).fdiv 12 + (rd - fig).fdiv 10000) = true then 366 else 365)) (by assumption) (by assumption) ?_ ?_
        · k_steps
          · exact ⟨_, by rw [if_pos (by assumption)]⟩
          · exact ⟨_, by rw [if_neg (ne_true_of_eq_false (by assumption))]⟩
        rintro v h' tk' ⟨tv, rfl⟩ F N
        k_steps
        refine ⟨ne_false q3, ?_⟩
        dsimp only
        clear q1 q2 q3
        have e0 := begun0 per per2
        have f0 := ended0 per per2
        have e1 := begun1 per per2
        have f1 := ended1 per per2
        k_steps
        all_goals first
          | exact absurd e0 (by assumption)
          | exact absurd f0 (by assumption)
          | exact absurd e1 (by assumption)
          | exact absurd f1 (by assumption)
          | exact absurd (begun2 per per2 (by assumption)) (by assumption)
          | exact absurd (ended2 per per2 (by assumption)) (by assumption)
          | (show EndI _ _ _ _ _ _; exact ⟨_, _, _, rfl, by k_asm, by (first | k_asm | (refine' cb_drop ?cbN ?cbS; (case cbN => assumption); (case cbS => kcj_all))), _, (kstB_self (by kst_all)).symm⟩)
      · rintro m h tk ⟨u, rfl⟩ F1 N1
        k_steps
        show EndI _ _ _ _ _ _
        exact ⟨_, _, _, rfl, F1, N1, _, (kstB_self (by kst_all)).symm⟩
    · rintro m h tk ⟨u, rfl⟩ F1 N1
      k_steps
