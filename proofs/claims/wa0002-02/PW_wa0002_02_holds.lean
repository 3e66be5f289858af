import PyProof.Rows.All
import Wide.All
import OpenK.AllK
import Wide.FinOn
import Lean
import PySem.Challenge.RW_wa0002_02
open PySem PySem.W PyProof.Rows
set_option Elab.async false
namespace Mine
/-- the end of a turn: the frame's map meets J, the ledger holds led -/
def EndI (h₀ : Heap) (L : Addr) (s₁ : Shared) (led : List (Addr × Obj)) (J : (Str → Option Value) → Prop) (s₂ : Shared) : Prop :=
  ∃ h' tk m', s₂ = { s₁ with heap := h', toks := tk } ∧ Fr h₀ L h' m' ∧ News h₀ L h' led ∧ J m'
def PostI (h₀ : Heap) (L : Addr) (s₁ : Shared) (led : List (Addr × Obj)) (J : (Str → Option Value) → Prop) (Q : Flow → Shared → Prop) (f : Flow) (s₂ : Shared) : Prop :=
  match f with
  | .ret v => Q (.ret v) s₂
  | .brk => Q .next s₂
  | _ => EndI h₀ L s₁ led J s₂

section
variable {prog : Program} {w : World} {A : Around} {E : Value → Shared → Prop} {s : Shared} {env : Env} {h₀ : Heap} {target : Expr} {body : List Stmt} {Q : Flow → Shared → Prop}

theorem ints_cons {v : Value} {vs : List Value} {ns : List Int} (h : IntsAre (v :: vs) ns) : ∃ n r t, ns = n :: r ∧ v = .int n t ∧ IntsAre vs r := by
  cases h with
  | cons n t h' => exact ⟨_, _, _, rfl, rfl, h'⟩

theorem rest_enum (J : Nat → List Int → (Str → Option Value) → Prop) {ws : List (Addr × String)} {keep : List (Addr × Obj)}
    (off : ∀ p ∈ keep, p.1 ∉ ws.map (·.1)) (hk : SubL keep keep)
    (turn : ∀ (i : Nat) (n : Int) (r : List Int) (T : Addr) (t tt : Tok) (m : Str → Option Value) (h : Heap) (tk : Nat), J i (n :: r) m →
      IsTup h T #[.int (i : Int) tt, .int n t] → Fr h₀ env.locals h m → AllObj ws (fun its => News h₀ env.locals h (its ++ keep) →
        wpAny (model prog w) A (assign target env (.ref T)) (fun _ s₂ => wpAny (model prog w) A (execs body env)
          (PostI h₀ env.locals { s with heap := h, toks := tk } (its ++ keep) (J (i + 1) r) Q) E s₂) E { s with heap := h, toks := tk }))
    (done : ∀ (i : Nat) (m : Str → Option Value) (h : Heap) (tk : Nat), J i [] m → Fr h₀ env.locals h m → News h₀ env.locals h keep → Q .next { s with heap := h, toks := tk }) :
    ∀ (vs : List Value) (ns : List Int) (i : Nat) (m : Str → Option Value) (news : List (Addr × Obj)), IntsAre vs ns → J i ns m → (∀ p ∈ keep, p ∈ news) →
      ItemsRest prog w A E h₀ env target body Q s ws keep (enumItems i vs) m news
  | [], ns, i, m, news, hi, hj, hs => by
    cases hi
    exact fun h tk F N => done i m h tk hj F fun p hp => N p (hs p hp)
  | v :: vs, ns, i, m, news, hi, hj, hs => by
    obtain ⟨n, r, t, rfl, rfl, hi'⟩ := ints_cons hi
    refine ItemsRest.pair fun T tt h tk hT F => ?_
    have q := turn i n r T t tt m h tk hj hT F
    revert q
    generalize hk' : (fun its => News h₀ env.locals h (its ++ keep) → _) = k1
    generalize hk2 : (fun its => News h₀ env.locals h (its ++ news) → _) = k2
    intro q
    have up : ∀ its, its.map (·.1) = ws.map (·.1) → k1 its → k2 its := by
      subst hk' hk2
      intro its hmap q N
      refine wpAny_mono (q fun p hp => N p ?_) (fun _ s₂ h₂ => wpAny_mono h₂ (fun f s₃ p => ?_) fun _ _ e => e) fun _ _ e => e
      · rcases List.mem_append.mp hp with hp | hp
        · exact List.mem_append_left _ hp
        · exact List.mem_append_right _ (hs p hp)
      · have fin : EndI h₀ env.locals { s with heap := h, toks := tk } (its ++ keep) (J (i + 1) r) s₃ →
            UnrEndW h₀ env.locals { s with heap := h, toks := tk } its (fun m' n' => SubL keep n' ∧ ItemsRest prog w A E h₀ env target body Q s ws keep (enumItems (i + 1) vs) m' n') s₃ := by
          rintro ⟨h', tk', m', e, F', N', hj'⟩
          refine ⟨h', tk', m', keep, e, F', N', fun p hp q hq e => ?_, hk, rest_enum J off hk turn done vs r (i + 1) m' keep hi' hj' fun p hp => hp⟩
          refine off p hp ?_
          rw [← hmap, e]
          exact List.mem_map.mpr ⟨q, hq, rfl⟩
        cases f with
        | ret v => exact p
        | brk => exact p
        | next => exact fin p
        | cont => exact fin p
    have all : ∀ (ws' : List (Addr × String)) (pre : List (Addr × Obj)), AllObj ws' (fun its => k1 (pre ++ its)) → (pre.map (·.1)) ++ ws'.map (·.1) = ws.map (·.1) → AllObj ws' (fun its => k2 (pre ++ its)) := by
      intro ws'
      induction ws' with
      | nil => intro pre a e; exact up _ (by simpa using e) a
      | cons x xs ih =>
        intro pre a e o ho
        have := ih (pre ++ [(x.1, o)]) (by simpa using a o ho) (by simpa using e)
        simpa using this
    simpa using all ws [] (by simpa using q) (by simp)
end
/-- a stop of my own on the walk -/
def Stop (P : Prop) : Prop := P
theorem Stop.mk {P : Prop} (h : Stop P) : P := h
theorem Stop.out {P : Prop} (h : P) : Stop P := h

/-- a mark in the context: the walk stops once where my line asks for it -/
structure Mk (n : Nat) : Prop where
  mk ::
/-- the test of an If whose suite is left aside: it is false -/
def IfNo (C : Shared → Prop) (b : Bool) (s : Shared) : Prop := b = false ∧ C s
theorem if_no {M : Model} {A : Around} {E : Value → Shared → Prop} {s : Shared} {env : Env} {Q : Flow → Shared → Prop} {test : PySem.Expr} {body : List Stmt} {pos : Pos}
    (h : wpAny M A (isTrue test env (eval test env)) (IfNo (fun s₂ => Q .next s₂)) E s) : wpAny M A (exec (.If test body [] pos) env) Q E s := by
  refine wpAny_If (wpAny_mono h (fun b s₂ q => ?_) fun _ _ e => e)
  obtain ⟨rfl, q⟩ := q
  exact wpAny_execs_nil q

theorem kstB_self {m : Str → Option Value} {ps : List (Str × Value)} (h : ∀ p ∈ ps, m p.1 = some p.2) : kstB m ps = m := funext fun _ => kstB_eq h fun _ => rfl
def JoinV (P : Value → Prop) (h₀ : Heap) (L : Addr) (m : Str → Option Value) (led : List (Addr × Obj)) (s : Shared) (v : Value) (s' : Shared) : Prop :=
  P v ∧ ∃ h' tk, s' = { s with heap := h', toks := tk } ∧ Fr h₀ L h' m ∧ News h₀ L h' led
theorem JoinV.intro {P : Value → Prop} {h₀ : Heap} {L : Addr} {m : Str → Option Value} {led : List (Addr × Obj)} {s : Shared} {v : Value} {h' : Heap} {tk : Nat}
    (hp : P v) (F : Fr h₀ L h' m) (N : News h₀ L h' led) : JoinV P h₀ L m led s v { s with heap := h', toks := tk } := ⟨hp, h', tk, rfl, F, N⟩
section
variable {M : Model} {A : Around} {E : Value → Shared → Prop} {s : Shared} {h₀ : Heap} {L : Addr} {m : Str → Option Value} {led : List (Addr × Obj)} {Q : Value → Shared → Prop}
theorem reseat {α : Type} {t : Sem α} {Q : α → Shared → Prop} (C : (Str → Option Value) → Prop) (F : Fr h₀ L s.heap m) (N : News h₀ L s.heap led) (hm : C m)
    (k : ∀ m' h tk, C m' → Fr h₀ L h m' → News h₀ L h led → wpAny M A t Q E { s with heap := h, toks := tk }) : wpAny M A t Q E s := k m s.heap s.toks hm F N
theorem join_v {t : Sem Value} (P : Value → Prop) (_F : Fr h₀ L s.heap m) (_N : News h₀ L s.heap led) (h : wpAny M A t (JoinV P h₀ L m led s) E s)
    (k : ∀ v h' tk, P v → Fr h₀ L h' m → News h₀ L h' led → Q v { s with heap := h', toks := tk }) : wpAny M A t Q E s := by
  refine wpAny_mono h (fun v s' q => ?_) fun _ _ e => e
  obtain ⟨hp, h', tk, rfl, F, N⟩ := q
  exact k v h' tk hp F N
end
section
variable {prog : Program} {w : World} {A : Around} {E : Value → Shared → Prop} {s : Shared}
theorem topListAny_K {K : Frag} {h₀ : Heap} {L a : Addr} {m : Str → Option Value} {n : Nat} {value slice : PySem.Expr} {l : List Value} {ns : List Int} {dd : Option Addr} {sl : Array (Option Value)} {k : Int} {u : Tok} {Q : Value → Shared → Prop} (F : Fr h₀ L s.heap m) (X₀ : K.In h₀)
    (hl : K.lookup a = some ⟨.type "list", dd, .seq l.toArray n, sl⟩) (hi : IntsAre l ns) (h0 : 0 ≤ k) (h1 : k < ns.length) (hfit : k < 2 ^ 63) (h : ∀ t, Q (.int (ns.getD k.toNat 0) t) s)
    (hs : subscripted slice false (.ref a) (.int k u) = operate [.ref a, .int k u] (getItem (.ref a) (.int k u)) := by with_unfolding_all rfl) :
    wpAny (model prog w) A (subscriptTail value slice (.ref a) (.int k u)) Q E s := by
  obtain ⟨t, hx⟩ := hi.get k.toNat _ (ints_getD h0 h1)
  exact topList_K F X₀ hl h0 hfit hx (h t) hs
theorem item_three {value slice : PySem.Expr} {l : Addr} {vs : List Value} {k a b c : Int} {u : Tok} {Q : Value → Shared → Prop} (ht : IsTup s.heap l vs.toArray) (hi : IntsAre vs [a, b, c])
    (h0 : 0 ≤ k) (h1 : k < 3) (h : ∀ x t, (x = a ∨ x = b ∨ x = c) → Q (.int x t) s)
    (hs : subscripted slice false (.ref l) (.int k u) = operate [.ref l, .int k u] (getItem (.ref l) (.int k u)) := by with_unfolding_all rfl) :
    wpAny (model prog w) A (subscriptTail value slice (.ref l) (.int k u)) Q E s := by
  refine item_anyT ht hi h0 h1 (by omega) (fun t => h _ t ?_) hs
  have hk : k = 0 ∨ k = 1 ∨ k = 2 := by omega
  rcases hk with rfl | rfl | rfl
  · exact .inl rfl
  · exact .inr (.inl rfl)
  · exact .inr (.inr rfl)
end
section
variable (prog : Program) (w : World) (A : Around) (h₀ : Heap) (L : Addr)
/-- a call of f gives back R, and what stood stands -/
def FnC (f : Addr) (vs : List Value) (R : Tok → Value) : Prop :=
  ∀ (s : Shared) (Q E : Value → Shared → Prop) (m : Str → Option Value) (led : List (Addr × Obj)), Fr h₀ L s.heap m → News h₀ L s.heap led →
    (∀ (t : Tok) (h' : Heap) (tk' : Nat), Fr h₀ L h' m → News h₀ L h' led → Q (R t) { s with heap := h', toks := tk' }) → wpAny (model prog w) A (call (.ref f) vs) Q E s
def Fn1 (f : Addr) (pre : Int → Prop) (g : Int → Int) : Prop := ∀ (k : Int) (u : Tok), pre k → FnC prog w A h₀ L f [.int k u] (fun t => .int (g k) t)
def Fn1S (f : Addr) (pre : Int → Prop) (g : Int → Str) : Prop := ∀ (k : Int) (u : Tok), pre k → FnC prog w A h₀ L f [.int k u] (fun t => .str (g k) t)
def Fn1B (f : Addr) (pre : Int → Prop) (g : Int → Bool) : Prop := ∀ (k : Int) (u : Tok), pre k → FnC prog w A h₀ L f [.int k u] (fun _ => .bool (g k))
def Fn2 (f : Addr) (pre : Int → Int → Prop) (g : Int → Int → Int) : Prop := ∀ (k l : Int) (u v : Tok), pre k l → FnC prog w A h₀ L f [.int k u, .int l v] (fun t => .int (g k l) t)
def Fn4S (f : Addr) (pre : Int → Int → Int → Int → Prop) (g : Int → Int → Int → Int → Str) : Prop :=
  ∀ (a b c d : Int) (u v x y : Tok), pre a b c d → FnC prog w A h₀ L f [.int a u, .int b v, .int c x, .int d y] (fun t => .str (g a b c d) t)
end
section
variable {prog : Program} {w : World} {A : Around} {E : Value → Shared → Prop} {s : Shared} {h₀ : Heap} {L : Addr} {m : Str → Option Value} {led : List (Addr × Obj)} {f : Addr}
theorem have_fn {α : Type} {t : Sem α} {Q : α → Shared → Prop} (H : Program → World → Around → Heap → Addr → Prop) (_F : Fr h₀ L s.heap m) (h : H prog w A h₀ L)
    (k : H prog w A h₀ L → wpAny (model prog w) A t Q E s) : wpAny (model prog w) A t Q E s := k h
theorem use1 {pre : Int → Prop} {g : Int → Int} {k : Int} {u : Tok} {Q : Value → Shared → Prop} (H : Fn1 prog w A h₀ L f pre g) (F : Fr h₀ L s.heap m) (N : News h₀ L s.heap led) (hp : pre k)
    (h : ∀ t h' tk', Fr h₀ L h' m → News h₀ L h' led → Q (.int (g k) t) { s with heap := h', toks := tk' }) : wpAny (model prog w) A (call (.ref f) [.int k u]) Q E s := H k u hp s Q E m led F N h
theorem use1S {pre : Int → Prop} {g : Int → Str} {k : Int} {u : Tok} {Q : Value → Shared → Prop} (H : Fn1S prog w A h₀ L f pre g) (F : Fr h₀ L s.heap m) (N : News h₀ L s.heap led) (hp : pre k)
    (h : ∀ t h' tk', Fr h₀ L h' m → News h₀ L h' led → Q (.str (g k) t) { s with heap := h', toks := tk' }) : wpAny (model prog w) A (call (.ref f) [.int k u]) Q E s := H k u hp s Q E m led F N h
theorem use1B {pre : Int → Prop} {g : Int → Bool} {k : Int} {u : Tok} {Q : Value → Shared → Prop} (H : Fn1B prog w A h₀ L f pre g) (F : Fr h₀ L s.heap m) (N : News h₀ L s.heap led) (hp : pre k)
    (h : ∀ (_ : Tok) h' tk', Fr h₀ L h' m → News h₀ L h' led → Q (.bool (g k)) { s with heap := h', toks := tk' }) : wpAny (model prog w) A (call (.ref f) [.int k u]) Q E s := H k u hp s Q E m led F N h
theorem use2 {pre : Int → Int → Prop} {g : Int → Int → Int} {k l : Int} {u v : Tok} {Q : Value → Shared → Prop} (H : Fn2 prog w A h₀ L f pre g) (F : Fr h₀ L s.heap m) (N : News h₀ L s.heap led) (hp : pre k l)
    (h : ∀ t h' tk', Fr h₀ L h' m → News h₀ L h' led → Q (.int (g k l) t) { s with heap := h', toks := tk' }) : wpAny (model prog w) A (call (.ref f) [.int k u, .int l v]) Q E s := H k l u v hp s Q E m led F N h
theorem use4S {pre : Int → Int → Int → Int → Prop} {g : Int → Int → Int → Int → Str} {a b c d : Int} {u v x y : Tok} {Q : Value → Shared → Prop} (H : Fn4S prog w A h₀ L f pre g) (F : Fr h₀ L s.heap m) (N : News h₀ L s.heap led) (hp : pre a b c d)
    (h : ∀ t h' tk', Fr h₀ L h' m → News h₀ L h' led → Q (.str (g a b c d) t) { s with heap := h', toks := tk' }) : wpAny (model prog w) A (call (.ref f) [.int a u, .int b v, .int c x, .int d y]) Q E s := H a b c d u v x y hp s Q E m led F N h
theorem fn_ret {R : Tok → Value} {y : Value} {t : Tok} {h' : Heap} {tk' : Nat} {Q : Value → Shared → Prop}
    (hret : ∀ (t : Tok) (h' : Heap) (tk' : Nat), Fr h₀ L h' m → News h₀ L h' led → Q (R t) { s with heap := h', toks := tk' }) (t : Tok) (e : y = R t) (F : Fr h₀ L h' m) (N : News h₀ L h' led) : Q y { s with heap := h', toks := tk' } := by
  subst e
  exact hret t h' tk' F N
theorem int_eq {a b : Int} {t : Tok} (h : a = b) : Value.int a t = (fun t => Value.int b t) t := by subst h; rfl
theorem str_eq {a b : Str} {t : Tok} (h : a = b) : Value.str a t = (fun t => Value.str b t) t := by subst h; rfl
theorem bool_eq {a b : Bool} {t : Tok} (h : a = b) : Value.bool a = (fun _ : Tok => Value.bool b) t := by subst h; rfl
end
theorem off2 {D I : Nat} {o : Obj} {a b : String} (h : D < I) : ∀ p ∈ [((D, o) : Addr × Obj)], p.1 ∉ ([(I + 1, a), (I, b)] : List (Addr × String)).map (·.1) := by
  intro p hp hq
  rw [List.mem_singleton.mp hp] at hq
  have hq' : D = I + 1 ∨ D = I := by simpa using hq
  omega
theorem off1 {D I : Nat} {o : Obj} {a : String} (h : D < I) : ∀ p ∈ [((D, o) : Addr × Obj)], p.1 ∉ ([(I, a)] : List (Addr × String)).map (·.1) := by
  intro p hp hq
  rw [List.mem_singleton.mp hp] at hq
  have hq' : D = I := by simpa using hq
  omega
end Mine
namespace Mine
open PySem.Calls PySem.Builtin PySem.Builtin.Str
open PySem.NumText
/-- the signs of an int -/
def dg (n : Int) : List Nat := (PySem.Str.ofString (toString n)).cps.toList
def padk (k : Nat) (n : Int) : PySem.Str := ⟨(List.replicate (k - (dg n).length) 48 ++ dg n).toArray⟩
theorem dg_nat (m : Nat) : dg (m : Int) = (Nat.toDigits 10 m).map Char.toNat := PySem.W.KIN.signs_num m
theorem dg_all {n : Int} (h : 0 ≤ n) : AllDigits (dg n) := by
  obtain ⟨m, rfl⟩ := Int.eq_ofNat_of_zero_le h
  rw [dg_nat]
  intro c hc
  obtain ⟨ch, hch, rfl⟩ := List.mem_map.mp hc
  exact digit_range (Nat.isDigit_of_mem_toDigits (by decide) (by decide) hch)
theorem dg_ne {n : Int} (h : 0 ≤ n) : dg n ≠ [] := by
  obtain ⟨m, rfl⟩ := Int.eq_ofNat_of_zero_le h
  rw [dg_nat]
  intro e
  have := congrArg List.length e
  rw [List.length_map] at this
  have h2 := Nat.length_toDigits_pos (b := 10) (n := m)
  simp only [List.length_nil] at this
  omega
theorem dg_len {n : Int} (h : 0 ≤ n) {k : Nat} (hk : 0 < k) (h1 : n < 10 ^ k) : (dg n).length ≤ k := by
  have := toString_length_le h hk h1
  rw [dg, Array.length_toList]
  exact this
theorem padk_len {n : Int} {k : Nat} (h : 0 ≤ n) (hk : 0 < k) (h1 : n < 10 ^ k) : (padk k n).length = k := by
  have := dg_len h hk h1
  show (List.toArray _).size = k
  rw [List.size_toArray, List.length_append, List.length_replicate]
  omega
theorem padk_le {n : Int} {k : Nat} (h : 0 ≤ n) (h1 : n < 10 ^ 10) (hk : k ≤ 10) : (padk k n).length ≤ 10 := by
  have := dg_len h (by decide) h1
  show (List.toArray _).size ≤ 10
  rw [List.size_toArray, List.length_append, List.length_replicate]
  omega
theorem field {c : Percent} {k : Nat} {n : Int} {d : List Nat} (h1 : c.ljust = false) (h2 : c.sign = false) (h3 : c.blank = false) (h4 : c.alt = false) (h5 : c.zero = true) (h6 : c.width = some k) (h7 : c.prec = none) (h8 : c.type = 100)
    (hn : 0 ≤ n) (hd : d = dg n) : percentField c true (percentInt c (decide (n < 0)) d) = if k ≤ d.length then none else some (List.replicate (k - d.length) 48 ++ d) := by
  rw [KPc.int_text c h4 (.inl h8) h7 hn d]
  have ha : AllDigits d := hd ▸ dg_all hn
  have hne : d ≠ [] := hd ▸ dg_ne hn
  cases d with
  | nil => exact absurd rfl hne
  | cons x r =>
    have hx := ha.head
    have e1 : x ≠ 45 := by omega
    have e2 : x ≠ 43 := by omega
    by_cases hk : k ≤ (x :: r).length
    · rw [if_pos hk]
      unfold percentField
      rw [if_pos]
      rw [h2, h3, h6, h7]
      simpa using hk
    · rw [if_neg hk]
      unfold percentField
      rw [if_neg (by rw [h6, h7, h2, h3]; simpa using hk)]
      simp only [h1, h2, h3, h4, h5, h6, h7, h8, Bool.not_true, Bool.false_eq_true, if_false, if_true, show ((100 == 115 || 100 == 114 || 100 == 97) = true) = False from by decide, Bool.false_and, Option.getD_some, Bool.and_self]
      split
      · exact absurd (List.cons.inj ‹_›).1 e1
      · exact absurd (List.cons.inj ‹_›).1 e2
      · simp
theorem pad_none {c : Percent} {k : Nat} {n : Int} {d : List Nat} (h : percentField c true (percentInt c (decide (n < 0)) d) = none) (hk : c.width = some k) (h1 : c.ljust = false) (h2 : c.sign = false) (h3 : c.blank = false) (h4 : c.alt = false) (h5 : c.zero = true) (h7 : c.prec = none) (h8 : c.type = 100)
    (hn : 0 ≤ n) (hd : d = (PySem.Str.ofString (toString ((n.natAbs : Nat) : Int))).cps.toList) : (⟨(percentInt c (decide (n < 0)) d).toArray⟩ : PySem.Str) = padk k n := by
  have en : ((n.natAbs : Nat) : Int) = n := Int.natAbs_of_nonneg hn
  rw [en] at hd
  have hd' : d = dg n := hd
  rw [field h1 h2 h3 h4 h5 hk h7 h8 hn hd'] at h
  rw [KPc.int_text c h4 (.inl h8) h7 hn d]
  split at h
  · rw [padk, ← hd', Nat.sub_eq_zero_of_le ‹_›]
    rfl
  · exact nomatch h
theorem pad_some {c : Percent} {k : Nat} {n : Int} {d laid : List Nat} (h : percentField c true (percentInt c (decide (n < 0)) d) = some laid) (hk : c.width = some k) (h1 : c.ljust = false) (h2 : c.sign = false) (h3 : c.blank = false) (h4 : c.alt = false) (h5 : c.zero = true) (h7 : c.prec = none) (h8 : c.type = 100)
    (hn : 0 ≤ n) (hd : d = (PySem.Str.ofString (toString ((n.natAbs : Nat) : Int))).cps.toList) : (⟨laid.toArray⟩ : PySem.Str) = padk k n := by
  have en : ((n.natAbs : Nat) : Int) = n := Int.natAbs_of_nonneg hn
  rw [en] at hd
  have hd' : d = dg n := hd
  rw [field h1 h2 h3 h4 h5 hk h7 h8 hn hd'] at h
  split at h
  · exact nomatch h
  · rw [padk, ← hd', ← Option.some.inj h]
theorem after_pad {M : Model} {A : Around} {E : Value → Shared → Prop} {s : Shared} {l : List Nat} {p : List Value} {r : List Nat}
    {f : Nat → List Value × Writer × List Nat → Sem (ForInStep (List Value × Writer × List Nat))} {Q : List Value × Writer × List Nat → Shared → Prop} {w : Writer} {T x y : PySem.Str} {N K : Nat} {o : Option Value}
    (g : KPc.Good w T N) (hx : x = y) (hy : y.length ≤ K) (ho : KPc.Obj o x) (h : ∀ w', KPc.Good w' (T ++ y) (N + K) → wpAny M A (forIn l (p, w', r) f) Q E s) : wpAny M A (forIn l (p, w.add x o, r) f) Q E s := by
  subst hx
  exact h _ (KPc.good_mono (KPc.good_add g ho) (Nat.add_le_add_left hy _))
def fmtText (wd : PySem.Str) (d : Int) (mon : PySem.Str) (y h mi sc : Int) (z : PySem.Str) : PySem.Str :=
  wd ++ PySem.Str.ofString ", " ++ padk 2 d ++ PySem.Str.ofString " " ++ mon ++ PySem.Str.ofString " " ++ padk 4 y ++ PySem.Str.ofString " " ++ padk 2 h ++ PySem.Str.ofString ":" ++ padk 2 mi ++ PySem.Str.ofString ":" ++ padk 2 sc ++ PySem.Str.ofString " " ++ z
local macro_rules | `(tactic| walk_at "fmt lit") => `(tactic| (refine KPc.turn ?_; kpc_check; (repeat kpc_if); refine wpAny_pure ?_; refine KPc.after_add (by kpc_g) (by kpc_text) (by kpc_obj) ?_; intro _ _))
local macro_rules | `(tactic| walk_at "fmt pad2") => `(tactic| (refine KPc.turn ?_; kpc_check; (repeat kpc_if); refine wpAny_bind ?_; refine wpAny_holding ?_; (repeat kpc_if); kpt_conv; refine wpAny_bind (wpAny_pure ?_); refine wpAny_pure ?_; refine wpAny_of_eq (a := ?fmtA) ?fmtE ?_; (case fmtE => (dsimp only; split; (rename_i heq; exact congrArg (fun x => (pure (ForInStep.yield (_, Writer.add _ x none, _)) : Sem _)) (pad_none (k := 2) heq rfl rfl rfl rfl rfl rfl rfl rfl (by with_reducible assumption) rfl)); (rename_i heq; exact congrArg (fun x => (pure (ForInStep.yield (_, Writer.add _ x none, _)) : Sem _)) (pad_some (k := 2) heq rfl rfl rfl rfl rfl rfl rfl rfl (by with_reducible assumption) rfl)))); (refine after_pad (by kpc_g) rfl (padk_le (by with_reducible assumption) (Int.lt_trans (by with_reducible assumption) (by decide)) (by decide)) (by kpc_obj) ?_); intro _ _))
local macro_rules | `(tactic| walk_at "fmt pad4") => `(tactic| (refine KPc.turn ?_; kpc_check; (repeat kpc_if); refine wpAny_bind ?_; refine wpAny_holding ?_; (repeat kpc_if); kpt_conv; refine wpAny_bind (wpAny_pure ?_); refine wpAny_pure ?_; refine wpAny_of_eq (a := ?fmtA) ?fmtE ?_; (case fmtE => (dsimp only; split; (rename_i heq; exact congrArg (fun x => (pure (ForInStep.yield (_, Writer.add _ x none, _)) : Sem _)) (pad_none (k := 4) heq rfl rfl rfl rfl rfl rfl rfl rfl (by with_reducible assumption) rfl)); (rename_i heq; exact congrArg (fun x => (pure (ForInStep.yield (_, Writer.add _ x none, _)) : Sem _)) (pad_some (k := 4) heq rfl rfl rfl rfl rfl rfl rfl rfl (by with_reducible assumption) rfl)))); (refine after_pad (by kpc_g) rfl (padk_le (by with_reducible assumption) (Int.lt_trans (by with_reducible assumption) (by decide)) (by decide)) (by kpc_obj) ?_); intro _ _))
local macro_rules | `(tactic| walk_at "fmt str") => `(tactic| (refine KPc.turn ?_; kpc_check; (repeat kpc_if); refine wpAny_bind ?_; refine wpAny_holding ?_; (repeat kpc_if); kpt_conv; refine wpAny_pure ?_; refine wpAny_pure ?_; first | (refine KPc.after_str0 (by kpc_g) (by with_reducible assumption) (by kpc_obj) ?_; intro _ _) | (refine KPc.after_str (by kpc_g) (by with_reducible assumption) (by kpc_obj) ?_; intro _ _)))
set_option maxRecDepth 100000 in
set_option maxHeartbeats 4000000 in
theorem fmt_meets {wd mon z : PySem.Str} {d y h mi sc : Int} {t u1 u2 u3 u4 u5 u6 u7 u8 : Tok} {b : Addr} (hd0 : 0 ≤ d) (hd1 : d < 100) (hy0 : 0 ≤ y) (hy1 : y < 100000) (hh0 : 0 ≤ h) (hh1 : h < 100) (hm0 : 0 ≤ mi) (hm1 : mi < 100) (hs0 : 0 ≤ sc) (hs1 : sc < 100)
  (hw : wd.length ≤ 64) (hmo : mon.length ≤ 64) (hz : z.length ≤ 64) :
  Meets («str.__mod__» ⟨[.str ⟨#[37, 115, 44, 32, 37, 48, 50, 100, 32, 37, 115, 32, 37, 48, 52, 100, 32, 37, 48, 50, 100, 58, 37, 48, 50, 100, 58, 37, 48, 50, 100, 32, 37, 115]⟩ t, .ref b], []⟩)
    (fun _ R s => IsTup s.heap b #[.str wd u1, .int d u2, .str mon u3, .int y u4, .int h u5, .int mi u6, .int sc u7, .str z u8] ∧ ∀ t' k, R (.ok (.ret (.str (fmtText wd d mon y h mi sc z) t'))) { s with toks := k }) := by
  apply KPt.meets_tup
  intro _ _ _ _ _ _ kptH hQ
  obtain ⟨kptO, kptG, kptC, kptN, kptD⟩ := kptH
  rw [KPt.entry_is_r]
  unfold Builtin.Str.percentFormat
  refine wpAny_bind (wpAny_isInstance (T := "tuple") ⟨kptO, kptG, kptC⟩ KPt.sub_tt ?_)
  refine wpAny_bind (KPt.asStr_ref kptG kptD ?_)
  refine wpAny_bind (KPt.fills_ref ⟨kptO, kptG, kptC⟩ ?_)
  intro _
  kpc_if
  refine wpAny_bind (wpAny_seqItems kptG kptD ?_)
  refine wpAny_bind (wpAny_pure ?_)
  refine wpAny_bind ?_
  rw [KPc.range_list]
  refine KPc.start ?_
  intro w0 g0
  walk_at "fmt str"
  walk_at "fmt lit"
  walk_at "fmt pad2"
  walk_at "fmt lit"
  walk_at "fmt str"
  walk_at "fmt lit"
  walk_at "fmt pad4"
  walk_at "fmt lit"
  walk_at "fmt pad2"
  walk_at "fmt lit"
  walk_at "fmt pad2"
  walk_at "fmt lit"
  walk_at "fmt pad2"
  walk_at "fmt lit"
  walk_at "fmt str"
  refine KPc.turn ?_
  kpc_check
  (repeat kpc_if)
  kpc_close
end Mine
namespace Mine
/-- a text's length -/
def TL (x : Str) (n : Nat) : Prop := x.length ≤ n
theorem tl_lit {x : Str} (h : decide (x.length ≤ 64) = true) : TL x 64 := Nat.le_trans (of_decide_eq_true h) (Nat.le_refl _)
theorem tl_slice {x : Str} {l u : Option Int} (h : decide (x.length ≤ 64) = true) : TL (Txt.slice x l u) 64 := Nat.le_trans (Txt.slice_le x l u) (of_decide_eq_true h)
theorem tl_num {n : Int} (h0 : 0 ≤ n) (h1 : n < 10 ^ 10) : TL (Str.ofString (toString n)) 10 := toString_length_le h0 (by decide) h1
theorem tl_tab {ws : List Str} {k : Nat} (h : ws.all (fun x => decide (x.length ≤ 64)) = true) : (ws.getD k Str.empty).length ≤ 64 := by
  rw [List.getD_eq_getElem?_getD]
  cases e : ws[k]? with
  | none => exact Nat.zero_le _
  | some x => exact of_decide_eq_true (List.all_eq_true.mp h x (List.mem_of_getElem? e))
def dayS : List Str := [Str.ofString "Mon", Str.ofString "Tue", Str.ofString "Wed", Str.ofString "Thu", Str.ofString "Fri", Str.ofString "Sat", Str.ofString "Sun"]
def monS : List Str := [Str.ofString "Jan", Str.ofString "Feb", Str.ofString "Mar", Str.ofString "Apr", Str.ofString "May", Str.ofString "Jun", Str.ofString "Jul", Str.ofString "Aug", Str.ofString "Sep", Str.ofString "Oct", Str.ofString "Nov", Str.ofString "Dec"]
def dayN (k : Int) : Str := dayS.getD k.toNat Str.empty
def monN (k : Int) : Str := monS.getD k.toNat Str.empty
def rowObj (y mo d hh mi sc wd : Int) (k1 k2 k3 k4 k5 k6 k7 : Tok) : Obj :=
  { cls := .type "tuple", data := .seq #[.int y k1, .int mo k2, .int d k3, .int hh k4, .int mi k5, .int sc k6, .int wd k7] }
structure RowOk (y mo d hh mi sc wd : Int) (z : Str) : Prop where
  y0 : 0 ≤ y
  y1 : y < 100000
  mo0 : 1 ≤ mo
  mo1 : mo ≤ 12
  d0 : 0 ≤ d
  d1 : d < 100
  h0 : 0 ≤ hh
  h1 : hh < 100
  m0 : 0 ≤ mi
  m1 : mi < 100
  s0 : 0 ≤ sc
  s1 : sc < 100
  w0 : 0 ≤ wd
  w1 : wd < 7
  z1 : z.length ≤ 64
section
variable {prog : Program} {w : World} {A : Around} {E : Value → Shared → Prop} {s : Shared} {h₀ : Heap} {L : Addr} {m : Str → Option Value} {led : List (Addr × Obj)}
theorem addT {x y : Str} {a b : Nat} {t u : Tok} {Q : Value → Shared → Prop} (hx : TL x a) (hy : TL y b) (hs : Nat.ble (a + b) 100000 = true) (h : ∀ t' tk, TL (x ++ y) (a + b) → Q (.str (x ++ y) t') { s with toks := tk }) :
    wpAny (model prog w) A (binaryOp .Add (.str x t) (.str y u)) Q E s := by
  have hs' := Nat.le_of_ble_eq_true hs
  have hl : TL (x ++ y) (a + b) := by
    show (x ++ y).length ≤ a + b
    rw [Str.length_append]
    exact Nat.add_le_add hx hy
  refine add_str (fun t' tk => h t' tk hl) ?_
  rw [sizeLine_eq]
  have h1 : x.length ≤ a := hx
  have h2 : y.length ≤ b := hy
  omega
theorem strT {a : Int} {t : Tok} {Q : Value → Shared → Prop} (h0 : 0 ≤ a) (h1 : a < 10 ^ 10) (h : ∀ t' tk, TL (Str.ofString (toString a)) 10 → Q (.str (Str.ofString (toString a)) t') { s with toks := tk }) :
    wpAny (model prog w) A (call (.type "str") [.int a t]) Q E s :=
  P.str_of_int (shown (N := 2 ^ 1920) (by omega) (by omega) (Int.le_refl _)) (h _ _ (tl_num h0 h1))
theorem fmt_mod {b : Addr} {wd mon z : Str} {d y hh mi sc : Int} {t u1 u2 u3 u4 u5 u6 u7 u8 : Tok} {Q : Value → Shared → Prop} (N : News h₀ L s.heap led)
    (hb : (b, ({ cls := .type "tuple", data := .seq #[.str wd u1, .int d u2, .str mon u3, .int y u4, .int hh u5, .int mi u6, .int sc u7, .str z u8] } : Obj)) ∈ led)
    (hd0 : 0 ≤ d) (hd1 : d < 100) (hy0 : 0 ≤ y) (hy1 : y < 100000) (hh0 : 0 ≤ hh) (hh1 : hh < 100) (hm0 : 0 ≤ mi) (hm1 : mi < 100) (hs0 : 0 ≤ sc) (hs1 : sc < 100)
    (hw : wd.length ≤ 64) (hmo : mon.length ≤ 64) (hz : z.length ≤ 64) (h : ∀ t' k, Q (.str (fmtText wd d mon y hh mi sc z) t') { s with toks := k }) :
    wpAny (model prog w) A (binaryOp .Mod (.str (Str.ofString "%s, %02d %s %04d %02d:%02d:%02d %s") t) (.ref b)) Q E s :=
  KPt.mod_tuple N hb (X' := ⟨#[37, 115, 44, 32, 37, 48, 50, 100, 32, 37, 115, 32, 37, 48, 52, 100, 32, 37, 48, 50, 100, 58, 37, 48, 50, 100, 58, 37, 48, 50, 100, 32, 37, 115]⟩) (by decide +kernel)
    (fmt_meets hd0 hd1 hy0 hy1 hh0 hh1 hm0 hm1 hs0 hs1 hw hmo hz) h
def FnF (prog : Program) (w : World) (A : Around) (h₀ : Heap) (L : Addr) (f : Addr) : Prop :=
  ∀ (r : Addr) (z : Str) (zt : Tok) (y mo d hh mi sc wd : Int) (k1 k2 k3 k4 k5 k6 k7 : Tok), RowOk y mo d hh mi sc wd z →
    ∀ (s : Shared) (Q E : Value → Shared → Prop) (m : Str → Option Value) (led : List (Addr × Obj)), Fr h₀ L s.heap m → News h₀ L s.heap ((r, rowObj y mo d hh mi sc wd k1 k2 k3 k4 k5 k6 k7) :: led) →
    (∀ (t : Tok) (h' : Heap) (tk' : Nat), Fr h₀ L h' m → News h₀ L h' ((r, rowObj y mo d hh mi sc wd k1 k2 k3 k4 k5 k6 k7) :: led) → Q (.str (fmtText (dayN wd) d (monN (mo - 1)) y hh mi sc z) t) { s with heap := h', toks := tk' }) →
    wpAny (model prog w) A (call (.ref f) [.ref r, .str z zt]) Q E s
theorem useF {f r : Addr} {z : Str} {zt : Tok} {y mo d hh mi sc wd : Int} {k1 k2 k3 k4 k5 k6 k7 : Tok} {Q : Value → Shared → Prop} (H : FnF prog w A h₀ L f) (F : Fr h₀ L s.heap m) (N : News h₀ L s.heap led)
    (hr : (r, rowObj y mo d hh mi sc wd k1 k2 k3 k4 k5 k6 k7) ∈ led) (ok : RowOk y mo d hh mi sc wd z)
    (h : ∀ (t : Tok) (h' : Heap) (tk' : Nat), Fr h₀ L h' m → News h₀ L h' led → Q (.str (fmtText (dayN wd) d (monN (mo - 1)) y hh mi sc z) t) { s with heap := h', toks := tk' }) :
    wpAny (model prog w) A (call (.ref f) [.ref r, .str z zt]) Q E s :=
  H r z zt y mo d hh mi sc wd k1 k2 k3 k4 k5 k6 k7 ok s Q E m led F (fun p hp => (List.mem_cons.mp hp).elim (fun e => by subst e; exact N _ hr) fun hp => N p hp)
    fun t h' tk' F' N' => h t h' tk' F' fun p hp => N' p (List.mem_cons_of_mem _ hp)
end
theorem day_slice {k : Int} (h0 : 0 ≤ k) (h1 : k < 7) : dayN k = Txt.slice (Str.ofString "MonTueWedThuFriSatSun") (some (3 * k)) (some (3 * k + 3)) := by
  have hk : k = 0 ∨ k = 1 ∨ k = 2 ∨ k = 3 ∨ k = 4 ∨ k = 5 ∨ k = 6 := by omega
  rcases hk with rfl | rfl | rfl | rfl | rfl | rfl | rfl <;> decide +kernel
theorem mar_slice {l : Int} (h0 : 0 ≤ l) (h1 : l < 12) : monN ((l + 2).fmod 12 + 1 - 1) = Txt.slice (Str.ofString "MarAprMayJunJulAugSepOctNovDecJanFeb") (some (3 * l)) (some (3 * l + 3)) := by
  have hl : l = 0 ∨ l = 1 ∨ l = 2 ∨ l = 3 ∨ l = 4 ∨ l = 5 ∨ l = 6 ∨ l = 7 ∨ l = 8 ∨ l = 9 ∨ l = 10 ∨ l = 11 := by omega
  rcases hl with rfl | rfl | rfl | rfl | rfl | rfl | rfl | rfl | rfl | rfl | rfl | rfl <;> decide +kernel
theorem padk_long {k : Nat} {n : Int} (h : k ≤ (dg n).length) : padk k n = Str.ofString (toString n) := by
  rw [padk, Nat.sub_eq_zero_of_le h]
  rfl
theorem dg_len_ge {n : Int} {k : Nat} (h : (10 ^ k : Nat) ≤ n) : k + 1 ≤ (dg n).length := by
  obtain ⟨m, rfl⟩ := Int.eq_ofNat_of_zero_le (Int.le_trans (Int.natCast_nonneg _) h)
  rw [dg_nat, List.length_map]
  exact digits10_ge (by omega)
theorem pad2_0 : padk 2 0 = Str.ofString "00" := by decide +kernel
theorem pad2_1 : padk 2 1 = Str.ofString "01" := by decide +kernel
end Mine
namespace Mine
def leap (y : Int) : Bool := decide (y.fmod 4 = 0) && (!decide (y.fmod 100 = 0) || decide (y.fmod 400 = 0))
def dby (year : Int) : Int := (year - 1) * 365 + (year - 1).fdiv 4 - (year - 1).fdiv 100 + (year - 1).fdiv 400
def dbm (year month : Int) : Int := [-1, 0, 31, 59, 90, 120, 151, 181, 212, 243, 273, 304, 334].getD month.toNat 0 + (if 2 < month ∧ leap year = true then 1 else 0)
theorem fd (a : Int) {b : Int} (h : 0 ≤ b) : a.fdiv b = a / b := Int.fdiv_eq_ediv_of_nonneg a h
theorem fm (a : Int) {b : Int} (h : 0 ≤ b) : a.fmod b = a % b := Int.fmod_eq_emod_of_nonneg a h
theorem dby_split (y : Int) : dby (y + 1) = 146097 * y.fdiv 400 + 36524 * (y.fdiv 100).fmod 4 + 1461 * (y.fdiv 4).fmod 25 + 365 * y.fmod 4 := by
  simp (disch := omega) only [dby, fd, fm]
  omega
theorem inv_step {y x d o f u t : Int} (hx : x = 1 ∨ x = -2 ∨ x = 3) (hd : d = 146097 * t + 36524 * u + 1461 * f + 365 * o) :
  d + x * dby (y + 1) = 146097 * (t + x * y.fdiv 400) + 36524 * (u + x * (y.fdiv 100).fmod 4) + 1461 * (f + x * (y.fdiv 4).fmod 25) + 365 * (o + x * y.fmod 4) := by
  rw [dby_split, hd]
  rcases hx with rfl | rfl | rfl <;> omega
theorem due_eq {d o f u t : Int} (hd : d = 146097 * t + 36524 * u + 1461 * f + 365 * o) :
  dby (400 * (t + (u + (f + o.fdiv 4).fdiv 25).fdiv 4) + 100 * (u + (f + o.fdiv 4).fdiv 25).fmod 4 + 4 * (f + o.fdiv 4).fmod 25 + o.fmod 4 + 1) = d + o.fdiv 4 - (f + o.fdiv 4).fdiv 25 + (u + (f + o.fdiv 4).fdiv 25).fdiv 4 := by
  simp (disch := omega) only [dby, fd, fm]
  omega
theorem leap_eq {t u f o : Int} : (leap (400 * (t + (u + (f + o.fdiv 4).fdiv 25).fdiv 4) + 100 * (u + (f + o.fdiv 4).fdiv 25).fmod 4 + 4 * (f + o.fdiv 4).fmod 25 + o.fmod 4) !=
    (decide (o.fmod 4 = 0) && (!decide ((f + o.fdiv 4).fmod 25 = 0) || decide ((u + (f + o.fdiv 4).fdiv 25).fmod 4 = 0)))) = false := by
  simp (disch := omega) only [leap, fd, fm]
  have h1 : decide ((400 * (t + (u + (f + o / 4) / 25) / 4) + 100 * ((u + (f + o / 4) / 25) % 4) + 4 * ((f + o / 4) % 25) + o % 4) % 4 = 0) = decide (o % 4 = 0) := by rw [decide_eq_decide]; omega
  have h2 : o % 4 = 0 → decide ((400 * (t + (u + (f + o / 4) / 25) / 4) + 100 * ((u + (f + o / 4) / 25) % 4) + 4 * ((f + o / 4) % 25) + o % 4) % 100 = 0) = decide ((f + o / 4) % 25 = 0) := by intro h; rw [decide_eq_decide]; omega
  have h3 : o % 4 = 0 → (f + o / 4) % 25 = 0 → decide ((400 * (t + (u + (f + o / 4) / 25) / 4) + 100 * ((u + (f + o / 4) / 25) % 4) + 4 * ((f + o / 4) % 25) + o % 4) % 400 = 0) = decide ((u + (f + o / 4) / 25) % 4 = 0) := by intro h h'; rw [decide_eq_decide]; omega
  rw [h1]
  by_cases e1 : o % 4 = 0
  · rw [h2 e1]
    by_cases e2 : (f + o / 4) % 25 = 0
    · rw [h3 e1 e2]; simp
    · simp [e2]
  · simp [e1]
theorem and3a {a b c : Int} (h1 : a = 0) (h2 : b ≠ 0) : Value.bool (b != 0) = Value.bool (decide (a = 0) && (!decide (b = 0) || decide (c = 0))) := by simp [h1, h2]
theorem and3b {a b c : Int} (h1 : a = 0) (h2 : b = 0) : Value.bool (c == 0) = Value.bool (decide (a = 0) && (!decide (b = 0) || decide (c = 0))) := by simp only [h1, h2]; simp; rw [Bool.eq_iff_iff]; simp
theorem and3c {a b c : Int} (h1 : a ≠ 0) : Value.bool (a == 0) = Value.bool (decide (a = 0) && (!decide (b = 0) || decide (c = 0))) := by simp [h1]
/-- what the columns say -/
structure Cols (d t u f o tot due one four hun : Int) : Prop where
  inv : d = 146097 * t + 36524 * u + 1461 * f + 365 * o
  one0 : 0 ≤ one
  one1 : one < 4
  four0 : 0 ≤ four
  four1 : four < 25
  hun0 : 0 ≤ hun
  hun1 : hun < 4
  totq : ∃ q, tot = 400 * q + 100 * hun + 4 * four + one
  due : due = dby (tot + 1)
theorem cols {d t u f o : Int} (hd : d = 146097 * t + 36524 * u + 1461 * f + 365 * o) :
    Cols d t u f o (400 * (t + (u + (f + o.fdiv 4).fdiv 25).fdiv 4) + 100 * (u + (f + o.fdiv 4).fdiv 25).fmod 4 + 4 * (f + o.fdiv 4).fmod 25 + o.fmod 4)
      (d + o.fdiv 4 - (f + o.fdiv 4).fdiv 25 + (u + (f + o.fdiv 4).fdiv 25).fdiv 4) (o.fmod 4) ((f + o.fdiv 4).fmod 25) ((u + (f + o.fdiv 4).fdiv 25).fmod 4) := by
  refine ⟨hd, ?_, ?_, ?_, ?_, ?_, ?_, ⟨_, rfl⟩, (due_eq hd).symm⟩
  all_goals (simp (disch := omega) only [fm]; omega)
theorem ne_false {a b : Int} (h : a = b) : (a != b) = false := by subst h; simp
theorem three_lo {x : Int} (h : x = 1 ∨ x = -2 ∨ x = 3) : -2 ≤ x := by omega
theorem three_hi {x : Int} (h : x = 1 ∨ x = -2 ∨ x = 3) : x ≤ 3 := by omega
theorem dby_next (y : Int) : dby (y + 1) = dby y + 365 + (if leap y = true then 1 else 0) := by
  have e : leap y = decide (y % 4 = 0 ∧ (¬ y % 100 = 0 ∨ y % 400 = 0)) := by
    simp (disch := omega) only [leap, fm]
    rw [Bool.eq_iff_iff]; simp
  rw [e]
  simp (disch := omega) only [dby, fd, decide_eq_true_eq]
  split <;> omega
theorem dbm_of (y m : Int) (c : Int) (hc : [-1, 0, 31, 59, 90, 120, 151, 181, 212, 243, 273, 304, 334].getD m.toNat 0 = c) : dbm y m = c + (if 2 < m ∧ leap y = true then 1 else 0) := by rw [dbm, hc]
theorem begun_eq {tot due l : Int} (hd : due = dby (tot + 1)) (h0 : 0 ≤ l) (h1 : l < 12) :
    dby (tot + l.fdiv 10) + dbm (tot + l.fdiv 10) ((l + 2).fmod 12 + 1) = due - 306 + 153 * l.fdiv 5 + 61 * (l.fmod 5).fdiv 2 + 31 * (l.fmod 5).fmod 2 := by
  have e := dby_next tot
  rw [← hd] at e
  have hl : l = 0 ∨ l = 1 ∨ l = 2 ∨ l = 3 ∨ l = 4 ∨ l = 5 ∨ l = 6 ∨ l = 7 ∨ l = 8 ∨ l = 9 ∨ l = 10 ∨ l = 11 := by omega
  rcases hl with rfl | rfl | rfl | rfl | rfl | rfl | rfl | rfl | rfl | rfl | rfl | rfl <;>
    simp only [dbm, Int.reduceFDiv, Int.reduceFMod, Int.reduceAdd, Int.reduceMul, Int.add_zero, Int.reduceToNat, List.getD_cons_succ, List.getD_cons_zero, ← hd, Int.reduceLT, true_and, false_and, if_false]
  all_goals first
    | omega
    | (generalize (if leap tot = true then (1 : Int) else 0) = z at e ⊢; omega)
/-- what is told of the month -/
structure Mon (tot due one four hun l bg : Int) : Prop where
  l0 : 0 ≤ l
  l1 : l < 12
  wk : bg.fmod 7 = (5 * hun + 5 * four + one + 6 * l.fdiv 5 + 5 * (l.fmod 5).fdiv 2 + 3 * (l.fmod 5).fmod 2 + 2).fmod 7
theorem mon {d t u f o tot due one four hun l : Int} (c : Cols d t u f o tot due one four hun) (h0 : 0 ≤ l) (h1 : l < 12) :
    Mon tot due one four hun l (dby (tot + l.fdiv 10) + dbm (tot + l.fdiv 10) ((l + 2).fmod 12 + 1)) := by
  refine ⟨h0, h1, ?_⟩
  obtain ⟨q, hq⟩ := c.totq
  have e : due = 146097 * q + 36524 * hun + 1461 * four + 365 * one := by
    rw [c.due, hq]
    have := c.one0; have := c.one1; have := c.four0; have := c.four1; have := c.hun0; have := c.hun1
    simp (disch := omega) only [dby, fd]
    omega
  rw [begun_eq c.due h0 h1, e]
  simp (disch := omega) only [fm, fd]
  omega
theorem dbm_eq1 {a b : Int} (h : 2 < b) : [-1, 0, 31, 59, 90, 120, 151, 181, 212, 243, 273, 304, 334].getD b.toNat 0 + (if leap a = true then (1 : Int) else 0) = dbm a b := by
  rw [dbm]
  by_cases e : leap a = true
  · rw [if_pos e, if_pos ⟨h, e⟩]
  · rw [if_neg e, if_neg fun q => e q.2]
theorem dbm_eq2 {a b : Int} (h : ¬ 2 < b) : [-1, 0, 31, 59, 90, 120, 151, 181, 212, 243, 273, 304, 334].getD b.toNat 0 + (if decide (2 < b) = true then (1 : Int) else 0) = dbm a b := by
  rw [dbm, if_neg (by simpa using h), if_neg fun q => h q.1]
def text2 (name l y : Int) : Str :=
  Txt.slice (Str.ofString "MonTueWedThuFriSatSun") (some (3 * name)) (some (3 * name + 3)) ++ Str.ofString ", 01 " ++ Txt.slice (Str.ofString "MarAprMayJunJulAugSepOctNovDecJanFeb") (some (3 * l)) (some (3 * l + 3)) ++ Str.ofString " " ++ Str.ofString (toString y) ++ Str.ofString " 00:00:00 -0000"
theorem text_eq {name l y : Int} (hn0 : 0 ≤ name) (hn1 : name < 7) (h0 : 0 ≤ l) (h1 : l < 12) (hy : 1000 ≤ y) :
    fmtText (dayN name) 1 (monN ((l + 2).fmod 12 + 1 - 1)) y 0 0 0 (Str.ofString "-0000") = text2 name l y := by
  have e1 : Str.ofString ", 01 " = Str.ofString ", " ++ (Str.ofString "01" ++ Str.ofString " ") := by decide +kernel
  have e2 : Str.ofString " 00:00:00 -0000" = Str.ofString " " ++ (Str.ofString "00" ++ (Str.ofString ":" ++ (Str.ofString "00" ++ (Str.ofString ":" ++ (Str.ofString "00" ++ (Str.ofString " " ++ Str.ofString "-0000")))))) := by decide +kernel
  rw [fmtText, text2, day_slice hn0 hn1, mar_slice h0 h1, padk_long (k := 4) (dg_len_ge (k := 3) (by omega)), pad2_0, pad2_1, e1, e2]
  simp only [Str.append_assoc]
theorem text2_ok {d t u f o tot due one four hun l bg : Int} (c : Cols d t u f o tot due one four hun) (mn : Mon tot due one four hun l bg) :
    fmtText (dayN (bg.fmod 7)) 1 (monN ((l + 2).fmod 12 + 1 - 1)) (2000 + tot.fmod 400 + l.fdiv 10) 0 0 0 (Str.ofString "-0000") =
      text2 ((5 * hun + 5 * four + one + 6 * l.fdiv 5 + 5 * (l.fmod 5).fdiv 2 + 3 * (l.fmod 5).fmod 2 + 2).fmod 7) l (2000 + 100 * hun + 4 * four + one + l.fdiv 10) := by
  obtain ⟨q, hq⟩ := c.totq
  have := c.one0; have := c.one1; have := c.four0; have := c.four1; have := c.hun0; have := c.hun1; have := mn.l0; have := mn.l1
  have e : 2000 + tot.fmod 400 + l.fdiv 10 = 2000 + 100 * hun + 4 * four + one + l.fdiv 10 := by
    simp (disch := omega) only [fm, fd]
    omega
  rw [mn.wk, e]
  refine text_eq ?_ ?_ mn.l0 mn.l1 ?_
  all_goals (simp (disch := omega) only [fm, fd]; omega)
theorem row_ok {d t u f o tot due one four hun l bg : Int} (c : Cols d t u f o tot due one four hun) (mn : Mon tot due one four hun l bg) :
    RowOk (2000 + tot.fmod 400 + l.fdiv 10) ((l + 2).fmod 12 + 1) 1 0 0 0 (bg.fmod 7) (Str.ofString "-0000") := by
  have := mn.l0; have := mn.l1
  refine ⟨?_, ?_, ?_, ?_, by decide, by decide, by decide, by decide, by decide, by decide, by decide, by decide, ?_, ?_, by decide +kernel⟩
  all_goals (simp (disch := omega) only [fm, fd]; omega)
theorem year_num {d t u f o tot due one four hun l bg : Int} (c : Cols d t u f o tot due one four hun) (mn : Mon tot due one four hun l bg) :
    0 ≤ 2000 + 100 * hun + 4 * four + one + l.fdiv 10 ∧ 2000 + 100 * hun + 4 * four + one + l.fdiv 10 < 10 ^ 10 := by
  have := c.one0; have := c.one1; have := c.four0; have := c.four1; have := c.hun0; have := c.hun1; have := mn.l0; have := mn.l1
  simp (disch := omega) only [fd]
  omega
theorem ne_falseS {a b : Str} (h : a = b) : (a != b) = false := by subst h; simp
end Mine
namespace Mine
def J2 (i : Nat) (ns : List Int) (m : Str → Option Value) : Prop :=
  ∃ (v : Str → Option Value) (d o f u t : Int) (t1 t2 t3 t4 t5 : Tok), m = kstB v [(Str.ofString "days", .int d t1), (Str.ofString "ones", .int o t2), (Str.ofString "fours", .int f t3), (Str.ofString "hundreds", .int u t4), (Str.ofString "turns", .int t t5)] ∧
  i + ns.length ≤ 12 ∧ d = 146097 * t + 36524 * u + 1461 * f + 365 * o
end Mine
open Mine
local macro_rules | `(tactic| walk_at "exec For Tuple Call cons nil") => `(tactic| ((rename Fr _ _ _ _ => lF'); (with_unfolding_all refine' For_turns lF' ?_; k_whole)))
local macro_rules | `(tactic| walk_at "call type:enumerate") => `(tactic| (k_here; (rename Fr _ _ _ _ => lF'); (rename News _ _ _ _ => lN'); with_unfolding_all refine ktu_enum (by rfl) lF' lN' (List.Mem.head _) (by rfl) (by rfl) (by rfl) ?_))
local macro_rules | `(tactic| walk_at "subscriptTail Name Name ref int") => `(tactic| (k_here; (with_reducible show wpAny _ _ (subscriptTail _ _ (Value.ref _) (Value.int _ _)) _ _ _); k_dflt (refine' topListAny_K ?F ?X ?l ?i ?k3 ?k4 ?k5 ?_; (case F => k_asm); (case X => k_asm); (case l => k_is); (case i => l_ints); (case k3 => first | omega | ((try dsimp only [List.length_cons, List.length_nil]); omega) | l_idx); (case k4 => first | omega | ((try dsimp only [List.length_cons, List.length_nil]); omega) | l_idx); (case k5 => first | omega | ((try dsimp only [List.length_cons, List.length_nil]); omega) | l_idx); k_whole); intro _))
local macro_rules | `(tactic| walk_at "eval IfExp Compare Name BinOp") => `(tactic| ((rename Mk 1 => hM); clear hM; refine Stop.mk ?_))
local macro_rules | `(tactic| walk_at "subscriptTail Tuple cons BinOp ref int") => `(tactic| ((rename Mk 2 => hM); clear hM; refine Stop.mk ?_))
local macro_rules | `(tactic| walk_at "exec Assign cons Call") => `(tactic| ((rename Mk 3 => hM); clear hM; refine Stop.mk ?_))
local macro_rules | `(tactic| walk_at "eval BoolOp And cons") => `(tactic| ((rename Mk 4 => hM); clear hM; refine Stop.mk ?_))
local macro_rules | `(tactic| walk_at "exec If Compare cons nil") => `(tactic| refine if_no ?_)
local macro_rules | `(tactic| walk_at "IfNo") => `(tactic| k_dflt (refine ⟨(by decide +kernel), ?_⟩))
local macro_rules | `(tactic| walk_at "JoinV") => `(tactic| k_dflt (refine' JoinV.intro ?_ ?F ?N; (case F => k_asm); (case N => first | k_asm | (refine' cb_drop ?cbN ?cbS; (case cbN => assumption); (case cbS => kcj_all)))))
local macro_rules | `(tactic| walk_at "call ref cons nil") => `(tactic| (refine' use2 ?H ?F ?N ?P ?_; (case H => assumption); (case F => k_asm); (case N => k_asm); (case P => k_dflt (constructor <;> first | omega | l_idx | l_fact)); intro _ _ _ _ _; (try k_sweep)))
local macro_rules | `(tactic| walk_at "binaryOp Add str str") => `(tactic| (refine' addT ?a ?b ?c ?_; (case a => first | assumption | exact tl_lit (by decide +kernel) | exact tl_slice (by decide +kernel)); (case b => first | assumption | exact tl_lit (by decide +kernel) | exact tl_slice (by decide +kernel)); (case c => exact rfl); intro _ _ _))
local macro_rules | `(tactic| walk_at "call type:str") => `(tactic| ((with_reducible show wpAny _ _ (call (Value.type "str") [Value.int _ _]) _ _ _); refine' strT ?a ?b ?_; (case a => first | assumption | omega); (case b => first | assumption | omega); intro _ _ _))
local macro_rules | `(tactic| walk_at "call ref cons nil") => `(tactic| k_dflt (refine' useF ?H ?F ?N ?r ?ok ?_; (case H => assumption); (case F => k_asm); (case N => k_asm); (case r => k_mem); (case ok => assumption); intro _ _ _ _ _; (try k_sweep)))
local macro_rules | `(tactic| walk_at "subscriptTail List") => `(tactic| (refine' KTb.item_list ?hl ?hw ?h0 ?h1 ?hf ?_; (case hl => exact News.isList (by k_asm) (by k_mem)); (case hw => (repeat (first | exact StrsAre.nil | apply StrsAre.cons))); (case h0 => omega); (case h1 => (simp only [List.length_cons, List.length_nil]; omega)); (case hf => omega); intro _ _))
local macro_rules | `(tactic| walk_at "binaryOp Mod str ref") => `(tactic| k_dflt (refine' fmt_mod ?N ?hb ?a1 ?a2 ?a3 ?a4 ?a5 ?a6 ?a7 ?a8 ?a9 ?b1 ?b2 ?b3 ?b4 ?_; (case N => k_asm); (case hb => k_mem); (case a1 => omega); (case a2 => omega); (case a3 => omega); (case a4 => omega); (case a5 => omega); (case a6 => omega); (case a7 => omega); (case a8 => omega); (case a9 => omega); (case b1 => omega); (case b2 => exact tl_tab (by decide +kernel)); (case b3 => exact tl_tab (by decide +kernel)); (case b4 => assumption); intro _ _))
set_option maxRecDepth 100000 in
set_option maxHeartbeats 40000000 in
theorem PySem.Challenge.cw_wa0002_02_holds : PySem.Challenge.rw_wa0002_02.Holds := by
  k_with "call ref" => k_call_by "_days_before_year" dby
  k_with "call ref" => k_call_by "_is_leap" leap
  k_with "tree" => simp only [dby, leap]
  w_on
  o_law
  k_head
  case hw => w_witness2
  k_go0
  all_goals try k_fold
  k_steps
  rename_i l1
  k_lt l1
  refine rest_enum J2 ?off ?hk ?turn ?done _ _ 0 _ _ (by assumption) ?j ?hs
  case off => exact off2 l1.1
  case hk => exact ⟨List.Mem.head _, trivial⟩
  case done =>
    intro i m h tk hj F N
    dsimp only
    k_steps
  case j =>
    refine ⟨_, 0, 0, 0, 0, 0, _, _, _, _, _, (kstB_self (by kst_all)).symm, ?_, by decide⟩
    simp only [List.length_append, List.length_cons, List.length_nil, List.length_take]
    omega
  case hs =>
    intro p hp
    rw [List.mem_singleton.mp hp]
    exact List.Mem.head _
  rintro i n r T t tt m h tk ⟨v0, d, o, f, u, t0, t1, t2, t3, t4, t5, rfl, hlen, hd⟩ hT F
  intro o1 hc1 o2 hc2 N
  dsimp only [List.cons_append, List.nil_append] at N
  have M1 : Mk 1 := .mk
  have M2 : Mk 2 := .mk
  have M3 : Mk 3 := .mk
  k_steps
  refine Stop.out ?_
  refine join_v (fun v => ∃ y t, v = .int y t) (by assumption) (by assumption) ?_ ?_
  · k_steps
    all_goals exact ⟨_, _, rfl⟩
  rintro v h' tk' ⟨yy, ty, rfl⟩ F N
  k_steps
  refine Stop.out ?_
  k_fmods
  refine' item_three (a := 1) (b := -2) (c := 3) ?k1 ?k2 ?k3 ?k4 ?_
  case k1 => exact News.isTup (by k_asm) (by k_mem)
  case k2 => l_ints
  case k3 => l_idx
  case k4 => l_idx
  intro x tx hx
  have hx1 := three_lo hx
  have hx2 := three_hi hx
  k_steps
  refine Stop.out ?_
  have hinv := inv_step (y := yy) hx hd
  refine reseat (fun m' => ∃ (v : Str → Option Value) (d o f u t : Int) (t1 t2 t3 t4 t5 t6 t7 : Tok), m' = kstB v [(Str.ofString "place", .int i t6), (Str.ofString "years", .int yy t7), (Str.ofString "days", .int d t1), (Str.ofString "ones", .int o t2), (Str.ofString "fours", .int f t3), (Str.ofString "hundreds", .int u t4), (Str.ofString "turns", .int t t5)] ∧ d = 146097 * t + 36524 * u + 1461 * f + 365 * o) (by assumption) (by assumption) ?_ ?_
  · exact ⟨_, _, _, _, _, _, _, _, _, _, _, _, _, (kstB_self (by kst_all)).symm, hinv⟩
  clear hinv hx hx1 hx2 hd
  rintro m' h' tk' ⟨v1, d1, o1v, f1, u1, tt1, t1', t2', t3', t4', t5', t6', t7', rfl, hinv⟩ F1 N1
  k_steps
  refine ⟨ne_false (due_eq hinv), ?_⟩
  have M4 : Mk 4 := .mk
  k_steps
  refine Stop.out ?_
  refine join_v (fun v => v = .bool (decide (o1v.fmod 4 = 0) && (!decide ((f1 + o1v.fdiv 4).fmod 25 = 0) || decide ((u1 + (f1 + o1v.fdiv 4).fdiv 25).fmod 4 = 0)))) (by assumption) (by assumption) ?_ ?_
  · k_steps
    all_goals first | exact and3a (by assumption) (by assumption) | exact and3b (by assumption) (by assumption) | exact and3c (by assumption)
  rintro v h' tk' rfl F N
  k_steps
  refine ⟨leap_eq, ?_⟩
  dsimp only
  refine reseat (fun m' => ∃ (v : Str → Option Value) (d o f u t tot due one four hun : Int) (t1 t2 t3 t4 t5 t6 t7 t8 t9 ta tb tc : Tok), m' = kstB v [(Str.ofString "place", .int i t6), (Str.ofString "years", .int yy t7), (Str.ofString "days", .int d t1), (Str.ofString "ones", .int o t2), (Str.ofString "fours", .int f t3), (Str.ofString "hundreds", .int u t4), (Str.ofString "turns", .int t t5),
    (Str.ofString "one", .int one t8), (Str.ofString "four", .int four t9), (Str.ofString "hundred", .int hun ta), (Str.ofString "total", .int tot tb), (Str.ofString "due", .int due tc)] ∧ Cols d t u f o tot due one four hun) (by assumption) (by assumption) ?_ ?_
  · exact ⟨_, _, _, _, _, _, _, _, _, _, _, _, _, _, _, _, _, _, _, _, _, _, _, (kstB_self (by kst_all)).symm, cols hinv⟩
  clear hinv
  rintro m' h' tk' ⟨v1, d1, o1v, f1, u1, tt1, tot, due, one, four, hun, t1', t2', t3', t4', t5', t6', t7', t8', t9', ta', tb', tc', rfl, hc⟩ F1 N1
  refine have_fn (fun prog w A h₀ L => Fn2 prog w A h₀ L 42 (fun _ m => 1 ≤ m ∧ m ≤ 12) dbm) (by assumption) ?_ ?_
  · rintro a b ta tb ⟨hb1, hb2⟩ s Q E m led F N hret
    dsimp only at hret
    k_steps
    all_goals refine cb_retI hret ?_ (by k_asm) (by first | k_asm | (refine' cb_drop ?cbN ?cbS; (case cbN => assumption); (case cbS => kcj_all)))
    · exact dbm_eq1 (by assumption)
    · exact dbm_eq2 (by assumption)
  intro Hdbm
  k_steps
  have hl0 : 0 ≤ (yy + (i : Int)).fmod 12 := by rw [fm _ (by omega)]; omega
  have hl1 : (yy + (i : Int)).fmod 12 < 12 := by rw [fm _ (by omega)]; omega
  refine ⟨ne_false (begun_eq hc.due hl0 hl1), ?_⟩
  dsimp only
  refine reseat (fun m' => ∃ (v : Str → Option Value) (d o f u t tot one four hun l bg : Int) (t1 t2 t3 t4 t5 t6 t7 t8 t9 ta tb tc td te tf tg : Tok), m' = kstB v [(Str.ofString "place", .int i t6), (Str.ofString "days", .int d t1), (Str.ofString "ones", .int o t2), (Str.ofString "fours", .int f t3), (Str.ofString "hundreds", .int u t4), (Str.ofString "turns", .int t t5),
    (Str.ofString "one", .int one t8), (Str.ofString "four", .int four t9), (Str.ofString "hundred", .int hun ta), (Str.ofString "total", .int tot tb), (Str.ofString "later", .int l t7),
    (Str.ofString "five", .int (l.fdiv 5) tc), (Str.ofString "two", .int ((l.fmod 5).fdiv 2) td), (Str.ofString "single", .int ((l.fmod 5).fmod 2) te), (Str.ofString "month", .int ((l + 2).fmod 12 + 1) tf), (Str.ofString "begun", .int bg tg)] ∧
    (∃ due, Cols d t u f o tot due one four hun ∧ Mon tot due one four hun l bg)) (by assumption) (by assumption) ?_ ?_
  · exact ⟨_, _, _, _, _, _, _, _, _, _, _, _, _, _, _, _, _, _, _, _, _, _, _, _, _, _, _, _, (kstB_self (by kst_all)).symm, _, hc, mon hc hl0 hl1⟩
  clear hc
  rintro m' h' tk' ⟨v1, d1, o1v, f1, u1, tt1, tot, one, four, hun, l, bg, t1', t2', t3', t4', t5', t6', t7', t8', t9', ta', tb', tc', td', te', tf', tg', rfl, due, hc, hm⟩ F1 N1
  refine have_fn (fun prog w A h₀ L => FnF prog w A h₀ L 49) (by assumption) ?_ ?_
  · rintro r z zt y mo d hh mi sc wd k1 k2 k3 k4 k5 k6 k7 ⟨y0, y1, mo0, mo1, d0, d1, h0, h1, m0, m1, s0, s1, w0, w1, z1⟩ s Q E m led F N hret
    dsimp only [rowObj] at N hret
    k_steps
    refine cb_retS hret rfl (by k_asm) (by first | k_asm | (refine' cb_drop ?cbN ?cbS; (case cbN => assumption); (case cbS => kcj_all)))
  intro Hfmt
  obtain ⟨hy0, hy1⟩ := year_num hc hm
  have hrow := row_ok hc hm
  k_steps
  refine ⟨ne_falseS (text2_ok hc hm), ?_⟩
  dsimp only
  k_steps
  show EndI _ _ _ _ _ _
  refine ⟨_, _, _, rfl, by k_asm, by (refine' cb_drop ?cbN ?cbS; (case cbN => assumption); (case cbS => kcj_all)), _, d1, o1v, f1, u1, tt1, _, _, _, _, _, (kstB_self (by kst_all)).symm, ?_, hc.inv⟩
  simp only [List.length_cons] at hlen
  omega

